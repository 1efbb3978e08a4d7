import JvmDerived
import JvmDerived.Pilot.@@N@@Statement
import JvmDerived.Pilot.@@N@@Code
set_option linter.unusedVariables false
set_option linter.unusedSimpArgs false
namespace Jvm.RoadKit
open Sem ClassFile Op Lib Jvm.Stand Jvm.Free Jvm.LawKit
section New
variable {p : Program} {l : Launch} {e : Env} {R : Room} {s : State} {m : MethodId} {args : Array Value} {below : List Frame} {meth : Method} {c : Code} {T : State} {locs : List Loc} {cells slots : Nat}
theorem retI (X : Stand p l e R s m args below meth c T locs cells slots) (hx : p.tables.exec = Jvm.exec) {pc : Nat} {Ls : Array Slot} {z : Int32} {rest : List Value} (hret : meth.sig.returnType = some .int) (hd : decode c.code pc = .ok (.ireturn, 1)) {fs : List Frame}
    (hl : ∀ (f : JFrame) (acts : List Action), f.method = m → f.locked = none → f.entered = [] → (doReturn e (T.setTop f) acts (some (.int z))).1 = T.setFrames fs) : Steps p.tables e below (T.setTop (mkF m pc Ls (.int z :: rest))) (T.setFrames fs) := by
  have hm' : T.vm.method? m = some meth := X.method'
  have hn : narrow .int (.int z) = .int z := rfl
  show Steps p.tables e below (T.setTop { method := m, pc := pc, locals := Ls, stack := _ :: rest, locked := none }) _
  jvm_step X.here [X.here.top, hx, hd, hm', hret, hn]
  first | (intro acts; rw [hl _ acts rfl rfl rfl]) | rw [hl _ _ rfl rfl rfl]
  exact Steps.refl _
abbrev Sq (p : Program) (e : Env) (below : List Frame) (m : MethodId) (T : State) (pc : Nat) (L : Array Slot) (S : List Value) (t : State) : Prop := Steps p.tables e below (T.setTop (mkF m pc L S)) t
abbrev Ctr (l : Launch) (Z : State) (y : MethodName) (b : ByteArray) (ml : Nat) (rt : Option FieldType) (ws : List Cond) (rm : Room) (as' : Array Value) (h0 : Heap) (Q : Option Value → Heap → List Loc → Prop) : Prop :=
  MetFree l y (head1 (Cond.code y b ml rt :: ws) rm) (fun a U => a = as' ∧ Z.Warmed39 U.vm ∧ U.heap = h0) (fun _ _ _ _ _ => True) (fun _ U o U' => ∃ v L, o = .returned v ∧ Q v U'.heap L ∧ FrameEnd U o U' L rm.cells rm.slots)
theorem own_sz {Z : State} {n0 : Nat} {h : Heap} (O : Old Z n0 h) : n0 ≤ h.size := O.1 ▸ O.2.1
theorem own_selpriv {Z s : State} {a0 args : Array Value} {y : MethodName} {n : Nat} (hZ : Z.Warmed39 s.vm) (wi : (Cond.instantiable y.cls n).before a0 Z = true) (wm : (Cond.instanceMethod y).before a0 Z = true) (wp : (Cond.privateMethod y).before a0 Z = true) (hy : y.cls ≠ "java/lang/invoke/MethodHandle" ∧ y.cls ≠ "java/lang/invoke/VarHandle") : (Cond.selects y.cls y y).before args s = true := by
  obtain ⟨c, k, h1, h2, -, h4, -⟩ := Cond.instantiable_spec (mv (args := args) hZ wi)
  have hk : k.isInterface = false := by cases h : k.isInterface <;> simp_all
  exact selects_self_of_private h1 h2 hk (Cond.privateMethod_at (mvP hZ wp (args := args))) (mv hZ wm) hy
theorem own_fldinj {Z : State} {h : Heap} {a : Addr} {C n d : String} {v w : Value} (F : Fld Z h a C n d v) (G : Fld Z h a C n d w) : v = w := by
  obtain ⟨c1, cf, k, i, f, h1, h2, -, -, -, -, h3⟩ := F
  obtain ⟨c2, cf2, k2, i2, f2, g1, g2, -, -, -, -, g3⟩ := G
  cases h1.symm.trans g1
  cases h2.symm.trans g2
  exact Option.some.inj (h3.symm.trans g3)
theorem own_ne {Z : State} {h : Heap} {a b : Addr} {C n d : String} {v w : Value} (F : Fld Z h a C n d v) (G : Fld Z h b C n d w) (q : v ≠ w) : a ≠ b := fun e => by
  subst e; exact q (own_fldinj F G)
theorem own_static {s : State} {args : Array Value} {C f d K : String} (h : (Cond.exactly (Term.static C f d) K).value args s none s [] = some true) (hi : (Cond.initializedFor C f d).before args s = true ∨ ((Cond.initialized C).before args s = true ∧ (Cond.laysStatic C f d).before args s = true)) :
    ∃ w, Sta s s.heap C f d (.ref w) ∧ Exa s s.heap w K ∧ (Term.static C f d).eval args s none [] s = some (.ref w) := by
  obtain ⟨w, ev⟩ := exa_v h
  exact ⟨w, Sta.start ev hi, Exa.start ev h, ev⟩
theorem own_field {s : State} {args : Array Value} {t : Term} {w : Addr} {O f d : String} {n : Int32} (ev : t.eval args s none [] s = some (.ref w)) (h : (Cond.eq (Term.field t O f d) (Term.int n)).value args s none s [] = some true) : Fld s s.heap w O f d (.int n) := by
  have q := eqv_i (Term.int_eval n) h
  rw [fld_at ev] at q
  exact Fld.start q
theorem own_fldR {s : State} {args : Array Value} {t : Term} {w : Addr} {O f d : String} {v : Value} (ev : t.eval args s none [] s = some (.ref w)) (h : (Term.field t O f d).eval args s none [] s = some v) : Fld s s.heap w O f d v := Fld.start ((fld_at ev).symm.trans h)
theorem own_eqR {s : State} {args : Array Value} {a b : Term} {y : Addr} (hb : b.eval args s none [] s = some (.ref y)) (h : (Cond.eq a b).value args s none s [] = some true) : a.eval args s none [] s = some (.ref y) :=
  Cond.eq_refs (by simp [Cond.holds, h]) hb rfl
theorem own_len {s : State} {args : Array Value} {t : Term} {a : Addr} {c : Cell} {ty : FieldType} {n : Int32} (ev : t.eval args s none [] s = some (.ref a)) (A : Arr s s.heap a c ty) (h : (Cond.eq (Term.length t) (Term.int n)).value args s none s [] = some true) :
    c.slots.size < 2 ^ 31 ∧ c.slots.size.toInt32 = n := by
  have q := eqv_i (Term.int_eval n) h
  have f := A.fin (Vm.Alike.refl _)
  simp [Term.eval, ev, f] at q
  exact ⟨by simpa using q.1, q.2⟩
theorem own_arvE {s : State} {a : Addr} {c : Cell} {ty : FieldType} {d : Value} (A : Arr s s.heap a c ty) (h : c.slots.size < 2 ^ 31 ∧ c.slots.size.toInt32 = (0 : Int32)) : ∃ k, Arv s s.heap a k ty (0 : Int32) [] d := by
  have e : c.slots.size = 0 := by
    have q := len_toInt h.1
    rw [h.2] at q
    have : (0 : Int32).toInt = 0 := by decide
    omega
  exact ⟨_, c, A, rfl, e, by decide, fun k hk => by omega, fun k hk => by omega⟩
theorem own_ne0 {s : State} {args : Array Value} {t : Term} {x : Int32} (ev : t.eval args s none [] s = some (.int x)) (h : (Cond.not (Cond.eq t (Term.int (0 : Int32)))).value args s none s [] = some true) : ¬ (x = (0 : Int32)) := by
  have q := not_v h
  exact gotF (Cond.eq_ints ev (Term.int_eval (0 : Int32))) (by simpa using q)
def own_pick (k : Int32) (a b c d e : Addr) : Addr := if k = (0 : Int32) then a else if k = (1 : Int32) then b else if k = (2 : Int32) then c else if k = (3 : Int32) then d else e
theorem own_pk2 {k : Int32} {a b c d e : Addr} (h : k = (2 : Int32)) : own_pick k a b c d e = c := by subst h; rfl
theorem own_pkn {k : Int32} {a b c d e : Addr} (h : ¬ (k = (2 : Int32))) (ha : a ≠ c) (hb : b ≠ c) (hd : d ≠ c) (he : e ≠ c) : own_pick k a b c d e ≠ c := by
  unfold own_pick
  by_cases h0 : k = (0 : Int32)
  · rw [if_pos h0]; exact ha
  · by_cases h1 : k = (1 : Int32)
    · rw [if_neg h0, if_pos h1]; exact hb
    · by_cases h3 : k = (3 : Int32)
      · rw [if_neg h0, if_neg h1, if_neg h, if_pos h3]; exact hd
      · rw [if_neg h0, if_neg h1, if_neg h, if_neg h3]; exact he
theorem own_ch (x : Int32) : ¬ ((255 : Int32) < ((x &&& (255 : Int32)).toUInt32.toUInt16.toUInt32.toInt32)) := by
  have a := c_mask x 255 8 (by decide) (by decide)
  have b := c_i2c (x &&& 255)
  have c : (255 : Int32).toInt = 255 := by decide
  rw [Int32.lt_iff_toInt_lt]
  omega
end New
end Jvm.RoadKit
namespace Jvm.Pilot.@@N@@
open Jvm Jvm.ClassFile Sem Op Lib Jvm.Free Jvm.Stand Jvm.LawKit Jvm.RoadKit Bundle Jvm.Pilot.@@N@@.Jvm.D
theorem d4_0 : decode jdk_22_method_1_code 0 = .ok (.aload_n 0, 1) := by decide +kernel
theorem d4_1 : decode jdk_22_method_1_code 1 = .ok (.invokespecial 1, 3) := by decide +kernel
theorem d4_4 : decode jdk_22_method_1_code 4 = .ok (.return_, 1) := by decide +kernel
def Q_acinit (Z : State) (a : Addr) (h0 : Heap) (n0 : Nat) (v : Option Value) (h : Heap) (L : List Loc) : Prop := v = none ∧ Fr n0 L ∧ h = h0
theorem ef_0 (m : MethodId) (x0 : Addr) : entryFrame m #[(.ref x0)] 1 = mkF m 0 #[.val (.ref x0)] [] := by first | (simp [entryFrame, mkF, argsToLocals, Value.category]; done) | rfl
theorem pn_0 : plainName "java/util/AbstractCollection" = true := by first | (simp [plainName, overriddenIn]; done) | decide +kernel
abbrev y_0 : MethodName := ⟨"java/util/AbstractCollection", "<init>", "()V"⟩
set_option maxRecDepth 65536 in
set_option maxHeartbeats 40000000 in
theorem acinit (l : Launch) (Z : State) (a0 : Array Value) (hw : ∀ d ∈ tables_1, d.before a0 Z = true) (ws : List Jvm.Cond) (a : Addr) (h0 : Heap) (n0 : Nat) (O : Old Z n0 h0) :
    Ctr l Z y_0 jdk_22_method_1_code 1 none ws ({ frames := 1, cells := 0, slots := 0, locals := 12 } : Room) #[(.ref a)] h0 (Q_acinit Z a h0 n0) := by
  refine MetFree.of_bodySF (plainFor_of_name pn_0) hisR ?_
  intro p e s m args below meth c s₁ Bd hml0 hP hK
  obtain ⟨rfl, hZ, hh⟩ := hP
  have W := fun (i : Nat) {d : Jvm.Cond} (h : tables_1[i]? = some d) => hw d (List.mem_of_getElem? h)
  have hx := Bd.exec
  have hby := Bd.bytes
  have hml : c.maxLocals = 1 := hml0
  have hown : s.vm.findClass "java/util/AbstractCollection" = some m.cls := findClass_of_methodNamed Bd.named
  have hnm := (name_of_methodNamed Bd.named Bd.method).1
  have X0 : Stand p l e ({ frames := 1, cells := 0, slots := 0, locals := 12 } : Room) s m #[(.ref a)] below meth c s₁ [] 0 0 := Stand.of_body Bd
  have e0 : s₁.heap = h0 := by rw [← hh, Bd.state]; rfl
  have N0 := Fr.nil n0
  have pre0 : ∀ t, Steps p.tables e below (s₁.setTop (mkF m 0 #[.val (.ref a)] [])) t → Steps p.tables e below (s₁.setTop (entryFrame m #[(.ref a)] 1)) t := fun t kk_ => castTop (ef_0 m a) kk_
  obtain ⟨T1, X1, e1, st1⟩ := initO X0 hx hZ hown (W 26 rfl) (W 27 rfl) (W 28 rfl) e0 (g := (mkF m 1 #[rv a] [.ref a])) rfl (by rw [hml]; rfl) rfl (hb hby d4_1) (by decide) (W := 0) (by show 2 * 0 + _ ≤ _; exact Nat.le_of_eq rfl) (by decide)
  obtain ⟨fs, hr, hrun, hended, hW, hsame⟩ := X1.leave (v := none) (fun _ => rfl)
  refine ⟨_, _, pre0 _ ?_, hrun, hended, _, _, rfl, ?_, ⟨_, rfl⟩, hW, hsame.mono (by decide) (by decide)⟩
  · show Sq p e below m s₁ 0 #[rv a] [] _
    refine XS.aloadN X0.here hx rfl (hb hby d4_0) rfl rfl ?_
    show Sq p e below m s₁ 1 #[rv a] [.ref a] _
    refine st1 _ ?_
    show Sq p e below m T1 4 #[rv a] [] _
    exact X1.returnOut hx Bd.returns (hb hby d4_4) hr
  · show Q_acinit Z a h0 n0 _ T1.heap _
    rw [e1]
    exact ⟨rfl, N0, rfl⟩
theorem d3_0 : decode jdk_39_method_1_code 0 = .ok (.aload_n 0, 1) := by decide +kernel
theorem d3_1 : decode jdk_39_method_1_code 1 = .ok (.invokespecial 1, 3) := by decide +kernel
theorem pd_0 : parseMethodDescriptor "()V" = some ⟨[], none⟩ := by decide +kernel
theorem d3_4 : decode jdk_39_method_1_code 4 = .ok (.aload_n 0, 1) := by decide +kernel
theorem d3_5 : decode jdk_39_method_1_code 5 = .ok (.iconst 0, 1) := by decide +kernel
theorem d3_6 : decode jdk_39_method_1_code 6 = .ok (.putfield 7, 3) := by decide +kernel
theorem d3_9 : decode jdk_39_method_1_code 9 = .ok (.return_, 1) := by decide +kernel
def Q_abinit (Z : State) (a : Addr) (u : Value) (u2 : Value) (h0 : Heap) (n0 : Nat) (v : Option Value) (h : Heap) (L : List Loc) : Prop := v = none ∧ Fr n0 L ∧ Keep h0 h [a] ∧ Fld Z h a "java/util/ArrayList" "elementData" "[Ljava/lang/Object;" u ∧ Fld Z h a "java/util/ArrayList" "size" "I" u2 ∧ Fld Z h a "java/util/AbstractList" "modCount" "I" (.int (0 : Int32))
theorem ef_1 (m : MethodId) (x0 : Addr) : entryFrame m #[(.ref x0)] 1 = mkF m 0 #[.val (.ref x0)] [] := by first | (simp [entryFrame, mkF, argsToLocals, Value.category]; done) | rfl
theorem pn_1 : plainName "java/util/AbstractList" = true := by first | (simp [plainName, overriddenIn]; done) | decide +kernel
abbrev y_1 : MethodName := ⟨"java/util/AbstractList", "<init>", "()V"⟩
set_option maxRecDepth 65536 in
set_option maxHeartbeats 40000000 in
theorem abinit (l : Launch) (Z : State) (a0 : Array Value) (hw : ∀ d ∈ tables_1, d.before a0 Z = true) (ws : List Jvm.Cond) (a : Addr) (u : Value) (u2 : Value) (h0 : Heap) (n0 : Nat) (O : Old Z n0 h0) (Ea : Exa Z h0 a "java/util/ArrayList") (FelementData : Fld Z h0 a "java/util/ArrayList" "elementData" "[Ljava/lang/Object;" u) (Fsize : Fld Z h0 a "java/util/ArrayList" "size" "I" u2) (FmodCount : Fld Z h0 a "java/util/AbstractList" "modCount" "I" (.int (0 : Int32))) (ga : n0 ≤ a) :
    Ctr l Z y_1 jdk_39_method_1_code 1 none ws ({ frames := 2, cells := 0, slots := 0, locals := 24 } : Room) #[(.ref a)] h0 (Q_abinit Z a u u2 h0 n0) := by
  refine MetFree.of_bodySF (plainFor_of_name pn_1) hisR ?_
  intro p e s m args below meth c s₁ Bd hml0 hP hK
  obtain ⟨rfl, hZ, hh⟩ := hP
  have W := fun (i : Nat) {d : Jvm.Cond} (h : tables_1[i]? = some d) => hw d (List.mem_of_getElem? h)
  have hx := Bd.exec
  have hby := Bd.bytes
  have hml : c.maxLocals = 1 := hml0
  have hown : s.vm.findClass "java/util/AbstractList" = some m.cls := findClass_of_methodNamed Bd.named
  have hnm := (name_of_methodNamed Bd.named Bd.method).1
  have X0 : Stand p l e ({ frames := 2, cells := 0, slots := 0, locals := 24 } : Room) s m #[(.ref a)] below meth c s₁ [] 0 0 := Stand.of_body Bd
  have e0 : s₁.heap = h0 := by rw [← hh, Bd.state]; rfl
  have N0 := Fr.nil n0
  have pre0 : ∀ t, Steps p.tables e below (s₁.setTop (mkF m 0 #[.val (.ref a)] [])) t → Steps p.tables e below (s₁.setTop (entryFrame m #[(.ref a)] 1)) t := fun t kk_ => castTop (ef_1 m a) kk_
  have K0 := Keep.refl h0 [a]
  obtain ⟨_, _, ⟨T1, L1, k1, n1⟩, -, X1, ⟨Lc1, hQ1, l1, y1, z1⟩, st1⟩ := X0.specialBack hx (y := y_0) rfl hown (mvT hZ (W 20 rfl)) (mvT hZ (W 21 rfl)) (mvT hZ (W 25 rfl)) (by decide) (backOf (W := 0) (acinit l Z a0 hw [] a h0 n0 O ) hZ (W 25 rfl) (W 24 rfl) (by decide) (by decide)) (g := (mkF m 1 #[rv a] [.ref a])) rfl (by rw [hml]; rfl) (Steps.refl _) (a := a) (argsL := []) (rest := []) (lenOf pd_0 rfl) rfl (by show 2 * 0 + _ ≤ _; exact Nat.le_of_eq rfl) (hb hby d3_1) (fun _ _ => ⟨rfl, e0, (by decide : 0 + 0 ≤ _), (by decide : 0 + 0 ≤ _)⟩)
  dsimp only [Pt.U, Pt.locs, Pt.cells, Pt.slots] at X1 l1 y1 z1 st1 hQ1
  subst l1 y1 z1
  obtain ⟨h1, e1⟩ : ∃ z, T1.heap = z := ⟨_, rfl⟩
  rw [e1] at hQ1
  obtain ⟨rfl, N1q, p1_0⟩ := hQ1
  have N1 := Fr.app N0 N1q
  rw [p1_0] at e1
  obtain ⟨T2, h2, X2, e2, W2, st2⟩ := putF X1 hx hZ hown (host := "") (Or.inl (W 29 rfl)) Via.refl e1 FmodCount Ea (Or.inl (W 30 rfl)) (W 9 rfl) (ty := .int) (by decide) rfl rfl (g := (mkF m 6 #[rv a] [.int 0, .ref a])) rfl rfl (hb hby d3_6)
  have Fz2 := FmodCount.same W2
  have FelementData := FelementData.other W2 (Or.inr (slot_ne (Or.inl (W 33 rfl)) (Or.inl (W 30 rfl)) (by decide) (t := (.array (.object "java/lang/Object"))) (t' := .int) (by decide) (by decide)))
  have Fsize := Fsize.other W2 (Or.inr (slot_ne (Or.inl (W 70 rfl)) (Or.inl (W 30 rfl)) (by decide) (t := .int) (t' := .int) (by decide) (by decide)))
  have K4 := K0.wr W2 (Or.inl (List.mem_of_getElem? (i := 0) rfl))
  have N5 := Fr.snoc X2 N1 ga
  obtain ⟨fs, hr, hrun, hended, hW, hsame⟩ := X2.leave (v := none) (fun _ => rfl)
  refine ⟨_, _, pre0 _ ?_, hrun, hended, _, _, rfl, ?_, ⟨_, rfl⟩, hW, hsame.mono (by decide) (by decide)⟩
  · show Sq p e below m s₁ 0 #[rv a] [] _
    refine XS.aloadN X0.here hx rfl (hb hby d3_0) rfl rfl ?_
    show Sq p e below m s₁ 1 #[rv a] [.ref a] _
    refine st1.trans ?_
    show Sq p e below m T1 4 #[rv a] [] _
    refine XS.aloadN X1.here hx rfl (hb hby d3_4) rfl rfl ?_
    refine XS.iconst X1.here hx rfl (hb hby d3_5) ?_
    show Sq p e below m T1 6 #[rv a] [.int 0, .ref a] _
    refine st2 _ ?_
    show Sq p e below m T2 9 #[rv a] [] _
    exact X2.returnOut hx Bd.returns (hb hby d3_9) hr
  · show Q_abinit Z a u u2 h0 n0 _ T2.heap _
    rw [e2]
    exact ⟨rfl, N5, K4, FelementData, Fsize, Fz2⟩
theorem d2_0 : decode jdk_38_method_2_code 0 = .ok (.aload_n 0, 1) := by decide +kernel
theorem d2_1 : decode jdk_38_method_2_code 1 = .ok (.invokespecial 1, 3) := by decide +kernel
theorem d2_4 : decode jdk_38_method_2_code 4 = .ok (.aload_n 0, 1) := by decide +kernel
theorem d2_5 : decode jdk_38_method_2_code 5 = .ok (.getstatic 39, 3) := by decide +kernel
theorem d2_8 : decode jdk_38_method_2_code 8 = .ok (.putfield 9, 3) := by decide +kernel
theorem d2_11 : decode jdk_38_method_2_code 11 = .ok (.return_, 1) := by decide +kernel
def Q_alinit (Z : State) (a : Addr) (w_DEF : Addr) (h0 : Heap) (n0 : Nat) (v : Option Value) (h : Heap) (L : List Loc) : Prop := v = none ∧ Fr n0 L ∧ Keep h0 h [a] ∧ Fld Z h a "java/util/ArrayList" "elementData" "[Ljava/lang/Object;" (.ref w_DEF) ∧ Fld Z h a "java/util/ArrayList" "size" "I" (.int (0 : Int32)) ∧ Fld Z h a "java/util/AbstractList" "modCount" "I" (.int (0 : Int32))
theorem ef_2 (m : MethodId) (x0 : Addr) : entryFrame m #[(.ref x0)] 1 = mkF m 0 #[.val (.ref x0)] [] := by first | (simp [entryFrame, mkF, argsToLocals, Value.category]; done) | rfl
theorem pn_2 : plainName "java/util/ArrayList" = true := by first | (simp [plainName, overriddenIn]; done) | decide +kernel
abbrev y_2 : MethodName := ⟨"java/util/ArrayList", "<init>", "()V"⟩
set_option maxRecDepth 65536 in
set_option maxHeartbeats 40000000 in
theorem alinit (l : Launch) (Z : State) (a0 : Array Value) (hw : ∀ d ∈ tables_1, d.before a0 Z = true) (ws : List Jvm.Cond) (a : Addr) (w_DEF : Addr) (h0 : Heap) (n0 : Nat) (O : Old Z n0 h0) (Ea : Exa Z h0 a "java/util/ArrayList") (FelementData : Fld Z h0 a "java/util/ArrayList" "elementData" "[Ljava/lang/Object;" .null) (Fsize : Fld Z h0 a "java/util/ArrayList" "size" "I" (.int (0 : Int32))) (FmodCount : Fld Z h0 a "java/util/AbstractList" "modCount" "I" (.int (0 : Int32))) (ga : n0 ≤ a) (S_w_DEF : Sta Z Z.heap "java/util/ArrayList" "DEFAULTCAPACITY_EMPTY_ELEMENTDATA" "[Ljava/lang/Object;" (.ref w_DEF)) :
    Ctr l Z y_2 jdk_38_method_2_code 1 none ws ({ frames := 3, cells := 0, slots := 0, locals := 36 } : Room) #[(.ref a)] h0 (Q_alinit Z a w_DEF h0 n0) := by
  refine MetFree.of_bodySF (plainFor_of_name pn_2) hisR ?_
  intro p e s m args below meth c s₁ Bd hml0 hP hK
  obtain ⟨rfl, hZ, hh⟩ := hP
  have W := fun (i : Nat) {d : Jvm.Cond} (h : tables_1[i]? = some d) => hw d (List.mem_of_getElem? h)
  have hx := Bd.exec
  have hby := Bd.bytes
  have hml : c.maxLocals = 1 := hml0
  have hown : s.vm.findClass "java/util/ArrayList" = some m.cls := findClass_of_methodNamed Bd.named
  have hnm := (name_of_methodNamed Bd.named Bd.method).1
  have X0 : Stand p l e ({ frames := 3, cells := 0, slots := 0, locals := 36 } : Room) s m #[(.ref a)] below meth c s₁ [] 0 0 := Stand.of_body Bd
  have e0 : s₁.heap = h0 := by rw [← hh, Bd.state]; rfl
  have N0 := Fr.nil n0
  have pre0 : ∀ t, Steps p.tables e below (s₁.setTop (mkF m 0 #[.val (.ref a)] [])) t → Steps p.tables e below (s₁.setTop (entryFrame m #[(.ref a)] 1)) t := fun t kk_ => castTop (ef_2 m a) kk_
  have K0 := Keep.refl h0 [a]
  obtain ⟨_, _, ⟨T1, L1, k1, n1⟩, -, X1, ⟨Lc1, hQ1, l1, y1, z1⟩, st1⟩ := X0.specialBack hx (y := y_1) rfl hown (mvT hZ (W 14 rfl)) (mvT hZ (W 15 rfl)) (mvT hZ (W 19 rfl)) (by decide) (backOf (W := 0) (abinit l Z a0 hw [] a .null (.int (0 : Int32)) h0 n0 O Ea FelementData Fsize FmodCount ga) hZ (W 19 rfl) (W 18 rfl) (by decide) (by decide)) (g := (mkF m 1 #[rv a] [.ref a])) rfl (by rw [hml]; rfl) (Steps.refl _) (a := a) (argsL := []) (rest := []) (lenOf pd_0 rfl) rfl (by show 2 * 0 + _ ≤ _; exact Nat.le_of_eq rfl) (hb hby d2_1) (fun _ _ => ⟨rfl, e0, (by decide : 0 + 0 ≤ _), (by decide : 0 + 0 ≤ _)⟩)
  dsimp only [Pt.U, Pt.locs, Pt.cells, Pt.slots] at X1 l1 y1 z1 st1 hQ1
  subst l1 y1 z1
  obtain ⟨h1, e1⟩ : ∃ z, T1.heap = z := ⟨_, rfl⟩
  rw [e1] at hQ1
  obtain ⟨rfl, N1q, p1_0, p1_1, p1_2, p1_3⟩ := hQ1
  have N1 := Fr.app N0 N1q
  have Ea := Ea.keep p1_0
  have O2 := O.keep p1_0 (allS ga all0)
  have K3 := K0.trans p1_0 (allS (Or.inl (List.mem_of_getElem? (i := 0) rfl)) all0)
  obtain ⟨T4, X4, e4, st4⟩ := getS2 X1 hx hZ hown (host := "") (Or.inl (W 31 rfl)) Via.refl e1 (S_w_DEF.ext O2.2) (g := (mkF m 5 #[rv a] [.ref a])) rfl (hb hby d2_5)
  obtain ⟨T5, h5, X5, e5, W5, st5⟩ := putF X4 hx hZ hown (host := "") (Or.inl (W 32 rfl)) Via.refl e4 p1_1 Ea (Or.inl (W 33 rfl)) (W 9 rfl) (ty := (.array (.object "java/lang/Object"))) (by decide) rfl rfl (g := (mkF m 8 #[rv a] [.ref w_DEF, .ref a])) rfl rfl (hb hby d2_8)
  have Fz5 := p1_1.same W5
  have p1_2 := p1_2.other W5 (Or.inr (slot_ne (Or.inl (W 70 rfl)) (Or.inl (W 33 rfl)) (by decide) (t := .int) (t' := (.array (.object "java/lang/Object"))) (by decide) (by decide)))
  have p1_3 := p1_3.other W5 (Or.inr (slot_ne (Or.inl (W 30 rfl)) (Or.inl (W 33 rfl)) (by decide) (t := .int) (t' := (.array (.object "java/lang/Object"))) (by decide) (by decide)))
  have K7 := K3.wr W5 (Or.inl (List.mem_of_getElem? (i := 0) rfl))
  have N8 := Fr.snoc X5 N1 ga
  obtain ⟨fs, hr, hrun, hended, hW, hsame⟩ := X5.leave (v := none) (fun _ => rfl)
  refine ⟨_, _, pre0 _ ?_, hrun, hended, _, _, rfl, ?_, ⟨_, rfl⟩, hW, hsame.mono (by decide) (by decide)⟩
  · show Sq p e below m s₁ 0 #[rv a] [] _
    refine XS.aloadN X0.here hx rfl (hb hby d2_0) rfl rfl ?_
    show Sq p e below m s₁ 1 #[rv a] [.ref a] _
    refine st1.trans ?_
    show Sq p e below m T1 4 #[rv a] [] _
    refine XS.aloadN X1.here hx rfl (hb hby d2_4) rfl rfl ?_
    show Sq p e below m T1 5 #[rv a] [.ref a] _
    refine st4 _ ?_
    show Sq p e below m T4 8 #[rv a] [.ref w_DEF, .ref a] _
    refine st5 _ ?_
    show Sq p e below m T5 11 #[rv a] [] _
    exact X5.returnOut hx Bd.returns (hb hby d2_11) hr
  · show Q_alinit Z a w_DEF h0 n0 _ T5.heap _
    rw [e5]
    exact ⟨rfl, N8, K7, Fz5, p1_2, p1_3⟩
theorem d14_0 : decode jdk_29_method_65_code 0 = .ok (.iload_n 0, 1) := by decide +kernel
theorem d14_1 : decode jdk_29_method_65_code 1 = .ok (.iload_n 1, 1) := by decide +kernel
theorem d14_2 : decode jdk_29_method_65_code 2 = .ok (.if_icmp .lt 7, 3) := by decide +kernel
theorem d14_5 : decode jdk_29_method_65_code 5 = .ok (.iload_n 0, 1) := by decide +kernel
theorem d14_6 : decode jdk_29_method_65_code 6 = .ok (.goto 4, 3) := by decide +kernel
theorem d14_10 : decode jdk_29_method_65_code 10 = .ok (.ireturn, 1) := by decide +kernel
def Q_max10 (Z : State) (h0 : Heap) (n0 : Nat) (v : Option Value) (h : Heap) (L : List Loc) : Prop := v = some (.int (10 : Int32)) ∧ Fr n0 L ∧ h = h0
theorem ef_3 (m : MethodId) (x0 : Int32) (x1 : Int32) : entryFrame m #[(.int x0), (.int x1)] 2 = mkF m 0 #[.val (.int x0), .val (.int x1)] [] := by first | (simp [entryFrame, mkF, argsToLocals, Value.category]; done) | rfl
abbrev y_3 : MethodName := ⟨"java/lang/Math", "max", "(II)I"⟩
set_option maxRecDepth 65536 in
set_option maxHeartbeats 40000000 in
theorem max10 (l : Launch) (Z : State) (a0 : Array Value) (hw : ∀ d ∈ tables_1, d.before a0 Z = true) (ws : List Jvm.Cond) (h0 : Heap) (n0 : Nat) (O : Old Z n0 h0) :
    Ctr l Z y_3 jdk_29_method_65_code 2 (some .int) ws ({ frames := 0, cells := 0, slots := 0, locals := 0 } : Room) #[(.int (10 : Int32)), (.int (1 : Int32))] h0 (Q_max10 Z  h0 n0) := by
  refine MetFree.of_bodySF (Jvm.Free.JP.mathPlain rfl (by decide +kernel)) hisR ?_
  intro p e s m args below meth c s₁ Bd hml0 hP hK
  obtain ⟨rfl, hZ, hh⟩ := hP
  have W := fun (i : Nat) {d : Jvm.Cond} (h : tables_1[i]? = some d) => hw d (List.mem_of_getElem? h)
  have hx := Bd.exec
  have hby := Bd.bytes
  have hml : c.maxLocals = 2 := hml0
  have hown : s.vm.findClass "java/lang/Math" = some m.cls := findClass_of_methodNamed Bd.named
  have hnm := (name_of_methodNamed Bd.named Bd.method).1
  have X0 : Stand p l e ({ frames := 0, cells := 0, slots := 0, locals := 0 } : Room) s m #[(.int (10 : Int32)), (.int (1 : Int32))] below meth c s₁ [] 0 0 := Stand.of_body Bd
  have e0 : s₁.heap = h0 := by rw [← hh, Bd.state]; rfl
  have N0 := Fr.nil n0
  have pre0 : ∀ t, Steps p.tables e below (s₁.setTop (mkF m 0 #[.val (.int (10 : Int32)), .val (.int (1 : Int32))] [])) t → Steps p.tables e below (s₁.setTop (entryFrame m #[(.int (10 : Int32)), (.int (1 : Int32))] 2)) t := fun t kk_ => castTop (ef_3 m (10 : Int32) (1 : Int32)) kk_
  obtain ⟨fs, hr, hrun, hended, hW, hsame⟩ := X0.leave (v := some (.int (10 : Int32))) (fun h => by rw [Bd.returns] at h; cases h)
  refine ⟨_, _, pre0 _ ?_, hrun, hended, _, _, rfl, ?_, ⟨_, rfl⟩, hW, hsame.mono (by decide) (by decide)⟩
  · show Sq p e below m s₁ 0 #[iv 10, iv 1] [] _
    refine XS.iloadN X0.here hx rfl (hb hby d14_0) rfl ?_
    refine XS.iloadN X0.here hx rfl (hb hby d14_1) rfl ?_
    show Sq p e below m s₁ 2 #[iv 10, iv 1] [.int 1, .int 10] _
    refine XS.icmpNo X0.here hx rfl (hb hby d14_2) rfl (flt (by decide)).1 ?_
    refine XS.iloadN X0.here hx rfl (hb hby d14_5) rfl ?_
    show Sq p e below m s₁ 6 #[iv 10, iv 1] [.int 10] _
    refine XS.goto X0.here hx rfl (pc0 := 6) (pc' := 10) rfl (hb hby d14_6) (by decide) (by decide) ?_
    show Sq p e below m s₁ 10 #[iv 10, iv 1] [.int 10] _
    exact retI X0 hx Bd.returns (hb hby d14_10) hr
  · show Q_max10 Z  h0 n0 _ s₁.heap _
    rw [e0]
    exact ⟨rfl, N0, rfl⟩
theorem d13_0 : decode jdk_38_method_6_code 0 = .ok (.aload_n 0, 1) := by decide +kernel
theorem d13_1 : decode jdk_38_method_6_code 1 = .ok (.getfield 9, 3) := by decide +kernel
theorem d13_4 : decode jdk_38_method_6_code 4 = .ok (.arraylength, 1) := by decide +kernel
theorem d13_5 : decode jdk_38_method_6_code 5 = .ok (.istore_n 2, 1) := by decide +kernel
theorem d13_6 : decode jdk_38_method_6_code 6 = .ok (.iload_n 2, 1) := by decide +kernel
theorem d13_7 : decode jdk_38_method_6_code 7 = .ok (.ifCond .gt 13, 3) := by decide +kernel
theorem d13_10 : decode jdk_38_method_6_code 10 = .ok (.aload_n 0, 1) := by decide +kernel
theorem d13_11 : decode jdk_38_method_6_code 11 = .ok (.getfield 9, 3) := by decide +kernel
theorem d13_14 : decode jdk_38_method_6_code 14 = .ok (.getstatic 39, 3) := by decide +kernel
theorem d13_17 : decode jdk_38_method_6_code 17 = .ok (.if_acmp .eq 28, 3) := by decide +kernel
theorem d13_45 : decode jdk_38_method_6_code 45 = .ok (.aload_n 0, 1) := by decide +kernel
theorem d13_46 : decode jdk_38_method_6_code 46 = .ok (.bipush 10, 2) := by decide +kernel
theorem d13_48 : decode jdk_38_method_6_code 48 = .ok (.iload_n 1, 1) := by decide +kernel
theorem d13_49 : decode jdk_38_method_6_code 49 = .ok (.invokestatic 79, 3) := by decide +kernel
theorem pd_1 : parseMethodDescriptor "(II)I" = some ⟨[.int, .int], some .int⟩ := by decide +kernel
theorem d13_52 : decode jdk_38_method_6_code 52 = .ok (.anewarray 7, 3) := by decide +kernel
theorem d13_55 : decode jdk_38_method_6_code 55 = .ok (.dup_x1, 1) := by decide +kernel
theorem d13_56 : decode jdk_38_method_6_code 56 = .ok (.putfield 9, 3) := by decide +kernel
theorem d13_59 : decode jdk_38_method_6_code 59 = .ok (.areturn, 1) := by decide +kernel
def Q_growI (Z : State) (a : Addr) (mc : Value) (w_DEF : Addr) (kdef : ClassId) (h0 : Heap) (n0 : Nat) (v : Option Value) (h : Heap) (L : List Loc) : Prop := ∃ b : Addr, ∃ kb : ClassId, v = some (.ref b) ∧ Fr n0 L ∧ Keep h0 h [a] ∧ h0.size ≤ b ∧ Fld Z h a "java/util/ArrayList" "elementData" "[Ljava/lang/Object;" (.ref b) ∧ Fld Z h a "java/util/ArrayList" "size" "I" (.int (0 : Int32)) ∧ Fld Z h a "java/util/AbstractList" "modCount" "I" mc ∧ Arv Z h b kb (.object "java/lang/Object") (10 : Int32) [.null, .null, .null, .null, .null, .null, .null, .null, .null, .null] .null ∧ Ovr Z kb "java/lang/Object" ∧ Exa Z h b "[Ljava/lang/Object;"
theorem ef_4 (m : MethodId) (x0 : Addr) (x1 : Int32) : entryFrame m #[(.ref x0), (.int x1)] 4 = mkF m 0 #[.val (.ref x0), .val (.int x1), .unset, .unset] [] := by first | (simp [entryFrame, mkF, argsToLocals, Value.category]; done) | rfl
abbrev y_4 : MethodName := ⟨"java/util/ArrayList", "grow", "(I)[Ljava/lang/Object;"⟩
set_option maxRecDepth 65536 in
set_option maxHeartbeats 40000000 in
theorem growI (l : Launch) (Z : State) (a0 : Array Value) (hw : ∀ d ∈ tables_1, d.before a0 Z = true) (ws : List Jvm.Cond) (a : Addr) (mc : Value) (w_DEF : Addr) (kdef : ClassId) (h0 : Heap) (n0 : Nat) (O : Old Z n0 h0) (Ea : Exa Z h0 a "java/util/ArrayList") (FelementData : Fld Z h0 a "java/util/ArrayList" "elementData" "[Ljava/lang/Object;" (.ref w_DEF)) (Fsize : Fld Z h0 a "java/util/ArrayList" "size" "I" (.int (0 : Int32))) (FmodCount : Fld Z h0 a "java/util/AbstractList" "modCount" "I" mc) (ga : n0 ≤ a) (S_w_DEF : Sta Z Z.heap "java/util/ArrayList" "DEFAULTCAPACITY_EMPTY_ELEMENTDATA" "[Ljava/lang/Object;" (.ref w_DEF)) (V_w_DEF : Arv Z Z.heap w_DEF kdef (.object "java/lang/Object") (0 : Int32) [] .null) :
    Ctr l Z y_4 jdk_38_method_6_code 4 (some (.array (.object "java/lang/Object"))) ws ({ frames := 1, cells := 1, slots := 10, locals := 14 } : Room) #[(.ref a), (.int (1 : Int32))] h0 (Q_growI Z a mc w_DEF kdef h0 n0) := by
  refine MetFree.of_bodySF (plainFor_of_name pn_2) hisR ?_
  intro p e s m args below meth c s₁ Bd hml0 hP hK
  obtain ⟨rfl, hZ, hh⟩ := hP
  have W := fun (i : Nat) {d : Jvm.Cond} (h : tables_1[i]? = some d) => hw d (List.mem_of_getElem? h)
  have hx := Bd.exec
  have hby := Bd.bytes
  have hml : c.maxLocals = 4 := hml0
  have hown : s.vm.findClass "java/util/ArrayList" = some m.cls := findClass_of_methodNamed Bd.named
  have hnm := (name_of_methodNamed Bd.named Bd.method).1
  have X0 : Stand p l e ({ frames := 1, cells := 1, slots := 10, locals := 14 } : Room) s m #[(.ref a), (.int (1 : Int32))] below meth c s₁ [] 0 0 := Stand.of_body Bd
  have e0 : s₁.heap = h0 := by rw [← hh, Bd.state]; rfl
  have N0 := Fr.nil n0
  have pre0 : ∀ t, Steps p.tables e below (s₁.setTop (mkF m 0 #[.val (.ref a), .val (.int (1 : Int32)), .unset, .unset] [])) t → Steps p.tables e below (s₁.setTop (entryFrame m #[(.ref a), (.int (1 : Int32))] 4)) t := fun t kk_ => castTop (ef_4 m a (1 : Int32)) kk_
  have K0 := Keep.refl h0 [a]
  obtain ⟨T1, X1, e1, st1⟩ := getF X0 hx hZ hown (host := "") (Or.inl (W 32 rfl)) Via.refl e0 FelementData (g := (mkF m 1 #[rv a, iv 1, .unset, .unset] [.ref a])) rfl rfl (hb hby d13_1)
  obtain ⟨cl2, Ar2, -, S2, Ng2, -, -⟩ := id (V_w_DEF.ext O.2)
  have st2 := X1.arraylength hx (by rw [e1]; exact Ar2.1) (State.isArrayOf_alike hZ.alike Ar2.2.1) (g := (mkF m 4 #[rv a, iv 1, .unset, .unset] [.ref w_DEF])) rfl rfl (hb hby d13_4)
  rw [len_of S2 Ng2] at st2
  obtain ⟨T3, X3, e3, st3⟩ := getF X1 hx hZ hown (host := "") (Or.inl (W 32 rfl)) Via.refl e1 FelementData (g := (mkF m 11 #[rv a, iv 1, iv 0, .unset] [.ref a])) rfl rfl (hb hby d13_11)
  obtain ⟨T4, X4, e4, st4⟩ := getS2 X3 hx hZ hown (host := "") (Or.inl (W 31 rfl)) Via.refl e3 (S_w_DEF.ext O.2) (g := (mkF m 14 #[rv a, iv 1, iv 0, .unset] [.ref w_DEF])) rfl (hb hby d13_14)
  obtain ⟨_, _, ⟨T5, L5, k5, n5⟩, -, X5, ⟨Lc5, hQ5, l5, y5, z5⟩, st5⟩ := Jvm.LawKit.callS X4 hx (y := y_3) hown (mvT hZ (W 86 rfl)) (mvT hZ (W 87 rfl)) (mvT hZ (W 88 rfl)) (mvT hZ (W 89 rfl)) (by decide) (backOf (W := 1) (max10 l Z a0 hw []  h0 n0 O ) hZ (W 89 rfl) (W 88 rfl) (by decide) (by decide)) (g := (mkF m 49 #[rv a, iv 1, iv 0, .unset] [.int 1, .int 10, .ref a])) rfl (by rw [hml]; rfl) (argsL := [.int 10, .int 1]) (rest := [.ref a]) (lenOf pd_1 rfl) rfl (by show 2 * 0 + _ ≤ _; exact Nat.le_of_eq rfl) (hb hby d13_49) (fun _ _ => ⟨rfl, e4, (by decide : 0 + 0 ≤ _), (by decide : 0 + 0 ≤ _)⟩)
  dsimp only [Pt.U, Pt.locs, Pt.cells, Pt.slots] at X5 l5 y5 z5 st5 hQ5
  subst l5 y5 z5
  obtain ⟨h5, e5⟩ : ∃ z, T5.heap = z := ⟨_, rfl⟩
  rw [e5] at hQ5
  obtain ⟨rfl, N5q, p5_0⟩ := hQ5
  have N5 := Fr.app N0 N5q
  rw [p5_0] at e5
  obtain ⟨T6, h6, k6, X6, e6, E6, A6, A6x, Ov6, st6⟩ := newRE X5 hx hZ hown (W 90 rfl) (W 91 rfl) e5 (g := (mkF m 52 #[rv a, iv 1, iv 0, .unset] [.int 10, .ref a])) rfl (hb hby d13_52) rfl (by decide) (cap := 10) (by decide) (by decide) (by decide) (by decide) (ad := "[Ljava/lang/Object;") (by decide)
  obtain ⟨b6, g6⟩ : ∃ z, z = h0.size := ⟨_, rfl⟩
  rw [← g6] at A6 A6x st6
  have sz_b6 : h0.size ≤ b6 := Nat.le_trans K0.1 (Nat.le_of_eq g6.symm)
  have ne_a_b6 : a ≠ b6 := Nat.ne_of_lt (Nat.lt_of_lt_of_le Ea.lt (Nat.le_of_eq g6.symm))
  have Ea := Ea.ext E6
  have FelementData := FelementData.ext E6
  have Fsize := Fsize.ext E6
  have FmodCount := FmodCount.ext E6
  have K8 := K0.ext E6
  have V6 : Arv Z h6 b6 k6 (.object "java/lang/Object") (10 : Int32) [.null, .null, .null, .null, .null, .null, .null, .null, .null, .null] .null := (Arv.new A6 (by decide)).pad (pad_rep [] .null 10)
  obtain ⟨T9, h9, X9, e9, W9, st9⟩ := putF X6 hx hZ hown (host := "") (Or.inl (W 32 rfl)) Via.refl e6 FelementData Ea (Or.inl (W 33 rfl)) (W 9 rfl) (ty := (.array (.object "java/lang/Object"))) (by decide) rfl rfl (g := (mkF m 56 #[rv a, iv 1, iv 0, .unset] [.ref b6, .ref a, .ref b6])) rfl rfl (hb hby d13_56)
  have Fz9 := FelementData.same W9
  have Fsize := Fsize.other W9 (Or.inr (slot_ne (Or.inl (W 70 rfl)) (Or.inl (W 33 rfl)) (by decide) (t := .int) (t' := (.array (.object "java/lang/Object"))) (by decide) (by decide)))
  have FmodCount := FmodCount.other W9 (Or.inr (slot_ne (Or.inl (W 30 rfl)) (Or.inl (W 33 rfl)) (by decide) (t := .int) (t' := (.array (.object "java/lang/Object"))) (by decide) (by decide)))
  have V6 := V6.other W9 (Ne.symm ne_a_b6)
  have A6x := A6x.wr W9
  have K11 := K8.wr W9 (Or.inl (List.mem_of_getElem? (i := 0) rfl))
  have N12 := Fr.snoc X9 N5 ga
  obtain ⟨fs, hr, hrun, hended, hW, hsame⟩ := X9.leave (v := some (.ref b6)) (fun h => by rw [Bd.returns] at h; cases h)
  refine ⟨_, _, pre0 _ ?_, hrun, hended, _, _, rfl, ?_, ⟨_, rfl⟩, hW, hsame.mono (by decide) (by decide)⟩
  · show Sq p e below m s₁ 0 #[rv a, iv 1, .unset, .unset] [] _
    refine XS.aloadN X0.here hx rfl (hb hby d13_0) rfl rfl ?_
    show Sq p e below m s₁ 1 #[rv a, iv 1, .unset, .unset] [.ref a] _
    refine st1 _ ?_
    show Sq p e below m T1 4 #[rv a, iv 1, .unset, .unset] [.ref w_DEF] _
    refine st2 _ ?_
    show Sq p e below m T1 5 #[rv a, iv 1, .unset, .unset] [.int 0] _
    refine XS.istoreN X1.here hx rfl (hb hby d13_5) rfl rfl ?_
    refine XS.iloadN X1.here hx rfl (hb hby d13_6) rfl ?_
    show Sq p e below m T1 7 #[rv a, iv 1, iv 0, .unset] [.int 0] _
    refine XS.ifNo X1.here hx rfl (hb hby d13_7) rfl ((if0 _ _).trans (flt (by decide)).2.2.1) ?_
    refine XS.aloadN X1.here hx rfl (hb hby d13_10) rfl rfl ?_
    show Sq p e below m T1 11 #[rv a, iv 1, iv 0, .unset] [.ref a] _
    refine st3 _ ?_
    show Sq p e below m T3 14 #[rv a, iv 1, iv 0, .unset] [.ref w_DEF] _
    refine st4 _ ?_
    show Sq p e below m T4 17 #[rv a, iv 1, iv 0, .unset] [.ref w_DEF, .ref w_DEF] _
    refine Jvm.RoadKit.acmp (g := (mkF m 17 #[rv a, iv 1, iv 0, .unset] [.ref w_DEF, .ref w_DEF])) X4 hx rfl rfl rfl (pc0 := 17) (pc' := 45) (same := true) rfl (hb hby d13_17) rfl (decide_eq_true rfl) (by decide) (by decide) ?_
    show Sq p e below m T4 45 #[rv a, iv 1, iv 0, .unset] [] _
    refine XS.aloadN X4.here hx rfl (hb hby d13_45) rfl rfl ?_
    refine XS.bipush X4.here hx rfl (hb hby d13_46) ?_
    show Sq p e below m T4 48 #[rv a, iv 1, iv 0, .unset] [.int 10, .ref a] _
    refine XS.iloadN X4.here hx rfl (hb hby d13_48) rfl ?_
    show Sq p e below m T4 49 #[rv a, iv 1, iv 0, .unset] [.int 1, .int 10, .ref a] _
    refine st5 _ ?_
    show Sq p e below m T5 52 #[rv a, iv 1, iv 0, .unset] [.int 10, .ref a] _
    refine st6 _ ?_
    show Sq p e below m T6 55 #[rv a, iv 1, iv 0, .unset] [.ref b6, .ref a] _
    refine XS.dupX1 X6.here hx rfl (hb hby d13_55) rfl rfl rfl ?_
    show Sq p e below m T6 56 #[rv a, iv 1, iv 0, .unset] [.ref b6, .ref a, .ref b6] _
    refine st9 _ ?_
    show Sq p e below m T9 59 #[rv a, iv 1, iv 0, .unset] [.ref b6] _
    jvm_step X9.here [X9.here.top, hx, (hb hby d13_59), X9.method', Bd.returns, Value.isRef, FieldType.isReference]
    first | (intro acts; rw [hr _ acts rfl rfl rfl]) | rw [hr _ _ rfl rfl rfl]
    exact Steps.refl _
  · show Q_growI Z a mc w_DEF kdef h0 n0 _ T9.heap _
    rw [e9]
    exact ⟨b6, k6, rfl, N12, K11, sz_b6, Fz9, Fsize, FmodCount, V6, Ov6, A6x⟩
theorem d12_0 : decode jdk_38_method_7_code 0 = .ok (.aload_n 0, 1) := by decide +kernel
theorem d12_1 : decode jdk_38_method_7_code 1 = .ok (.aload_n 0, 1) := by decide +kernel
theorem d12_2 : decode jdk_38_method_7_code 2 = .ok (.getfield 48, 3) := by decide +kernel
theorem d12_5 : decode jdk_38_method_7_code 5 = .ok (.iconst 1, 1) := by decide +kernel
theorem d12_6 : decode jdk_38_method_7_code 6 = .ok (.iadd, 1) := by decide +kernel
theorem d12_7 : decode jdk_38_method_7_code 7 = .ok (.invokevirtual 69, 3) := by decide +kernel
theorem pd_2 : parseMethodDescriptor "(I)[Ljava/lang/Object;" = some ⟨[.int], some (.array (.object "java/lang/Object"))⟩ := by decide +kernel
theorem d12_10 : decode jdk_38_method_7_code 10 = .ok (.areturn, 1) := by decide +kernel
def Q_grow0 (Z : State) (a : Addr) (mc : Value) (w_DEF : Addr) (kdef : ClassId) (h0 : Heap) (n0 : Nat) (v : Option Value) (h : Heap) (L : List Loc) : Prop := ∃ b : Addr, ∃ kb : ClassId, v = some (.ref b) ∧ Fr n0 L ∧ Keep h0 h [a] ∧ h0.size ≤ b ∧ Fld Z h a "java/util/ArrayList" "elementData" "[Ljava/lang/Object;" (.ref b) ∧ Fld Z h a "java/util/ArrayList" "size" "I" (.int (0 : Int32)) ∧ Fld Z h a "java/util/AbstractList" "modCount" "I" mc ∧ Arv Z h b kb (.object "java/lang/Object") (10 : Int32) [.null, .null, .null, .null, .null, .null, .null, .null, .null, .null] .null ∧ Ovr Z kb "java/lang/Object" ∧ Exa Z h b "[Ljava/lang/Object;"
theorem ef_5 (m : MethodId) (x0 : Addr) : entryFrame m #[(.ref x0)] 1 = mkF m 0 #[.val (.ref x0)] [] := by first | (simp [entryFrame, mkF, argsToLocals, Value.category]; done) | rfl
abbrev y_5 : MethodName := ⟨"java/util/ArrayList", "grow", "()[Ljava/lang/Object;"⟩
set_option maxRecDepth 65536 in
set_option maxHeartbeats 40000000 in
theorem grow0 (l : Launch) (Z : State) (a0 : Array Value) (hw : ∀ d ∈ tables_1, d.before a0 Z = true) (ws : List Jvm.Cond) (a : Addr) (mc : Value) (w_DEF : Addr) (kdef : ClassId) (h0 : Heap) (n0 : Nat) (O : Old Z n0 h0) (Ea : Exa Z h0 a "java/util/ArrayList") (FelementData : Fld Z h0 a "java/util/ArrayList" "elementData" "[Ljava/lang/Object;" (.ref w_DEF)) (Fsize : Fld Z h0 a "java/util/ArrayList" "size" "I" (.int (0 : Int32))) (FmodCount : Fld Z h0 a "java/util/AbstractList" "modCount" "I" mc) (ga : n0 ≤ a) (S_w_DEF : Sta Z Z.heap "java/util/ArrayList" "DEFAULTCAPACITY_EMPTY_ELEMENTDATA" "[Ljava/lang/Object;" (.ref w_DEF)) (V_w_DEF : Arv Z Z.heap w_DEF kdef (.object "java/lang/Object") (0 : Int32) [] .null) :
    Ctr l Z y_5 jdk_38_method_7_code 1 (some (.array (.object "java/lang/Object"))) ws ({ frames := 2, cells := 1, slots := 10, locals := 29 } : Room) #[(.ref a)] h0 (Q_grow0 Z a mc w_DEF kdef h0 n0) := by
  refine MetFree.of_bodySF (plainFor_of_name pn_2) hisR ?_
  intro p e s m args below meth c s₁ Bd hml0 hP hK
  obtain ⟨rfl, hZ, hh⟩ := hP
  have W := fun (i : Nat) {d : Jvm.Cond} (h : tables_1[i]? = some d) => hw d (List.mem_of_getElem? h)
  have hx := Bd.exec
  have hby := Bd.bytes
  have hml : c.maxLocals = 1 := hml0
  have hown : s.vm.findClass "java/util/ArrayList" = some m.cls := findClass_of_methodNamed Bd.named
  have hnm := (name_of_methodNamed Bd.named Bd.method).1
  have X0 : Stand p l e ({ frames := 2, cells := 1, slots := 10, locals := 29 } : Room) s m #[(.ref a)] below meth c s₁ [] 0 0 := Stand.of_body Bd
  have e0 : s₁.heap = h0 := by rw [← hh, Bd.state]; rfl
  have N0 := Fr.nil n0
  have pre0 : ∀ t, Steps p.tables e below (s₁.setTop (mkF m 0 #[.val (.ref a)] [])) t → Steps p.tables e below (s₁.setTop (entryFrame m #[(.ref a)] 1)) t := fun t kk_ => castTop (ef_5 m a) kk_
  have K0 := Keep.refl h0 [a]
  obtain ⟨T1, X1, e1, st1⟩ := getF X0 hx hZ hown (host := "") (Or.inl (W 69 rfl)) Via.refl e0 Fsize (g := (mkF m 2 #[rv a] [.ref a, .ref a])) rfl rfl (hb hby d12_2)
  obtain ⟨cq2, q2, q2'⟩ := Ea.cell
  obtain ⟨_, _, ⟨T2, L2, k2, n2⟩, -, X2, ⟨Lc2, hQ2, l2, y2, z2⟩, st2⟩ := X1.privateBack hx (y := y_4) hown (mvT hZ (W 81 rfl)) (mvT hZ (W 82 rfl)) (mvT hZ (W 84 rfl)) (Cond.privateMethod_at (mvP hZ (W 83 rfl) (args := #[]))) (mvT hZ (W 85 rfl)) (by decide) (backOf (W := 0) (growI l Z a0 hw [] a mc w_DEF kdef h0 n0 O Ea FelementData Fsize FmodCount ga S_w_DEF V_w_DEF) hZ (W 85 rfl) (W 10 rfl) (by decide) (by decide)) (g := (mkF m 7 #[rv a] [.int 1, .ref a])) rfl (by rw [hml]; rfl) (Steps.refl _) (a := a) (by rw [e1]; exact q2) q2' (argsL := [.int 1]) (rest := []) (lenOf pd_2 rfl) rfl (by show 2 * 0 + _ ≤ _; exact Nat.le_of_eq rfl) (hb hby d12_7) (fun _ _ => ⟨rfl, e1, (by decide : 0 + 1 ≤ _), (by decide : 0 + 10 ≤ _)⟩)
  dsimp only [Pt.U, Pt.locs, Pt.cells, Pt.slots] at X2 l2 y2 z2 st2 hQ2
  subst l2 y2 z2
  obtain ⟨h2, e2⟩ : ∃ z, T2.heap = z := ⟨_, rfl⟩
  rw [e2] at hQ2
  obtain ⟨b2b, b2kb, rfl, N2q, p2_0, p2_1, p2_2, p2_3, p2_4, p2_5, p2_6, p2_7⟩ := hQ2
  have N2 := Fr.app N0 N2q
  have sz_b2b : h0.size ≤ b2b := Nat.le_trans K0.1 p2_1
  have K4 := K0.trans p2_0 (allS (Or.inl (List.mem_of_getElem? (i := 0) rfl)) all0)
  obtain ⟨fs, hr, hrun, hended, hW, hsame⟩ := X2.leave (v := some (.ref b2b)) (fun h => by rw [Bd.returns] at h; cases h)
  refine ⟨_, _, pre0 _ ?_, hrun, hended, _, _, rfl, ?_, ⟨_, rfl⟩, hW, hsame.mono (by decide) (by decide)⟩
  · show Sq p e below m s₁ 0 #[rv a] [] _
    refine XS.aloadN X0.here hx rfl (hb hby d12_0) rfl rfl ?_
    refine XS.aloadN X0.here hx rfl (hb hby d12_1) rfl rfl ?_
    show Sq p e below m s₁ 2 #[rv a] [.ref a, .ref a] _
    refine st1 _ ?_
    show Sq p e below m T1 5 #[rv a] [.int 0, .ref a] _
    refine XS.iconst X1.here hx rfl (hb hby d12_5) ?_
    refine XS.iadd X1.here hx rfl (hb hby d12_6) rfl ?_
    show Sq p e below m T1 7 #[rv a] [.int ((0 : Int32) + (1 : Int32)), .ref a] _
    rw [show ((0 : Int32) + (1 : Int32)) = (1 : Int32) from by decide]
    show Sq p e below m T1 7 #[rv a] [.int 1, .ref a] _
    refine st2.trans ?_
    show Sq p e below m T2 10 #[rv a] [.ref b2b] _
    jvm_step X2.here [X2.here.top, hx, (hb hby d12_10), X2.method', Bd.returns, Value.isRef, FieldType.isReference]
    first | (intro acts; rw [hr _ acts rfl rfl rfl]) | rw [hr _ _ rfl rfl rfl]
    exact Steps.refl _
  · show Q_grow0 Z a mc w_DEF kdef h0 n0 _ T2.heap _
    rw [e2]
    exact ⟨b2b, b2kb, rfl, N2, K4, sz_b2b, p2_2, p2_3, p2_4, p2_5, p2_6, p2_7⟩
theorem d7_0 : decode jdk_43_method_3_code 0 = .ok (.iload_n 0, 1) := by decide +kernel
theorem d7_1 : decode jdk_43_method_3_code 1 = .ok (.sipush 255, 3) := by decide +kernel
theorem d7_4 : decode jdk_43_method_3_code 4 = .ok (.if_icmp .gt 7, 3) := by decide +kernel
theorem d7_7 : decode jdk_43_method_3_code 7 = .ok (.iconst 1, 1) := by decide +kernel
theorem d7_8 : decode jdk_43_method_3_code 8 = .ok (.goto 4, 3) := by decide +kernel
theorem d7_12 : decode jdk_43_method_3_code 12 = .ok (.ireturn, 1) := by decide +kernel
def Q_canenc (Z : State) (x1 : Int32) (h0 : Heap) (n0 : Nat) (v : Option Value) (h : Heap) (L : List Loc) : Prop := v = some (.int (1 : Int32)) ∧ Fr n0 L ∧ h = h0
theorem ef_6 (m : MethodId) (x0 : Int32) : entryFrame m #[(.int x0)] 1 = mkF m 0 #[.val (.int x0)] [] := by first | (simp [entryFrame, mkF, argsToLocals, Value.category]; done) | rfl
theorem pn_3 : plainName "java/lang/StringLatin1" = true := by first | (simp [plainName, overriddenIn]; done) | decide +kernel
abbrev y_6 : MethodName := ⟨"java/lang/StringLatin1", "canEncode", "(C)Z"⟩
set_option maxRecDepth 65536 in
set_option maxHeartbeats 40000000 in
theorem canenc (l : Launch) (Z : State) (a0 : Array Value) (hw : ∀ d ∈ tables_1, d.before a0 Z = true) (ws : List Jvm.Cond) (x1 : Int32) (h0 : Heap) (n0 : Nat) (O : Old Z n0 h0) (hx1 : ¬ ((255 : Int32) < x1)) :
    Ctr l Z y_6 jdk_43_method_3_code 1 (some .boolean) ws ({ frames := 0, cells := 0, slots := 0, locals := 0 } : Room) #[(.int x1)] h0 (Q_canenc Z x1 h0 n0) := by
  refine MetFree.of_bodySF (plainFor_of_name pn_3) hisR ?_
  intro p e s m args below meth c s₁ Bd hml0 hP hK
  obtain ⟨rfl, hZ, hh⟩ := hP
  have W := fun (i : Nat) {d : Jvm.Cond} (h : tables_1[i]? = some d) => hw d (List.mem_of_getElem? h)
  have hx := Bd.exec
  have hby := Bd.bytes
  have hml : c.maxLocals = 1 := hml0
  have hown : s.vm.findClass "java/lang/StringLatin1" = some m.cls := findClass_of_methodNamed Bd.named
  have hnm := (name_of_methodNamed Bd.named Bd.method).1
  have X0 : Stand p l e ({ frames := 0, cells := 0, slots := 0, locals := 0 } : Room) s m #[(.int x1)] below meth c s₁ [] 0 0 := Stand.of_body Bd
  have e0 : s₁.heap = h0 := by rw [← hh, Bd.state]; rfl
  have N0 := Fr.nil n0
  have pre0 : ∀ t, Steps p.tables e below (s₁.setTop (mkF m 0 #[.val (.int x1)] [])) t → Steps p.tables e below (s₁.setTop (entryFrame m #[(.int x1)] 1)) t := fun t kk_ => castTop (ef_6 m x1) kk_
  obtain ⟨fs, hr, hrun, hended, hW, hsame⟩ := X0.leave (v := some (.int (1 : Int32))) (fun h => by rw [Bd.returns] at h; cases h)
  refine ⟨_, _, pre0 _ ?_, hrun, hended, _, _, rfl, ?_, ⟨_, rfl⟩, hW, hsame.mono (by decide) (by decide)⟩
  · show Sq p e below m s₁ 0 #[iv x1] [] _
    refine XS.iloadN X0.here hx rfl (hb hby d7_0) rfl ?_
    refine XS.sipush X0.here hx rfl (hb hby d7_1) ?_
    show Sq p e below m s₁ 4 #[iv x1] [.int 255, .int x1] _
    refine XS.icmpNo X0.here hx rfl (hb hby d7_4) rfl (flt (hx1 : ¬ ((255 : Int32) < x1))).2.2.1 ?_
    refine XS.iconst X0.here hx rfl (hb hby d7_7) ?_
    show Sq p e below m s₁ 8 #[iv x1] [.int 1] _
    refine XS.goto X0.here hx rfl (pc0 := 8) (pc' := 12) rfl (hb hby d7_8) (by decide) (by decide) ?_
    show Sq p e below m s₁ 12 #[iv x1] [.int 1] _
    exact retN X0 hx (t := .boolean) Bd.returns (by simp) (hb hby d7_12) hr
  · show Q_canenc Z x1 h0 n0 _ s₁.heap _
    rw [e0]
    exact ⟨rfl, N0, rfl⟩
theorem d8_0 : decode jdk_43_method_46_code 0 = .ok (.iconst 1, 1) := by decide +kernel
theorem d8_1 : decode jdk_43_method_46_code 1 = .ok (.newarray .byte, 2) := by decide +kernel
theorem d8_3 : decode jdk_43_method_46_code 3 = .ok (.dup, 1) := by decide +kernel
theorem d8_4 : decode jdk_43_method_46_code 4 = .ok (.iconst 0, 1) := by decide +kernel
theorem d8_5 : decode jdk_43_method_46_code 5 = .ok (.iload_n 0, 1) := by decide +kernel
theorem d8_6 : decode jdk_43_method_46_code 6 = .ok (.i2b, 1) := by decide +kernel
theorem d8_7 : decode jdk_43_method_46_code 7 = .ok (.bastore, 1) := by decide +kernel
theorem d8_8 : decode jdk_43_method_46_code 8 = .ok (.areturn, 1) := by decide +kernel
def Q_tobyt (Z : State) (x1 : Int32) (h0 : Heap) (n0 : Nat) (v : Option Value) (h : Heap) (L : List Loc) : Prop := ∃ b : Addr, ∃ kb : ClassId, v = some (.ref b) ∧ Fr n0 L ∧ Keep h0 h [] ∧ h0.size ≤ b ∧ Exa Z h b "[B" ∧ Arv Z h b kb .byte (1 : Int32) [(.int (nar .byte (x1.toInt8.toInt32)))] (.int (0 : Int32))
theorem ef_7 (m : MethodId) (x0 : Int32) : entryFrame m #[(.int x0)] 1 = mkF m 0 #[.val (.int x0)] [] := by first | (simp [entryFrame, mkF, argsToLocals, Value.category]; done) | rfl
abbrev y_7 : MethodName := ⟨"java/lang/StringLatin1", "toBytes", "(C)[B"⟩
set_option maxRecDepth 65536 in
set_option maxHeartbeats 40000000 in
theorem tobyt (l : Launch) (Z : State) (a0 : Array Value) (hw : ∀ d ∈ tables_1, d.before a0 Z = true) (ws : List Jvm.Cond) (x1 : Int32) (h0 : Heap) (n0 : Nat) (O : Old Z n0 h0) :
    Ctr l Z y_7 jdk_43_method_46_code 1 (some (.array .byte)) ws ({ frames := 0, cells := 1, slots := 1, locals := 0 } : Room) #[(.int x1)] h0 (Q_tobyt Z x1 h0 n0) := by
  refine MetFree.of_bodySF (plainFor_of_name pn_3) hisR ?_
  intro p e s m args below meth c s₁ Bd hml0 hP hK
  obtain ⟨rfl, hZ, hh⟩ := hP
  have W := fun (i : Nat) {d : Jvm.Cond} (h : tables_1[i]? = some d) => hw d (List.mem_of_getElem? h)
  have hx := Bd.exec
  have hby := Bd.bytes
  have hml : c.maxLocals = 1 := hml0
  have hown : s.vm.findClass "java/lang/StringLatin1" = some m.cls := findClass_of_methodNamed Bd.named
  have hnm := (name_of_methodNamed Bd.named Bd.method).1
  have X0 : Stand p l e ({ frames := 0, cells := 1, slots := 1, locals := 0 } : Room) s m #[(.int x1)] below meth c s₁ [] 0 0 := Stand.of_body Bd
  have e0 : s₁.heap = h0 := by rw [← hh, Bd.state]; rfl
  have N0 := Fr.nil n0
  have pre0 : ∀ t, Steps p.tables e below (s₁.setTop (mkF m 0 #[.val (.int x1)] [])) t → Steps p.tables e below (s₁.setTop (entryFrame m #[(.int x1)] 1)) t := fun t kk_ => castTop (ef_7 m x1) kk_
  have K0 := Keep.refl h0 []
  obtain ⟨T1, h1, k1, X1, e1, E1, A1, A1x, st1⟩ := newPE X0 hx hZ (W 48 rfl) e0 (g := (mkF m 1 #[iv x1] [.int 1])) rfl (hb hby d8_1) rfl (by decide) (cap := 1) (by decide) (by decide) (by decide) (by decide) (ad := "[B") (by decide)
  obtain ⟨b1, g1⟩ : ∃ z, z = h0.size := ⟨_, rfl⟩
  rw [← g1] at A1 A1x st1
  have g_b1 : n0 ≤ b1 := Nat.le_trans (own_sz O) (Nat.le_of_eq g1.symm)
  have sz_b1 : h0.size ≤ b1 := Nat.le_trans K0.1 (Nat.le_of_eq g1.symm)
  have K3 := K0.ext E1
  have V1 : Arv Z h1 b1 k1 .byte (1 : Int32) [(.int (0 : Int32))] (.int (0 : Int32)) := (Arv.new A1 (by decide)).pad (pad_rep [] (.int (0 : Int32)) 1)
  obtain ⟨cl4, Ar4, q4, S4, Ng4, Hh4, Gg4⟩ := id V1
  obtain ⟨T4, h4, X4, e4, W4, st4⟩ := stB X1 hx hZ e1 Ar4 (j := (0 : Int32)) (inb_of S4 (by decide)) (g := (mkF m 7 #[iv x1] [.int (x1.toInt8.toInt32), .int 0, .ref b1, .ref b1])) rfl rfl (hb hby d8_7)
  have V4 : Arv Z h4 b1 k1 .byte (1 : Int32) [(.int (nar .byte (x1.toInt8.toInt32)))] (.int (0 : Int32)) := Arv.set Ar4 q4 S4 Ng4 Hh4 Gg4 (fits_nar_byte _) W4 0 rfl (Nat.le_of_ble_eq_true rfl)
  have A1x := A1x.wr W4
  have K6 := K3.wr W4 (Or.inr sz_b1)
  have N7 := Fr.snoc X4 N0 g_b1
  obtain ⟨fs, hr, hrun, hended, hW, hsame⟩ := X4.leave (v := some (.ref b1)) (fun h => by rw [Bd.returns] at h; cases h)
  refine ⟨_, _, pre0 _ ?_, hrun, hended, _, _, rfl, ?_, ⟨_, rfl⟩, hW, hsame.mono (by decide) (by decide)⟩
  · show Sq p e below m s₁ 0 #[iv x1] [] _
    refine XS.iconst X0.here hx rfl (hb hby d8_0) ?_
    show Sq p e below m s₁ 1 #[iv x1] [.int 1] _
    refine st1 _ ?_
    show Sq p e below m T1 3 #[iv x1] [.ref b1] _
    refine XS.dup X1.here hx rfl (hb hby d8_3) rfl rfl ?_
    refine XS.iconst X1.here hx rfl (hb hby d8_4) ?_
    show Sq p e below m T1 5 #[iv x1] [.int 0, .ref b1, .ref b1] _
    refine XS.iloadN X1.here hx rfl (hb hby d8_5) rfl ?_
    refine XS.i2b X1.here hx rfl (hb hby d8_6) rfl ?_
    show Sq p e below m T1 7 #[iv x1] [.int (x1.toInt8.toInt32), .int 0, .ref b1, .ref b1] _
    refine st4 _ ?_
    show Sq p e below m T4 8 #[iv x1] [.ref b1] _
    jvm_step X4.here [X4.here.top, hx, (hb hby d8_8), X4.method', Bd.returns, Value.isRef, FieldType.isReference]
    first | (intro acts; rw [hr _ acts rfl rfl rfl]) | rw [hr _ _ rfl rfl rfl]
    exact Steps.refl _
  · show Q_tobyt Z x1 h0 n0 _ T4.heap _
    rw [e4]
    exact ⟨b1, k1, rfl, N7, K6, sz_b1, A1x, V4⟩
theorem d9_0 : decode jdk_42_method_151_code 0 = .ok (.aload_n 0, 1) := by decide +kernel
theorem d9_1 : decode jdk_42_method_151_code 1 = .ok (.invokespecial 1, 3) := by decide +kernel
theorem d9_4 : decode jdk_42_method_151_code 4 = .ok (.aload_n 0, 1) := by decide +kernel
theorem d9_5 : decode jdk_42_method_151_code 5 = .ok (.aload_n 1, 1) := by decide +kernel
theorem d9_6 : decode jdk_42_method_151_code 6 = .ok (.putfield 9, 3) := by decide +kernel
theorem d9_9 : decode jdk_42_method_151_code 9 = .ok (.aload_n 0, 1) := by decide +kernel
theorem d9_10 : decode jdk_42_method_151_code 10 = .ok (.iload_n 2, 1) := by decide +kernel
theorem d9_11 : decode jdk_42_method_151_code 11 = .ok (.putfield 15, 3) := by decide +kernel
theorem d9_14 : decode jdk_42_method_151_code 14 = .ok (.return_, 1) := by decide +kernel
def Q_strinit (Z : State) (a : Addr) (y1 : Addr) (h0 : Heap) (n0 : Nat) (v : Option Value) (h : Heap) (L : List Loc) : Prop := v = none ∧ Fr n0 L ∧ Keep h0 h [a] ∧ Fld Z h a "java/lang/String" "value" "[B" (.ref y1) ∧ Fld Z h a "java/lang/String" "coder" "B" (.int (0 : Int32))
theorem ef_8 (m : MethodId) (x0 : Addr) (x1 : Addr) (x2 : Int32) : entryFrame m #[(.ref x0), (.ref x1), (.int x2)] 3 = mkF m 0 #[.val (.ref x0), .val (.ref x1), .val (.int x2)] [] := by first | (simp [entryFrame, mkF, argsToLocals, Value.category]; done) | rfl
theorem pn_4 : plainName "java/lang/String" = true := by first | (simp [plainName, overriddenIn]; done) | decide +kernel
abbrev y_8 : MethodName := ⟨"java/lang/String", "<init>", "([BB)V"⟩
set_option maxRecDepth 65536 in
set_option maxHeartbeats 40000000 in
theorem strinit (l : Launch) (Z : State) (a0 : Array Value) (hw : ∀ d ∈ tables_1, d.before a0 Z = true) (ws : List Jvm.Cond) (a : Addr) (y1 : Addr) (h0 : Heap) (n0 : Nat) (O : Old Z n0 h0) (Ea : Exa Z h0 a "java/lang/String") (Fvalue : Fld Z h0 a "java/lang/String" "value" "[B" .null) (Fcoder : Fld Z h0 a "java/lang/String" "coder" "B" (.int (0 : Int32))) (ga : n0 ≤ a) :
    Ctr l Z y_8 jdk_42_method_151_code 3 none ws ({ frames := 1, cells := 0, slots := 0, locals := 12 } : Room) #[(.ref a), (.ref y1), (.int (0 : Int32))] h0 (Q_strinit Z a y1 h0 n0) := by
  refine MetFree.of_bodySF (plainFor_of_name pn_4) hisR ?_
  intro p e s m args below meth c s₁ Bd hml0 hP hK
  obtain ⟨rfl, hZ, hh⟩ := hP
  have W := fun (i : Nat) {d : Jvm.Cond} (h : tables_1[i]? = some d) => hw d (List.mem_of_getElem? h)
  have hx := Bd.exec
  have hby := Bd.bytes
  have hml : c.maxLocals = 3 := hml0
  have hown : s.vm.findClass "java/lang/String" = some m.cls := findClass_of_methodNamed Bd.named
  have hnm := (name_of_methodNamed Bd.named Bd.method).1
  have X0 : Stand p l e ({ frames := 1, cells := 0, slots := 0, locals := 12 } : Room) s m #[(.ref a), (.ref y1), (.int (0 : Int32))] below meth c s₁ [] 0 0 := Stand.of_body Bd
  have e0 : s₁.heap = h0 := by rw [← hh, Bd.state]; rfl
  have N0 := Fr.nil n0
  have pre0 : ∀ t, Steps p.tables e below (s₁.setTop (mkF m 0 #[.val (.ref a), .val (.ref y1), .val (.int (0 : Int32))] [])) t → Steps p.tables e below (s₁.setTop (entryFrame m #[(.ref a), (.ref y1), (.int (0 : Int32))] 3)) t := fun t kk_ => castTop (ef_8 m a y1 (0 : Int32)) kk_
  have K0 := Keep.refl h0 [a]
  obtain ⟨T1, X1, e1, st1⟩ := initO X0 hx hZ hown (W 53 rfl) (W 27 rfl) (W 28 rfl) e0 (g := (mkF m 1 #[rv a, rv y1, iv 0] [.ref a])) rfl (by rw [hml]; rfl) rfl (hb hby d9_1) (by decide) (W := 0) (by show 2 * 0 + _ ≤ _; exact Nat.le_of_eq rfl) (by decide)
  obtain ⟨T2, h2, X2, e2, W2, st2⟩ := putF X1 hx hZ hown (host := "") (Or.inl (W 54 rfl)) Via.refl e1 Fvalue Ea (Or.inr ⟨(W 55 rfl), rfl, hnm⟩) (W 44 rfl) (ty := (.array .byte)) (by decide) rfl rfl (g := (mkF m 6 #[rv a, rv y1, iv 0] [.ref y1, .ref a])) rfl rfl (hb hby d9_6)
  have Fz2 := Fvalue.same W2
  have Ea := Ea.wr W2
  have Fcoder := Fcoder.other W2 (Or.inr (slot_ne (Or.inr (W 57 rfl)) (Or.inr (W 55 rfl)) (by decide) (t := .byte) (t' := (.array .byte)) (by decide) (by decide)))
  have K4 := K0.wr W2 (Or.inl (List.mem_of_getElem? (i := 0) rfl))
  have N5 := Fr.snoc X2 N0 ga
  obtain ⟨T6, h6, X6, e6, W6, st6⟩ := putFN X2 hx hZ hown (W 56 rfl) Via.refl e2 Fcoder Ea (Or.inr ⟨(W 57 rfl), rfl, hnm⟩) (W 44 rfl) (ty := .byte) (v' := (.int (0 : Int32))) (by decide) rfl (by decide) (g := (mkF m 11 #[rv a, rv y1, iv 0] [.int 0, .ref a])) rfl rfl (hb hby d9_11)
  have Fz6 := Fcoder.same W6
  have Fz2 := Fz2.other W6 (Or.inr (slot_ne (Or.inr (W 55 rfl)) (Or.inr (W 57 rfl)) (by decide) (t := (.array .byte)) (t' := .byte) (by decide) (by decide)))
  have K8 := K4.wr W6 (Or.inl (List.mem_of_getElem? (i := 0) rfl))
  have N9 := Fr.snoc X6 N5 ga
  obtain ⟨fs, hr, hrun, hended, hW, hsame⟩ := X6.leave (v := none) (fun _ => rfl)
  refine ⟨_, _, pre0 _ ?_, hrun, hended, _, _, rfl, ?_, ⟨_, rfl⟩, hW, hsame.mono (by decide) (by decide)⟩
  · show Sq p e below m s₁ 0 #[rv a, rv y1, iv 0] [] _
    refine XS.aloadN X0.here hx rfl (hb hby d9_0) rfl rfl ?_
    show Sq p e below m s₁ 1 #[rv a, rv y1, iv 0] [.ref a] _
    refine st1 _ ?_
    show Sq p e below m T1 4 #[rv a, rv y1, iv 0] [] _
    refine XS.aloadN X1.here hx rfl (hb hby d9_4) rfl rfl ?_
    refine XS.aloadN X1.here hx rfl (hb hby d9_5) rfl rfl ?_
    show Sq p e below m T1 6 #[rv a, rv y1, iv 0] [.ref y1, .ref a] _
    refine st2 _ ?_
    show Sq p e below m T2 9 #[rv a, rv y1, iv 0] [] _
    refine XS.aloadN X2.here hx rfl (hb hby d9_9) rfl rfl ?_
    refine XS.iloadN X2.here hx rfl (hb hby d9_10) rfl ?_
    show Sq p e below m T2 11 #[rv a, rv y1, iv 0] [.int 0, .ref a] _
    refine st6 _ ?_
    show Sq p e below m T6 14 #[rv a, rv y1, iv 0] [] _
    exact X6.returnOut hx Bd.returns (hb hby d9_14) hr
  · show Q_strinit Z a y1 h0 n0 _ T6.heap _
    rw [e6]
    exact ⟨rfl, N9, K8, Fz2, Fz6⟩
theorem d6_0 : decode jdk_42_method_139_code 0 = .ok (.getstatic 38, 3) := by decide +kernel
theorem d6_3 : decode jdk_42_method_139_code 3 = .ok (.ifCond .eq 23, 3) := by decide +kernel
theorem d6_6 : decode jdk_42_method_139_code 6 = .ok (.iload_n 0, 1) := by decide +kernel
theorem d6_7 : decode jdk_42_method_139_code 7 = .ok (.invokestatic 1015, 3) := by decide +kernel
theorem pd_3 : parseMethodDescriptor "(C)Z" = some ⟨[.char], some .boolean⟩ := by decide +kernel
theorem d6_10 : decode jdk_42_method_139_code 10 = .ok (.ifCond .eq 16, 3) := by decide +kernel
theorem d6_13 : decode jdk_42_method_139_code 13 = .ok (.new 10, 3) := by decide +kernel
theorem d6_16 : decode jdk_42_method_139_code 16 = .ok (.dup, 1) := by decide +kernel
theorem d6_17 : decode jdk_42_method_139_code 17 = .ok (.iload_n 0, 1) := by decide +kernel
theorem d6_18 : decode jdk_42_method_139_code 18 = .ok (.invokestatic 1018, 3) := by decide +kernel
theorem pd_4 : parseMethodDescriptor "(C)[B" = some ⟨[.char], some (.array .byte)⟩ := by decide +kernel
theorem d6_21 : decode jdk_42_method_139_code 21 = .ok (.iconst 0, 1) := by decide +kernel
theorem d6_22 : decode jdk_42_method_139_code 22 = .ok (.invokespecial 209, 3) := by decide +kernel
theorem pd_5 : parseMethodDescriptor "([BB)V" = some ⟨[(.array .byte), .byte], none⟩ := by decide +kernel
theorem d6_25 : decode jdk_42_method_139_code 25 = .ok (.areturn, 1) := by decide +kernel
def Q_valof (Z : State) (x1 : Int32) (cs : Int32) (h0 : Heap) (n0 : Nat) (v : Option Value) (h : Heap) (L : List Loc) : Prop := ∃ b : Addr, v = some (.ref b) ∧ Fr n0 L ∧ Keep h0 h [] ∧ h0.size ≤ b ∧ Exa Z h b "java/lang/String"
theorem ef_9 (m : MethodId) (x0 : Int32) : entryFrame m #[(.int x0)] 1 = mkF m 0 #[.val (.int x0)] [] := by first | (simp [entryFrame, mkF, argsToLocals, Value.category]; done) | rfl
abbrev y_9 : MethodName := ⟨"java/lang/String", "valueOf", "(C)Ljava/lang/String;"⟩
set_option maxRecDepth 65536 in
set_option maxHeartbeats 40000000 in
theorem valof (l : Launch) (Z : State) (a0 : Array Value) (hw : ∀ d ∈ tables_1, d.before a0 Z = true) (ws : List Jvm.Cond) (x1 : Int32) (cs : Int32) (h0 : Heap) (n0 : Nat) (O : Old Z n0 h0) (Scs : Sta Z Z.heap "java/lang/String" "COMPACT_STRINGS" "Z" (.int cs)) (hcs : ¬ (cs = (0 : Int32))) (hx1 : ¬ ((255 : Int32) < x1)) :
    Ctr l Z y_9 jdk_42_method_139_code 1 (some (.object "java/lang/String")) ws ({ frames := 2, cells := 2, slots := 5, locals := 27 } : Room) #[(.int x1)] h0 (Q_valof Z x1 cs h0 n0) := by
  refine MetFree.of_bodySF (plainFor_of_name pn_4) hisR ?_
  intro p e s m args below meth c s₁ Bd hml0 hP hK
  obtain ⟨rfl, hZ, hh⟩ := hP
  have W := fun (i : Nat) {d : Jvm.Cond} (h : tables_1[i]? = some d) => hw d (List.mem_of_getElem? h)
  have hx := Bd.exec
  have hby := Bd.bytes
  have hml : c.maxLocals = 1 := hml0
  have hown : s.vm.findClass "java/lang/String" = some m.cls := findClass_of_methodNamed Bd.named
  have hnm := (name_of_methodNamed Bd.named Bd.method).1
  have X0 : Stand p l e ({ frames := 2, cells := 2, slots := 5, locals := 27 } : Room) s m #[(.int x1)] below meth c s₁ [] 0 0 := Stand.of_body Bd
  have e0 : s₁.heap = h0 := by rw [← hh, Bd.state]; rfl
  have N0 := Fr.nil n0
  have pre0 : ∀ t, Steps p.tables e below (s₁.setTop (mkF m 0 #[.val (.int x1)] [])) t → Steps p.tables e below (s₁.setTop (entryFrame m #[(.int x1)] 1)) t := fun t kk_ => castTop (ef_9 m x1) kk_
  have K0 := Keep.refl h0 []
  obtain ⟨T1, X1, e1, st1⟩ := getS2 X0 hx hZ hown (host := "") (Or.inl (W 38 rfl)) Via.refl e0 (Scs.ext O.2) (g := (mkF m 0 #[iv x1] [])) rfl (hb hby d6_0)
  obtain ⟨_, _, ⟨T2, L2, k2, n2⟩, -, X2, ⟨Lc2, hQ2, l2, y2, z2⟩, st2⟩ := Jvm.LawKit.callS X1 hx (y := y_6) hown (mvT hZ (W 39 rfl)) (mvT hZ (W 40 rfl)) (mvT hZ (W 41 rfl)) (mvT hZ (W 42 rfl)) (by decide) (backOf (W := 0) (canenc l Z a0 hw [] x1 h0 n0 O hx1) hZ (W 42 rfl) (W 41 rfl) (by decide) (by decide)) (g := (mkF m 7 #[iv x1] [.int x1])) rfl (by rw [hml]; rfl) (argsL := [.int x1]) (rest := []) (lenOf pd_3 rfl) rfl (by show 2 * 0 + _ ≤ _; exact Nat.le_of_eq rfl) (hb hby d6_7) (fun _ _ => ⟨rfl, e1, (by decide : 0 + 0 ≤ _), (by decide : 0 + 0 ≤ _)⟩)
  dsimp only [Pt.U, Pt.locs, Pt.cells, Pt.slots] at X2 l2 y2 z2 st2 hQ2
  subst l2 y2 z2
  obtain ⟨h2, e2⟩ : ∃ z, T2.heap = z := ⟨_, rfl⟩
  rw [e2] at hQ2
  obtain ⟨rfl, N2q, p2_0⟩ := hQ2
  have N2 := Fr.app N0 N2q
  rw [p2_0] at e2
  obtain ⟨T3, h3, X3, e3, E3, A3, D3, -, st3⟩ := newO X2 hx hZ hown (W 43 rfl) (W 44 rfl) (W 36 rfl) e2 (g := (mkF m 13 #[iv x1] [])) rfl (hb hby d6_13) (by decide) (by decide)
  obtain ⟨b3, g3⟩ : ∃ z, z = h0.size := ⟨_, rfl⟩
  rw [← g3] at A3 D3 st3
  have g_b3 : n0 ≤ b3 := Nat.le_trans (own_sz O) (Nat.le_of_eq g3.symm)
  have sz_b3 : h0.size ≤ b3 := Nat.le_trans K0.1 (Nat.le_of_eq g3.symm)
  have O4 := O.ext E3
  have K5 := K0.ext E3
  have Fz6 : Fld Z h3 b3 "java/lang/String" "value" "[B" .null := D3 (Or.inr (W 55 rfl)) (ty := (.array .byte)) (by decide)
  have Fz7 : Fld Z h3 b3 "java/lang/String" "coder" "B" (.int (0 : Int32)) := D3 (Or.inr (W 57 rfl)) (ty := .byte) (by decide)
  obtain ⟨_, _, ⟨T8, L8, k8, n8⟩, -, X8, ⟨Lc8, hQ8, l8, y8, z8⟩, st8⟩ := Jvm.LawKit.callS X3 hx (y := y_7) hown (mvT hZ (W 45 rfl)) (mvT hZ (W 46 rfl)) (mvT hZ (W 41 rfl)) (mvT hZ (W 47 rfl)) (by decide) (backOf (W := 2) (tobyt l Z a0 hw [] x1 h3 n0 O4 ) hZ (W 47 rfl) (W 41 rfl) (by decide) (by decide)) (g := (mkF m 18 #[iv x1] [.int x1, .ref b3, .ref b3])) rfl (by rw [hml]; rfl) (argsL := [.int x1]) (rest := [.ref b3, .ref b3]) (lenOf pd_4 rfl) rfl (by show 2 * 0 + _ ≤ _; exact Nat.le_of_eq rfl) (hb hby d6_18) (fun _ _ => ⟨rfl, e3, (by decide : 1 + 1 ≤ _), (by decide : 4 + 1 ≤ _)⟩)
  dsimp only [Pt.U, Pt.locs, Pt.cells, Pt.slots] at X8 l8 y8 z8 st8 hQ8
  subst l8 y8 z8
  obtain ⟨h8, e8⟩ : ∃ z, T8.heap = z := ⟨_, rfl⟩
  rw [e8] at hQ8
  obtain ⟨b8b, b8kb, rfl, N8q, p8_0, p8_1, p8_2, p8_3⟩ := hQ8
  have N8 := Fr.app N2 N8q
  have A3 := A3.keep p8_0
  have Fz6 := Fz6.keep p8_0 nin0
  have Fz7 := Fz7.keep p8_0 nin0
  have O9 := O4.keep p8_0 all0
  have K10 := K5.trans p8_0 all0
  obtain ⟨_, _, ⟨T11, L11, k11, n11⟩, -, X11, ⟨Lc11, hQ11, l11, y11, z11⟩, st11⟩ := X8.specialBack hx (y := y_8) rfl hown (mvT hZ (W 49 rfl)) (mvT hZ (W 50 rfl)) (mvT hZ (W 52 rfl)) (by decide) (backOf (W := 1) (strinit l Z a0 hw [] b3 b8b h8 n0 O9 A3 Fz6 Fz7 g_b3) hZ (W 52 rfl) (W 36 rfl) (by decide) (by decide)) (g := (mkF m 22 #[iv x1] [.int 0, .ref b8b, .ref b3, .ref b3])) rfl (by rw [hml]; rfl) (Steps.refl _) (a := b3) (argsL := [.ref b8b, .int 0]) (rest := [.ref b3]) (lenOf pd_5 rfl) rfl (by show 2 * 0 + _ ≤ _; exact Nat.le_of_eq rfl) (hb hby d6_22) (fun _ _ => ⟨rfl, e8, (by decide : 2 + 0 ≤ _), (by decide : 5 + 0 ≤ _)⟩)
  dsimp only [Pt.U, Pt.locs, Pt.cells, Pt.slots] at X11 l11 y11 z11 st11 hQ11
  subst l11 y11 z11
  obtain ⟨h11, e11⟩ : ∃ z, T11.heap = z := ⟨_, rfl⟩
  rw [e11] at hQ11
  obtain ⟨rfl, N11q, p11_0, p11_1, p11_2⟩ := hQ11
  have N11 := Fr.app N8 N11q
  have A3 := A3.keep p11_0
  have K13 := K10.trans p11_0 (allS (Or.inr sz_b3) all0)
  obtain ⟨fs, hr, hrun, hended, hW, hsame⟩ := X11.leave (v := some (.ref b3)) (fun h => by rw [Bd.returns] at h; cases h)
  refine ⟨_, _, pre0 _ ?_, hrun, hended, _, _, rfl, ?_, ⟨_, rfl⟩, hW, hsame.mono (by decide) (by decide)⟩
  · show Sq p e below m s₁ 0 #[iv x1] [] _
    refine st1 _ ?_
    show Sq p e below m T1 3 #[iv x1] [.int cs] _
    refine XS.ifNo X1.here hx rfl (hb hby d6_3) rfl ((if0 _ _).trans (feq (hcs : ¬ (cs = (0 : Int32)))).1) ?_
    refine XS.iloadN X1.here hx rfl (hb hby d6_6) rfl ?_
    show Sq p e below m T1 7 #[iv x1] [.int x1] _
    refine st2 _ ?_
    show Sq p e below m T2 10 #[iv x1] [.int 1] _
    refine XS.ifNo X2.here hx rfl (hb hby d6_10) rfl ((if0 _ _).trans (feq (by decide)).1) ?_
    show Sq p e below m T2 13 #[iv x1] [] _
    refine st3 _ ?_
    show Sq p e below m T3 16 #[iv x1] [.ref b3] _
    refine XS.dup X3.here hx rfl (hb hby d6_16) rfl rfl ?_
    refine XS.iloadN X3.here hx rfl (hb hby d6_17) rfl ?_
    show Sq p e below m T3 18 #[iv x1] [.int x1, .ref b3, .ref b3] _
    refine st8 _ ?_
    show Sq p e below m T8 21 #[iv x1] [.ref b8b, .ref b3, .ref b3] _
    refine XS.iconst X8.here hx rfl (hb hby d6_21) ?_
    show Sq p e below m T8 22 #[iv x1] [.int 0, .ref b8b, .ref b3, .ref b3] _
    refine st11.trans ?_
    show Sq p e below m T11 25 #[iv x1] [.ref b3] _
    jvm_step X11.here [X11.here.top, hx, (hb hby d6_25), X11.method', Bd.returns, Value.isRef, FieldType.isReference]
    first | (intro acts; rw [hr _ acts rfl rfl rfl]) | rw [hr _ _ rfl rfl rfl]
    exact Steps.refl _
  · show Q_valof Z x1 cs h0 n0 _ T11.heap _
    rw [e11]
    exact ⟨b3, rfl, N11, K13, sz_b3, A3⟩
theorem d11_0 : decode jdk_38_method_24_code 0 = .ok (.iload_n 3, 1) := by decide +kernel
theorem d11_1 : decode jdk_38_method_24_code 1 = .ok (.aload_n 2, 1) := by decide +kernel
theorem d11_2 : decode jdk_38_method_24_code 2 = .ok (.arraylength, 1) := by decide +kernel
theorem d11_3 : decode jdk_38_method_24_code 3 = .ok (.if_icmp .ne 8, 3) := by decide +kernel
theorem d11_6 : decode jdk_38_method_24_code 6 = .ok (.aload_n 0, 1) := by decide +kernel
theorem d11_7 : decode jdk_38_method_24_code 7 = .ok (.invokevirtual 129, 3) := by decide +kernel
theorem pd_6 : parseMethodDescriptor "()[Ljava/lang/Object;" = some ⟨[], some (.array (.object "java/lang/Object"))⟩ := by decide +kernel
theorem d11_10 : decode jdk_38_method_24_code 10 = .ok (.astore_n 2, 1) := by decide +kernel
theorem d11_11 : decode jdk_38_method_24_code 11 = .ok (.aload_n 2, 1) := by decide +kernel
theorem d11_12 : decode jdk_38_method_24_code 12 = .ok (.iload_n 3, 1) := by decide +kernel
theorem d11_13 : decode jdk_38_method_24_code 13 = .ok (.aload_n 1, 1) := by decide +kernel
theorem d11_14 : decode jdk_38_method_24_code 14 = .ok (.aastore, 1) := by decide +kernel
theorem d11_15 : decode jdk_38_method_24_code 15 = .ok (.aload_n 0, 1) := by decide +kernel
theorem d11_16 : decode jdk_38_method_24_code 16 = .ok (.iload_n 3, 1) := by decide +kernel
theorem d11_17 : decode jdk_38_method_24_code 17 = .ok (.iconst 1, 1) := by decide +kernel
theorem d11_18 : decode jdk_38_method_24_code 18 = .ok (.iadd, 1) := by decide +kernel
theorem d11_19 : decode jdk_38_method_24_code 19 = .ok (.putfield 48, 3) := by decide +kernel
theorem d11_22 : decode jdk_38_method_24_code 22 = .ok (.return_, 1) := by decide +kernel
def Q_addh0S (Z : State) (a : Addr) (x1 : Addr) (mc : Value) (w_DEF : Addr) (kdef : ClassId) (h0 : Heap) (n0 : Nat) (v : Option Value) (h : Heap) (L : List Loc) : Prop := ∃ b : Addr, ∃ kb : ClassId, v = none ∧ Fr n0 L ∧ Keep h0 h [a] ∧ h0.size ≤ b ∧ Fld Z h a "java/util/ArrayList" "elementData" "[Ljava/lang/Object;" (.ref b) ∧ Fld Z h a "java/util/ArrayList" "size" "I" (.int (1 : Int32)) ∧ Fld Z h a "java/util/AbstractList" "modCount" "I" mc ∧ Arv Z h b kb (.object "java/lang/Object") (10 : Int32) [(.ref x1), .null, .null, .null, .null, .null, .null, .null, .null, .null] .null ∧ Ovr Z kb "java/lang/Object" ∧ Exa Z h b "[Ljava/lang/Object;"
theorem ef_10 (m : MethodId) (x0 : Addr) (x1 : Addr) (x2 : Addr) (x3 : Int32) : entryFrame m #[(.ref x0), (.ref x1), (.ref x2), (.int x3)] 4 = mkF m 0 #[.val (.ref x0), .val (.ref x1), .val (.ref x2), .val (.int x3)] [] := by first | (simp [entryFrame, mkF, argsToLocals, Value.category]; done) | rfl
abbrev y_10 : MethodName := ⟨"java/util/ArrayList", "add", "(Ljava/lang/Object;[Ljava/lang/Object;I)V"⟩
set_option maxRecDepth 65536 in
set_option maxHeartbeats 40000000 in
theorem addh0S (l : Launch) (Z : State) (a0 : Array Value) (hw : ∀ d ∈ tables_1, d.before a0 Z = true) (ws : List Jvm.Cond) (a : Addr) (x1 : Addr) (mc : Value) (w_DEF : Addr) (kdef : ClassId) (h0 : Heap) (n0 : Nat) (O : Old Z n0 h0) (Ea : Exa Z h0 a "java/util/ArrayList") (Ex : Exa Z h0 x1 "java/lang/String") (FelementData : Fld Z h0 a "java/util/ArrayList" "elementData" "[Ljava/lang/Object;" (.ref w_DEF)) (Fsize : Fld Z h0 a "java/util/ArrayList" "size" "I" (.int (0 : Int32))) (FmodCount : Fld Z h0 a "java/util/AbstractList" "modCount" "I" mc) (ga : n0 ≤ a) (S_w_DEF : Sta Z Z.heap "java/util/ArrayList" "DEFAULTCAPACITY_EMPTY_ELEMENTDATA" "[Ljava/lang/Object;" (.ref w_DEF)) (V_w_DEF : Arv Z Z.heap w_DEF kdef (.object "java/lang/Object") (0 : Int32) [] .null) :
    Ctr l Z y_10 jdk_38_method_24_code 4 none ws ({ frames := 3, cells := 1, slots := 10, locals := 41 } : Room) #[(.ref a), (.ref x1), (.ref w_DEF), (.int (0 : Int32))] h0 (Q_addh0S Z a x1 mc w_DEF kdef h0 n0) := by
  refine MetFree.of_bodySF (plainFor_of_name pn_2) hisR ?_
  intro p e s m args below meth c s₁ Bd hml0 hP hK
  obtain ⟨rfl, hZ, hh⟩ := hP
  have W := fun (i : Nat) {d : Jvm.Cond} (h : tables_1[i]? = some d) => hw d (List.mem_of_getElem? h)
  have hx := Bd.exec
  have hby := Bd.bytes
  have hml : c.maxLocals = 4 := hml0
  have hown : s.vm.findClass "java/util/ArrayList" = some m.cls := findClass_of_methodNamed Bd.named
  have hnm := (name_of_methodNamed Bd.named Bd.method).1
  have X0 : Stand p l e ({ frames := 3, cells := 1, slots := 10, locals := 41 } : Room) s m #[(.ref a), (.ref x1), (.ref w_DEF), (.int (0 : Int32))] below meth c s₁ [] 0 0 := Stand.of_body Bd
  have e0 : s₁.heap = h0 := by rw [← hh, Bd.state]; rfl
  have N0 := Fr.nil n0
  have pre0 : ∀ t, Steps p.tables e below (s₁.setTop (mkF m 0 #[.val (.ref a), .val (.ref x1), .val (.ref w_DEF), .val (.int (0 : Int32))] [])) t → Steps p.tables e below (s₁.setTop (entryFrame m #[(.ref a), (.ref x1), (.ref w_DEF), (.int (0 : Int32))] 4)) t := fun t kk_ => castTop (ef_10 m a x1 w_DEF (0 : Int32)) kk_
  have K0 := Keep.refl h0 [a]
  obtain ⟨cl1, Ar1, -, S1, Ng1, -, -⟩ := id (V_w_DEF.ext O.2)
  have st1 := X0.arraylength hx (by rw [e0]; exact Ar1.1) (State.isArrayOf_alike hZ.alike Ar1.2.1) (g := (mkF m 2 #[rv a, rv x1, rv w_DEF, iv 0] [.ref w_DEF, .int 0])) rfl rfl (hb hby d11_2)
  rw [len_of S1 Ng1] at st1
  obtain ⟨cq2, q2, q2'⟩ := Ea.cell
  obtain ⟨_, _, ⟨T2, L2, k2, n2⟩, -, X2, ⟨Lc2, hQ2, l2, y2, z2⟩, st2⟩ := X0.privateBack hx (y := y_5) hown (mvT hZ (W 76 rfl)) (mvT hZ (W 77 rfl)) (mvT hZ (W 79 rfl)) (Cond.privateMethod_at (mvP hZ (W 78 rfl) (args := #[]))) (mvT hZ (W 80 rfl)) (by decide) (backOf (W := 0) (grow0 l Z a0 hw [] a mc w_DEF kdef h0 n0 O Ea FelementData Fsize FmodCount ga S_w_DEF V_w_DEF) hZ (W 80 rfl) (W 10 rfl) (by decide) (by decide)) (g := (mkF m 7 #[rv a, rv x1, rv w_DEF, iv 0] [.ref a])) rfl (by rw [hml]; rfl) (Steps.refl _) (a := a) (by rw [e0]; exact q2) q2' (argsL := []) (rest := []) (lenOf pd_6 rfl) rfl (by show 2 * 0 + _ ≤ _; exact Nat.le_of_eq rfl) (hb hby d11_7) (fun _ _ => ⟨rfl, e0, (by decide : 0 + 1 ≤ _), (by decide : 0 + 10 ≤ _)⟩)
  dsimp only [Pt.U, Pt.locs, Pt.cells, Pt.slots] at X2 l2 y2 z2 st2 hQ2
  subst l2 y2 z2
  obtain ⟨h2, e2⟩ : ∃ z, T2.heap = z := ⟨_, rfl⟩
  rw [e2] at hQ2
  obtain ⟨b2b, b2kb, rfl, N2q, p2_0, p2_1, p2_2, p2_3, p2_4, p2_5, p2_6, p2_7⟩ := hQ2
  have N2 := Fr.app N0 N2q
  have g_b2b : n0 ≤ b2b := Nat.le_trans (own_sz O) p2_1
  have sz_b2b : h0.size ≤ b2b := Nat.le_trans K0.1 p2_1
  have ne_a_b2b : a ≠ b2b := Nat.ne_of_lt (Nat.lt_of_lt_of_le Ea.lt p2_1)
  have Ea := Ea.keep p2_0
  have Ex := Ex.keep p2_0
  have K4 := K0.trans p2_0 (allS (Or.inl (List.mem_of_getElem? (i := 0) rfl)) all0)
  obtain ⟨cl5, Ar5, q5, S5, Ng5, Hh5, Gg5⟩ := id p2_5
  obtain ⟨T5, h5, X5, e5, W5, st5⟩ := stR X2 hx hZ e2 Ar5 (j := (0 : Int32)) (inb_of S5 (by decide)) rfl (Sto.ofV Ar5 q5 p2_6 (Ins.of_exa Ex (W 92 rfl))) (g := (mkF m 14 #[rv a, rv x1, rv b2b, iv 0] [.ref x1, .int 0, .ref b2b])) rfl rfl (hb hby d11_14)
  have V5 : Arv Z h5 b2b b2kb (.object "java/lang/Object") (10 : Int32) [(.ref x1), .null, .null, .null, .null, .null, .null, .null, .null, .null] .null := Arv.set Ar5 q5 S5 Ng5 Hh5 Gg5 rfl W5 0 rfl (Nat.le_of_ble_eq_true rfl)
  have Ea := Ea.wr W5
  have p2_2 := p2_2.other W5 (Or.inl ne_a_b2b)
  have p2_3 := p2_3.other W5 (Or.inl ne_a_b2b)
  have p2_4 := p2_4.other W5 (Or.inl ne_a_b2b)
  have p2_7 := p2_7.wr W5
  have K7 := K4.wr W5 (Or.inr sz_b2b)
  have N8 := Fr.snoc X5 N2 g_b2b
  obtain ⟨T9, h9, X9, e9, W9, st9⟩ := putF X5 hx hZ hown (host := "") (Or.inl (W 69 rfl)) Via.refl e5 p2_3 Ea (Or.inl (W 70 rfl)) (W 9 rfl) (ty := .int) (by decide) rfl rfl (g := (mkF m 19 #[rv a, rv x1, rv b2b, iv 0] [.int 1, .ref a])) rfl rfl (hb hby d11_19)
  have Fz9 := p2_3.same W9
  have p2_2 := p2_2.other W9 (Or.inr (slot_ne (Or.inl (W 33 rfl)) (Or.inl (W 70 rfl)) (by decide) (t := (.array (.object "java/lang/Object"))) (t' := .int) (by decide) (by decide)))
  have p2_4 := p2_4.other W9 (Or.inr (slot_ne (Or.inl (W 30 rfl)) (Or.inl (W 70 rfl)) (by decide) (t := .int) (t' := .int) (by decide) (by decide)))
  have p2_7 := p2_7.wr W9
  have V5 := V5.other W9 (Ne.symm ne_a_b2b)
  have K11 := K7.wr W9 (Or.inl (List.mem_of_getElem? (i := 0) rfl))
  have N12 := Fr.snoc X9 N8 ga
  obtain ⟨fs, hr, hrun, hended, hW, hsame⟩ := X9.leave (v := none) (fun _ => rfl)
  refine ⟨_, _, pre0 _ ?_, hrun, hended, _, _, rfl, ?_, ⟨_, rfl⟩, hW, hsame.mono (by decide) (by decide)⟩
  · show Sq p e below m s₁ 0 #[rv a, rv x1, rv w_DEF, iv 0] [] _
    refine XS.iloadN X0.here hx rfl (hb hby d11_0) rfl ?_
    refine XS.aloadN X0.here hx rfl (hb hby d11_1) rfl rfl ?_
    show Sq p e below m s₁ 2 #[rv a, rv x1, rv w_DEF, iv 0] [.ref w_DEF, .int 0] _
    refine st1 _ ?_
    show Sq p e below m s₁ 3 #[rv a, rv x1, rv w_DEF, iv 0] [.int 0, .int 0] _
    refine XS.icmpNo X0.here hx rfl (hb hby d11_3) rfl (teq (rfl : (0 : Int32) = (0 : Int32))).2 ?_
    refine XS.aloadN X0.here hx rfl (hb hby d11_6) rfl rfl ?_
    show Sq p e below m s₁ 7 #[rv a, rv x1, rv w_DEF, iv 0] [.ref a] _
    refine st2.trans ?_
    show Sq p e below m T2 10 #[rv a, rv x1, rv w_DEF, iv 0] [.ref b2b] _
    refine XS.astoreN X2.here hx rfl (hb hby d11_10) rfl rfl rfl ?_
    refine XS.aloadN X2.here hx rfl (hb hby d11_11) rfl rfl ?_
    show Sq p e below m T2 12 #[rv a, rv x1, rv b2b, iv 0] [.ref b2b] _
    refine XS.iloadN X2.here hx rfl (hb hby d11_12) rfl ?_
    refine XS.aloadN X2.here hx rfl (hb hby d11_13) rfl rfl ?_
    show Sq p e below m T2 14 #[rv a, rv x1, rv b2b, iv 0] [.ref x1, .int 0, .ref b2b] _
    refine st5 _ ?_
    show Sq p e below m T5 15 #[rv a, rv x1, rv b2b, iv 0] [] _
    refine XS.aloadN X5.here hx rfl (hb hby d11_15) rfl rfl ?_
    refine XS.iloadN X5.here hx rfl (hb hby d11_16) rfl ?_
    show Sq p e below m T5 17 #[rv a, rv x1, rv b2b, iv 0] [.int 0, .ref a] _
    refine XS.iconst X5.here hx rfl (hb hby d11_17) ?_
    refine XS.iadd X5.here hx rfl (hb hby d11_18) rfl ?_
    show Sq p e below m T5 19 #[rv a, rv x1, rv b2b, iv 0] [.int ((0 : Int32) + (1 : Int32)), .ref a] _
    rw [show ((0 : Int32) + (1 : Int32)) = (1 : Int32) from by decide]
    show Sq p e below m T5 19 #[rv a, rv x1, rv b2b, iv 0] [.int 1, .ref a] _
    refine st9 _ ?_
    show Sq p e below m T9 22 #[rv a, rv x1, rv b2b, iv 0] [] _
    exact X9.returnOut hx Bd.returns (hb hby d11_22) hr
  · show Q_addh0S Z a x1 mc w_DEF kdef h0 n0 _ T9.heap _
    rw [e9]
    exact ⟨b2b, b2kb, rfl, N12, K11, sz_b2b, p2_2, Fz9, p2_4, V5, p2_6, p2_7⟩
theorem d10_0 : decode jdk_38_method_25_code 0 = .ok (.aload_n 0, 1) := by decide +kernel
theorem d10_1 : decode jdk_38_method_25_code 1 = .ok (.dup, 1) := by decide +kernel
theorem d10_2 : decode jdk_38_method_25_code 2 = .ok (.getfield 63, 3) := by decide +kernel
theorem d10_5 : decode jdk_38_method_25_code 5 = .ok (.iconst 1, 1) := by decide +kernel
theorem d10_6 : decode jdk_38_method_25_code 6 = .ok (.iadd, 1) := by decide +kernel
theorem d10_7 : decode jdk_38_method_25_code 7 = .ok (.putfield 63, 3) := by decide +kernel
theorem d10_10 : decode jdk_38_method_25_code 10 = .ok (.aload_n 0, 1) := by decide +kernel
theorem d10_11 : decode jdk_38_method_25_code 11 = .ok (.aload_n 1, 1) := by decide +kernel
theorem d10_12 : decode jdk_38_method_25_code 12 = .ok (.aload_n 0, 1) := by decide +kernel
theorem d10_13 : decode jdk_38_method_25_code 13 = .ok (.getfield 9, 3) := by decide +kernel
theorem d10_16 : decode jdk_38_method_25_code 16 = .ok (.aload_n 0, 1) := by decide +kernel
theorem d10_17 : decode jdk_38_method_25_code 17 = .ok (.getfield 48, 3) := by decide +kernel
theorem d10_20 : decode jdk_38_method_25_code 20 = .ok (.invokevirtual 131, 3) := by decide +kernel
theorem pd_7 : parseMethodDescriptor "(Ljava/lang/Object;[Ljava/lang/Object;I)V" = some ⟨[(.object "java/lang/Object"), (.array (.object "java/lang/Object")), .int], none⟩ := by decide +kernel
theorem d10_23 : decode jdk_38_method_25_code 23 = .ok (.iconst 1, 1) := by decide +kernel
theorem d10_24 : decode jdk_38_method_25_code 24 = .ok (.ireturn, 1) := by decide +kernel
def Q_add0S (Z : State) (a : Addr) (x1 : Addr) (mc : Int32) (w_DEF : Addr) (kdef : ClassId) (h0 : Heap) (n0 : Nat) (v : Option Value) (h : Heap) (L : List Loc) : Prop := ∃ b : Addr, ∃ kb : ClassId, v = some (.int (1 : Int32)) ∧ Fr n0 L ∧ Keep h0 h [a] ∧ h0.size ≤ b ∧ Fld Z h a "java/util/ArrayList" "elementData" "[Ljava/lang/Object;" (.ref b) ∧ Fld Z h a "java/util/ArrayList" "size" "I" (.int (1 : Int32)) ∧ Fld Z h a "java/util/AbstractList" "modCount" "I" (.int (mc + (1 : Int32))) ∧ Arv Z h b kb (.object "java/lang/Object") (10 : Int32) [(.ref x1), .null, .null, .null, .null, .null, .null, .null, .null, .null] .null ∧ Ovr Z kb "java/lang/Object" ∧ Exa Z h b "[Ljava/lang/Object;"
theorem ef_11 (m : MethodId) (x0 : Addr) (x1 : Addr) : entryFrame m #[(.ref x0), (.ref x1)] 2 = mkF m 0 #[.val (.ref x0), .val (.ref x1)] [] := by first | (simp [entryFrame, mkF, argsToLocals, Value.category]; done) | rfl
abbrev y_11 : MethodName := ⟨"java/util/ArrayList", "add", "(Ljava/lang/Object;)Z"⟩
set_option maxRecDepth 65536 in
set_option maxHeartbeats 40000000 in
theorem add0S (l : Launch) (Z : State) (a0 : Array Value) (hw : ∀ d ∈ tables_1, d.before a0 Z = true) (ws : List Jvm.Cond) (a : Addr) (x1 : Addr) (mc : Int32) (w_DEF : Addr) (kdef : ClassId) (h0 : Heap) (n0 : Nat) (O : Old Z n0 h0) (Ea : Exa Z h0 a "java/util/ArrayList") (Ex : Exa Z h0 x1 "java/lang/String") (FelementData : Fld Z h0 a "java/util/ArrayList" "elementData" "[Ljava/lang/Object;" (.ref w_DEF)) (Fsize : Fld Z h0 a "java/util/ArrayList" "size" "I" (.int (0 : Int32))) (FmodCount : Fld Z h0 a "java/util/AbstractList" "modCount" "I" (.int mc)) (ga : n0 ≤ a) (S_w_DEF : Sta Z Z.heap "java/util/ArrayList" "DEFAULTCAPACITY_EMPTY_ELEMENTDATA" "[Ljava/lang/Object;" (.ref w_DEF)) (V_w_DEF : Arv Z Z.heap w_DEF kdef (.object "java/lang/Object") (0 : Int32) [] .null) :
    Ctr l Z y_11 jdk_38_method_25_code 2 (some .boolean) ws ({ frames := 4, cells := 1, slots := 10, locals := 56 } : Room) #[(.ref a), (.ref x1)] h0 (Q_add0S Z a x1 mc w_DEF kdef h0 n0) := by
  refine MetFree.of_bodySF (plainFor_of_name pn_2) hisR ?_
  intro p e s m args below meth c s₁ Bd hml0 hP hK
  obtain ⟨rfl, hZ, hh⟩ := hP
  have W := fun (i : Nat) {d : Jvm.Cond} (h : tables_1[i]? = some d) => hw d (List.mem_of_getElem? h)
  have hx := Bd.exec
  have hby := Bd.bytes
  have hml : c.maxLocals = 2 := hml0
  have hown : s.vm.findClass "java/util/ArrayList" = some m.cls := findClass_of_methodNamed Bd.named
  have hnm := (name_of_methodNamed Bd.named Bd.method).1
  have X0 : Stand p l e ({ frames := 4, cells := 1, slots := 10, locals := 56 } : Room) s m #[(.ref a), (.ref x1)] below meth c s₁ [] 0 0 := Stand.of_body Bd
  have e0 : s₁.heap = h0 := by rw [← hh, Bd.state]; rfl
  have N0 := Fr.nil n0
  have pre0 : ∀ t, Steps p.tables e below (s₁.setTop (mkF m 0 #[.val (.ref a), .val (.ref x1)] [])) t → Steps p.tables e below (s₁.setTop (entryFrame m #[(.ref a), (.ref x1)] 2)) t := fun t kk_ => castTop (ef_11 m a x1) kk_
  have K0 := Keep.refl h0 [a]
  obtain ⟨T1, X1, e1, st1⟩ := getF X0 hx hZ hown (host := "") (Or.inl (W 67 rfl)) (Via.of (W 68 rfl)) e0 FmodCount (g := (mkF m 2 #[rv a, rv x1] [.ref a, .ref a])) rfl rfl (hb hby d10_2)
  obtain ⟨T2, h2, X2, e2, W2, st2⟩ := putF X1 hx hZ hown (host := "") (Or.inl (W 67 rfl)) (Via.of (W 68 rfl)) e1 FmodCount Ea (Or.inl (W 30 rfl)) (W 9 rfl) (ty := .int) (by decide) rfl rfl (g := (mkF m 7 #[rv a, rv x1] [.int (mc + (1 : Int32)), .ref a])) rfl rfl (hb hby d10_7)
  have Fz2 := FmodCount.same W2
  have Ea := Ea.wr W2
  have Ex := Ex.wr W2
  have FelementData := FelementData.other W2 (Or.inr (slot_ne (Or.inl (W 33 rfl)) (Or.inl (W 30 rfl)) (by decide) (t := (.array (.object "java/lang/Object"))) (t' := .int) (by decide) (by decide)))
  have Fsize := Fsize.other W2 (Or.inr (slot_ne (Or.inl (W 70 rfl)) (Or.inl (W 30 rfl)) (by decide) (t := .int) (t' := .int) (by decide) (by decide)))
  have O3 := O.wr W2 ga
  have K4 := K0.wr W2 (Or.inl (List.mem_of_getElem? (i := 0) rfl))
  have N5 := Fr.snoc X2 N0 ga
  obtain ⟨T6, X6, e6, st6⟩ := getF X2 hx hZ hown (host := "") (Or.inl (W 32 rfl)) Via.refl e2 FelementData (g := (mkF m 13 #[rv a, rv x1] [.ref a, .ref x1, .ref a])) rfl rfl (hb hby d10_13)
  obtain ⟨T7, X7, e7, st7⟩ := getF X6 hx hZ hown (host := "") (Or.inl (W 69 rfl)) Via.refl e6 Fsize (g := (mkF m 17 #[rv a, rv x1] [.ref a, .ref w_DEF, .ref x1, .ref a])) rfl rfl (hb hby d10_17)
  obtain ⟨cq8, q8, q8'⟩ := Ea.cell
  obtain ⟨_, _, ⟨T8, L8, k8, n8⟩, -, X8, ⟨Lc8, hQ8, l8, y8, z8⟩, st8⟩ := X7.privateBack hx (y := y_10) hown (mvT hZ (W 71 rfl)) (mvT hZ (W 72 rfl)) (mvT hZ (W 74 rfl)) (Cond.privateMethod_at (mvP hZ (W 73 rfl) (args := #[]))) (mvT hZ (W 75 rfl)) (by decide) (backOf (W := 0) (addh0S l Z a0 hw [] a x1 (.int (mc + (1 : Int32))) w_DEF kdef h2 n0 O3 Ea Ex FelementData Fsize Fz2 ga S_w_DEF V_w_DEF) hZ (W 75 rfl) (W 10 rfl) (by decide) (by decide)) (g := (mkF m 20 #[rv a, rv x1] [.int 0, .ref w_DEF, .ref x1, .ref a])) rfl (by rw [hml]; rfl) (Steps.refl _) (a := a) (by rw [e7]; exact q8) q8' (argsL := [.ref x1, .ref w_DEF, .int 0]) (rest := []) (lenOf pd_7 rfl) rfl (by show 2 * 0 + _ ≤ _; exact Nat.le_of_eq rfl) (hb hby d10_20) (fun _ _ => ⟨rfl, e7, (by decide : 0 + 1 ≤ _), (by decide : 0 + 10 ≤ _)⟩)
  dsimp only [Pt.U, Pt.locs, Pt.cells, Pt.slots] at X8 l8 y8 z8 st8 hQ8
  subst l8 y8 z8
  obtain ⟨h8, e8⟩ : ∃ z, T8.heap = z := ⟨_, rfl⟩
  rw [e8] at hQ8
  obtain ⟨b8b, b8kb, rfl, N8q, p8_0, p8_1, p8_2, p8_3, p8_4, p8_5, p8_6, p8_7⟩ := hQ8
  have N8 := Fr.app N5 N8q
  have sz_b8b : h0.size ≤ b8b := Nat.le_trans K4.1 p8_1
  have K10 := K4.trans p8_0 (allS (Or.inl (List.mem_of_getElem? (i := 0) rfl)) all0)
  obtain ⟨fs, hr, hrun, hended, hW, hsame⟩ := X8.leave (v := some (.int (1 : Int32))) (fun h => by rw [Bd.returns] at h; cases h)
  refine ⟨_, _, pre0 _ ?_, hrun, hended, _, _, rfl, ?_, ⟨_, rfl⟩, hW, hsame.mono (by decide) (by decide)⟩
  · show Sq p e below m s₁ 0 #[rv a, rv x1] [] _
    refine XS.aloadN X0.here hx rfl (hb hby d10_0) rfl rfl ?_
    refine XS.dup X0.here hx rfl (hb hby d10_1) rfl rfl ?_
    show Sq p e below m s₁ 2 #[rv a, rv x1] [.ref a, .ref a] _
    refine st1 _ ?_
    show Sq p e below m T1 5 #[rv a, rv x1] [.int mc, .ref a] _
    refine XS.iconst X1.here hx rfl (hb hby d10_5) ?_
    refine XS.iadd X1.here hx rfl (hb hby d10_6) rfl ?_
    show Sq p e below m T1 7 #[rv a, rv x1] [.int (mc + (1 : Int32)), .ref a] _
    refine st2 _ ?_
    show Sq p e below m T2 10 #[rv a, rv x1] [] _
    refine XS.aloadN X2.here hx rfl (hb hby d10_10) rfl rfl ?_
    refine XS.aloadN X2.here hx rfl (hb hby d10_11) rfl rfl ?_
    show Sq p e below m T2 12 #[rv a, rv x1] [.ref x1, .ref a] _
    refine XS.aloadN X2.here hx rfl (hb hby d10_12) rfl rfl ?_
    show Sq p e below m T2 13 #[rv a, rv x1] [.ref a, .ref x1, .ref a] _
    refine st6 _ ?_
    show Sq p e below m T6 16 #[rv a, rv x1] [.ref w_DEF, .ref x1, .ref a] _
    refine XS.aloadN X6.here hx rfl (hb hby d10_16) rfl rfl ?_
    show Sq p e below m T6 17 #[rv a, rv x1] [.ref a, .ref w_DEF, .ref x1, .ref a] _
    refine st7 _ ?_
    show Sq p e below m T7 20 #[rv a, rv x1] [.int 0, .ref w_DEF, .ref x1, .ref a] _
    refine st8.trans ?_
    show Sq p e below m T8 23 #[rv a, rv x1] [] _
    refine XS.iconst X8.here hx rfl (hb hby d10_23) ?_
    show Sq p e below m T8 24 #[rv a, rv x1] [.int 1] _
    exact retN X8 hx (t := .boolean) Bd.returns (by simp) (hb hby d10_24) hr
  · show Q_add0S Z a x1 mc w_DEF kdef h0 n0 _ T8.heap _
    rw [e8]
    exact ⟨b8b, b8kb, rfl, N8, K10, sz_b8b, p8_2, p8_3, p8_4, p8_5, p8_6, p8_7⟩
def Q_addh0K (Z : State) (a : Addr) (x1 : Addr) (mc : Value) (w_DEF : Addr) (kdef : ClassId) (h0 : Heap) (n0 : Nat) (v : Option Value) (h : Heap) (L : List Loc) : Prop := ∃ b : Addr, ∃ kb : ClassId, v = none ∧ Fr n0 L ∧ Keep h0 h [a] ∧ h0.size ≤ b ∧ Fld Z h a "java/util/ArrayList" "elementData" "[Ljava/lang/Object;" (.ref b) ∧ Fld Z h a "java/util/ArrayList" "size" "I" (.int (1 : Int32)) ∧ Fld Z h a "java/util/AbstractList" "modCount" "I" mc ∧ Arv Z h b kb (.object "java/lang/Object") (10 : Int32) [(.ref x1), .null, .null, .null, .null, .null, .null, .null, .null, .null] .null ∧ Ovr Z kb "java/lang/Object" ∧ Exa Z h b "[Ljava/lang/Object;"
set_option maxRecDepth 65536 in
set_option maxHeartbeats 40000000 in
theorem addh0K (l : Launch) (Z : State) (a0 : Array Value) (hw : ∀ d ∈ tables_1, d.before a0 Z = true) (ws : List Jvm.Cond) (a : Addr) (x1 : Addr) (mc : Value) (w_DEF : Addr) (kdef : ClassId) (h0 : Heap) (n0 : Nat) (O : Old Z n0 h0) (Ea : Exa Z h0 a "java/util/ArrayList") (Ex : Exa Z h0 x1 "com/example/latchkey/latchkey/ScaffoldOffer$Kind") (FelementData : Fld Z h0 a "java/util/ArrayList" "elementData" "[Ljava/lang/Object;" (.ref w_DEF)) (Fsize : Fld Z h0 a "java/util/ArrayList" "size" "I" (.int (0 : Int32))) (FmodCount : Fld Z h0 a "java/util/AbstractList" "modCount" "I" mc) (ga : n0 ≤ a) (S_w_DEF : Sta Z Z.heap "java/util/ArrayList" "DEFAULTCAPACITY_EMPTY_ELEMENTDATA" "[Ljava/lang/Object;" (.ref w_DEF)) (V_w_DEF : Arv Z Z.heap w_DEF kdef (.object "java/lang/Object") (0 : Int32) [] .null) :
    Ctr l Z y_10 jdk_38_method_24_code 4 none ws ({ frames := 3, cells := 1, slots := 10, locals := 41 } : Room) #[(.ref a), (.ref x1), (.ref w_DEF), (.int (0 : Int32))] h0 (Q_addh0K Z a x1 mc w_DEF kdef h0 n0) := by
  refine MetFree.of_bodySF (plainFor_of_name pn_2) hisR ?_
  intro p e s m args below meth c s₁ Bd hml0 hP hK
  obtain ⟨rfl, hZ, hh⟩ := hP
  have W := fun (i : Nat) {d : Jvm.Cond} (h : tables_1[i]? = some d) => hw d (List.mem_of_getElem? h)
  have hx := Bd.exec
  have hby := Bd.bytes
  have hml : c.maxLocals = 4 := hml0
  have hown : s.vm.findClass "java/util/ArrayList" = some m.cls := findClass_of_methodNamed Bd.named
  have hnm := (name_of_methodNamed Bd.named Bd.method).1
  have X0 : Stand p l e ({ frames := 3, cells := 1, slots := 10, locals := 41 } : Room) s m #[(.ref a), (.ref x1), (.ref w_DEF), (.int (0 : Int32))] below meth c s₁ [] 0 0 := Stand.of_body Bd
  have e0 : s₁.heap = h0 := by rw [← hh, Bd.state]; rfl
  have N0 := Fr.nil n0
  have pre0 : ∀ t, Steps p.tables e below (s₁.setTop (mkF m 0 #[.val (.ref a), .val (.ref x1), .val (.ref w_DEF), .val (.int (0 : Int32))] [])) t → Steps p.tables e below (s₁.setTop (entryFrame m #[(.ref a), (.ref x1), (.ref w_DEF), (.int (0 : Int32))] 4)) t := fun t kk_ => castTop (ef_10 m a x1 w_DEF (0 : Int32)) kk_
  have K0 := Keep.refl h0 [a]
  obtain ⟨cl1, Ar1, -, S1, Ng1, -, -⟩ := id (V_w_DEF.ext O.2)
  have st1 := X0.arraylength hx (by rw [e0]; exact Ar1.1) (State.isArrayOf_alike hZ.alike Ar1.2.1) (g := (mkF m 2 #[rv a, rv x1, rv w_DEF, iv 0] [.ref w_DEF, .int 0])) rfl rfl (hb hby d11_2)
  rw [len_of S1 Ng1] at st1
  obtain ⟨cq2, q2, q2'⟩ := Ea.cell
  obtain ⟨_, _, ⟨T2, L2, k2, n2⟩, -, X2, ⟨Lc2, hQ2, l2, y2, z2⟩, st2⟩ := X0.privateBack hx (y := y_5) hown (mvT hZ (W 76 rfl)) (mvT hZ (W 77 rfl)) (mvT hZ (W 79 rfl)) (Cond.privateMethod_at (mvP hZ (W 78 rfl) (args := #[]))) (mvT hZ (W 80 rfl)) (by decide) (backOf (W := 0) (grow0 l Z a0 hw [] a mc w_DEF kdef h0 n0 O Ea FelementData Fsize FmodCount ga S_w_DEF V_w_DEF) hZ (W 80 rfl) (W 10 rfl) (by decide) (by decide)) (g := (mkF m 7 #[rv a, rv x1, rv w_DEF, iv 0] [.ref a])) rfl (by rw [hml]; rfl) (Steps.refl _) (a := a) (by rw [e0]; exact q2) q2' (argsL := []) (rest := []) (lenOf pd_6 rfl) rfl (by show 2 * 0 + _ ≤ _; exact Nat.le_of_eq rfl) (hb hby d11_7) (fun _ _ => ⟨rfl, e0, (by decide : 0 + 1 ≤ _), (by decide : 0 + 10 ≤ _)⟩)
  dsimp only [Pt.U, Pt.locs, Pt.cells, Pt.slots] at X2 l2 y2 z2 st2 hQ2
  subst l2 y2 z2
  obtain ⟨h2, e2⟩ : ∃ z, T2.heap = z := ⟨_, rfl⟩
  rw [e2] at hQ2
  obtain ⟨b2b, b2kb, rfl, N2q, p2_0, p2_1, p2_2, p2_3, p2_4, p2_5, p2_6, p2_7⟩ := hQ2
  have N2 := Fr.app N0 N2q
  have g_b2b : n0 ≤ b2b := Nat.le_trans (own_sz O) p2_1
  have sz_b2b : h0.size ≤ b2b := Nat.le_trans K0.1 p2_1
  have ne_a_b2b : a ≠ b2b := Nat.ne_of_lt (Nat.lt_of_lt_of_le Ea.lt p2_1)
  have Ea := Ea.keep p2_0
  have Ex := Ex.keep p2_0
  have K4 := K0.trans p2_0 (allS (Or.inl (List.mem_of_getElem? (i := 0) rfl)) all0)
  obtain ⟨cl5, Ar5, q5, S5, Ng5, Hh5, Gg5⟩ := id p2_5
  obtain ⟨T5, h5, X5, e5, W5, st5⟩ := stR X2 hx hZ e2 Ar5 (j := (0 : Int32)) (inb_of S5 (by decide)) rfl (Sto.ofV Ar5 q5 p2_6 (Ins.of_exa Ex (W 122 rfl))) (g := (mkF m 14 #[rv a, rv x1, rv b2b, iv 0] [.ref x1, .int 0, .ref b2b])) rfl rfl (hb hby d11_14)
  have V5 : Arv Z h5 b2b b2kb (.object "java/lang/Object") (10 : Int32) [(.ref x1), .null, .null, .null, .null, .null, .null, .null, .null, .null] .null := Arv.set Ar5 q5 S5 Ng5 Hh5 Gg5 rfl W5 0 rfl (Nat.le_of_ble_eq_true rfl)
  have Ea := Ea.wr W5
  have p2_2 := p2_2.other W5 (Or.inl ne_a_b2b)
  have p2_3 := p2_3.other W5 (Or.inl ne_a_b2b)
  have p2_4 := p2_4.other W5 (Or.inl ne_a_b2b)
  have p2_7 := p2_7.wr W5
  have K7 := K4.wr W5 (Or.inr sz_b2b)
  have N8 := Fr.snoc X5 N2 g_b2b
  obtain ⟨T9, h9, X9, e9, W9, st9⟩ := putF X5 hx hZ hown (host := "") (Or.inl (W 69 rfl)) Via.refl e5 p2_3 Ea (Or.inl (W 70 rfl)) (W 9 rfl) (ty := .int) (by decide) rfl rfl (g := (mkF m 19 #[rv a, rv x1, rv b2b, iv 0] [.int 1, .ref a])) rfl rfl (hb hby d11_19)
  have Fz9 := p2_3.same W9
  have p2_2 := p2_2.other W9 (Or.inr (slot_ne (Or.inl (W 33 rfl)) (Or.inl (W 70 rfl)) (by decide) (t := (.array (.object "java/lang/Object"))) (t' := .int) (by decide) (by decide)))
  have p2_4 := p2_4.other W9 (Or.inr (slot_ne (Or.inl (W 30 rfl)) (Or.inl (W 70 rfl)) (by decide) (t := .int) (t' := .int) (by decide) (by decide)))
  have p2_7 := p2_7.wr W9
  have V5 := V5.other W9 (Ne.symm ne_a_b2b)
  have K11 := K7.wr W9 (Or.inl (List.mem_of_getElem? (i := 0) rfl))
  have N12 := Fr.snoc X9 N8 ga
  obtain ⟨fs, hr, hrun, hended, hW, hsame⟩ := X9.leave (v := none) (fun _ => rfl)
  refine ⟨_, _, pre0 _ ?_, hrun, hended, _, _, rfl, ?_, ⟨_, rfl⟩, hW, hsame.mono (by decide) (by decide)⟩
  · show Sq p e below m s₁ 0 #[rv a, rv x1, rv w_DEF, iv 0] [] _
    refine XS.iloadN X0.here hx rfl (hb hby d11_0) rfl ?_
    refine XS.aloadN X0.here hx rfl (hb hby d11_1) rfl rfl ?_
    show Sq p e below m s₁ 2 #[rv a, rv x1, rv w_DEF, iv 0] [.ref w_DEF, .int 0] _
    refine st1 _ ?_
    show Sq p e below m s₁ 3 #[rv a, rv x1, rv w_DEF, iv 0] [.int 0, .int 0] _
    refine XS.icmpNo X0.here hx rfl (hb hby d11_3) rfl (teq (rfl : (0 : Int32) = (0 : Int32))).2 ?_
    refine XS.aloadN X0.here hx rfl (hb hby d11_6) rfl rfl ?_
    show Sq p e below m s₁ 7 #[rv a, rv x1, rv w_DEF, iv 0] [.ref a] _
    refine st2.trans ?_
    show Sq p e below m T2 10 #[rv a, rv x1, rv w_DEF, iv 0] [.ref b2b] _
    refine XS.astoreN X2.here hx rfl (hb hby d11_10) rfl rfl rfl ?_
    refine XS.aloadN X2.here hx rfl (hb hby d11_11) rfl rfl ?_
    show Sq p e below m T2 12 #[rv a, rv x1, rv b2b, iv 0] [.ref b2b] _
    refine XS.iloadN X2.here hx rfl (hb hby d11_12) rfl ?_
    refine XS.aloadN X2.here hx rfl (hb hby d11_13) rfl rfl ?_
    show Sq p e below m T2 14 #[rv a, rv x1, rv b2b, iv 0] [.ref x1, .int 0, .ref b2b] _
    refine st5 _ ?_
    show Sq p e below m T5 15 #[rv a, rv x1, rv b2b, iv 0] [] _
    refine XS.aloadN X5.here hx rfl (hb hby d11_15) rfl rfl ?_
    refine XS.iloadN X5.here hx rfl (hb hby d11_16) rfl ?_
    show Sq p e below m T5 17 #[rv a, rv x1, rv b2b, iv 0] [.int 0, .ref a] _
    refine XS.iconst X5.here hx rfl (hb hby d11_17) ?_
    refine XS.iadd X5.here hx rfl (hb hby d11_18) rfl ?_
    show Sq p e below m T5 19 #[rv a, rv x1, rv b2b, iv 0] [.int ((0 : Int32) + (1 : Int32)), .ref a] _
    rw [show ((0 : Int32) + (1 : Int32)) = (1 : Int32) from by decide]
    show Sq p e below m T5 19 #[rv a, rv x1, rv b2b, iv 0] [.int 1, .ref a] _
    refine st9 _ ?_
    show Sq p e below m T9 22 #[rv a, rv x1, rv b2b, iv 0] [] _
    exact X9.returnOut hx Bd.returns (hb hby d11_22) hr
  · show Q_addh0K Z a x1 mc w_DEF kdef h0 n0 _ T9.heap _
    rw [e9]
    exact ⟨b2b, b2kb, rfl, N12, K11, sz_b2b, p2_2, Fz9, p2_4, V5, p2_6, p2_7⟩
def Q_add0K (Z : State) (a : Addr) (x1 : Addr) (mc : Int32) (w_DEF : Addr) (kdef : ClassId) (h0 : Heap) (n0 : Nat) (v : Option Value) (h : Heap) (L : List Loc) : Prop := ∃ b : Addr, ∃ kb : ClassId, v = some (.int (1 : Int32)) ∧ Fr n0 L ∧ Keep h0 h [a] ∧ h0.size ≤ b ∧ Fld Z h a "java/util/ArrayList" "elementData" "[Ljava/lang/Object;" (.ref b) ∧ Fld Z h a "java/util/ArrayList" "size" "I" (.int (1 : Int32)) ∧ Fld Z h a "java/util/AbstractList" "modCount" "I" (.int (mc + (1 : Int32))) ∧ Arv Z h b kb (.object "java/lang/Object") (10 : Int32) [(.ref x1), .null, .null, .null, .null, .null, .null, .null, .null, .null] .null ∧ Ovr Z kb "java/lang/Object" ∧ Exa Z h b "[Ljava/lang/Object;"
set_option maxRecDepth 65536 in
set_option maxHeartbeats 40000000 in
theorem add0K (l : Launch) (Z : State) (a0 : Array Value) (hw : ∀ d ∈ tables_1, d.before a0 Z = true) (ws : List Jvm.Cond) (a : Addr) (x1 : Addr) (mc : Int32) (w_DEF : Addr) (kdef : ClassId) (h0 : Heap) (n0 : Nat) (O : Old Z n0 h0) (Ea : Exa Z h0 a "java/util/ArrayList") (Ex : Exa Z h0 x1 "com/example/latchkey/latchkey/ScaffoldOffer$Kind") (FelementData : Fld Z h0 a "java/util/ArrayList" "elementData" "[Ljava/lang/Object;" (.ref w_DEF)) (Fsize : Fld Z h0 a "java/util/ArrayList" "size" "I" (.int (0 : Int32))) (FmodCount : Fld Z h0 a "java/util/AbstractList" "modCount" "I" (.int mc)) (ga : n0 ≤ a) (S_w_DEF : Sta Z Z.heap "java/util/ArrayList" "DEFAULTCAPACITY_EMPTY_ELEMENTDATA" "[Ljava/lang/Object;" (.ref w_DEF)) (V_w_DEF : Arv Z Z.heap w_DEF kdef (.object "java/lang/Object") (0 : Int32) [] .null) :
    Ctr l Z y_11 jdk_38_method_25_code 2 (some .boolean) ws ({ frames := 4, cells := 1, slots := 10, locals := 56 } : Room) #[(.ref a), (.ref x1)] h0 (Q_add0K Z a x1 mc w_DEF kdef h0 n0) := by
  refine MetFree.of_bodySF (plainFor_of_name pn_2) hisR ?_
  intro p e s m args below meth c s₁ Bd hml0 hP hK
  obtain ⟨rfl, hZ, hh⟩ := hP
  have W := fun (i : Nat) {d : Jvm.Cond} (h : tables_1[i]? = some d) => hw d (List.mem_of_getElem? h)
  have hx := Bd.exec
  have hby := Bd.bytes
  have hml : c.maxLocals = 2 := hml0
  have hown : s.vm.findClass "java/util/ArrayList" = some m.cls := findClass_of_methodNamed Bd.named
  have hnm := (name_of_methodNamed Bd.named Bd.method).1
  have X0 : Stand p l e ({ frames := 4, cells := 1, slots := 10, locals := 56 } : Room) s m #[(.ref a), (.ref x1)] below meth c s₁ [] 0 0 := Stand.of_body Bd
  have e0 : s₁.heap = h0 := by rw [← hh, Bd.state]; rfl
  have N0 := Fr.nil n0
  have pre0 : ∀ t, Steps p.tables e below (s₁.setTop (mkF m 0 #[.val (.ref a), .val (.ref x1)] [])) t → Steps p.tables e below (s₁.setTop (entryFrame m #[(.ref a), (.ref x1)] 2)) t := fun t kk_ => castTop (ef_11 m a x1) kk_
  have K0 := Keep.refl h0 [a]
  obtain ⟨T1, X1, e1, st1⟩ := getF X0 hx hZ hown (host := "") (Or.inl (W 67 rfl)) (Via.of (W 68 rfl)) e0 FmodCount (g := (mkF m 2 #[rv a, rv x1] [.ref a, .ref a])) rfl rfl (hb hby d10_2)
  obtain ⟨T2, h2, X2, e2, W2, st2⟩ := putF X1 hx hZ hown (host := "") (Or.inl (W 67 rfl)) (Via.of (W 68 rfl)) e1 FmodCount Ea (Or.inl (W 30 rfl)) (W 9 rfl) (ty := .int) (by decide) rfl rfl (g := (mkF m 7 #[rv a, rv x1] [.int (mc + (1 : Int32)), .ref a])) rfl rfl (hb hby d10_7)
  have Fz2 := FmodCount.same W2
  have Ea := Ea.wr W2
  have Ex := Ex.wr W2
  have FelementData := FelementData.other W2 (Or.inr (slot_ne (Or.inl (W 33 rfl)) (Or.inl (W 30 rfl)) (by decide) (t := (.array (.object "java/lang/Object"))) (t' := .int) (by decide) (by decide)))
  have Fsize := Fsize.other W2 (Or.inr (slot_ne (Or.inl (W 70 rfl)) (Or.inl (W 30 rfl)) (by decide) (t := .int) (t' := .int) (by decide) (by decide)))
  have O3 := O.wr W2 ga
  have K4 := K0.wr W2 (Or.inl (List.mem_of_getElem? (i := 0) rfl))
  have N5 := Fr.snoc X2 N0 ga
  obtain ⟨T6, X6, e6, st6⟩ := getF X2 hx hZ hown (host := "") (Or.inl (W 32 rfl)) Via.refl e2 FelementData (g := (mkF m 13 #[rv a, rv x1] [.ref a, .ref x1, .ref a])) rfl rfl (hb hby d10_13)
  obtain ⟨T7, X7, e7, st7⟩ := getF X6 hx hZ hown (host := "") (Or.inl (W 69 rfl)) Via.refl e6 Fsize (g := (mkF m 17 #[rv a, rv x1] [.ref a, .ref w_DEF, .ref x1, .ref a])) rfl rfl (hb hby d10_17)
  obtain ⟨cq8, q8, q8'⟩ := Ea.cell
  obtain ⟨_, _, ⟨T8, L8, k8, n8⟩, -, X8, ⟨Lc8, hQ8, l8, y8, z8⟩, st8⟩ := X7.privateBack hx (y := y_10) hown (mvT hZ (W 71 rfl)) (mvT hZ (W 72 rfl)) (mvT hZ (W 74 rfl)) (Cond.privateMethod_at (mvP hZ (W 73 rfl) (args := #[]))) (mvT hZ (W 75 rfl)) (by decide) (backOf (W := 0) (addh0K l Z a0 hw [] a x1 (.int (mc + (1 : Int32))) w_DEF kdef h2 n0 O3 Ea Ex FelementData Fsize Fz2 ga S_w_DEF V_w_DEF) hZ (W 75 rfl) (W 10 rfl) (by decide) (by decide)) (g := (mkF m 20 #[rv a, rv x1] [.int 0, .ref w_DEF, .ref x1, .ref a])) rfl (by rw [hml]; rfl) (Steps.refl _) (a := a) (by rw [e7]; exact q8) q8' (argsL := [.ref x1, .ref w_DEF, .int 0]) (rest := []) (lenOf pd_7 rfl) rfl (by show 2 * 0 + _ ≤ _; exact Nat.le_of_eq rfl) (hb hby d10_20) (fun _ _ => ⟨rfl, e7, (by decide : 0 + 1 ≤ _), (by decide : 0 + 10 ≤ _)⟩)
  dsimp only [Pt.U, Pt.locs, Pt.cells, Pt.slots] at X8 l8 y8 z8 st8 hQ8
  subst l8 y8 z8
  obtain ⟨h8, e8⟩ : ∃ z, T8.heap = z := ⟨_, rfl⟩
  rw [e8] at hQ8
  obtain ⟨b8b, b8kb, rfl, N8q, p8_0, p8_1, p8_2, p8_3, p8_4, p8_5, p8_6, p8_7⟩ := hQ8
  have N8 := Fr.app N5 N8q
  have sz_b8b : h0.size ≤ b8b := Nat.le_trans K4.1 p8_1
  have K10 := K4.trans p8_0 (allS (Or.inl (List.mem_of_getElem? (i := 0) rfl)) all0)
  obtain ⟨fs, hr, hrun, hended, hW, hsame⟩ := X8.leave (v := some (.int (1 : Int32))) (fun h => by rw [Bd.returns] at h; cases h)
  refine ⟨_, _, pre0 _ ?_, hrun, hended, _, _, rfl, ?_, ⟨_, rfl⟩, hW, hsame.mono (by decide) (by decide)⟩
  · show Sq p e below m s₁ 0 #[rv a, rv x1] [] _
    refine XS.aloadN X0.here hx rfl (hb hby d10_0) rfl rfl ?_
    refine XS.dup X0.here hx rfl (hb hby d10_1) rfl rfl ?_
    show Sq p e below m s₁ 2 #[rv a, rv x1] [.ref a, .ref a] _
    refine st1 _ ?_
    show Sq p e below m T1 5 #[rv a, rv x1] [.int mc, .ref a] _
    refine XS.iconst X1.here hx rfl (hb hby d10_5) ?_
    refine XS.iadd X1.here hx rfl (hb hby d10_6) rfl ?_
    show Sq p e below m T1 7 #[rv a, rv x1] [.int (mc + (1 : Int32)), .ref a] _
    refine st2 _ ?_
    show Sq p e below m T2 10 #[rv a, rv x1] [] _
    refine XS.aloadN X2.here hx rfl (hb hby d10_10) rfl rfl ?_
    refine XS.aloadN X2.here hx rfl (hb hby d10_11) rfl rfl ?_
    show Sq p e below m T2 12 #[rv a, rv x1] [.ref x1, .ref a] _
    refine XS.aloadN X2.here hx rfl (hb hby d10_12) rfl rfl ?_
    show Sq p e below m T2 13 #[rv a, rv x1] [.ref a, .ref x1, .ref a] _
    refine st6 _ ?_
    show Sq p e below m T6 16 #[rv a, rv x1] [.ref w_DEF, .ref x1, .ref a] _
    refine XS.aloadN X6.here hx rfl (hb hby d10_16) rfl rfl ?_
    show Sq p e below m T6 17 #[rv a, rv x1] [.ref a, .ref w_DEF, .ref x1, .ref a] _
    refine st7 _ ?_
    show Sq p e below m T7 20 #[rv a, rv x1] [.int 0, .ref w_DEF, .ref x1, .ref a] _
    refine st8.trans ?_
    show Sq p e below m T8 23 #[rv a, rv x1] [] _
    refine XS.iconst X8.here hx rfl (hb hby d10_23) ?_
    show Sq p e below m T8 24 #[rv a, rv x1] [.int 1] _
    exact retN X8 hx (t := .boolean) Bd.returns (by simp) (hb hby d10_24) hr
  · show Q_add0K Z a x1 mc w_DEF kdef h0 n0 _ T8.heap _
    rw [e8]
    exact ⟨b8b, b8kb, rfl, N8, K10, sz_b8b, p8_2, p8_3, p8_4, p8_5, p8_6, p8_7⟩
theorem d19_0 : decode prog_61_method_9_code 0 = .ok (.aload_n 0, 1) := by decide +kernel
theorem d19_1 : decode prog_61_method_9_code 1 = .ok (.getfield 13, 3) := by decide +kernel
theorem d19_4 : decode prog_61_method_9_code 4 = .ok (.areturn, 1) := by decide +kernel
def Q_getofferedBy (Z : State) (a : Addr) (r : Addr) (h0 : Heap) (n0 : Nat) (v : Option Value) (h : Heap) (L : List Loc) : Prop := v = some (.ref r) ∧ Fr n0 L ∧ h = h0
theorem ef_12 (m : MethodId) (x0 : Addr) : entryFrame m #[(.ref x0)] 1 = mkF m 0 #[.val (.ref x0)] [] := by first | (simp [entryFrame, mkF, argsToLocals, Value.category]; done) | rfl
theorem pn_5 : plainName "com/example/latchkey/latchkey/ScaffoldOffer" = true := by first | (simp [plainName, overriddenIn]; done) | decide +kernel
abbrev y_12 : MethodName := ⟨"com/example/latchkey/latchkey/ScaffoldOffer", "offeredBy", "()Ljava/util/Optional;"⟩
set_option maxRecDepth 65536 in
set_option maxHeartbeats 40000000 in
theorem getofferedBy (l : Launch) (Z : State) (a0 : Array Value) (hw : ∀ d ∈ tables_1, d.before a0 Z = true) (ws : List Jvm.Cond) (a : Addr) (r : Addr) (h0 : Heap) (n0 : Nat) (O : Old Z n0 h0) (Fa : Fld Z h0 a "com/example/latchkey/latchkey/ScaffoldOffer" "offeredBy" "Ljava/util/Optional;" (.ref r)) :
    Ctr l Z y_12 prog_61_method_9_code 1 (some (.object "java/util/Optional")) ws ({ frames := 0, cells := 0, slots := 0, locals := 0 } : Room) #[(.ref a)] h0 (Q_getofferedBy Z a r h0 n0) := by
  refine MetFree.of_bodySF (plainFor_of_name pn_5) hisR ?_
  intro p e s m args below meth c s₁ Bd hml0 hP hK
  obtain ⟨rfl, hZ, hh⟩ := hP
  have W := fun (i : Nat) {d : Jvm.Cond} (h : tables_1[i]? = some d) => hw d (List.mem_of_getElem? h)
  have hx := Bd.exec
  have hby := Bd.bytes
  have hml : c.maxLocals = 1 := hml0
  have hown : s.vm.findClass "com/example/latchkey/latchkey/ScaffoldOffer" = some m.cls := findClass_of_methodNamed Bd.named
  have hnm := (name_of_methodNamed Bd.named Bd.method).1
  have X0 : Stand p l e ({ frames := 0, cells := 0, slots := 0, locals := 0 } : Room) s m #[(.ref a)] below meth c s₁ [] 0 0 := Stand.of_body Bd
  have e0 : s₁.heap = h0 := by rw [← hh, Bd.state]; rfl
  have N0 := Fr.nil n0
  have pre0 : ∀ t, Steps p.tables e below (s₁.setTop (mkF m 0 #[.val (.ref a)] [])) t → Steps p.tables e below (s₁.setTop (entryFrame m #[(.ref a)] 1)) t := fun t kk_ => castTop (ef_12 m a) kk_
  obtain ⟨T1, X1, e1, st1⟩ := getF X0 hx hZ hown (host := "") (Or.inl (W 133 rfl)) Via.refl e0 Fa (g := (mkF m 1 #[rv a] [.ref a])) rfl rfl (hb hby d19_1)
  obtain ⟨fs, hr, hrun, hended, hW, hsame⟩ := X1.leave (v := some (.ref r)) (fun h => by rw [Bd.returns] at h; cases h)
  refine ⟨_, _, pre0 _ ?_, hrun, hended, _, _, rfl, ?_, ⟨_, rfl⟩, hW, hsame.mono (by decide) (by decide)⟩
  · show Sq p e below m s₁ 0 #[rv a] [] _
    refine XS.aloadN X0.here hx rfl (hb hby d19_0) rfl rfl ?_
    show Sq p e below m s₁ 1 #[rv a] [.ref a] _
    refine st1 _ ?_
    show Sq p e below m T1 4 #[rv a] [.ref r] _
    jvm_step X1.here [X1.here.top, hx, (hb hby d19_4), X1.method', Bd.returns, Value.isRef, FieldType.isReference]
    first | (intro acts; rw [hr _ acts rfl rfl rfl]) | rw [hr _ _ rfl rfl rfl]
    exact Steps.refl _
  · show Q_getofferedBy Z a r h0 n0 _ T1.heap _
    rw [e1]
    exact ⟨rfl, N0, rfl⟩
theorem d20_0 : decode prog_61_method_10_code 0 = .ok (.aload_n 0, 1) := by decide +kernel
theorem d20_1 : decode prog_61_method_10_code 1 = .ok (.getfield 17, 3) := by decide +kernel
theorem d20_4 : decode prog_61_method_10_code 4 = .ok (.areturn, 1) := by decide +kernel
def Q_getofferedAt (Z : State) (a : Addr) (r : Addr) (h0 : Heap) (n0 : Nat) (v : Option Value) (h : Heap) (L : List Loc) : Prop := v = some (.ref r) ∧ Fr n0 L ∧ h = h0
theorem ef_13 (m : MethodId) (x0 : Addr) : entryFrame m #[(.ref x0)] 1 = mkF m 0 #[.val (.ref x0)] [] := by first | (simp [entryFrame, mkF, argsToLocals, Value.category]; done) | rfl
abbrev y_13 : MethodName := ⟨"com/example/latchkey/latchkey/ScaffoldOffer", "offeredAt", "()Ljava/util/Optional;"⟩
set_option maxRecDepth 65536 in
set_option maxHeartbeats 40000000 in
theorem getofferedAt (l : Launch) (Z : State) (a0 : Array Value) (hw : ∀ d ∈ tables_1, d.before a0 Z = true) (ws : List Jvm.Cond) (a : Addr) (r : Addr) (h0 : Heap) (n0 : Nat) (O : Old Z n0 h0) (Fa : Fld Z h0 a "com/example/latchkey/latchkey/ScaffoldOffer" "offeredAt" "Ljava/util/Optional;" (.ref r)) :
    Ctr l Z y_13 prog_61_method_10_code 1 (some (.object "java/util/Optional")) ws ({ frames := 0, cells := 0, slots := 0, locals := 0 } : Room) #[(.ref a)] h0 (Q_getofferedAt Z a r h0 n0) := by
  refine MetFree.of_bodySF (plainFor_of_name pn_5) hisR ?_
  intro p e s m args below meth c s₁ Bd hml0 hP hK
  obtain ⟨rfl, hZ, hh⟩ := hP
  have W := fun (i : Nat) {d : Jvm.Cond} (h : tables_1[i]? = some d) => hw d (List.mem_of_getElem? h)
  have hx := Bd.exec
  have hby := Bd.bytes
  have hml : c.maxLocals = 1 := hml0
  have hown : s.vm.findClass "com/example/latchkey/latchkey/ScaffoldOffer" = some m.cls := findClass_of_methodNamed Bd.named
  have hnm := (name_of_methodNamed Bd.named Bd.method).1
  have X0 : Stand p l e ({ frames := 0, cells := 0, slots := 0, locals := 0 } : Room) s m #[(.ref a)] below meth c s₁ [] 0 0 := Stand.of_body Bd
  have e0 : s₁.heap = h0 := by rw [← hh, Bd.state]; rfl
  have N0 := Fr.nil n0
  have pre0 : ∀ t, Steps p.tables e below (s₁.setTop (mkF m 0 #[.val (.ref a)] [])) t → Steps p.tables e below (s₁.setTop (entryFrame m #[(.ref a)] 1)) t := fun t kk_ => castTop (ef_13 m a) kk_
  obtain ⟨T1, X1, e1, st1⟩ := getF X0 hx hZ hown (host := "") (Or.inl (W 140 rfl)) Via.refl e0 Fa (g := (mkF m 1 #[rv a] [.ref a])) rfl rfl (hb hby d20_1)
  obtain ⟨fs, hr, hrun, hended, hW, hsame⟩ := X1.leave (v := some (.ref r)) (fun h => by rw [Bd.returns] at h; cases h)
  refine ⟨_, _, pre0 _ ?_, hrun, hended, _, _, rfl, ?_, ⟨_, rfl⟩, hW, hsame.mono (by decide) (by decide)⟩
  · show Sq p e below m s₁ 0 #[rv a] [] _
    refine XS.aloadN X0.here hx rfl (hb hby d20_0) rfl rfl ?_
    show Sq p e below m s₁ 1 #[rv a] [.ref a] _
    refine st1 _ ?_
    show Sq p e below m T1 4 #[rv a] [.ref r] _
    jvm_step X1.here [X1.here.top, hx, (hb hby d20_4), X1.method', Bd.returns, Value.isRef, FieldType.isReference]
    first | (intro acts; rw [hr _ acts rfl rfl rfl]) | rw [hr _ _ rfl rfl rfl]
    exact Steps.refl _
  · show Q_getofferedAt Z a r h0 n0 _ T1.heap _
    rw [e1]
    exact ⟨rfl, N0, rfl⟩
theorem d21_0 : decode prog_61_method_11_code 0 = .ok (.aload_n 0, 1) := by decide +kernel
theorem d21_1 : decode prog_61_method_11_code 1 = .ok (.getfield 20, 3) := by decide +kernel
theorem d21_4 : decode prog_61_method_11_code 4 = .ok (.areturn, 1) := by decide +kernel
def Q_getansweredAt (Z : State) (a : Addr) (r : Addr) (h0 : Heap) (n0 : Nat) (v : Option Value) (h : Heap) (L : List Loc) : Prop := v = some (.ref r) ∧ Fr n0 L ∧ h = h0
theorem ef_14 (m : MethodId) (x0 : Addr) : entryFrame m #[(.ref x0)] 1 = mkF m 0 #[.val (.ref x0)] [] := by first | (simp [entryFrame, mkF, argsToLocals, Value.category]; done) | rfl
abbrev y_14 : MethodName := ⟨"com/example/latchkey/latchkey/ScaffoldOffer", "answeredAt", "()Ljava/util/Optional;"⟩
set_option maxRecDepth 65536 in
set_option maxHeartbeats 40000000 in
theorem getansweredAt (l : Launch) (Z : State) (a0 : Array Value) (hw : ∀ d ∈ tables_1, d.before a0 Z = true) (ws : List Jvm.Cond) (a : Addr) (r : Addr) (h0 : Heap) (n0 : Nat) (O : Old Z n0 h0) (Fa : Fld Z h0 a "com/example/latchkey/latchkey/ScaffoldOffer" "answeredAt" "Ljava/util/Optional;" (.ref r)) :
    Ctr l Z y_14 prog_61_method_11_code 1 (some (.object "java/util/Optional")) ws ({ frames := 0, cells := 0, slots := 0, locals := 0 } : Room) #[(.ref a)] h0 (Q_getansweredAt Z a r h0 n0) := by
  refine MetFree.of_bodySF (plainFor_of_name pn_5) hisR ?_
  intro p e s m args below meth c s₁ Bd hml0 hP hK
  obtain ⟨rfl, hZ, hh⟩ := hP
  have W := fun (i : Nat) {d : Jvm.Cond} (h : tables_1[i]? = some d) => hw d (List.mem_of_getElem? h)
  have hx := Bd.exec
  have hby := Bd.bytes
  have hml : c.maxLocals = 1 := hml0
  have hown : s.vm.findClass "com/example/latchkey/latchkey/ScaffoldOffer" = some m.cls := findClass_of_methodNamed Bd.named
  have hnm := (name_of_methodNamed Bd.named Bd.method).1
  have X0 : Stand p l e ({ frames := 0, cells := 0, slots := 0, locals := 0 } : Room) s m #[(.ref a)] below meth c s₁ [] 0 0 := Stand.of_body Bd
  have e0 : s₁.heap = h0 := by rw [← hh, Bd.state]; rfl
  have N0 := Fr.nil n0
  have pre0 : ∀ t, Steps p.tables e below (s₁.setTop (mkF m 0 #[.val (.ref a)] [])) t → Steps p.tables e below (s₁.setTop (entryFrame m #[(.ref a)] 1)) t := fun t kk_ => castTop (ef_14 m a) kk_
  obtain ⟨T1, X1, e1, st1⟩ := getF X0 hx hZ hown (host := "") (Or.inl (W 147 rfl)) Via.refl e0 Fa (g := (mkF m 1 #[rv a] [.ref a])) rfl rfl (hb hby d21_1)
  obtain ⟨fs, hr, hrun, hended, hW, hsame⟩ := X1.leave (v := some (.ref r)) (fun h => by rw [Bd.returns] at h; cases h)
  refine ⟨_, _, pre0 _ ?_, hrun, hended, _, _, rfl, ?_, ⟨_, rfl⟩, hW, hsame.mono (by decide) (by decide)⟩
  · show Sq p e below m s₁ 0 #[rv a] [] _
    refine XS.aloadN X0.here hx rfl (hb hby d21_0) rfl rfl ?_
    show Sq p e below m s₁ 1 #[rv a] [.ref a] _
    refine st1 _ ?_
    show Sq p e below m T1 4 #[rv a] [.ref r] _
    jvm_step X1.here [X1.here.top, hx, (hb hby d21_4), X1.method', Bd.returns, Value.isRef, FieldType.isReference]
    first | (intro acts; rw [hr _ acts rfl rfl rfl]) | rw [hr _ _ rfl rfl rfl]
    exact Steps.refl _
  · show Q_getansweredAt Z a r h0 n0 _ T1.heap _
    rw [e1]
    exact ⟨rfl, N0, rfl⟩
theorem d18_0 : decode jdk_30_method_1_code 0 = .ok (.aload_n 0, 1) := by decide +kernel
theorem d18_1 : decode jdk_30_method_1_code 1 = .ok (.invokespecial 1, 3) := by decide +kernel
theorem d18_4 : decode jdk_30_method_1_code 4 = .ok (.return_, 1) := by decide +kernel
def Q_recinit (Z : State) (a : Addr) (h0 : Heap) (n0 : Nat) (v : Option Value) (h : Heap) (L : List Loc) : Prop := v = none ∧ Fr n0 L ∧ h = h0
theorem ef_15 (m : MethodId) (x0 : Addr) : entryFrame m #[(.ref x0)] 1 = mkF m 0 #[.val (.ref x0)] [] := by first | (simp [entryFrame, mkF, argsToLocals, Value.category]; done) | rfl
theorem pn_6 : plainName "java/lang/Record" = true := by first | (simp [plainName, overriddenIn]; done) | decide +kernel
abbrev y_15 : MethodName := ⟨"java/lang/Record", "<init>", "()V"⟩
set_option maxRecDepth 65536 in
set_option maxHeartbeats 40000000 in
theorem recinit (l : Launch) (Z : State) (a0 : Array Value) (hw : ∀ d ∈ tables_1, d.before a0 Z = true) (ws : List Jvm.Cond) (a : Addr) (h0 : Heap) (n0 : Nat) (O : Old Z n0 h0) :
    Ctr l Z y_15 jdk_30_method_1_code 1 none ws ({ frames := 1, cells := 0, slots := 0, locals := 12 } : Room) #[(.ref a)] h0 (Q_recinit Z a h0 n0) := by
  refine MetFree.of_bodySF (plainFor_of_name pn_6) hisR ?_
  intro p e s m args below meth c s₁ Bd hml0 hP hK
  obtain ⟨rfl, hZ, hh⟩ := hP
  have W := fun (i : Nat) {d : Jvm.Cond} (h : tables_1[i]? = some d) => hw d (List.mem_of_getElem? h)
  have hx := Bd.exec
  have hby := Bd.bytes
  have hml : c.maxLocals = 1 := hml0
  have hown : s.vm.findClass "java/lang/Record" = some m.cls := findClass_of_methodNamed Bd.named
  have hnm := (name_of_methodNamed Bd.named Bd.method).1
  have X0 : Stand p l e ({ frames := 1, cells := 0, slots := 0, locals := 12 } : Room) s m #[(.ref a)] below meth c s₁ [] 0 0 := Stand.of_body Bd
  have e0 : s₁.heap = h0 := by rw [← hh, Bd.state]; rfl
  have N0 := Fr.nil n0
  have pre0 : ∀ t, Steps p.tables e below (s₁.setTop (mkF m 0 #[.val (.ref a)] [])) t → Steps p.tables e below (s₁.setTop (entryFrame m #[(.ref a)] 1)) t := fun t kk_ => castTop (ef_15 m a) kk_
  obtain ⟨T1, X1, e1, st1⟩ := initO X0 hx hZ hown (W 113 rfl) (W 27 rfl) (W 28 rfl) e0 (g := (mkF m 1 #[rv a] [.ref a])) rfl (by rw [hml]; rfl) rfl (hb hby d18_1) (by decide) (W := 0) (by show 2 * 0 + _ ≤ _; exact Nat.le_of_eq rfl) (by decide)
  obtain ⟨fs, hr, hrun, hended, hW, hsame⟩ := X1.leave (v := none) (fun _ => rfl)
  refine ⟨_, _, pre0 _ ?_, hrun, hended, _, _, rfl, ?_, ⟨_, rfl⟩, hW, hsame.mono (by decide) (by decide)⟩
  · show Sq p e below m s₁ 0 #[rv a] [] _
    refine XS.aloadN X0.here hx rfl (hb hby d18_0) rfl rfl ?_
    show Sq p e below m s₁ 1 #[rv a] [.ref a] _
    refine st1 _ ?_
    show Sq p e below m T1 4 #[rv a] [] _
    exact X1.returnOut hx Bd.returns (hb hby d18_4) hr
  · show Q_recinit Z a h0 n0 _ T1.heap _
    rw [e1]
    exact ⟨rfl, N0, rfl⟩
theorem d22_0 : decode prog_61_method_1_code 0 = .ok (.aload_n 0, 1) := by decide +kernel
theorem d22_1 : decode prog_61_method_1_code 1 = .ok (.invokespecial 1, 3) := by decide +kernel
theorem d22_4 : decode prog_61_method_1_code 4 = .ok (.aload_n 0, 1) := by decide +kernel
theorem d22_5 : decode prog_61_method_1_code 5 = .ok (.aload_n 1, 1) := by decide +kernel
theorem d22_6 : decode prog_61_method_1_code 6 = .ok (.putfield 7, 3) := by decide +kernel
theorem d22_9 : decode prog_61_method_1_code 9 = .ok (.aload_n 0, 1) := by decide +kernel
theorem d22_10 : decode prog_61_method_1_code 10 = .ok (.aload_n 2, 1) := by decide +kernel
theorem d22_11 : decode prog_61_method_1_code 11 = .ok (.putfield 13, 3) := by decide +kernel
theorem d22_14 : decode prog_61_method_1_code 14 = .ok (.aload_n 0, 1) := by decide +kernel
theorem d22_15 : decode prog_61_method_1_code 15 = .ok (.aload_n 3, 1) := by decide +kernel
theorem d22_16 : decode prog_61_method_1_code 16 = .ok (.putfield 17, 3) := by decide +kernel
theorem d22_19 : decode prog_61_method_1_code 19 = .ok (.aload_n 0, 1) := by decide +kernel
theorem d22_20 : decode prog_61_method_1_code 20 = .ok (.aload 4, 2) := by decide +kernel
theorem d22_22 : decode prog_61_method_1_code 22 = .ok (.putfield 20, 3) := by decide +kernel
theorem d22_25 : decode prog_61_method_1_code 25 = .ok (.aload_n 0, 1) := by decide +kernel
theorem d22_26 : decode prog_61_method_1_code 26 = .ok (.aload 5, 2) := by decide +kernel
theorem d22_28 : decode prog_61_method_1_code 28 = .ok (.putfield 23, 3) := by decide +kernel
theorem d22_31 : decode prog_61_method_1_code 31 = .ok (.return_, 1) := by decide +kernel
def Q_soinit (Z : State) (a : Addr) (r0 : Addr) (r1 : Addr) (r2 : Addr) (r3 : Addr) (r4 : Addr) (h0 : Heap) (n0 : Nat) (v : Option Value) (h : Heap) (L : List Loc) : Prop := v = none ∧ Fr n0 L ∧ Keep h0 h [a] ∧ Fld Z h a "com/example/latchkey/latchkey/ScaffoldOffer" "status" "Lcom/example/latchkey/latchkey/ScaffoldOffer$Status;" (.ref r0)
theorem ef_16 (m : MethodId) (x0 : Addr) (x1 : Addr) (x2 : Addr) (x3 : Addr) (x4 : Addr) (x5 : Addr) : entryFrame m #[(.ref x0), (.ref x1), (.ref x2), (.ref x3), (.ref x4), (.ref x5)] 6 = mkF m 0 #[.val (.ref x0), .val (.ref x1), .val (.ref x2), .val (.ref x3), .val (.ref x4), .val (.ref x5)] [] := by first | (simp [entryFrame, mkF, argsToLocals, Value.category]; done) | rfl
abbrev y_16 : MethodName := ⟨"com/example/latchkey/latchkey/ScaffoldOffer", "<init>", "(Lcom/example/latchkey/latchkey/ScaffoldOffer$Status;Ljava/util/Optional;Ljava/util/Optional;Ljava/util/Optional;Ljava/util/List;)V"⟩
set_option maxRecDepth 65536 in
set_option maxHeartbeats 40000000 in
theorem soinit (l : Launch) (Z : State) (a0 : Array Value) (hw : ∀ d ∈ tables_1, d.before a0 Z = true) (ws : List Jvm.Cond) (a : Addr) (r0 : Addr) (r1 : Addr) (r2 : Addr) (r3 : Addr) (r4 : Addr) (h0 : Heap) (n0 : Nat) (O : Old Z n0 h0) (Ea : Exa Z h0 a "com/example/latchkey/latchkey/ScaffoldOffer") (F0 : Fld Z h0 a "com/example/latchkey/latchkey/ScaffoldOffer" "status" "Lcom/example/latchkey/latchkey/ScaffoldOffer$Status;" .null) (F1 : Fld Z h0 a "com/example/latchkey/latchkey/ScaffoldOffer" "offeredBy" "Ljava/util/Optional;" .null) (F2 : Fld Z h0 a "com/example/latchkey/latchkey/ScaffoldOffer" "offeredAt" "Ljava/util/Optional;" .null) (F3 : Fld Z h0 a "com/example/latchkey/latchkey/ScaffoldOffer" "answeredAt" "Ljava/util/Optional;" .null) (F4 : Fld Z h0 a "com/example/latchkey/latchkey/ScaffoldOffer" "kinds" "Ljava/util/List;" .null) (ga : n0 ≤ a) :
    Ctr l Z y_16 prog_61_method_1_code 6 none ws ({ frames := 2, cells := 0, slots := 0, locals := 24 } : Room) #[(.ref a), (.ref r0), (.ref r1), (.ref r2), (.ref r3), (.ref r4)] h0 (Q_soinit Z a r0 r1 r2 r3 r4 h0 n0) := by
  refine MetFree.of_bodySF (plainFor_of_name pn_5) hisR ?_
  intro p e s m args below meth c s₁ Bd hml0 hP hK
  obtain ⟨rfl, hZ, hh⟩ := hP
  have W := fun (i : Nat) {d : Jvm.Cond} (h : tables_1[i]? = some d) => hw d (List.mem_of_getElem? h)
  have hx := Bd.exec
  have hby := Bd.bytes
  have hml : c.maxLocals = 6 := hml0
  have hown : s.vm.findClass "com/example/latchkey/latchkey/ScaffoldOffer" = some m.cls := findClass_of_methodNamed Bd.named
  have hnm := (name_of_methodNamed Bd.named Bd.method).1
  have X0 : Stand p l e ({ frames := 2, cells := 0, slots := 0, locals := 24 } : Room) s m #[(.ref a), (.ref r0), (.ref r1), (.ref r2), (.ref r3), (.ref r4)] below meth c s₁ [] 0 0 := Stand.of_body Bd
  have e0 : s₁.heap = h0 := by rw [← hh, Bd.state]; rfl
  have N0 := Fr.nil n0
  have pre0 : ∀ t, Steps p.tables e below (s₁.setTop (mkF m 0 #[.val (.ref a), .val (.ref r0), .val (.ref r1), .val (.ref r2), .val (.ref r3), .val (.ref r4)] [])) t → Steps p.tables e below (s₁.setTop (entryFrame m #[(.ref a), (.ref r0), (.ref r1), (.ref r2), (.ref r3), (.ref r4)] 6)) t := fun t kk_ => castTop (ef_16 m a r0 r1 r2 r3 r4) kk_
  have K0 := Keep.refl h0 [a]
  obtain ⟨_, _, ⟨T1, L1, k1, n1⟩, -, X1, ⟨Lc1, hQ1, l1, y1, z1⟩, st1⟩ := X0.specialBack hx (y := y_15) rfl hown (mvT hZ (W 152 rfl)) (mvT hZ (W 109 rfl)) (mvT hZ (W 112 rfl)) (by decide) (backOf (W := 0) (recinit l Z a0 hw [] a h0 n0 O ) hZ (W 112 rfl) (W 111 rfl) (by decide) (by decide)) (g := (mkF m 1 #[rv a, rv r0, rv r1, rv r2, rv r3, rv r4] [.ref a])) rfl (by rw [hml]; rfl) (Steps.refl _) (a := a) (argsL := []) (rest := []) (lenOf pd_0 rfl) rfl (by show 2 * 0 + _ ≤ _; exact Nat.le_of_eq rfl) (hb hby d22_1) (fun _ _ => ⟨rfl, e0, (by decide : 0 + 0 ≤ _), (by decide : 0 + 0 ≤ _)⟩)
  dsimp only [Pt.U, Pt.locs, Pt.cells, Pt.slots] at X1 l1 y1 z1 st1 hQ1
  subst l1 y1 z1
  obtain ⟨h1, e1⟩ : ∃ z, T1.heap = z := ⟨_, rfl⟩
  rw [e1] at hQ1
  obtain ⟨rfl, N1q, p1_0⟩ := hQ1
  have N1 := Fr.app N0 N1q
  rw [p1_0] at e1
  obtain ⟨T2, h2, X2, e2, W2, st2⟩ := putF X1 hx hZ hown (host := "") (Or.inl (W 153 rfl)) Via.refl e1 F0 Ea (Or.inr ⟨(W 154 rfl), rfl, hnm⟩) (W 127 rfl) (ty := (.object "com/example/latchkey/latchkey/ScaffoldOffer$Status")) (by decide) rfl rfl (g := (mkF m 6 #[rv a, rv r0, rv r1, rv r2, rv r3, rv r4] [.ref r0, .ref a])) rfl rfl (hb hby d22_6)
  have Fz2 := F0.same W2
  have Ea := Ea.wr W2
  have F1 := F1.other W2 (Or.inr (slot_ne (Or.inr (W 134 rfl)) (Or.inr (W 154 rfl)) (by decide) (t := (.object "java/util/Optional")) (t' := (.object "com/example/latchkey/latchkey/ScaffoldOffer$Status")) (by decide) (by decide)))
  have F2 := F2.other W2 (Or.inr (slot_ne (Or.inr (W 141 rfl)) (Or.inr (W 154 rfl)) (by decide) (t := (.object "java/util/Optional")) (t' := (.object "com/example/latchkey/latchkey/ScaffoldOffer$Status")) (by decide) (by decide)))
  have F3 := F3.other W2 (Or.inr (slot_ne (Or.inr (W 148 rfl)) (Or.inr (W 154 rfl)) (by decide) (t := (.object "java/util/Optional")) (t' := (.object "com/example/latchkey/latchkey/ScaffoldOffer$Status")) (by decide) (by decide)))
  have F4 := F4.other W2 (Or.inr (slot_ne (Or.inr (W 156 rfl)) (Or.inr (W 154 rfl)) (by decide) (t := (.object "java/util/List")) (t' := (.object "com/example/latchkey/latchkey/ScaffoldOffer$Status")) (by decide) (by decide)))
  have K4 := K0.wr W2 (Or.inl (List.mem_of_getElem? (i := 0) rfl))
  have N5 := Fr.snoc X2 N1 ga
  obtain ⟨T6, h6, X6, e6, W6, st6⟩ := putF X2 hx hZ hown (host := "") (Or.inl (W 133 rfl)) Via.refl e2 F1 Ea (Or.inr ⟨(W 134 rfl), rfl, hnm⟩) (W 127 rfl) (ty := (.object "java/util/Optional")) (by decide) rfl rfl (g := (mkF m 11 #[rv a, rv r0, rv r1, rv r2, rv r3, rv r4] [.ref r1, .ref a])) rfl rfl (hb hby d22_11)
  have Ea := Ea.wr W6
  have F2 := F2.other W6 (Or.inr (slot_ne (Or.inr (W 141 rfl)) (Or.inr (W 134 rfl)) (by decide) (t := (.object "java/util/Optional")) (t' := (.object "java/util/Optional")) (by decide) (by decide)))
  have F3 := F3.other W6 (Or.inr (slot_ne (Or.inr (W 148 rfl)) (Or.inr (W 134 rfl)) (by decide) (t := (.object "java/util/Optional")) (t' := (.object "java/util/Optional")) (by decide) (by decide)))
  have F4 := F4.other W6 (Or.inr (slot_ne (Or.inr (W 156 rfl)) (Or.inr (W 134 rfl)) (by decide) (t := (.object "java/util/List")) (t' := (.object "java/util/Optional")) (by decide) (by decide)))
  have Fz2 := Fz2.other W6 (Or.inr (slot_ne (Or.inr (W 154 rfl)) (Or.inr (W 134 rfl)) (by decide) (t := (.object "com/example/latchkey/latchkey/ScaffoldOffer$Status")) (t' := (.object "java/util/Optional")) (by decide) (by decide)))
  have K8 := K4.wr W6 (Or.inl (List.mem_of_getElem? (i := 0) rfl))
  have N9 := Fr.snoc X6 N5 ga
  obtain ⟨T10, h10, X10, e10, W10, st10⟩ := putF X6 hx hZ hown (host := "") (Or.inl (W 140 rfl)) Via.refl e6 F2 Ea (Or.inr ⟨(W 141 rfl), rfl, hnm⟩) (W 127 rfl) (ty := (.object "java/util/Optional")) (by decide) rfl rfl (g := (mkF m 16 #[rv a, rv r0, rv r1, rv r2, rv r3, rv r4] [.ref r2, .ref a])) rfl rfl (hb hby d22_16)
  have Ea := Ea.wr W10
  have F3 := F3.other W10 (Or.inr (slot_ne (Or.inr (W 148 rfl)) (Or.inr (W 141 rfl)) (by decide) (t := (.object "java/util/Optional")) (t' := (.object "java/util/Optional")) (by decide) (by decide)))
  have F4 := F4.other W10 (Or.inr (slot_ne (Or.inr (W 156 rfl)) (Or.inr (W 141 rfl)) (by decide) (t := (.object "java/util/List")) (t' := (.object "java/util/Optional")) (by decide) (by decide)))
  have Fz2 := Fz2.other W10 (Or.inr (slot_ne (Or.inr (W 154 rfl)) (Or.inr (W 141 rfl)) (by decide) (t := (.object "com/example/latchkey/latchkey/ScaffoldOffer$Status")) (t' := (.object "java/util/Optional")) (by decide) (by decide)))
  have K12 := K8.wr W10 (Or.inl (List.mem_of_getElem? (i := 0) rfl))
  have N13 := Fr.snoc X10 N9 ga
  obtain ⟨T14, h14, X14, e14, W14, st14⟩ := putF X10 hx hZ hown (host := "") (Or.inl (W 147 rfl)) Via.refl e10 F3 Ea (Or.inr ⟨(W 148 rfl), rfl, hnm⟩) (W 127 rfl) (ty := (.object "java/util/Optional")) (by decide) rfl rfl (g := (mkF m 22 #[rv a, rv r0, rv r1, rv r2, rv r3, rv r4] [.ref r3, .ref a])) rfl rfl (hb hby d22_22)
  have Ea := Ea.wr W14
  have F4 := F4.other W14 (Or.inr (slot_ne (Or.inr (W 156 rfl)) (Or.inr (W 148 rfl)) (by decide) (t := (.object "java/util/List")) (t' := (.object "java/util/Optional")) (by decide) (by decide)))
  have Fz2 := Fz2.other W14 (Or.inr (slot_ne (Or.inr (W 154 rfl)) (Or.inr (W 148 rfl)) (by decide) (t := (.object "com/example/latchkey/latchkey/ScaffoldOffer$Status")) (t' := (.object "java/util/Optional")) (by decide) (by decide)))
  have K16 := K12.wr W14 (Or.inl (List.mem_of_getElem? (i := 0) rfl))
  have N17 := Fr.snoc X14 N13 ga
  obtain ⟨T18, h18, X18, e18, W18, st18⟩ := putF X14 hx hZ hown (host := "") (Or.inl (W 155 rfl)) Via.refl e14 F4 Ea (Or.inr ⟨(W 156 rfl), rfl, hnm⟩) (W 127 rfl) (ty := (.object "java/util/List")) (by decide) rfl rfl (g := (mkF m 28 #[rv a, rv r0, rv r1, rv r2, rv r3, rv r4] [.ref r4, .ref a])) rfl rfl (hb hby d22_28)
  have Fz2 := Fz2.other W18 (Or.inr (slot_ne (Or.inr (W 154 rfl)) (Or.inr (W 156 rfl)) (by decide) (t := (.object "com/example/latchkey/latchkey/ScaffoldOffer$Status")) (t' := (.object "java/util/List")) (by decide) (by decide)))
  have K20 := K16.wr W18 (Or.inl (List.mem_of_getElem? (i := 0) rfl))
  have N21 := Fr.snoc X18 N17 ga
  obtain ⟨fs, hr, hrun, hended, hW, hsame⟩ := X18.leave (v := none) (fun _ => rfl)
  refine ⟨_, _, pre0 _ ?_, hrun, hended, _, _, rfl, ?_, ⟨_, rfl⟩, hW, hsame.mono (by decide) (by decide)⟩
  · show Sq p e below m s₁ 0 #[rv a, rv r0, rv r1, rv r2, rv r3, rv r4] [] _
    refine XS.aloadN X0.here hx rfl (hb hby d22_0) rfl rfl ?_
    show Sq p e below m s₁ 1 #[rv a, rv r0, rv r1, rv r2, rv r3, rv r4] [.ref a] _
    refine st1.trans ?_
    show Sq p e below m T1 4 #[rv a, rv r0, rv r1, rv r2, rv r3, rv r4] [] _
    refine XS.aloadN X1.here hx rfl (hb hby d22_4) rfl rfl ?_
    refine XS.aloadN X1.here hx rfl (hb hby d22_5) rfl rfl ?_
    show Sq p e below m T1 6 #[rv a, rv r0, rv r1, rv r2, rv r3, rv r4] [.ref r0, .ref a] _
    refine st2 _ ?_
    show Sq p e below m T2 9 #[rv a, rv r0, rv r1, rv r2, rv r3, rv r4] [] _
    refine XS.aloadN X2.here hx rfl (hb hby d22_9) rfl rfl ?_
    refine XS.aloadN X2.here hx rfl (hb hby d22_10) rfl rfl ?_
    show Sq p e below m T2 11 #[rv a, rv r0, rv r1, rv r2, rv r3, rv r4] [.ref r1, .ref a] _
    refine st6 _ ?_
    show Sq p e below m T6 14 #[rv a, rv r0, rv r1, rv r2, rv r3, rv r4] [] _
    refine XS.aloadN X6.here hx rfl (hb hby d22_14) rfl rfl ?_
    refine XS.aloadN X6.here hx rfl (hb hby d22_15) rfl rfl ?_
    show Sq p e below m T6 16 #[rv a, rv r0, rv r1, rv r2, rv r3, rv r4] [.ref r2, .ref a] _
    refine st10 _ ?_
    show Sq p e below m T10 19 #[rv a, rv r0, rv r1, rv r2, rv r3, rv r4] [] _
    refine XS.aloadN X10.here hx rfl (hb hby d22_19) rfl rfl ?_
    refine XS.aload X10.here hx rfl (hb hby d22_20) rfl rfl ?_
    show Sq p e below m T10 22 #[rv a, rv r0, rv r1, rv r2, rv r3, rv r4] [.ref r3, .ref a] _
    refine st14 _ ?_
    show Sq p e below m T14 25 #[rv a, rv r0, rv r1, rv r2, rv r3, rv r4] [] _
    refine XS.aloadN X14.here hx rfl (hb hby d22_25) rfl rfl ?_
    refine XS.aload X14.here hx rfl (hb hby d22_26) rfl rfl ?_
    show Sq p e below m T14 28 #[rv a, rv r0, rv r1, rv r2, rv r3, rv r4] [.ref r4, .ref a] _
    refine st18 _ ?_
    show Sq p e below m T18 31 #[rv a, rv r0, rv r1, rv r2, rv r3, rv r4] [] _
    exact X18.returnOut hx Bd.returns (hb hby d22_31) hr
  · show Q_soinit Z a r0 r1 r2 r3 r4 h0 n0 _ T18.heap _
    rw [e18]
    exact ⟨rfl, N21, K20, Fz2⟩
theorem d17_0 : decode prog_62_method_2_code 0 = .ok (.aload_n 0, 1) := by decide +kernel
theorem d17_1 : decode prog_62_method_2_code 1 = .ok (.invokespecial 1, 3) := by decide +kernel
theorem d17_4 : decode prog_62_method_2_code 4 = .ok (.aload_n 0, 1) := by decide +kernel
theorem d17_5 : decode prog_62_method_2_code 5 = .ok (.aload_n 1, 1) := by decide +kernel
theorem d17_6 : decode prog_62_method_2_code 6 = .ok (.putfield 7, 3) := by decide +kernel
theorem d17_9 : decode prog_62_method_2_code 9 = .ok (.aload_n 0, 1) := by decide +kernel
theorem d17_10 : decode prog_62_method_2_code 10 = .ok (.aload_n 2, 1) := by decide +kernel
theorem d17_11 : decode prog_62_method_2_code 11 = .ok (.putfield 13, 3) := by decide +kernel
theorem d17_14 : decode prog_62_method_2_code 14 = .ok (.aload_n 0, 1) := by decide +kernel
theorem d17_15 : decode prog_62_method_2_code 15 = .ok (.aload_n 3, 1) := by decide +kernel
theorem d17_16 : decode prog_62_method_2_code 16 = .ok (.putfield 16, 3) := by decide +kernel
theorem d17_19 : decode prog_62_method_2_code 19 = .ok (.aload_n 0, 1) := by decide +kernel
theorem d17_20 : decode prog_62_method_2_code 20 = .ok (.aload 4, 2) := by decide +kernel
theorem d17_22 : decode prog_62_method_2_code 22 = .ok (.putfield 20, 3) := by decide +kernel
theorem d17_25 : decode prog_62_method_2_code 25 = .ok (.return_, 1) := by decide +kernel
def Q_kinit4 (Z : State) (a : Addr) (r0 : Addr) (r1 : Addr) (r2 : Addr) (r3 : Addr) (h0 : Heap) (n0 : Nat) (v : Option Value) (h : Heap) (L : List Loc) : Prop := v = none ∧ Fr n0 L ∧ Keep h0 h [a]
theorem ef_17 (m : MethodId) (x0 : Addr) (x1 : Addr) (x2 : Addr) (x3 : Addr) (x4 : Addr) : entryFrame m #[(.ref x0), (.ref x1), (.ref x2), (.ref x3), (.ref x4)] 5 = mkF m 0 #[.val (.ref x0), .val (.ref x1), .val (.ref x2), .val (.ref x3), .val (.ref x4)] [] := by first | (simp [entryFrame, mkF, argsToLocals, Value.category]; done) | rfl
theorem pn_7 : plainName "com/example/latchkey/latchkey/ScaffoldOffer$Kind" = true := by first | (simp [plainName, overriddenIn]; done) | decide +kernel
abbrev y_17 : MethodName := ⟨"com/example/latchkey/latchkey/ScaffoldOffer$Kind", "<init>", "(Ljava/lang/String;Ljava/lang/String;Ljava/util/List;Ljava/util/List;)V"⟩
set_option maxRecDepth 65536 in
set_option maxHeartbeats 40000000 in
theorem kinit4 (l : Launch) (Z : State) (a0 : Array Value) (hw : ∀ d ∈ tables_1, d.before a0 Z = true) (ws : List Jvm.Cond) (a : Addr) (r0 : Addr) (r1 : Addr) (r2 : Addr) (r3 : Addr) (h0 : Heap) (n0 : Nat) (O : Old Z n0 h0) (Ea : Exa Z h0 a "com/example/latchkey/latchkey/ScaffoldOffer$Kind") (F0 : Fld Z h0 a "com/example/latchkey/latchkey/ScaffoldOffer$Kind" "key" "Ljava/lang/String;" .null) (F1 : Fld Z h0 a "com/example/latchkey/latchkey/ScaffoldOffer$Kind" "label" "Ljava/lang/String;" .null) (F2 : Fld Z h0 a "com/example/latchkey/latchkey/ScaffoldOffer$Kind" "entries" "Ljava/util/List;" .null) (F3 : Fld Z h0 a "com/example/latchkey/latchkey/ScaffoldOffer$Kind" "taken" "Ljava/util/List;" .null) (ga : n0 ≤ a) :
    Ctr l Z y_17 prog_62_method_2_code 5 none ws ({ frames := 2, cells := 0, slots := 0, locals := 24 } : Room) #[(.ref a), (.ref r0), (.ref r1), (.ref r2), (.ref r3)] h0 (Q_kinit4 Z a r0 r1 r2 r3 h0 n0) := by
  refine MetFree.of_bodySF (plainFor_of_name pn_7) hisR ?_
  intro p e s m args below meth c s₁ Bd hml0 hP hK
  obtain ⟨rfl, hZ, hh⟩ := hP
  have W := fun (i : Nat) {d : Jvm.Cond} (h : tables_1[i]? = some d) => hw d (List.mem_of_getElem? h)
  have hx := Bd.exec
  have hby := Bd.bytes
  have hml : c.maxLocals = 5 := hml0
  have hown : s.vm.findClass "com/example/latchkey/latchkey/ScaffoldOffer$Kind" = some m.cls := findClass_of_methodNamed Bd.named
  have hnm := (name_of_methodNamed Bd.named Bd.method).1
  have X0 : Stand p l e ({ frames := 2, cells := 0, slots := 0, locals := 24 } : Room) s m #[(.ref a), (.ref r0), (.ref r1), (.ref r2), (.ref r3)] below meth c s₁ [] 0 0 := Stand.of_body Bd
  have e0 : s₁.heap = h0 := by rw [← hh, Bd.state]; rfl
  have N0 := Fr.nil n0
  have pre0 : ∀ t, Steps p.tables e below (s₁.setTop (mkF m 0 #[.val (.ref a), .val (.ref r0), .val (.ref r1), .val (.ref r2), .val (.ref r3)] [])) t → Steps p.tables e below (s₁.setTop (entryFrame m #[(.ref a), (.ref r0), (.ref r1), (.ref r2), (.ref r3)] 5)) t := fun t kk_ => castTop (ef_17 m a r0 r1 r2 r3) kk_
  have K0 := Keep.refl h0 [a]
  obtain ⟨_, _, ⟨T1, L1, k1, n1⟩, -, X1, ⟨Lc1, hQ1, l1, y1, z1⟩, st1⟩ := X0.specialBack hx (y := y_15) rfl hown (mvT hZ (W 108 rfl)) (mvT hZ (W 109 rfl)) (mvT hZ (W 112 rfl)) (by decide) (backOf (W := 0) (recinit l Z a0 hw [] a h0 n0 O ) hZ (W 112 rfl) (W 111 rfl) (by decide) (by decide)) (g := (mkF m 1 #[rv a, rv r0, rv r1, rv r2, rv r3] [.ref a])) rfl (by rw [hml]; rfl) (Steps.refl _) (a := a) (argsL := []) (rest := []) (lenOf pd_0 rfl) rfl (by show 2 * 0 + _ ≤ _; exact Nat.le_of_eq rfl) (hb hby d17_1) (fun _ _ => ⟨rfl, e0, (by decide : 0 + 0 ≤ _), (by decide : 0 + 0 ≤ _)⟩)
  dsimp only [Pt.U, Pt.locs, Pt.cells, Pt.slots] at X1 l1 y1 z1 st1 hQ1
  subst l1 y1 z1
  obtain ⟨h1, e1⟩ : ∃ z, T1.heap = z := ⟨_, rfl⟩
  rw [e1] at hQ1
  obtain ⟨rfl, N1q, p1_0⟩ := hQ1
  have N1 := Fr.app N0 N1q
  rw [p1_0] at e1
  obtain ⟨T2, h2, X2, e2, W2, st2⟩ := putF X1 hx hZ hown (host := "") (Or.inl (W 114 rfl)) Via.refl e1 F0 Ea (Or.inr ⟨(W 115 rfl), rfl, hnm⟩) (W 94 rfl) (ty := (.object "java/lang/String")) (by decide) rfl rfl (g := (mkF m 6 #[rv a, rv r0, rv r1, rv r2, rv r3] [.ref r0, .ref a])) rfl rfl (hb hby d17_6)
  have Ea := Ea.wr W2
  have F1 := F1.other W2 (Or.inr (slot_ne (Or.inr (W 117 rfl)) (Or.inr (W 115 rfl)) (by decide) (t := (.object "java/lang/String")) (t' := (.object "java/lang/String")) (by decide) (by decide)))
  have F2 := F2.other W2 (Or.inr (slot_ne (Or.inr (W 119 rfl)) (Or.inr (W 115 rfl)) (by decide) (t := (.object "java/util/List")) (t' := (.object "java/lang/String")) (by decide) (by decide)))
  have F3 := F3.other W2 (Or.inr (slot_ne (Or.inr (W 121 rfl)) (Or.inr (W 115 rfl)) (by decide) (t := (.object "java/util/List")) (t' := (.object "java/lang/String")) (by decide) (by decide)))
  have K4 := K0.wr W2 (Or.inl (List.mem_of_getElem? (i := 0) rfl))
  have N5 := Fr.snoc X2 N1 ga
  obtain ⟨T6, h6, X6, e6, W6, st6⟩ := putF X2 hx hZ hown (host := "") (Or.inl (W 116 rfl)) Via.refl e2 F1 Ea (Or.inr ⟨(W 117 rfl), rfl, hnm⟩) (W 94 rfl) (ty := (.object "java/lang/String")) (by decide) rfl rfl (g := (mkF m 11 #[rv a, rv r0, rv r1, rv r2, rv r3] [.ref r1, .ref a])) rfl rfl (hb hby d17_11)
  have Ea := Ea.wr W6
  have F2 := F2.other W6 (Or.inr (slot_ne (Or.inr (W 119 rfl)) (Or.inr (W 117 rfl)) (by decide) (t := (.object "java/util/List")) (t' := (.object "java/lang/String")) (by decide) (by decide)))
  have F3 := F3.other W6 (Or.inr (slot_ne (Or.inr (W 121 rfl)) (Or.inr (W 117 rfl)) (by decide) (t := (.object "java/util/List")) (t' := (.object "java/lang/String")) (by decide) (by decide)))
  have K8 := K4.wr W6 (Or.inl (List.mem_of_getElem? (i := 0) rfl))
  have N9 := Fr.snoc X6 N5 ga
  obtain ⟨T10, h10, X10, e10, W10, st10⟩ := putF X6 hx hZ hown (host := "") (Or.inl (W 118 rfl)) Via.refl e6 F2 Ea (Or.inr ⟨(W 119 rfl), rfl, hnm⟩) (W 94 rfl) (ty := (.object "java/util/List")) (by decide) rfl rfl (g := (mkF m 16 #[rv a, rv r0, rv r1, rv r2, rv r3] [.ref r2, .ref a])) rfl rfl (hb hby d17_16)
  have Ea := Ea.wr W10
  have F3 := F3.other W10 (Or.inr (slot_ne (Or.inr (W 121 rfl)) (Or.inr (W 119 rfl)) (by decide) (t := (.object "java/util/List")) (t' := (.object "java/util/List")) (by decide) (by decide)))
  have K12 := K8.wr W10 (Or.inl (List.mem_of_getElem? (i := 0) rfl))
  have N13 := Fr.snoc X10 N9 ga
  obtain ⟨T14, h14, X14, e14, W14, st14⟩ := putF X10 hx hZ hown (host := "") (Or.inl (W 120 rfl)) Via.refl e10 F3 Ea (Or.inr ⟨(W 121 rfl), rfl, hnm⟩) (W 94 rfl) (ty := (.object "java/util/List")) (by decide) rfl rfl (g := (mkF m 22 #[rv a, rv r0, rv r1, rv r2, rv r3] [.ref r3, .ref a])) rfl rfl (hb hby d17_22)
  have K16 := K12.wr W14 (Or.inl (List.mem_of_getElem? (i := 0) rfl))
  have N17 := Fr.snoc X14 N13 ga
  obtain ⟨fs, hr, hrun, hended, hW, hsame⟩ := X14.leave (v := none) (fun _ => rfl)
  refine ⟨_, _, pre0 _ ?_, hrun, hended, _, _, rfl, ?_, ⟨_, rfl⟩, hW, hsame.mono (by decide) (by decide)⟩
  · show Sq p e below m s₁ 0 #[rv a, rv r0, rv r1, rv r2, rv r3] [] _
    refine XS.aloadN X0.here hx rfl (hb hby d17_0) rfl rfl ?_
    show Sq p e below m s₁ 1 #[rv a, rv r0, rv r1, rv r2, rv r3] [.ref a] _
    refine st1.trans ?_
    show Sq p e below m T1 4 #[rv a, rv r0, rv r1, rv r2, rv r3] [] _
    refine XS.aloadN X1.here hx rfl (hb hby d17_4) rfl rfl ?_
    refine XS.aloadN X1.here hx rfl (hb hby d17_5) rfl rfl ?_
    show Sq p e below m T1 6 #[rv a, rv r0, rv r1, rv r2, rv r3] [.ref r0, .ref a] _
    refine st2 _ ?_
    show Sq p e below m T2 9 #[rv a, rv r0, rv r1, rv r2, rv r3] [] _
    refine XS.aloadN X2.here hx rfl (hb hby d17_9) rfl rfl ?_
    refine XS.aloadN X2.here hx rfl (hb hby d17_10) rfl rfl ?_
    show Sq p e below m T2 11 #[rv a, rv r0, rv r1, rv r2, rv r3] [.ref r1, .ref a] _
    refine st6 _ ?_
    show Sq p e below m T6 14 #[rv a, rv r0, rv r1, rv r2, rv r3] [] _
    refine XS.aloadN X6.here hx rfl (hb hby d17_14) rfl rfl ?_
    refine XS.aloadN X6.here hx rfl (hb hby d17_15) rfl rfl ?_
    show Sq p e below m T6 16 #[rv a, rv r0, rv r1, rv r2, rv r3] [.ref r2, .ref a] _
    refine st10 _ ?_
    show Sq p e below m T10 19 #[rv a, rv r0, rv r1, rv r2, rv r3] [] _
    refine XS.aloadN X10.here hx rfl (hb hby d17_19) rfl rfl ?_
    refine XS.aload X10.here hx rfl (hb hby d17_20) rfl rfl ?_
    show Sq p e below m T10 22 #[rv a, rv r0, rv r1, rv r2, rv r3] [.ref r3, .ref a] _
    refine st14 _ ?_
    show Sq p e below m T14 25 #[rv a, rv r0, rv r1, rv r2, rv r3] [] _
    exact X14.returnOut hx Bd.returns (hb hby d17_25) hr
  · show Q_kinit4 Z a r0 r1 r2 r3 h0 n0 _ T14.heap _
    rw [e14]
    exact ⟨rfl, N17, K16⟩
theorem d16_0 : decode jdk_40_method_36_code 0 = .ok (.getstatic 90, 3) := by decide +kernel
theorem d16_3 : decode jdk_40_method_36_code 3 = .ok (.areturn, 1) := by decide +kernel
def Q_listof0 (Z : State) (w_ELIST : Addr) (h0 : Heap) (n0 : Nat) (v : Option Value) (h : Heap) (L : List Loc) : Prop := v = some (.ref w_ELIST) ∧ Fr n0 L ∧ h = h0
theorem ef_18 (m : MethodId) : entryFrame m #[] 0 = mkF m 0 #[] [] := by first | (simp [entryFrame, mkF, argsToLocals, Value.category]; done) | rfl
theorem pn_8 : plainName "java/util/List" = true := by first | (simp [plainName, overriddenIn]; done) | decide +kernel
abbrev y_18 : MethodName := ⟨"java/util/List", "of", "()Ljava/util/List;"⟩
set_option maxRecDepth 65536 in
set_option maxHeartbeats 40000000 in
theorem listof0 (l : Launch) (Z : State) (a0 : Array Value) (hw : ∀ d ∈ tables_1, d.before a0 Z = true) (ws : List Jvm.Cond) (w_ELIST : Addr) (h0 : Heap) (n0 : Nat) (O : Old Z n0 h0) (S_w_ELIST : Sta Z Z.heap "java/util/ImmutableCollections" "EMPTY_LIST" "Ljava/util/ImmutableCollections$ListN;" (.ref w_ELIST)) :
    Ctr l Z y_18 jdk_40_method_36_code 0 (some (.object "java/util/List")) ws ({ frames := 0, cells := 0, slots := 0, locals := 0 } : Room) #[] h0 (Q_listof0 Z w_ELIST h0 n0) := by
  refine MetFree.of_bodySF (plainFor_of_name pn_8) hisR ?_
  intro p e s m args below meth c s₁ Bd hml0 hP hK
  obtain ⟨rfl, hZ, hh⟩ := hP
  have W := fun (i : Nat) {d : Jvm.Cond} (h : tables_1[i]? = some d) => hw d (List.mem_of_getElem? h)
  have hx := Bd.exec
  have hby := Bd.bytes
  have hml : c.maxLocals = 0 := hml0
  have hown : s.vm.findClass "java/util/List" = some m.cls := findClass_of_methodNamed Bd.named
  have hnm := (name_of_methodNamed Bd.named Bd.method).1
  have X0 : Stand p l e ({ frames := 0, cells := 0, slots := 0, locals := 0 } : Room) s m #[] below meth c s₁ [] 0 0 := Stand.of_body Bd
  have e0 : s₁.heap = h0 := by rw [← hh, Bd.state]; rfl
  have N0 := Fr.nil n0
  have pre0 : ∀ t, Steps p.tables e below (s₁.setTop (mkF m 0 #[] [])) t → Steps p.tables e below (s₁.setTop (entryFrame m #[] 0)) t := fun t kk_ => castTop (ef_18 m ) kk_
  obtain ⟨T1, X1, e1, st1⟩ := getS2 X0 hx hZ hown (host := "") (Or.inl (W 103 rfl)) Via.refl e0 (S_w_ELIST.ext O.2) (g := (mkF m 0 #[] [])) rfl (hb hby d16_0)
  obtain ⟨fs, hr, hrun, hended, hW, hsame⟩ := X1.leave (v := some (.ref w_ELIST)) (fun h => by rw [Bd.returns] at h; cases h)
  refine ⟨_, _, pre0 _ ?_, hrun, hended, _, _, rfl, ?_, ⟨_, rfl⟩, hW, hsame.mono (by decide) (by decide)⟩
  · show Sq p e below m s₁ 0 #[] [] _
    refine st1 _ ?_
    show Sq p e below m T1 3 #[] [.ref w_ELIST] _
    jvm_step X1.here [X1.here.top, hx, (hb hby d16_3), X1.method', Bd.returns, Value.isRef, FieldType.isReference]
    first | (intro acts; rw [hr _ acts rfl rfl rfl]) | rw [hr _ _ rfl rfl rfl]
    exact Steps.refl _
  · show Q_listof0 Z w_ELIST h0 n0 _ T1.heap _
    rw [e1]
    exact ⟨rfl, N0, rfl⟩
theorem d15_0 : decode prog_62_method_1_code 0 = .ok (.aload_n 0, 1) := by decide +kernel
theorem d15_1 : decode prog_62_method_1_code 1 = .ok (.aload_n 1, 1) := by decide +kernel
theorem d15_2 : decode prog_62_method_1_code 2 = .ok (.aload_n 2, 1) := by decide +kernel
theorem d15_3 : decode prog_62_method_1_code 3 = .ok (.aload_n 3, 1) := by decide +kernel
theorem d15_4 : decode prog_62_method_1_code 4 = .ok (.invokestatic 23, 3) := by decide +kernel
theorem pd_8 : parseMethodDescriptor "()Ljava/util/List;" = some ⟨[], some (.object "java/util/List")⟩ := by decide +kernel
theorem d15_7 : decode prog_62_method_1_code 7 = .ok (.invokespecial 29, 3) := by decide +kernel
theorem pd_9 : parseMethodDescriptor "(Ljava/lang/String;Ljava/lang/String;Ljava/util/List;Ljava/util/List;)V" = some ⟨[(.object "java/lang/String"), (.object "java/lang/String"), (.object "java/util/List"), (.object "java/util/List")], none⟩ := by decide +kernel
theorem d15_10 : decode prog_62_method_1_code 10 = .ok (.return_, 1) := by decide +kernel
def Q_kinit3 (Z : State) (a : Addr) (r0 : Addr) (r1 : Addr) (r2 : Addr) (w_ELIST : Addr) (h0 : Heap) (n0 : Nat) (v : Option Value) (h : Heap) (L : List Loc) : Prop := v = none ∧ Fr n0 L ∧ Keep h0 h [a]
theorem ef_19 (m : MethodId) (x0 : Addr) (x1 : Addr) (x2 : Addr) (x3 : Addr) : entryFrame m #[(.ref x0), (.ref x1), (.ref x2), (.ref x3)] 4 = mkF m 0 #[.val (.ref x0), .val (.ref x1), .val (.ref x2), .val (.ref x3)] [] := by first | (simp [entryFrame, mkF, argsToLocals, Value.category]; done) | rfl
abbrev y_19 : MethodName := ⟨"com/example/latchkey/latchkey/ScaffoldOffer$Kind", "<init>", "(Ljava/lang/String;Ljava/lang/String;Ljava/util/List;)V"⟩
set_option maxRecDepth 65536 in
set_option maxHeartbeats 40000000 in
theorem kinit3 (l : Launch) (Z : State) (a0 : Array Value) (hw : ∀ d ∈ tables_1, d.before a0 Z = true) (ws : List Jvm.Cond) (a : Addr) (r0 : Addr) (r1 : Addr) (r2 : Addr) (w_ELIST : Addr) (h0 : Heap) (n0 : Nat) (O : Old Z n0 h0) (Ea : Exa Z h0 a "com/example/latchkey/latchkey/ScaffoldOffer$Kind") (F0 : Fld Z h0 a "com/example/latchkey/latchkey/ScaffoldOffer$Kind" "key" "Ljava/lang/String;" .null) (F1 : Fld Z h0 a "com/example/latchkey/latchkey/ScaffoldOffer$Kind" "label" "Ljava/lang/String;" .null) (F2 : Fld Z h0 a "com/example/latchkey/latchkey/ScaffoldOffer$Kind" "entries" "Ljava/util/List;" .null) (F3 : Fld Z h0 a "com/example/latchkey/latchkey/ScaffoldOffer$Kind" "taken" "Ljava/util/List;" .null) (ga : n0 ≤ a) (S_w_ELIST : Sta Z Z.heap "java/util/ImmutableCollections" "EMPTY_LIST" "Ljava/util/ImmutableCollections$ListN;" (.ref w_ELIST)) :
    Ctr l Z y_19 prog_62_method_1_code 4 none ws ({ frames := 3, cells := 0, slots := 0, locals := 40 } : Room) #[(.ref a), (.ref r0), (.ref r1), (.ref r2)] h0 (Q_kinit3 Z a r0 r1 r2 w_ELIST h0 n0) := by
  refine MetFree.of_bodySF (plainFor_of_name pn_7) hisR ?_
  intro p e s m args below meth c s₁ Bd hml0 hP hK
  obtain ⟨rfl, hZ, hh⟩ := hP
  have W := fun (i : Nat) {d : Jvm.Cond} (h : tables_1[i]? = some d) => hw d (List.mem_of_getElem? h)
  have hx := Bd.exec
  have hby := Bd.bytes
  have hml : c.maxLocals = 4 := hml0
  have hown : s.vm.findClass "com/example/latchkey/latchkey/ScaffoldOffer$Kind" = some m.cls := findClass_of_methodNamed Bd.named
  have hnm := (name_of_methodNamed Bd.named Bd.method).1
  have X0 : Stand p l e ({ frames := 3, cells := 0, slots := 0, locals := 40 } : Room) s m #[(.ref a), (.ref r0), (.ref r1), (.ref r2)] below meth c s₁ [] 0 0 := Stand.of_body Bd
  have e0 : s₁.heap = h0 := by rw [← hh, Bd.state]; rfl
  have N0 := Fr.nil n0
  have pre0 : ∀ t, Steps p.tables e below (s₁.setTop (mkF m 0 #[.val (.ref a), .val (.ref r0), .val (.ref r1), .val (.ref r2)] [])) t → Steps p.tables e below (s₁.setTop (entryFrame m #[(.ref a), (.ref r0), (.ref r1), (.ref r2)] 4)) t := fun t kk_ => castTop (ef_19 m a r0 r1 r2) kk_
  have K0 := Keep.refl h0 [a]
  obtain ⟨_, _, ⟨T1, L1, k1, n1⟩, -, X1, ⟨Lc1, hQ1, l1, y1, z1⟩, st1⟩ := Jvm.LawKit.callS X0 hx (y := y_18) hown (mvT hZ (W 99 rfl)) (mvT hZ (W 100 rfl)) (mvT hZ (W 101 rfl)) (mvT hZ (W 102 rfl)) (by decide) (backOf (W := 4) (listof0 l Z a0 hw [] w_ELIST h0 n0 O S_w_ELIST) hZ (W 102 rfl) (W 101 rfl) (by decide) (by decide)) (g := (mkF m 4 #[rv a, rv r0, rv r1, rv r2] [.ref r2, .ref r1, .ref r0, .ref a])) rfl (by rw [hml]; rfl) (argsL := []) (rest := [.ref r2, .ref r1, .ref r0, .ref a]) (lenOf pd_8 rfl) rfl (by show 2 * 0 + _ ≤ _; exact Nat.le_of_eq rfl) (hb hby d15_4) (fun _ _ => ⟨rfl, e0, (by decide : 0 + 0 ≤ _), (by decide : 0 + 0 ≤ _)⟩)
  dsimp only [Pt.U, Pt.locs, Pt.cells, Pt.slots] at X1 l1 y1 z1 st1 hQ1
  subst l1 y1 z1
  obtain ⟨h1, e1⟩ : ∃ z, T1.heap = z := ⟨_, rfl⟩
  rw [e1] at hQ1
  obtain ⟨rfl, N1q, p1_0⟩ := hQ1
  have N1 := Fr.app N0 N1q
  rw [p1_0] at e1
  obtain ⟨_, _, ⟨T2, L2, k2, n2⟩, -, X2, ⟨Lc2, hQ2, l2, y2, z2⟩, st2⟩ := X1.specialBack hx (y := y_17) rfl hown (mvT hZ (W 105 rfl)) (mvT hZ (W 106 rfl)) (mvT hZ (W 107 rfl)) (by decide) (backOf (W := 0) (kinit4 l Z a0 hw [] a r0 r1 r2 w_ELIST h0 n0 O Ea F0 F1 F2 F3 ga) hZ (W 107 rfl) (W 95 rfl) (by decide) (by decide)) (g := (mkF m 7 #[rv a, rv r0, rv r1, rv r2] [.ref w_ELIST, .ref r2, .ref r1, .ref r0, .ref a])) rfl (by rw [hml]; rfl) (Steps.refl _) (a := a) (argsL := [.ref r0, .ref r1, .ref r2, .ref w_ELIST]) (rest := []) (lenOf pd_9 rfl) rfl (by show 2 * 0 + _ ≤ _; exact Nat.le_of_eq rfl) (hb hby d15_7) (fun _ _ => ⟨rfl, e1, (by decide : 0 + 0 ≤ _), (by decide : 0 + 0 ≤ _)⟩)
  dsimp only [Pt.U, Pt.locs, Pt.cells, Pt.slots] at X2 l2 y2 z2 st2 hQ2
  subst l2 y2 z2
  obtain ⟨h2, e2⟩ : ∃ z, T2.heap = z := ⟨_, rfl⟩
  rw [e2] at hQ2
  obtain ⟨rfl, N2q, p2_0⟩ := hQ2
  have N2 := Fr.app N1 N2q
  have K4 := K0.trans p2_0 (allS (Or.inl (List.mem_of_getElem? (i := 0) rfl)) all0)
  obtain ⟨fs, hr, hrun, hended, hW, hsame⟩ := X2.leave (v := none) (fun _ => rfl)
  refine ⟨_, _, pre0 _ ?_, hrun, hended, _, _, rfl, ?_, ⟨_, rfl⟩, hW, hsame.mono (by decide) (by decide)⟩
  · show Sq p e below m s₁ 0 #[rv a, rv r0, rv r1, rv r2] [] _
    refine XS.aloadN X0.here hx rfl (hb hby d15_0) rfl rfl ?_
    refine XS.aloadN X0.here hx rfl (hb hby d15_1) rfl rfl ?_
    show Sq p e below m s₁ 2 #[rv a, rv r0, rv r1, rv r2] [.ref r0, .ref a] _
    refine XS.aloadN X0.here hx rfl (hb hby d15_2) rfl rfl ?_
    refine XS.aloadN X0.here hx rfl (hb hby d15_3) rfl rfl ?_
    show Sq p e below m s₁ 4 #[rv a, rv r0, rv r1, rv r2] [.ref r2, .ref r1, .ref r0, .ref a] _
    refine st1 _ ?_
    show Sq p e below m T1 7 #[rv a, rv r0, rv r1, rv r2] [.ref w_ELIST, .ref r2, .ref r1, .ref r0, .ref a] _
    refine st2.trans ?_
    show Sq p e below m T2 10 #[rv a, rv r0, rv r1, rv r2] [] _
    exact X2.returnOut hx Bd.returns (hb hby d15_10) hr
  · show Q_kinit3 Z a r0 r1 r2 w_ELIST h0 n0 _ T2.heap _
    rw [e2]
    exact ⟨rfl, N2, K4⟩
theorem d1_0 : decode method_2_code 0 = .ok (.iload_n 0, 1) := by decide +kernel
theorem d1_1 : decode method_2_code 1 = .ok (.ifCond .ne 7, 3) := by decide +kernel
theorem d1_4 : decode method_2_code 4 = .ok (.getstatic 7, 3) := by decide +kernel
theorem d1_7 : decode method_2_code 7 = .ok (.areturn, 1) := by decide +kernel
theorem d1_8 : decode method_2_code 8 = .ok (.iload_n 0, 1) := by decide +kernel
theorem d1_9 : decode method_2_code 9 = .ok (.iconst 1, 1) := by decide +kernel
theorem d1_10 : decode method_2_code 10 = .ok (.if_icmp .ne 7, 3) := by decide +kernel
theorem d1_13 : decode method_2_code 13 = .ok (.getstatic 13, 3) := by decide +kernel
theorem d1_16 : decode method_2_code 16 = .ok (.areturn, 1) := by decide +kernel
theorem d1_17 : decode method_2_code 17 = .ok (.iload_n 0, 1) := by decide +kernel
theorem d1_18 : decode method_2_code 18 = .ok (.iconst 2, 1) := by decide +kernel
theorem d1_19 : decode method_2_code 19 = .ok (.if_icmp .ne 7, 3) := by decide +kernel
theorem d1_22 : decode method_2_code 22 = .ok (.getstatic 16, 3) := by decide +kernel
theorem d1_25 : decode method_2_code 25 = .ok (.areturn, 1) := by decide +kernel
theorem d1_26 : decode method_2_code 26 = .ok (.iload_n 0, 1) := by decide +kernel
theorem d1_27 : decode method_2_code 27 = .ok (.iconst 3, 1) := by decide +kernel
theorem d1_28 : decode method_2_code 28 = .ok (.if_icmp .ne 7, 3) := by decide +kernel
theorem d1_31 : decode method_2_code 31 = .ok (.getstatic 19, 3) := by decide +kernel
theorem d1_34 : decode method_2_code 34 = .ok (.areturn, 1) := by decide +kernel
theorem d1_35 : decode method_2_code 35 = .ok (.getstatic 22, 3) := by decide +kernel
theorem d1_38 : decode method_2_code 38 = .ok (.areturn, 1) := by decide +kernel
def Q_pick (Z : State) (k : Int32) (w_NONE : Addr) (w_DECLINED : Addr) (w_OFFERED : Addr) (w_TAKEN : Addr) (w_SKIPPED : Addr) (h0 : Heap) (n0 : Nat) (v : Option Value) (h : Heap) (L : List Loc) : Prop := v = some (.ref (own_pick k w_NONE w_DECLINED w_OFFERED w_TAKEN w_SKIPPED)) ∧ Fr n0 L ∧ h = h0
theorem ef_20 (m : MethodId) (x0 : Int32) : entryFrame m #[(.int x0)] 1 = mkF m 0 #[.val (.int x0)] [] := by first | (simp [entryFrame, mkF, argsToLocals, Value.category]; done) | rfl
theorem pn_9 : plainName "com/example/latchkey/latchkey/ScaffoldOfferWaitsPinLaw" = true := by first | (simp [plainName, overriddenIn]; done) | decide +kernel
abbrev y_20 : MethodName := ⟨"com/example/latchkey/latchkey/ScaffoldOfferWaitsPinLaw", "statusAt", "(I)Lcom/example/latchkey/latchkey/ScaffoldOffer$Status;"⟩
set_option maxRecDepth 65536 in
set_option maxHeartbeats 40000000 in
theorem pick_0 (l : Launch) (Z : State) (a0 : Array Value) (hw : ∀ d ∈ tables_1, d.before a0 Z = true) (ws : List Jvm.Cond) (k : Int32) (w_NONE : Addr) (w_DECLINED : Addr) (w_OFFERED : Addr) (w_TAKEN : Addr) (w_SKIPPED : Addr) (h0 : Heap) (n0 : Nat) (O : Old Z n0 h0) (S_w_NONE : Sta Z Z.heap "com/example/latchkey/latchkey/ScaffoldOffer$Status" "NONE" "Lcom/example/latchkey/latchkey/ScaffoldOffer$Status;" (.ref w_NONE)) (S_w_DECLINED : Sta Z Z.heap "com/example/latchkey/latchkey/ScaffoldOffer$Status" "DECLINED" "Lcom/example/latchkey/latchkey/ScaffoldOffer$Status;" (.ref w_DECLINED)) (S_w_OFFERED : Sta Z Z.heap "com/example/latchkey/latchkey/ScaffoldOffer$Status" "OFFERED" "Lcom/example/latchkey/latchkey/ScaffoldOffer$Status;" (.ref w_OFFERED)) (S_w_TAKEN : Sta Z Z.heap "com/example/latchkey/latchkey/ScaffoldOffer$Status" "TAKEN" "Lcom/example/latchkey/latchkey/ScaffoldOffer$Status;" (.ref w_TAKEN)) (S_w_SKIPPED : Sta Z Z.heap "com/example/latchkey/latchkey/ScaffoldOffer$Status" "SKIPPED" "Lcom/example/latchkey/latchkey/ScaffoldOffer$Status;" (.ref w_SKIPPED)) (hc1 : k = (0 : Int32)) :
    Ctr l Z y_20 method_2_code 1 (some (.object "com/example/latchkey/latchkey/ScaffoldOffer$Status")) ws ({ frames := 0, cells := 0, slots := 0, locals := 0 } : Room) #[(.int k)] h0 (Q_pick Z k w_NONE w_DECLINED w_OFFERED w_TAKEN w_SKIPPED h0 n0) := by
  refine MetFree.of_bodySF (plainFor_of_name pn_9) hisR ?_
  intro p e s m args below meth c s₁ Bd hml0 hP hK
  obtain ⟨rfl, hZ, hh⟩ := hP
  have W := fun (i : Nat) {d : Jvm.Cond} (h : tables_1[i]? = some d) => hw d (List.mem_of_getElem? h)
  have hx := Bd.exec
  have hby := Bd.bytes
  have hml : c.maxLocals = 1 := hml0
  have hown : s.vm.findClass "com/example/latchkey/latchkey/ScaffoldOfferWaitsPinLaw" = some m.cls := findClass_of_methodNamed Bd.named
  have hnm := (name_of_methodNamed Bd.named Bd.method).1
  have X0 : Stand p l e ({ frames := 0, cells := 0, slots := 0, locals := 0 } : Room) s m #[(.int k)] below meth c s₁ [] 0 0 := Stand.of_body Bd
  have e0 : s₁.heap = h0 := by rw [← hh, Bd.state]; rfl
  have N0 := Fr.nil n0
  have pre0 : ∀ t, Steps p.tables e below (s₁.setTop (mkF m 0 #[.val (.int k)] [])) t → Steps p.tables e below (s₁.setTop (entryFrame m #[(.int k)] 1)) t := fun t kk_ => castTop (ef_20 m k) kk_
  obtain ⟨T1, X1, e1, st1⟩ := getS2 X0 hx hZ hown (host := "") (Or.inl (W 5 rfl)) Via.refl e0 (S_w_NONE.ext O.2) (g := (mkF m 4 #[iv k] [])) rfl (hb hby d1_4)
  obtain ⟨fs, hr, hrun, hended, hW, hsame⟩ := X1.leave (v := some (.ref w_NONE)) (fun h => by rw [Bd.returns] at h; cases h)
  refine ⟨_, _, pre0 _ ?_, hrun, hended, _, _, rfl, ?_, ⟨_, rfl⟩, hW, hsame.mono (by decide) (by decide)⟩
  · show Sq p e below m s₁ 0 #[iv k] [] _
    refine XS.iloadN X0.here hx rfl (hb hby d1_0) rfl ?_
    refine XS.ifNo X0.here hx rfl (hb hby d1_1) rfl ((if0 _ _).trans (teq hc1).2) ?_
    show Sq p e below m s₁ 4 #[iv k] [] _
    refine st1 _ ?_
    show Sq p e below m T1 7 #[iv k] [.ref w_NONE] _
    jvm_step X1.here [X1.here.top, hx, (hb hby d1_7), X1.method', Bd.returns, Value.isRef, FieldType.isReference]
    first | (intro acts; rw [hr _ acts rfl rfl rfl]) | rw [hr _ _ rfl rfl rfl]
    exact Steps.refl _
  · show Q_pick Z k w_NONE w_DECLINED w_OFFERED w_TAKEN w_SKIPPED h0 n0 _ T1.heap _
    rw [e1]
    exact ⟨(by rw [own_pick, if_pos hc1]), N0, rfl⟩
set_option maxRecDepth 65536 in
set_option maxHeartbeats 40000000 in
theorem pick_1 (l : Launch) (Z : State) (a0 : Array Value) (hw : ∀ d ∈ tables_1, d.before a0 Z = true) (ws : List Jvm.Cond) (k : Int32) (w_NONE : Addr) (w_DECLINED : Addr) (w_OFFERED : Addr) (w_TAKEN : Addr) (w_SKIPPED : Addr) (h0 : Heap) (n0 : Nat) (O : Old Z n0 h0) (S_w_NONE : Sta Z Z.heap "com/example/latchkey/latchkey/ScaffoldOffer$Status" "NONE" "Lcom/example/latchkey/latchkey/ScaffoldOffer$Status;" (.ref w_NONE)) (S_w_DECLINED : Sta Z Z.heap "com/example/latchkey/latchkey/ScaffoldOffer$Status" "DECLINED" "Lcom/example/latchkey/latchkey/ScaffoldOffer$Status;" (.ref w_DECLINED)) (S_w_OFFERED : Sta Z Z.heap "com/example/latchkey/latchkey/ScaffoldOffer$Status" "OFFERED" "Lcom/example/latchkey/latchkey/ScaffoldOffer$Status;" (.ref w_OFFERED)) (S_w_TAKEN : Sta Z Z.heap "com/example/latchkey/latchkey/ScaffoldOffer$Status" "TAKEN" "Lcom/example/latchkey/latchkey/ScaffoldOffer$Status;" (.ref w_TAKEN)) (S_w_SKIPPED : Sta Z Z.heap "com/example/latchkey/latchkey/ScaffoldOffer$Status" "SKIPPED" "Lcom/example/latchkey/latchkey/ScaffoldOffer$Status;" (.ref w_SKIPPED)) (hc1 : ¬ (k = (0 : Int32))) (hc10 : k = (1 : Int32)) :
    Ctr l Z y_20 method_2_code 1 (some (.object "com/example/latchkey/latchkey/ScaffoldOffer$Status")) ws ({ frames := 0, cells := 0, slots := 0, locals := 0 } : Room) #[(.int k)] h0 (Q_pick Z k w_NONE w_DECLINED w_OFFERED w_TAKEN w_SKIPPED h0 n0) := by
  refine MetFree.of_bodySF (plainFor_of_name pn_9) hisR ?_
  intro p e s m args below meth c s₁ Bd hml0 hP hK
  obtain ⟨rfl, hZ, hh⟩ := hP
  have W := fun (i : Nat) {d : Jvm.Cond} (h : tables_1[i]? = some d) => hw d (List.mem_of_getElem? h)
  have hx := Bd.exec
  have hby := Bd.bytes
  have hml : c.maxLocals = 1 := hml0
  have hown : s.vm.findClass "com/example/latchkey/latchkey/ScaffoldOfferWaitsPinLaw" = some m.cls := findClass_of_methodNamed Bd.named
  have hnm := (name_of_methodNamed Bd.named Bd.method).1
  have X0 : Stand p l e ({ frames := 0, cells := 0, slots := 0, locals := 0 } : Room) s m #[(.int k)] below meth c s₁ [] 0 0 := Stand.of_body Bd
  have e0 : s₁.heap = h0 := by rw [← hh, Bd.state]; rfl
  have N0 := Fr.nil n0
  have pre0 : ∀ t, Steps p.tables e below (s₁.setTop (mkF m 0 #[.val (.int k)] [])) t → Steps p.tables e below (s₁.setTop (entryFrame m #[(.int k)] 1)) t := fun t kk_ => castTop (ef_20 m k) kk_
  obtain ⟨T1, X1, e1, st1⟩ := getS2 X0 hx hZ hown (host := "") (Or.inl (W 164 rfl)) Via.refl e0 (S_w_DECLINED.ext O.2) (g := (mkF m 13 #[iv k] [])) rfl (hb hby d1_13)
  obtain ⟨fs, hr, hrun, hended, hW, hsame⟩ := X1.leave (v := some (.ref w_DECLINED)) (fun h => by rw [Bd.returns] at h; cases h)
  refine ⟨_, _, pre0 _ ?_, hrun, hended, _, _, rfl, ?_, ⟨_, rfl⟩, hW, hsame.mono (by decide) (by decide)⟩
  · show Sq p e below m s₁ 0 #[iv k] [] _
    refine XS.iloadN X0.here hx rfl (hb hby d1_0) rfl ?_
    refine XS.ifYes X0.here hx rfl (pc0 := 1) (pc' := 8) rfl (hb hby d1_1) rfl ((if0 _ _).trans (feq hc1).2) (by decide) (by decide) ?_
    show Sq p e below m s₁ 8 #[iv k] [] _
    refine XS.iloadN X0.here hx rfl (hb hby d1_8) rfl ?_
    refine XS.iconst X0.here hx rfl (hb hby d1_9) ?_
    show Sq p e below m s₁ 10 #[iv k] [.int 1, .int k] _
    refine XS.icmpNo X0.here hx rfl (hb hby d1_10) rfl (teq hc10).2 ?_
    show Sq p e below m s₁ 13 #[iv k] [] _
    refine st1 _ ?_
    show Sq p e below m T1 16 #[iv k] [.ref w_DECLINED] _
    jvm_step X1.here [X1.here.top, hx, (hb hby d1_16), X1.method', Bd.returns, Value.isRef, FieldType.isReference]
    first | (intro acts; rw [hr _ acts rfl rfl rfl]) | rw [hr _ _ rfl rfl rfl]
    exact Steps.refl _
  · show Q_pick Z k w_NONE w_DECLINED w_OFFERED w_TAKEN w_SKIPPED h0 n0 _ T1.heap _
    rw [e1]
    exact ⟨(by rw [own_pick, if_neg hc1, if_pos hc10]), N0, rfl⟩
set_option maxRecDepth 65536 in
set_option maxHeartbeats 40000000 in
theorem pick_2 (l : Launch) (Z : State) (a0 : Array Value) (hw : ∀ d ∈ tables_1, d.before a0 Z = true) (ws : List Jvm.Cond) (k : Int32) (w_NONE : Addr) (w_DECLINED : Addr) (w_OFFERED : Addr) (w_TAKEN : Addr) (w_SKIPPED : Addr) (h0 : Heap) (n0 : Nat) (O : Old Z n0 h0) (S_w_NONE : Sta Z Z.heap "com/example/latchkey/latchkey/ScaffoldOffer$Status" "NONE" "Lcom/example/latchkey/latchkey/ScaffoldOffer$Status;" (.ref w_NONE)) (S_w_DECLINED : Sta Z Z.heap "com/example/latchkey/latchkey/ScaffoldOffer$Status" "DECLINED" "Lcom/example/latchkey/latchkey/ScaffoldOffer$Status;" (.ref w_DECLINED)) (S_w_OFFERED : Sta Z Z.heap "com/example/latchkey/latchkey/ScaffoldOffer$Status" "OFFERED" "Lcom/example/latchkey/latchkey/ScaffoldOffer$Status;" (.ref w_OFFERED)) (S_w_TAKEN : Sta Z Z.heap "com/example/latchkey/latchkey/ScaffoldOffer$Status" "TAKEN" "Lcom/example/latchkey/latchkey/ScaffoldOffer$Status;" (.ref w_TAKEN)) (S_w_SKIPPED : Sta Z Z.heap "com/example/latchkey/latchkey/ScaffoldOffer$Status" "SKIPPED" "Lcom/example/latchkey/latchkey/ScaffoldOffer$Status;" (.ref w_SKIPPED)) (hc1 : ¬ (k = (0 : Int32))) (hc10 : ¬ (k = (1 : Int32))) (hc19 : k = (2 : Int32)) :
    Ctr l Z y_20 method_2_code 1 (some (.object "com/example/latchkey/latchkey/ScaffoldOffer$Status")) ws ({ frames := 0, cells := 0, slots := 0, locals := 0 } : Room) #[(.int k)] h0 (Q_pick Z k w_NONE w_DECLINED w_OFFERED w_TAKEN w_SKIPPED h0 n0) := by
  refine MetFree.of_bodySF (plainFor_of_name pn_9) hisR ?_
  intro p e s m args below meth c s₁ Bd hml0 hP hK
  obtain ⟨rfl, hZ, hh⟩ := hP
  have W := fun (i : Nat) {d : Jvm.Cond} (h : tables_1[i]? = some d) => hw d (List.mem_of_getElem? h)
  have hx := Bd.exec
  have hby := Bd.bytes
  have hml : c.maxLocals = 1 := hml0
  have hown : s.vm.findClass "com/example/latchkey/latchkey/ScaffoldOfferWaitsPinLaw" = some m.cls := findClass_of_methodNamed Bd.named
  have hnm := (name_of_methodNamed Bd.named Bd.method).1
  have X0 : Stand p l e ({ frames := 0, cells := 0, slots := 0, locals := 0 } : Room) s m #[(.int k)] below meth c s₁ [] 0 0 := Stand.of_body Bd
  have e0 : s₁.heap = h0 := by rw [← hh, Bd.state]; rfl
  have N0 := Fr.nil n0
  have pre0 : ∀ t, Steps p.tables e below (s₁.setTop (mkF m 0 #[.val (.int k)] [])) t → Steps p.tables e below (s₁.setTop (entryFrame m #[(.int k)] 1)) t := fun t kk_ => castTop (ef_20 m k) kk_
  obtain ⟨T1, X1, e1, st1⟩ := getS2 X0 hx hZ hown (host := "") (Or.inl (W 170 rfl)) Via.refl e0 (S_w_OFFERED.ext O.2) (g := (mkF m 22 #[iv k] [])) rfl (hb hby d1_22)
  obtain ⟨fs, hr, hrun, hended, hW, hsame⟩ := X1.leave (v := some (.ref w_OFFERED)) (fun h => by rw [Bd.returns] at h; cases h)
  refine ⟨_, _, pre0 _ ?_, hrun, hended, _, _, rfl, ?_, ⟨_, rfl⟩, hW, hsame.mono (by decide) (by decide)⟩
  · show Sq p e below m s₁ 0 #[iv k] [] _
    refine XS.iloadN X0.here hx rfl (hb hby d1_0) rfl ?_
    refine XS.ifYes X0.here hx rfl (pc0 := 1) (pc' := 8) rfl (hb hby d1_1) rfl ((if0 _ _).trans (feq hc1).2) (by decide) (by decide) ?_
    show Sq p e below m s₁ 8 #[iv k] [] _
    refine XS.iloadN X0.here hx rfl (hb hby d1_8) rfl ?_
    refine XS.iconst X0.here hx rfl (hb hby d1_9) ?_
    show Sq p e below m s₁ 10 #[iv k] [.int 1, .int k] _
    refine XS.icmpYes X0.here hx rfl (pc0 := 10) (pc' := 17) rfl (hb hby d1_10) rfl (feq hc10).2 (by decide) (by decide) ?_
    refine XS.iloadN X0.here hx rfl (hb hby d1_17) rfl ?_
    show Sq p e below m s₁ 18 #[iv k] [.int k] _
    refine XS.iconst X0.here hx rfl (hb hby d1_18) ?_
    refine XS.icmpNo X0.here hx rfl (hb hby d1_19) rfl (teq hc19).2 ?_
    show Sq p e below m s₁ 22 #[iv k] [] _
    refine st1 _ ?_
    show Sq p e below m T1 25 #[iv k] [.ref w_OFFERED] _
    jvm_step X1.here [X1.here.top, hx, (hb hby d1_25), X1.method', Bd.returns, Value.isRef, FieldType.isReference]
    first | (intro acts; rw [hr _ acts rfl rfl rfl]) | rw [hr _ _ rfl rfl rfl]
    exact Steps.refl _
  · show Q_pick Z k w_NONE w_DECLINED w_OFFERED w_TAKEN w_SKIPPED h0 n0 _ T1.heap _
    rw [e1]
    exact ⟨(by rw [own_pick, if_neg hc1, if_neg hc10, if_pos hc19]), N0, rfl⟩
set_option maxRecDepth 65536 in
set_option maxHeartbeats 40000000 in
theorem pick_3 (l : Launch) (Z : State) (a0 : Array Value) (hw : ∀ d ∈ tables_1, d.before a0 Z = true) (ws : List Jvm.Cond) (k : Int32) (w_NONE : Addr) (w_DECLINED : Addr) (w_OFFERED : Addr) (w_TAKEN : Addr) (w_SKIPPED : Addr) (h0 : Heap) (n0 : Nat) (O : Old Z n0 h0) (S_w_NONE : Sta Z Z.heap "com/example/latchkey/latchkey/ScaffoldOffer$Status" "NONE" "Lcom/example/latchkey/latchkey/ScaffoldOffer$Status;" (.ref w_NONE)) (S_w_DECLINED : Sta Z Z.heap "com/example/latchkey/latchkey/ScaffoldOffer$Status" "DECLINED" "Lcom/example/latchkey/latchkey/ScaffoldOffer$Status;" (.ref w_DECLINED)) (S_w_OFFERED : Sta Z Z.heap "com/example/latchkey/latchkey/ScaffoldOffer$Status" "OFFERED" "Lcom/example/latchkey/latchkey/ScaffoldOffer$Status;" (.ref w_OFFERED)) (S_w_TAKEN : Sta Z Z.heap "com/example/latchkey/latchkey/ScaffoldOffer$Status" "TAKEN" "Lcom/example/latchkey/latchkey/ScaffoldOffer$Status;" (.ref w_TAKEN)) (S_w_SKIPPED : Sta Z Z.heap "com/example/latchkey/latchkey/ScaffoldOffer$Status" "SKIPPED" "Lcom/example/latchkey/latchkey/ScaffoldOffer$Status;" (.ref w_SKIPPED)) (hc1 : ¬ (k = (0 : Int32))) (hc10 : ¬ (k = (1 : Int32))) (hc19 : ¬ (k = (2 : Int32))) (hc28 : k = (3 : Int32)) :
    Ctr l Z y_20 method_2_code 1 (some (.object "com/example/latchkey/latchkey/ScaffoldOffer$Status")) ws ({ frames := 0, cells := 0, slots := 0, locals := 0 } : Room) #[(.int k)] h0 (Q_pick Z k w_NONE w_DECLINED w_OFFERED w_TAKEN w_SKIPPED h0 n0) := by
  refine MetFree.of_bodySF (plainFor_of_name pn_9) hisR ?_
  intro p e s m args below meth c s₁ Bd hml0 hP hK
  obtain ⟨rfl, hZ, hh⟩ := hP
  have W := fun (i : Nat) {d : Jvm.Cond} (h : tables_1[i]? = some d) => hw d (List.mem_of_getElem? h)
  have hx := Bd.exec
  have hby := Bd.bytes
  have hml : c.maxLocals = 1 := hml0
  have hown : s.vm.findClass "com/example/latchkey/latchkey/ScaffoldOfferWaitsPinLaw" = some m.cls := findClass_of_methodNamed Bd.named
  have hnm := (name_of_methodNamed Bd.named Bd.method).1
  have X0 : Stand p l e ({ frames := 0, cells := 0, slots := 0, locals := 0 } : Room) s m #[(.int k)] below meth c s₁ [] 0 0 := Stand.of_body Bd
  have e0 : s₁.heap = h0 := by rw [← hh, Bd.state]; rfl
  have N0 := Fr.nil n0
  have pre0 : ∀ t, Steps p.tables e below (s₁.setTop (mkF m 0 #[.val (.int k)] [])) t → Steps p.tables e below (s₁.setTop (entryFrame m #[(.int k)] 1)) t := fun t kk_ => castTop (ef_20 m k) kk_
  obtain ⟨T1, X1, e1, st1⟩ := getS2 X0 hx hZ hown (host := "") (Or.inl (W 168 rfl)) Via.refl e0 (S_w_TAKEN.ext O.2) (g := (mkF m 31 #[iv k] [])) rfl (hb hby d1_31)
  obtain ⟨fs, hr, hrun, hended, hW, hsame⟩ := X1.leave (v := some (.ref w_TAKEN)) (fun h => by rw [Bd.returns] at h; cases h)
  refine ⟨_, _, pre0 _ ?_, hrun, hended, _, _, rfl, ?_, ⟨_, rfl⟩, hW, hsame.mono (by decide) (by decide)⟩
  · show Sq p e below m s₁ 0 #[iv k] [] _
    refine XS.iloadN X0.here hx rfl (hb hby d1_0) rfl ?_
    refine XS.ifYes X0.here hx rfl (pc0 := 1) (pc' := 8) rfl (hb hby d1_1) rfl ((if0 _ _).trans (feq hc1).2) (by decide) (by decide) ?_
    show Sq p e below m s₁ 8 #[iv k] [] _
    refine XS.iloadN X0.here hx rfl (hb hby d1_8) rfl ?_
    refine XS.iconst X0.here hx rfl (hb hby d1_9) ?_
    show Sq p e below m s₁ 10 #[iv k] [.int 1, .int k] _
    refine XS.icmpYes X0.here hx rfl (pc0 := 10) (pc' := 17) rfl (hb hby d1_10) rfl (feq hc10).2 (by decide) (by decide) ?_
    refine XS.iloadN X0.here hx rfl (hb hby d1_17) rfl ?_
    show Sq p e below m s₁ 18 #[iv k] [.int k] _
    refine XS.iconst X0.here hx rfl (hb hby d1_18) ?_
    refine XS.icmpYes X0.here hx rfl (pc0 := 19) (pc' := 26) rfl (hb hby d1_19) rfl (feq hc19).2 (by decide) (by decide) ?_
    show Sq p e below m s₁ 26 #[iv k] [] _
    refine XS.iloadN X0.here hx rfl (hb hby d1_26) rfl ?_
    refine XS.iconst X0.here hx rfl (hb hby d1_27) ?_
    show Sq p e below m s₁ 28 #[iv k] [.int 3, .int k] _
    refine XS.icmpNo X0.here hx rfl (hb hby d1_28) rfl (teq hc28).2 ?_
    show Sq p e below m s₁ 31 #[iv k] [] _
    refine st1 _ ?_
    show Sq p e below m T1 34 #[iv k] [.ref w_TAKEN] _
    jvm_step X1.here [X1.here.top, hx, (hb hby d1_34), X1.method', Bd.returns, Value.isRef, FieldType.isReference]
    first | (intro acts; rw [hr _ acts rfl rfl rfl]) | rw [hr _ _ rfl rfl rfl]
    exact Steps.refl _
  · show Q_pick Z k w_NONE w_DECLINED w_OFFERED w_TAKEN w_SKIPPED h0 n0 _ T1.heap _
    rw [e1]
    exact ⟨(by rw [own_pick, if_neg hc1, if_neg hc10, if_neg hc19, if_pos hc28]), N0, rfl⟩
set_option maxRecDepth 65536 in
set_option maxHeartbeats 40000000 in
theorem pick_4 (l : Launch) (Z : State) (a0 : Array Value) (hw : ∀ d ∈ tables_1, d.before a0 Z = true) (ws : List Jvm.Cond) (k : Int32) (w_NONE : Addr) (w_DECLINED : Addr) (w_OFFERED : Addr) (w_TAKEN : Addr) (w_SKIPPED : Addr) (h0 : Heap) (n0 : Nat) (O : Old Z n0 h0) (S_w_NONE : Sta Z Z.heap "com/example/latchkey/latchkey/ScaffoldOffer$Status" "NONE" "Lcom/example/latchkey/latchkey/ScaffoldOffer$Status;" (.ref w_NONE)) (S_w_DECLINED : Sta Z Z.heap "com/example/latchkey/latchkey/ScaffoldOffer$Status" "DECLINED" "Lcom/example/latchkey/latchkey/ScaffoldOffer$Status;" (.ref w_DECLINED)) (S_w_OFFERED : Sta Z Z.heap "com/example/latchkey/latchkey/ScaffoldOffer$Status" "OFFERED" "Lcom/example/latchkey/latchkey/ScaffoldOffer$Status;" (.ref w_OFFERED)) (S_w_TAKEN : Sta Z Z.heap "com/example/latchkey/latchkey/ScaffoldOffer$Status" "TAKEN" "Lcom/example/latchkey/latchkey/ScaffoldOffer$Status;" (.ref w_TAKEN)) (S_w_SKIPPED : Sta Z Z.heap "com/example/latchkey/latchkey/ScaffoldOffer$Status" "SKIPPED" "Lcom/example/latchkey/latchkey/ScaffoldOffer$Status;" (.ref w_SKIPPED)) (hc1 : ¬ (k = (0 : Int32))) (hc10 : ¬ (k = (1 : Int32))) (hc19 : ¬ (k = (2 : Int32))) (hc28 : ¬ (k = (3 : Int32))) :
    Ctr l Z y_20 method_2_code 1 (some (.object "com/example/latchkey/latchkey/ScaffoldOffer$Status")) ws ({ frames := 0, cells := 0, slots := 0, locals := 0 } : Room) #[(.int k)] h0 (Q_pick Z k w_NONE w_DECLINED w_OFFERED w_TAKEN w_SKIPPED h0 n0) := by
  refine MetFree.of_bodySF (plainFor_of_name pn_9) hisR ?_
  intro p e s m args below meth c s₁ Bd hml0 hP hK
  obtain ⟨rfl, hZ, hh⟩ := hP
  have W := fun (i : Nat) {d : Jvm.Cond} (h : tables_1[i]? = some d) => hw d (List.mem_of_getElem? h)
  have hx := Bd.exec
  have hby := Bd.bytes
  have hml : c.maxLocals = 1 := hml0
  have hown : s.vm.findClass "com/example/latchkey/latchkey/ScaffoldOfferWaitsPinLaw" = some m.cls := findClass_of_methodNamed Bd.named
  have hnm := (name_of_methodNamed Bd.named Bd.method).1
  have X0 : Stand p l e ({ frames := 0, cells := 0, slots := 0, locals := 0 } : Room) s m #[(.int k)] below meth c s₁ [] 0 0 := Stand.of_body Bd
  have e0 : s₁.heap = h0 := by rw [← hh, Bd.state]; rfl
  have N0 := Fr.nil n0
  have pre0 : ∀ t, Steps p.tables e below (s₁.setTop (mkF m 0 #[.val (.int k)] [])) t → Steps p.tables e below (s₁.setTop (entryFrame m #[(.int k)] 1)) t := fun t kk_ => castTop (ef_20 m k) kk_
  obtain ⟨T1, X1, e1, st1⟩ := getS2 X0 hx hZ hown (host := "") (Or.inl (W 166 rfl)) Via.refl e0 (S_w_SKIPPED.ext O.2) (g := (mkF m 35 #[iv k] [])) rfl (hb hby d1_35)
  obtain ⟨fs, hr, hrun, hended, hW, hsame⟩ := X1.leave (v := some (.ref w_SKIPPED)) (fun h => by rw [Bd.returns] at h; cases h)
  refine ⟨_, _, pre0 _ ?_, hrun, hended, _, _, rfl, ?_, ⟨_, rfl⟩, hW, hsame.mono (by decide) (by decide)⟩
  · show Sq p e below m s₁ 0 #[iv k] [] _
    refine XS.iloadN X0.here hx rfl (hb hby d1_0) rfl ?_
    refine XS.ifYes X0.here hx rfl (pc0 := 1) (pc' := 8) rfl (hb hby d1_1) rfl ((if0 _ _).trans (feq hc1).2) (by decide) (by decide) ?_
    show Sq p e below m s₁ 8 #[iv k] [] _
    refine XS.iloadN X0.here hx rfl (hb hby d1_8) rfl ?_
    refine XS.iconst X0.here hx rfl (hb hby d1_9) ?_
    show Sq p e below m s₁ 10 #[iv k] [.int 1, .int k] _
    refine XS.icmpYes X0.here hx rfl (pc0 := 10) (pc' := 17) rfl (hb hby d1_10) rfl (feq hc10).2 (by decide) (by decide) ?_
    refine XS.iloadN X0.here hx rfl (hb hby d1_17) rfl ?_
    show Sq p e below m s₁ 18 #[iv k] [.int k] _
    refine XS.iconst X0.here hx rfl (hb hby d1_18) ?_
    refine XS.icmpYes X0.here hx rfl (pc0 := 19) (pc' := 26) rfl (hb hby d1_19) rfl (feq hc19).2 (by decide) (by decide) ?_
    show Sq p e below m s₁ 26 #[iv k] [] _
    refine XS.iloadN X0.here hx rfl (hb hby d1_26) rfl ?_
    refine XS.iconst X0.here hx rfl (hb hby d1_27) ?_
    show Sq p e below m s₁ 28 #[iv k] [.int 3, .int k] _
    refine XS.icmpYes X0.here hx rfl (pc0 := 28) (pc' := 35) rfl (hb hby d1_28) rfl (feq hc28).2 (by decide) (by decide) ?_
    show Sq p e below m s₁ 35 #[iv k] [] _
    refine st1 _ ?_
    show Sq p e below m T1 38 #[iv k] [.ref w_SKIPPED] _
    jvm_step X1.here [X1.here.top, hx, (hb hby d1_38), X1.method', Bd.returns, Value.isRef, FieldType.isReference]
    first | (intro acts; rw [hr _ acts rfl rfl rfl]) | rw [hr _ _ rfl rfl rfl]
    exact Steps.refl _
  · show Q_pick Z k w_NONE w_DECLINED w_OFFERED w_TAKEN w_SKIPPED h0 n0 _ T1.heap _
    rw [e1]
    exact ⟨(by rw [own_pick, if_neg hc1, if_neg hc10, if_neg hc19, if_neg hc28]), N0, rfl⟩
set_option maxRecDepth 65536 in
theorem pick (l : Launch) (Z : State) (a0 : Array Value) (hw : ∀ d ∈ tables_1, d.before a0 Z = true) (ws : List Jvm.Cond) (k : Int32) (w_NONE : Addr) (w_DECLINED : Addr) (w_OFFERED : Addr) (w_TAKEN : Addr) (w_SKIPPED : Addr) (h0 : Heap) (n0 : Nat) (O : Old Z n0 h0) (S_w_NONE : Sta Z Z.heap "com/example/latchkey/latchkey/ScaffoldOffer$Status" "NONE" "Lcom/example/latchkey/latchkey/ScaffoldOffer$Status;" (.ref w_NONE)) (S_w_DECLINED : Sta Z Z.heap "com/example/latchkey/latchkey/ScaffoldOffer$Status" "DECLINED" "Lcom/example/latchkey/latchkey/ScaffoldOffer$Status;" (.ref w_DECLINED)) (S_w_OFFERED : Sta Z Z.heap "com/example/latchkey/latchkey/ScaffoldOffer$Status" "OFFERED" "Lcom/example/latchkey/latchkey/ScaffoldOffer$Status;" (.ref w_OFFERED)) (S_w_TAKEN : Sta Z Z.heap "com/example/latchkey/latchkey/ScaffoldOffer$Status" "TAKEN" "Lcom/example/latchkey/latchkey/ScaffoldOffer$Status;" (.ref w_TAKEN)) (S_w_SKIPPED : Sta Z Z.heap "com/example/latchkey/latchkey/ScaffoldOffer$Status" "SKIPPED" "Lcom/example/latchkey/latchkey/ScaffoldOffer$Status;" (.ref w_SKIPPED)) :
    Ctr l Z y_20 method_2_code 1 (some (.object "com/example/latchkey/latchkey/ScaffoldOffer$Status")) ws ({ frames := 0, cells := 0, slots := 0, locals := 0 } : Room) #[(.int k)] h0 (Q_pick Z k w_NONE w_DECLINED w_OFFERED w_TAKEN w_SKIPPED h0 n0) := by
  by_cases hc1 : k = (0 : Int32)
  · exact pick_0 l Z a0 hw ws k w_NONE w_DECLINED w_OFFERED w_TAKEN w_SKIPPED h0 n0 O S_w_NONE S_w_DECLINED S_w_OFFERED S_w_TAKEN S_w_SKIPPED hc1
  · by_cases hc10 : k = (1 : Int32)
    · exact pick_1 l Z a0 hw ws k w_NONE w_DECLINED w_OFFERED w_TAKEN w_SKIPPED h0 n0 O S_w_NONE S_w_DECLINED S_w_OFFERED S_w_TAKEN S_w_SKIPPED hc1 hc10
    · by_cases hc19 : k = (2 : Int32)
      · exact pick_2 l Z a0 hw ws k w_NONE w_DECLINED w_OFFERED w_TAKEN w_SKIPPED h0 n0 O S_w_NONE S_w_DECLINED S_w_OFFERED S_w_TAKEN S_w_SKIPPED hc1 hc10 hc19
      · by_cases hc28 : k = (3 : Int32)
        · exact pick_3 l Z a0 hw ws k w_NONE w_DECLINED w_OFFERED w_TAKEN w_SKIPPED h0 n0 O S_w_NONE S_w_DECLINED S_w_OFFERED S_w_TAKEN S_w_SKIPPED hc1 hc10 hc19 hc28
        · exact pick_4 l Z a0 hw ws k w_NONE w_DECLINED w_OFFERED w_TAKEN w_SKIPPED h0 n0 O S_w_NONE S_w_DECLINED S_w_OFFERED S_w_TAKEN S_w_SKIPPED hc1 hc10 hc19 hc28
theorem d23_0 : decode prog_61_method_3_code 0 = .ok (.aload_n 0, 1) := by decide +kernel
theorem d23_1 : decode prog_61_method_3_code 1 = .ok (.getfield 7, 3) := by decide +kernel
theorem d23_4 : decode prog_61_method_3_code 4 = .ok (.getstatic 32, 3) := by decide +kernel
theorem d23_7 : decode prog_61_method_3_code 7 = .ok (.if_acmp .ne 7, 3) := by decide +kernel
theorem d23_10 : decode prog_61_method_3_code 10 = .ok (.iconst 1, 1) := by decide +kernel
theorem d23_11 : decode prog_61_method_3_code 11 = .ok (.goto 4, 3) := by decide +kernel
theorem d23_15 : decode prog_61_method_3_code 15 = .ok (.ireturn, 1) := by decide +kernel
def Q_wait1 (Z : State) (a : Addr) (r : Addr) (w_OFFERED : Addr) (h0 : Heap) (n0 : Nat) (v : Option Value) (h : Heap) (L : List Loc) : Prop := v = some (.int (1 : Int32)) ∧ Fr n0 L ∧ h = h0
theorem ef_21 (m : MethodId) (x0 : Addr) : entryFrame m #[(.ref x0)] 1 = mkF m 0 #[.val (.ref x0)] [] := by first | (simp [entryFrame, mkF, argsToLocals, Value.category]; done) | rfl
abbrev y_21 : MethodName := ⟨"com/example/latchkey/latchkey/ScaffoldOffer", "waits", "()Z"⟩
set_option maxRecDepth 65536 in
set_option maxHeartbeats 40000000 in
theorem wait1 (l : Launch) (Z : State) (a0 : Array Value) (hw : ∀ d ∈ tables_1, d.before a0 Z = true) (ws : List Jvm.Cond) (a : Addr) (r : Addr) (w_OFFERED : Addr) (h0 : Heap) (n0 : Nat) (O : Old Z n0 h0) (Fs : Fld Z h0 a "com/example/latchkey/latchkey/ScaffoldOffer" "status" "Lcom/example/latchkey/latchkey/ScaffoldOffer$Status;" (.ref r)) (S_w_OFFERED : Sta Z Z.heap "com/example/latchkey/latchkey/ScaffoldOffer$Status" "OFFERED" "Lcom/example/latchkey/latchkey/ScaffoldOffer$Status;" (.ref w_OFFERED)) (qr : r = w_OFFERED) :
    Ctr l Z y_21 prog_61_method_3_code 1 (some .boolean) ws ({ frames := 0, cells := 0, slots := 0, locals := 0 } : Room) #[(.ref a)] h0 (Q_wait1 Z a r w_OFFERED h0 n0) := by
  refine MetFree.of_bodySF (plainFor_of_name pn_5) hisR ?_
  intro p e s m args below meth c s₁ Bd hml0 hP hK
  obtain ⟨rfl, hZ, hh⟩ := hP
  have W := fun (i : Nat) {d : Jvm.Cond} (h : tables_1[i]? = some d) => hw d (List.mem_of_getElem? h)
  have hx := Bd.exec
  have hby := Bd.bytes
  have hml : c.maxLocals = 1 := hml0
  have hown : s.vm.findClass "com/example/latchkey/latchkey/ScaffoldOffer" = some m.cls := findClass_of_methodNamed Bd.named
  have hnm := (name_of_methodNamed Bd.named Bd.method).1
  have X0 : Stand p l e ({ frames := 0, cells := 0, slots := 0, locals := 0 } : Room) s m #[(.ref a)] below meth c s₁ [] 0 0 := Stand.of_body Bd
  have e0 : s₁.heap = h0 := by rw [← hh, Bd.state]; rfl
  have N0 := Fr.nil n0
  have pre0 : ∀ t, Steps p.tables e below (s₁.setTop (mkF m 0 #[.val (.ref a)] [])) t → Steps p.tables e below (s₁.setTop (entryFrame m #[(.ref a)] 1)) t := fun t kk_ => castTop (ef_21 m a) kk_
  obtain ⟨T1, X1, e1, st1⟩ := getF X0 hx hZ hown (host := "") (Or.inl (W 153 rfl)) Via.refl e0 Fs (g := (mkF m 1 #[rv a] [.ref a])) rfl rfl (hb hby d23_1)
  obtain ⟨T2, X2, e2, st2⟩ := getS2 X1 hx hZ hown (host := "") (Or.inl (W 162 rfl)) Via.refl e1 (S_w_OFFERED.ext O.2) (g := (mkF m 4 #[rv a] [.ref r])) rfl (hb hby d23_4)
  obtain ⟨fs, hr, hrun, hended, hW, hsame⟩ := X2.leave (v := some (.int (1 : Int32))) (fun h => by rw [Bd.returns] at h; cases h)
  refine ⟨_, _, pre0 _ ?_, hrun, hended, _, _, rfl, ?_, ⟨_, rfl⟩, hW, hsame.mono (by decide) (by decide)⟩
  · show Sq p e below m s₁ 0 #[rv a] [] _
    refine XS.aloadN X0.here hx rfl (hb hby d23_0) rfl rfl ?_
    show Sq p e below m s₁ 1 #[rv a] [.ref a] _
    refine st1 _ ?_
    show Sq p e below m T1 4 #[rv a] [.ref r] _
    refine st2 _ ?_
    show Sq p e below m T2 7 #[rv a] [.ref w_OFFERED, .ref r] _
    refine Jvm.RoadKit.acmp (g := (mkF m 7 #[rv a] [.ref w_OFFERED, .ref r])) X2 hx rfl rfl rfl (pc0 := 7) (pc' := 10) (same := true) rfl (hb hby d23_7) rfl (decide_eq_true (congrArg Value.ref qr)) (by decide) (by decide) ?_
    show Sq p e below m T2 10 #[rv a] [] _
    refine XS.iconst X2.here hx rfl (hb hby d23_10) ?_
    refine XS.goto X2.here hx rfl (pc0 := 11) (pc' := 15) rfl (hb hby d23_11) (by decide) (by decide) ?_
    show Sq p e below m T2 15 #[rv a] [.int 1] _
    exact retN X2 hx (t := .boolean) Bd.returns (by simp) (hb hby d23_15) hr
  · show Q_wait1 Z a r w_OFFERED h0 n0 _ T2.heap _
    rw [e2]
    exact ⟨rfl, N0, rfl⟩
theorem d23_14 : decode prog_61_method_3_code 14 = .ok (.iconst 0, 1) := by decide +kernel
def Q_wait0 (Z : State) (a : Addr) (r : Addr) (w_OFFERED : Addr) (h0 : Heap) (n0 : Nat) (v : Option Value) (h : Heap) (L : List Loc) : Prop := v = some (.int (0 : Int32)) ∧ Fr n0 L ∧ h = h0
set_option maxRecDepth 65536 in
set_option maxHeartbeats 40000000 in
theorem wait0 (l : Launch) (Z : State) (a0 : Array Value) (hw : ∀ d ∈ tables_1, d.before a0 Z = true) (ws : List Jvm.Cond) (a : Addr) (r : Addr) (w_OFFERED : Addr) (h0 : Heap) (n0 : Nat) (O : Old Z n0 h0) (Fs : Fld Z h0 a "com/example/latchkey/latchkey/ScaffoldOffer" "status" "Lcom/example/latchkey/latchkey/ScaffoldOffer$Status;" (.ref r)) (S_w_OFFERED : Sta Z Z.heap "com/example/latchkey/latchkey/ScaffoldOffer$Status" "OFFERED" "Lcom/example/latchkey/latchkey/ScaffoldOffer$Status;" (.ref w_OFFERED)) (nr : r ≠ w_OFFERED) :
    Ctr l Z y_21 prog_61_method_3_code 1 (some .boolean) ws ({ frames := 0, cells := 0, slots := 0, locals := 0 } : Room) #[(.ref a)] h0 (Q_wait0 Z a r w_OFFERED h0 n0) := by
  refine MetFree.of_bodySF (plainFor_of_name pn_5) hisR ?_
  intro p e s m args below meth c s₁ Bd hml0 hP hK
  obtain ⟨rfl, hZ, hh⟩ := hP
  have W := fun (i : Nat) {d : Jvm.Cond} (h : tables_1[i]? = some d) => hw d (List.mem_of_getElem? h)
  have hx := Bd.exec
  have hby := Bd.bytes
  have hml : c.maxLocals = 1 := hml0
  have hown : s.vm.findClass "com/example/latchkey/latchkey/ScaffoldOffer" = some m.cls := findClass_of_methodNamed Bd.named
  have hnm := (name_of_methodNamed Bd.named Bd.method).1
  have X0 : Stand p l e ({ frames := 0, cells := 0, slots := 0, locals := 0 } : Room) s m #[(.ref a)] below meth c s₁ [] 0 0 := Stand.of_body Bd
  have e0 : s₁.heap = h0 := by rw [← hh, Bd.state]; rfl
  have N0 := Fr.nil n0
  have pre0 : ∀ t, Steps p.tables e below (s₁.setTop (mkF m 0 #[.val (.ref a)] [])) t → Steps p.tables e below (s₁.setTop (entryFrame m #[(.ref a)] 1)) t := fun t kk_ => castTop (ef_21 m a) kk_
  obtain ⟨T1, X1, e1, st1⟩ := getF X0 hx hZ hown (host := "") (Or.inl (W 153 rfl)) Via.refl e0 Fs (g := (mkF m 1 #[rv a] [.ref a])) rfl rfl (hb hby d23_1)
  obtain ⟨T2, X2, e2, st2⟩ := getS2 X1 hx hZ hown (host := "") (Or.inl (W 162 rfl)) Via.refl e1 (S_w_OFFERED.ext O.2) (g := (mkF m 4 #[rv a] [.ref r])) rfl (hb hby d23_4)
  obtain ⟨fs, hr, hrun, hended, hW, hsame⟩ := X2.leave (v := some (.int (0 : Int32))) (fun h => by rw [Bd.returns] at h; cases h)
  refine ⟨_, _, pre0 _ ?_, hrun, hended, _, _, rfl, ?_, ⟨_, rfl⟩, hW, hsame.mono (by decide) (by decide)⟩
  · show Sq p e below m s₁ 0 #[rv a] [] _
    refine XS.aloadN X0.here hx rfl (hb hby d23_0) rfl rfl ?_
    show Sq p e below m s₁ 1 #[rv a] [.ref a] _
    refine st1 _ ?_
    show Sq p e below m T1 4 #[rv a] [.ref r] _
    refine st2 _ ?_
    show Sq p e below m T2 7 #[rv a] [.ref w_OFFERED, .ref r] _
    refine Jvm.RoadKit.acmp (g := (mkF m 7 #[rv a] [.ref w_OFFERED, .ref r])) X2 hx rfl rfl rfl (pc0 := 7) (pc' := 14) (same := false) rfl (hb hby d23_7) rfl (decide_eq_false fun q => nr (Value.ref.inj q)) (by decide) (by decide) ?_
    show Sq p e below m T2 14 #[rv a] [] _
    refine XS.iconst X2.here hx rfl (hb hby d23_14) ?_
    show Sq p e below m T2 15 #[rv a] [.int 0] _
    exact retN X2 hx (t := .boolean) Bd.returns (by simp) (hb hby d23_15) hr
  · show Q_wait0 Z a r w_OFFERED h0 n0 _ T2.heap _
    rw [e2]
    exact ⟨rfl, N0, rfl⟩
theorem pd_10 : parseMethodDescriptor "(I)Lcom/example/latchkey/latchkey/ScaffoldOffer$Status;" = some ⟨[.int], some (.object "com/example/latchkey/latchkey/ScaffoldOffer$Status")⟩ := by decide +kernel
theorem pd_11 : parseMethodDescriptor "()Ljava/util/Optional;" = some ⟨[], some (.object "java/util/Optional")⟩ := by decide +kernel
theorem pd_12 : parseMethodDescriptor "(Lcom/example/latchkey/latchkey/ScaffoldOffer$Status;Ljava/util/Optional;Ljava/util/Optional;Ljava/util/Optional;Ljava/util/List;)V" = some ⟨[(.object "com/example/latchkey/latchkey/ScaffoldOffer$Status"), (.object "java/util/Optional"), (.object "java/util/Optional"), (.object "java/util/Optional"), (.object "java/util/List")], none⟩ := by decide +kernel
theorem pd_13 : parseMethodDescriptor "()Z" = some ⟨[], some .boolean⟩ := by decide +kernel
theorem pd_14 : parseMethodDescriptor "(C)Ljava/lang/String;" = some ⟨[.char], some (.object "java/lang/String")⟩ := by decide +kernel
theorem pd_15 : parseMethodDescriptor "(Ljava/lang/Object;)Z" = some ⟨[(.object "java/lang/Object")], some .boolean⟩ := by decide +kernel
abbrev y_22 : MethodName := ⟨"java/util/List", "add", "(Ljava/lang/Object;)Z"⟩
theorem pd_16 : parseMethodDescriptor "(Ljava/lang/String;Ljava/lang/String;Ljava/util/List;)V" = some ⟨[(.object "java/lang/String"), (.object "java/lang/String"), (.object "java/util/List")], none⟩ := by decide +kernel
def Q_rm0 (Z : State) (p1 : Int32) (p2 : Int32) (p3 : Int32) (w_NONE : Addr) (w_OFFER : Addr) (w_OFFER_offeredBy : Addr) (w_OFFERED : Addr) (w_DECLINED : Addr) (w_SKIPPED : Addr) (w_TAKEN : Addr) (w_DEF : Addr) (w_ELIST : Addr) (kdef : ClassId) (cs : Int32) (h0 : Heap) (n0 : Nat) (v : Option Value) (h : Heap) (L : List Loc) : Prop := v = some (.int (1 : Int32)) ∧ Fr n0 L
theorem ef_22 (m : MethodId) (x0 : Int32) (x1 : Int32) (x2 : Int32) : entryFrame m #[(.int x0), (.int x1), (.int x2)] maxLocals = mkF m 0 #[.val (.int x0), .val (.int x1), .val (.int x2), .unset, .unset, .unset, .unset, .unset, .unset] [] := by first | (simp [entryFrame, mkF, argsToLocals, Value.category, maxLocals]; done) | rfl
set_option maxRecDepth 65536 in
set_option maxHeartbeats 40000000 in
theorem rm0 (l : Launch) (Z : State) (a0 : Array Value) (hw : ∀ d ∈ tables_1, d.before a0 Z = true) (ws : List Jvm.Cond) (p1 : Int32) (p2 : Int32) (p3 : Int32) (w_NONE : Addr) (w_OFFER : Addr) (w_OFFER_offeredBy : Addr) (w_OFFERED : Addr) (w_DECLINED : Addr) (w_SKIPPED : Addr) (w_TAKEN : Addr) (w_DEF : Addr) (w_ELIST : Addr) (kdef : ClassId) (cs : Int32) (h0 : Heap) (n0 : Nat) (O : Old Z n0 h0) (S_w_NONE : Sta Z Z.heap "com/example/latchkey/latchkey/ScaffoldOffer$Status" "NONE" "Lcom/example/latchkey/latchkey/ScaffoldOffer$Status;" (.ref w_NONE)) (E_w_NONE : Exa Z Z.heap w_NONE "com/example/latchkey/latchkey/ScaffoldOffer$Status") (S_w_OFFER : Sta Z Z.heap "com/example/latchkey/latchkey/ScaffoldOffer" "NONE" "Lcom/example/latchkey/latchkey/ScaffoldOffer;" (.ref w_OFFER)) (E_w_OFFER : Exa Z Z.heap w_OFFER "com/example/latchkey/latchkey/ScaffoldOffer") (F_w_OFFER_offeredBy : Fld Z Z.heap w_OFFER "com/example/latchkey/latchkey/ScaffoldOffer" "offeredBy" "Ljava/util/Optional;" (.ref w_OFFER_offeredBy)) (E_w_OFFER_offeredBy : Exa Z Z.heap w_OFFER_offeredBy "java/util/Optional") (F_w_OFFER_offeredAt : Fld Z Z.heap w_OFFER "com/example/latchkey/latchkey/ScaffoldOffer" "offeredAt" "Ljava/util/Optional;" (.ref w_OFFER_offeredBy)) (F_w_OFFER_answeredAt : Fld Z Z.heap w_OFFER "com/example/latchkey/latchkey/ScaffoldOffer" "answeredAt" "Ljava/util/Optional;" (.ref w_OFFER_offeredBy)) (S_w_OFFERED : Sta Z Z.heap "com/example/latchkey/latchkey/ScaffoldOffer$Status" "OFFERED" "Lcom/example/latchkey/latchkey/ScaffoldOffer$Status;" (.ref w_OFFERED)) (E_w_OFFERED : Exa Z Z.heap w_OFFERED "com/example/latchkey/latchkey/ScaffoldOffer$Status") (S_w_DECLINED : Sta Z Z.heap "com/example/latchkey/latchkey/ScaffoldOffer$Status" "DECLINED" "Lcom/example/latchkey/latchkey/ScaffoldOffer$Status;" (.ref w_DECLINED)) (E_w_DECLINED : Exa Z Z.heap w_DECLINED "com/example/latchkey/latchkey/ScaffoldOffer$Status") (S_w_SKIPPED : Sta Z Z.heap "com/example/latchkey/latchkey/ScaffoldOffer$Status" "SKIPPED" "Lcom/example/latchkey/latchkey/ScaffoldOffer$Status;" (.ref w_SKIPPED)) (E_w_SKIPPED : Exa Z Z.heap w_SKIPPED "com/example/latchkey/latchkey/ScaffoldOffer$Status") (S_w_TAKEN : Sta Z Z.heap "com/example/latchkey/latchkey/ScaffoldOffer$Status" "TAKEN" "Lcom/example/latchkey/latchkey/ScaffoldOffer$Status;" (.ref w_TAKEN)) (E_w_TAKEN : Exa Z Z.heap w_TAKEN "com/example/latchkey/latchkey/ScaffoldOffer$Status") (S_w_DEF : Sta Z Z.heap "java/util/ArrayList" "DEFAULTCAPACITY_EMPTY_ELEMENTDATA" "[Ljava/lang/Object;" (.ref w_DEF)) (E_w_DEF : Exa Z Z.heap w_DEF "[Ljava/lang/Object;") (S_w_ELIST : Sta Z Z.heap "java/util/ImmutableCollections" "EMPTY_LIST" "Ljava/util/ImmutableCollections$ListN;" (.ref w_ELIST)) (E_w_ELIST : Exa Z Z.heap w_ELIST "java/util/ImmutableCollections$ListN") (V_w_DEF : Arv Z Z.heap w_DEF kdef (.object "java/lang/Object") (0 : Int32) [] .null) (Scs : Sta Z Z.heap "java/lang/String" "COMPACT_STRINGS" "Z" (.int cs)) (hcs : ¬ (cs = (0 : Int32))) (ne_0 : w_NONE ≠ w_OFFERED) (ne_1 : w_DECLINED ≠ w_OFFERED) (ne_3 : w_TAKEN ≠ w_OFFERED) (ne_4 : w_SKIPPED ≠ w_OFFERED) :
    Ctr l Z x code maxLocals ret ws room_1 #[(.int p1), (.int p2), (.int p3)] h0 (Q_rm0 Z p1 p2 p3 w_NONE w_OFFER w_OFFER_offeredBy w_OFFERED w_DECLINED w_SKIPPED w_TAKEN w_DEF w_ELIST kdef cs h0 n0) := by
  refine MetFree.of_bodySF (plainFor_of_name pn_9) hisR ?_
  intro p e s m args below meth c s₁ Bd hml0 hP hK
  obtain ⟨rfl, hZ, hh⟩ := hP
  have W := fun (i : Nat) {d : Jvm.Cond} (h : tables_1[i]? = some d) => hw d (List.mem_of_getElem? h)
  have hx := Bd.exec
  have hby := Bd.bytes
  have hml : c.maxLocals = 9 := hml0
  have hown : s.vm.findClass "com/example/latchkey/latchkey/ScaffoldOfferWaitsPinLaw" = some m.cls := findClass_of_methodNamed Bd.named
  have hnm := (name_of_methodNamed Bd.named Bd.method).1
  have X0 : Stand p l e room_1 s m #[(.int p1), (.int p2), (.int p3)] below meth c s₁ [] 0 0 := Stand.of_body Bd
  have e0 : s₁.heap = h0 := by rw [← hh, Bd.state]; rfl
  have N0 := Fr.nil n0
  have pre0 : ∀ t, Steps p.tables e below (s₁.setTop (mkF m 0 #[.val (.int p1), .val (.int p2), .val (.int p3), .unset, .unset, .unset, .unset, .unset, .unset] [])) t → Steps p.tables e below (s₁.setTop (entryFrame m #[(.int p1), (.int p2), (.int p3)] maxLocals)) t := fun t kk_ => castTop (ef_22 m p1 p2 p3) kk_
  obtain ⟨_, _, ⟨T1, L1, k1, n1⟩, -, X1, ⟨Lc1, hQ1, l1, y1, z1⟩, st1⟩ := Jvm.LawKit.callS X0 hx (y := y_20) hown (mvT hZ (W 1 rfl)) (mvT hZ (W 2 rfl)) (mvT hZ (W 3 rfl)) (mvT hZ (W 4 rfl)) (by decide) (backOf (W := 0) (pick l Z a0 hw [] ((p1 &&& (2147483647 : Int32)) % (5 : Int32)) w_NONE w_DECLINED w_OFFERED w_TAKEN w_SKIPPED h0 n0 O S_w_NONE S_w_DECLINED S_w_OFFERED S_w_TAKEN S_w_SKIPPED) hZ (W 4 rfl) (W 3 rfl) (by decide) (by decide)) (g := (mkF m 8 #[iv p1, iv p2, iv p3, iv ((p1 &&& (2147483647 : Int32)) % (5 : Int32)), .unset, .unset, .unset, .unset, .unset] [.int ((p1 &&& (2147483647 : Int32)) % (5 : Int32))])) rfl (by rw [hml]; rfl) (argsL := [.int ((p1 &&& (2147483647 : Int32)) % (5 : Int32))]) (rest := []) (lenOf pd_10 rfl) rfl (by show 2 * 0 + _ ≤ _; exact Nat.le_of_eq rfl) (hb hby at_8) (fun _ _ => ⟨rfl, e0, (by decide : 0 + 0 ≤ _), (by decide : 0 + 0 ≤ _)⟩)
  dsimp only [Pt.U, Pt.locs, Pt.cells, Pt.slots] at X1 l1 y1 z1 st1 hQ1
  subst l1 y1 z1
  obtain ⟨h1, e1⟩ : ∃ z, T1.heap = z := ⟨_, rfl⟩
  rw [e1] at hQ1
  obtain ⟨rfl, N1q, p1_0⟩ := hQ1
  have N1 := Fr.app N0 N1q
  rw [p1_0] at e1
  obtain ⟨T2, h2, X2, e2, E2, A2, D2, -, st2⟩ := newO X1 hx hZ hown (W 8 rfl) (W 9 rfl) (W 10 rfl) e1 (g := (mkF m 13 #[iv p1, iv p2, iv p3, iv ((p1 &&& (2147483647 : Int32)) % (5 : Int32)), rv (own_pick ((p1 &&& (2147483647 : Int32)) % (5 : Int32)) w_NONE w_DECLINED w_OFFERED w_TAKEN w_SKIPPED), .unset, .unset, .unset, .unset] [])) rfl (hb hby at_13) (by decide) (by decide)
  obtain ⟨b2, g2⟩ : ∃ z, z = h0.size := ⟨_, rfl⟩
  rw [← g2] at A2 D2 st2
  have g_b2 : n0 ≤ b2 := Nat.le_trans (own_sz O) (Nat.le_of_eq g2.symm)
  have O3 := O.ext E2
  have Fz5 : Fld Z h2 b2 "java/util/AbstractList" "modCount" "I" (.int (0 : Int32)) := D2 (Or.inl (W 30 rfl)) (ty := .int) (by decide)
  have Fz6 : Fld Z h2 b2 "java/util/ArrayList" "elementData" "[Ljava/lang/Object;" .null := D2 (Or.inl (W 33 rfl)) (ty := (.array (.object "java/lang/Object"))) (by decide)
  have Fz7 : Fld Z h2 b2 "java/util/ArrayList" "size" "I" (.int (0 : Int32)) := D2 (Or.inl (W 70 rfl)) (ty := .int) (by decide)
  obtain ⟨_, _, ⟨T8, L8, k8, n8⟩, -, X8, ⟨Lc8, hQ8, l8, y8, z8⟩, st8⟩ := X2.specialBack hx (y := y_2) rfl hown (mvT hZ (W 11 rfl)) (mvT hZ (W 12 rfl)) (mvT hZ (W 13 rfl)) (by decide) (backOf (W := 1) (alinit l Z a0 hw [] b2 w_DEF h2 n0 O3 A2 Fz6 Fz7 Fz5 g_b2 S_w_DEF) hZ (W 13 rfl) (W 10 rfl) (by decide) (by decide)) (g := (mkF m 17 #[iv p1, iv p2, iv p3, iv ((p1 &&& (2147483647 : Int32)) % (5 : Int32)), rv (own_pick ((p1 &&& (2147483647 : Int32)) % (5 : Int32)) w_NONE w_DECLINED w_OFFERED w_TAKEN w_SKIPPED), .unset, .unset, .unset, .unset] [.ref b2, .ref b2])) rfl (by rw [hml]; rfl) (Steps.refl _) (a := b2) (argsL := []) (rest := [.ref b2]) (lenOf pd_0 rfl) rfl (by show 2 * 0 + _ ≤ _; exact Nat.le_of_eq rfl) (hb hby at_17) (fun _ _ => ⟨rfl, e2, (by decide : 1 + 0 ≤ _), (by decide : 3 + 0 ≤ _)⟩)
  dsimp only [Pt.U, Pt.locs, Pt.cells, Pt.slots] at X8 l8 y8 z8 st8 hQ8
  subst l8 y8 z8
  obtain ⟨h8, e8⟩ : ∃ z, T8.heap = z := ⟨_, rfl⟩
  rw [e8] at hQ8
  obtain ⟨rfl, N8q, p8_0, p8_1, p8_2, p8_3⟩ := hQ8
  have N8 := Fr.app N1 N8q
  have A2 := A2.keep p8_0
  have O9 := O3.keep p8_0 (allS g_b2 all0)
  have pre11 : ∀ t, Steps p.tables e below (T8.setTop (mkF m 25 #[iv p1, iv p2, iv p3, iv ((p1 &&& (2147483647 : Int32)) % (5 : Int32)), rv (own_pick ((p1 &&& (2147483647 : Int32)) % (5 : Int32)) w_NONE w_DECLINED w_OFFERED w_TAKEN w_SKIPPED), rv b2, .unset, .unset, .unset] [.int (p2 &&& (1 : Int32))])) t → Steps p.tables e below (s₁.setTop (entryFrame m #[(.int p1), (.int p2), (.int p3)] maxLocals)) t := by
    intro t kt
    refine pre0 _ ?_
    show Sq p e below m s₁ 0 #[iv p1, iv p2, iv p3, .unset, .unset, .unset, .unset, .unset, .unset] [] _
    refine XS.iloadN X0.here hx rfl (hb hby at_0) rfl ?_
    show Sq p e below m s₁ 1 #[iv p1, iv p2, iv p3, .unset, .unset, .unset, .unset, .unset, .unset] [.int p1] _
    refine X0.ldcInt hx hown (mvT hZ (W 0 rfl)) (g := (mkF m 1 #[iv p1, iv p2, iv p3, .unset, .unset, .unset, .unset, .unset, .unset] [.int p1])) rfl (hb hby at_1) _ ?_
    show Sq p e below m s₁ 3 #[iv p1, iv p2, iv p3, .unset, .unset, .unset, .unset, .unset, .unset] [.int 2147483647, .int p1] _
    refine XS.iand X0.here hx rfl (hb hby at_3) rfl ?_
    refine XS.iconst X0.here hx rfl (hb hby at_4) ?_
    show Sq p e below m s₁ 5 #[iv p1, iv p2, iv p3, .unset, .unset, .unset, .unset, .unset, .unset] [.int 5, .int (p1 &&& (2147483647 : Int32))] _
    refine iremM X0 hx rfl (hb hby at_5) rfl (by decide : (5 : Int32) ≠ (0 : Int32)) ?_
    show Sq p e below m s₁ 6 #[iv p1, iv p2, iv p3, .unset, .unset, .unset, .unset, .unset, .unset] [.int ((p1 &&& (2147483647 : Int32)) % (5 : Int32))] _
    refine XS.istoreN X0.here hx rfl (hb hby at_6) rfl rfl ?_
    refine XS.iloadN X0.here hx rfl (hb hby at_7) rfl ?_
    show Sq p e below m s₁ 8 #[iv p1, iv p2, iv p3, iv ((p1 &&& (2147483647 : Int32)) % (5 : Int32)), .unset, .unset, .unset, .unset, .unset] [.int ((p1 &&& (2147483647 : Int32)) % (5 : Int32))] _
    refine st1 _ ?_
    show Sq p e below m T1 11 #[iv p1, iv p2, iv p3, iv ((p1 &&& (2147483647 : Int32)) % (5 : Int32)), .unset, .unset, .unset, .unset, .unset] [.ref (own_pick ((p1 &&& (2147483647 : Int32)) % (5 : Int32)) w_NONE w_DECLINED w_OFFERED w_TAKEN w_SKIPPED)] _
    refine XS.astore X1.here hx rfl (hb hby at_11) rfl rfl rfl ?_
    show Sq p e below m T1 13 #[iv p1, iv p2, iv p3, iv ((p1 &&& (2147483647 : Int32)) % (5 : Int32)), rv (own_pick ((p1 &&& (2147483647 : Int32)) % (5 : Int32)) w_NONE w_DECLINED w_OFFERED w_TAKEN w_SKIPPED), .unset, .unset, .unset, .unset] [] _
    refine st2 _ ?_
    show Sq p e below m T2 16 #[iv p1, iv p2, iv p3, iv ((p1 &&& (2147483647 : Int32)) % (5 : Int32)), rv (own_pick ((p1 &&& (2147483647 : Int32)) % (5 : Int32)) w_NONE w_DECLINED w_OFFERED w_TAKEN w_SKIPPED), .unset, .unset, .unset, .unset] [.ref b2] _
    refine XS.dup X2.here hx rfl (hb hby at_16) rfl rfl ?_
    show Sq p e below m T2 17 #[iv p1, iv p2, iv p3, iv ((p1 &&& (2147483647 : Int32)) % (5 : Int32)), rv (own_pick ((p1 &&& (2147483647 : Int32)) % (5 : Int32)) w_NONE w_DECLINED w_OFFERED w_TAKEN w_SKIPPED), .unset, .unset, .unset, .unset] [.ref b2, .ref b2] _
    refine st8.trans ?_
    show Sq p e below m T8 20 #[iv p1, iv p2, iv p3, iv ((p1 &&& (2147483647 : Int32)) % (5 : Int32)), rv (own_pick ((p1 &&& (2147483647 : Int32)) % (5 : Int32)) w_NONE w_DECLINED w_OFFERED w_TAKEN w_SKIPPED), .unset, .unset, .unset, .unset] [.ref b2] _
    refine XS.astore X8.here hx rfl (hb hby at_20) rfl rfl rfl ?_
    refine XS.iloadN X8.here hx rfl (hb hby at_22) rfl ?_
    show Sq p e below m T8 23 #[iv p1, iv p2, iv p3, iv ((p1 &&& (2147483647 : Int32)) % (5 : Int32)), rv (own_pick ((p1 &&& (2147483647 : Int32)) % (5 : Int32)) w_NONE w_DECLINED w_OFFERED w_TAKEN w_SKIPPED), rv b2, .unset, .unset, .unset] [.int p2] _
    refine XS.iconst X8.here hx rfl (hb hby at_23) ?_
    refine XS.iand X8.here hx rfl (hb hby at_24) rfl ?_
    exact kt
  by_cases hc25 : (p2 &&& (1 : Int32)) = (0 : Int32)
  · obtain ⟨T12, X12, e12, st12⟩ := getS2 X8 hx hZ hown (host := "") (Or.inl (W 123 rfl)) Via.refl e8 (S_w_OFFER.ext O9.2) (g := (mkF m 95 #[iv p1, iv p2, iv p3, iv ((p1 &&& (2147483647 : Int32)) % (5 : Int32)), rv (own_pick ((p1 &&& (2147483647 : Int32)) % (5 : Int32)) w_NONE w_DECLINED w_OFFERED w_TAKEN w_SKIPPED), rv b2, .unset, .unset, .unset] [])) rfl (hb hby at_95)
    obtain ⟨T13, h13, X13, e13, E13, A13, D13, -, st13⟩ := newO X12 hx hZ hown (W 126 rfl) (W 127 rfl) (W 124 rfl) e12 (g := (mkF m 100 #[iv p1, iv p2, iv p3, iv ((p1 &&& (2147483647 : Int32)) % (5 : Int32)), rv (own_pick ((p1 &&& (2147483647 : Int32)) % (5 : Int32)) w_NONE w_DECLINED w_OFFERED w_TAKEN w_SKIPPED), rv b2, rv w_OFFER, .unset, .unset] [])) rfl (hb hby at_100) (by decide) (by decide)
    obtain ⟨b13, g13⟩ : ∃ z, z = h8.size := ⟨_, rfl⟩
    rw [← g13] at A13 D13 st13
    have g_b13 : n0 ≤ b13 := Nat.le_trans (own_sz O9) (Nat.le_of_eq g13.symm)
    have O14 := O9.ext E13
    have Fz16 : Fld Z h13 b13 "com/example/latchkey/latchkey/ScaffoldOffer" "offeredBy" "Ljava/util/Optional;" .null := D13 (Or.inr (W 134 rfl)) (ty := (.object "java/util/Optional")) (by decide)
    have Fz17 : Fld Z h13 b13 "com/example/latchkey/latchkey/ScaffoldOffer" "offeredAt" "Ljava/util/Optional;" .null := D13 (Or.inr (W 141 rfl)) (ty := (.object "java/util/Optional")) (by decide)
    have Fz18 : Fld Z h13 b13 "com/example/latchkey/latchkey/ScaffoldOffer" "answeredAt" "Ljava/util/Optional;" .null := D13 (Or.inr (W 148 rfl)) (ty := (.object "java/util/Optional")) (by decide)
    have Fz19 : Fld Z h13 b13 "com/example/latchkey/latchkey/ScaffoldOffer" "status" "Lcom/example/latchkey/latchkey/ScaffoldOffer$Status;" .null := D13 (Or.inr (W 154 rfl)) (ty := (.object "com/example/latchkey/latchkey/ScaffoldOffer$Status")) (by decide)
    have Fz20 : Fld Z h13 b13 "com/example/latchkey/latchkey/ScaffoldOffer" "kinds" "Ljava/util/List;" .null := D13 (Or.inr (W 156 rfl)) (ty := (.object "java/util/List")) (by decide)
    obtain ⟨cq21, kq21, q21a, q21b, q21c⟩ := isOf hZ e13 (E_w_OFFER.ext O14.2)
    obtain ⟨_, _, ⟨T21, L21, k21, n21⟩, -, X21, ⟨Lc21, hQ21, l21, y21, z21⟩, st21⟩ := X13.virtualBack hx (y := y_12) (z := y_12) hown (mvT hZ (W 128 rfl)) (mvT hZ (W 129 rfl)) (notFace_of_selects (args := #[]) (mvT hZ (W 131 rfl))) (mvT hZ (W 131 rfl)) (mvT hZ (W 130 rfl)) (by decide) (backOf (W := 3) (getofferedBy l Z a0 hw [] w_OFFER w_OFFER_offeredBy h13 n0 O14 (F_w_OFFER_offeredBy.ext O14.2)) hZ (W 132 rfl) (W 124 rfl) (by decide) (by decide)) q21a q21c (g := (mkF m 108 #[iv p1, iv p2, iv p3, iv ((p1 &&& (2147483647 : Int32)) % (5 : Int32)), rv (own_pick ((p1 &&& (2147483647 : Int32)) % (5 : Int32)) w_NONE w_DECLINED w_OFFERED w_TAKEN w_SKIPPED), rv b2, rv w_OFFER, .unset, .unset] [.ref w_OFFER, .ref (own_pick ((p1 &&& (2147483647 : Int32)) % (5 : Int32)) w_NONE w_DECLINED w_OFFERED w_TAKEN w_SKIPPED), .ref b13, .ref b13])) rfl (by rw [hml]; rfl) (Steps.refl _) (argsL := []) (rest := [.ref (own_pick ((p1 &&& (2147483647 : Int32)) % (5 : Int32)) w_NONE w_DECLINED w_OFFERED w_TAKEN w_SKIPPED), .ref b13, .ref b13]) (lenOf pd_11 rfl) rfl (by show 2 * 0 + _ ≤ _; exact Nat.le_of_eq rfl) (hb hby at_108) (fun _ _ => ⟨rfl, e13, (by decide : 2 + 0 ≤ _), (by decide : 8 + 0 ≤ _)⟩)
    dsimp only [Pt.U, Pt.locs, Pt.cells, Pt.slots] at X21 l21 y21 z21 st21 hQ21
    subst l21 y21 z21
    obtain ⟨h21, e21⟩ : ∃ z, T21.heap = z := ⟨_, rfl⟩
    rw [e21] at hQ21
    obtain ⟨rfl, N21q, p21_0⟩ := hQ21
    have N21 := Fr.app N8 N21q
    rw [p21_0] at e21
    obtain ⟨cq22, kq22, q22a, q22b, q22c⟩ := isOf hZ e21 (E_w_OFFER.ext O14.2)
    obtain ⟨_, _, ⟨T22, L22, k22, n22⟩, -, X22, ⟨Lc22, hQ22, l22, y22, z22⟩, st22⟩ := X21.virtualBack hx (y := y_13) (z := y_13) hown (mvT hZ (W 135 rfl)) (mvT hZ (W 136 rfl)) (notFace_of_selects (args := #[]) (mvT hZ (W 138 rfl))) (mvT hZ (W 138 rfl)) (mvT hZ (W 137 rfl)) (by decide) (backOf (W := 4) (getofferedAt l Z a0 hw [] w_OFFER w_OFFER_offeredBy h13 n0 O14 (F_w_OFFER_offeredAt.ext O14.2)) hZ (W 139 rfl) (W 124 rfl) (by decide) (by decide)) q22a q22c (g := (mkF m 113 #[iv p1, iv p2, iv p3, iv ((p1 &&& (2147483647 : Int32)) % (5 : Int32)), rv (own_pick ((p1 &&& (2147483647 : Int32)) % (5 : Int32)) w_NONE w_DECLINED w_OFFERED w_TAKEN w_SKIPPED), rv b2, rv w_OFFER, .unset, .unset] [.ref w_OFFER, .ref w_OFFER_offeredBy, .ref (own_pick ((p1 &&& (2147483647 : Int32)) % (5 : Int32)) w_NONE w_DECLINED w_OFFERED w_TAKEN w_SKIPPED), .ref b13, .ref b13])) rfl (by rw [hml]; rfl) (Steps.refl _) (argsL := []) (rest := [.ref w_OFFER_offeredBy, .ref (own_pick ((p1 &&& (2147483647 : Int32)) % (5 : Int32)) w_NONE w_DECLINED w_OFFERED w_TAKEN w_SKIPPED), .ref b13, .ref b13]) (lenOf pd_11 rfl) rfl (by show 2 * 0 + _ ≤ _; exact Nat.le_of_eq rfl) (hb hby at_113) (fun _ _ => ⟨rfl, e21, (by decide : 2 + 0 ≤ _), (by decide : 8 + 0 ≤ _)⟩)
    dsimp only [Pt.U, Pt.locs, Pt.cells, Pt.slots] at X22 l22 y22 z22 st22 hQ22
    subst l22 y22 z22
    obtain ⟨h22, e22⟩ : ∃ z, T22.heap = z := ⟨_, rfl⟩
    rw [e22] at hQ22
    obtain ⟨rfl, N22q, p22_0⟩ := hQ22
    have N22 := Fr.app N21 N22q
    rw [p22_0] at e22
    obtain ⟨cq23, kq23, q23a, q23b, q23c⟩ := isOf hZ e22 (E_w_OFFER.ext O14.2)
    obtain ⟨_, _, ⟨T23, L23, k23, n23⟩, -, X23, ⟨Lc23, hQ23, l23, y23, z23⟩, st23⟩ := X22.virtualBack hx (y := y_14) (z := y_14) hown (mvT hZ (W 142 rfl)) (mvT hZ (W 143 rfl)) (notFace_of_selects (args := #[]) (mvT hZ (W 145 rfl))) (mvT hZ (W 145 rfl)) (mvT hZ (W 144 rfl)) (by decide) (backOf (W := 5) (getansweredAt l Z a0 hw [] w_OFFER w_OFFER_offeredBy h13 n0 O14 (F_w_OFFER_answeredAt.ext O14.2)) hZ (W 146 rfl) (W 124 rfl) (by decide) (by decide)) q23a q23c (g := (mkF m 118 #[iv p1, iv p2, iv p3, iv ((p1 &&& (2147483647 : Int32)) % (5 : Int32)), rv (own_pick ((p1 &&& (2147483647 : Int32)) % (5 : Int32)) w_NONE w_DECLINED w_OFFERED w_TAKEN w_SKIPPED), rv b2, rv w_OFFER, .unset, .unset] [.ref w_OFFER, .ref w_OFFER_offeredBy, .ref w_OFFER_offeredBy, .ref (own_pick ((p1 &&& (2147483647 : Int32)) % (5 : Int32)) w_NONE w_DECLINED w_OFFERED w_TAKEN w_SKIPPED), .ref b13, .ref b13])) rfl (by rw [hml]; rfl) (Steps.refl _) (argsL := []) (rest := [.ref w_OFFER_offeredBy, .ref w_OFFER_offeredBy, .ref (own_pick ((p1 &&& (2147483647 : Int32)) % (5 : Int32)) w_NONE w_DECLINED w_OFFERED w_TAKEN w_SKIPPED), .ref b13, .ref b13]) (lenOf pd_11 rfl) rfl (by show 2 * 0 + _ ≤ _; exact Nat.le_of_eq rfl) (hb hby at_118) (fun _ _ => ⟨rfl, e22, (by decide : 2 + 0 ≤ _), (by decide : 8 + 0 ≤ _)⟩)
    dsimp only [Pt.U, Pt.locs, Pt.cells, Pt.slots] at X23 l23 y23 z23 st23 hQ23
    subst l23 y23 z23
    obtain ⟨h23, e23⟩ : ∃ z, T23.heap = z := ⟨_, rfl⟩
    rw [e23] at hQ23
    obtain ⟨rfl, N23q, p23_0⟩ := hQ23
    have N23 := Fr.app N22 N23q
    rw [p23_0] at e23
    obtain ⟨_, _, ⟨T24, L24, k24, n24⟩, -, X24, ⟨Lc24, hQ24, l24, y24, z24⟩, st24⟩ := X23.specialBack hx (y := y_16) rfl hown (mvT hZ (W 149 rfl)) (mvT hZ (W 150 rfl)) (mvT hZ (W 151 rfl)) (by decide) (backOf (W := 1) (soinit l Z a0 hw [] b13 (own_pick ((p1 &&& (2147483647 : Int32)) % (5 : Int32)) w_NONE w_DECLINED w_OFFERED w_TAKEN w_SKIPPED) w_OFFER_offeredBy w_OFFER_offeredBy w_OFFER_offeredBy b2 h13 n0 O14 A13 Fz19 Fz16 Fz17 Fz18 Fz20 g_b13) hZ (W 151 rfl) (W 124 rfl) (by decide) (by decide)) (g := (mkF m 123 #[iv p1, iv p2, iv p3, iv ((p1 &&& (2147483647 : Int32)) % (5 : Int32)), rv (own_pick ((p1 &&& (2147483647 : Int32)) % (5 : Int32)) w_NONE w_DECLINED w_OFFERED w_TAKEN w_SKIPPED), rv b2, rv w_OFFER, .unset, .unset] [.ref b2, .ref w_OFFER_offeredBy, .ref w_OFFER_offeredBy, .ref w_OFFER_offeredBy, .ref (own_pick ((p1 &&& (2147483647 : Int32)) % (5 : Int32)) w_NONE w_DECLINED w_OFFERED w_TAKEN w_SKIPPED), .ref b13, .ref b13])) rfl (by rw [hml]; rfl) (Steps.refl _) (a := b13) (argsL := [.ref (own_pick ((p1 &&& (2147483647 : Int32)) % (5 : Int32)) w_NONE w_DECLINED w_OFFERED w_TAKEN w_SKIPPED), .ref w_OFFER_offeredBy, .ref w_OFFER_offeredBy, .ref w_OFFER_offeredBy, .ref b2]) (rest := [.ref b13]) (lenOf pd_12 rfl) rfl (by show 2 * 0 + _ ≤ _; exact Nat.le_of_eq rfl) (hb hby at_123) (fun _ _ => ⟨rfl, e23, (by decide : 2 + 0 ≤ _), (by decide : 8 + 0 ≤ _)⟩)
    dsimp only [Pt.U, Pt.locs, Pt.cells, Pt.slots] at X24 l24 y24 z24 st24 hQ24
    subst l24 y24 z24
    obtain ⟨h24, e24⟩ : ∃ z, T24.heap = z := ⟨_, rfl⟩
    rw [e24] at hQ24
    obtain ⟨rfl, N24q, p24_0, p24_1⟩ := hQ24
    have N24 := Fr.app N23 N24q
    have A13 := A13.keep p24_0
    have O25 := O14.keep p24_0 (allS g_b13 all0)
    have pre27 : ∀ t, Steps p.tables e below (T24.setTop (mkF m 130 #[iv p1, iv p2, iv p3, iv ((p1 &&& (2147483647 : Int32)) % (5 : Int32)), rv (own_pick ((p1 &&& (2147483647 : Int32)) % (5 : Int32)) w_NONE w_DECLINED w_OFFERED w_TAKEN w_SKIPPED), rv b2, rv w_OFFER, rv b13, .unset] [.int 2, .int ((p1 &&& (2147483647 : Int32)) % (5 : Int32))])) t → Steps p.tables e below (s₁.setTop (entryFrame m #[(.int p1), (.int p2), (.int p3)] maxLocals)) t := by
      intro t kt
      refine pre11 _ ?_
      show Sq p e below m T8 25 #[iv p1, iv p2, iv p3, iv ((p1 &&& (2147483647 : Int32)) % (5 : Int32)), rv (own_pick ((p1 &&& (2147483647 : Int32)) % (5 : Int32)) w_NONE w_DECLINED w_OFFERED w_TAKEN w_SKIPPED), rv b2, .unset, .unset, .unset] [.int (p2 &&& (1 : Int32))] _
      refine XS.ifYes X8.here hx rfl (pc0 := 25) (pc' := 95) rfl (hb hby at_25) rfl ((if0 _ _).trans (teq hc25).1) (by decide) (by decide) ?_
      show Sq p e below m T8 95 #[iv p1, iv p2, iv p3, iv ((p1 &&& (2147483647 : Int32)) % (5 : Int32)), rv (own_pick ((p1 &&& (2147483647 : Int32)) % (5 : Int32)) w_NONE w_DECLINED w_OFFERED w_TAKEN w_SKIPPED), rv b2, .unset, .unset, .unset] [] _
      refine st12 _ ?_
      show Sq p e below m T12 98 #[iv p1, iv p2, iv p3, iv ((p1 &&& (2147483647 : Int32)) % (5 : Int32)), rv (own_pick ((p1 &&& (2147483647 : Int32)) % (5 : Int32)) w_NONE w_DECLINED w_OFFERED w_TAKEN w_SKIPPED), rv b2, .unset, .unset, .unset] [.ref w_OFFER] _
      refine XS.astore X12.here hx rfl (hb hby at_98) rfl rfl rfl ?_
      show Sq p e below m T12 100 #[iv p1, iv p2, iv p3, iv ((p1 &&& (2147483647 : Int32)) % (5 : Int32)), rv (own_pick ((p1 &&& (2147483647 : Int32)) % (5 : Int32)) w_NONE w_DECLINED w_OFFERED w_TAKEN w_SKIPPED), rv b2, rv w_OFFER, .unset, .unset] [] _
      refine st13 _ ?_
      show Sq p e below m T13 103 #[iv p1, iv p2, iv p3, iv ((p1 &&& (2147483647 : Int32)) % (5 : Int32)), rv (own_pick ((p1 &&& (2147483647 : Int32)) % (5 : Int32)) w_NONE w_DECLINED w_OFFERED w_TAKEN w_SKIPPED), rv b2, rv w_OFFER, .unset, .unset] [.ref b13] _
      refine XS.dup X13.here hx rfl (hb hby at_103) rfl rfl ?_
      refine XS.aload X13.here hx rfl (hb hby at_104) rfl rfl ?_
      show Sq p e below m T13 106 #[iv p1, iv p2, iv p3, iv ((p1 &&& (2147483647 : Int32)) % (5 : Int32)), rv (own_pick ((p1 &&& (2147483647 : Int32)) % (5 : Int32)) w_NONE w_DECLINED w_OFFERED w_TAKEN w_SKIPPED), rv b2, rv w_OFFER, .unset, .unset] [.ref (own_pick ((p1 &&& (2147483647 : Int32)) % (5 : Int32)) w_NONE w_DECLINED w_OFFERED w_TAKEN w_SKIPPED), .ref b13, .ref b13] _
      refine XS.aload X13.here hx rfl (hb hby at_106) rfl rfl ?_
      show Sq p e below m T13 108 #[iv p1, iv p2, iv p3, iv ((p1 &&& (2147483647 : Int32)) % (5 : Int32)), rv (own_pick ((p1 &&& (2147483647 : Int32)) % (5 : Int32)) w_NONE w_DECLINED w_OFFERED w_TAKEN w_SKIPPED), rv b2, rv w_OFFER, .unset, .unset] [.ref w_OFFER, .ref (own_pick ((p1 &&& (2147483647 : Int32)) % (5 : Int32)) w_NONE w_DECLINED w_OFFERED w_TAKEN w_SKIPPED), .ref b13, .ref b13] _
      refine st21.trans ?_
      show Sq p e below m T21 111 #[iv p1, iv p2, iv p3, iv ((p1 &&& (2147483647 : Int32)) % (5 : Int32)), rv (own_pick ((p1 &&& (2147483647 : Int32)) % (5 : Int32)) w_NONE w_DECLINED w_OFFERED w_TAKEN w_SKIPPED), rv b2, rv w_OFFER, .unset, .unset] [.ref w_OFFER_offeredBy, .ref (own_pick ((p1 &&& (2147483647 : Int32)) % (5 : Int32)) w_NONE w_DECLINED w_OFFERED w_TAKEN w_SKIPPED), .ref b13, .ref b13] _
      refine XS.aload X21.here hx rfl (hb hby at_111) rfl rfl ?_
      show Sq p e below m T21 113 #[iv p1, iv p2, iv p3, iv ((p1 &&& (2147483647 : Int32)) % (5 : Int32)), rv (own_pick ((p1 &&& (2147483647 : Int32)) % (5 : Int32)) w_NONE w_DECLINED w_OFFERED w_TAKEN w_SKIPPED), rv b2, rv w_OFFER, .unset, .unset] [.ref w_OFFER, .ref w_OFFER_offeredBy, .ref (own_pick ((p1 &&& (2147483647 : Int32)) % (5 : Int32)) w_NONE w_DECLINED w_OFFERED w_TAKEN w_SKIPPED), .ref b13, .ref b13] _
      refine st22.trans ?_
      show Sq p e below m T22 116 #[iv p1, iv p2, iv p3, iv ((p1 &&& (2147483647 : Int32)) % (5 : Int32)), rv (own_pick ((p1 &&& (2147483647 : Int32)) % (5 : Int32)) w_NONE w_DECLINED w_OFFERED w_TAKEN w_SKIPPED), rv b2, rv w_OFFER, .unset, .unset] [.ref w_OFFER_offeredBy, .ref w_OFFER_offeredBy, .ref (own_pick ((p1 &&& (2147483647 : Int32)) % (5 : Int32)) w_NONE w_DECLINED w_OFFERED w_TAKEN w_SKIPPED), .ref b13, .ref b13] _
      refine XS.aload X22.here hx rfl (hb hby at_116) rfl rfl ?_
      show Sq p e below m T22 118 #[iv p1, iv p2, iv p3, iv ((p1 &&& (2147483647 : Int32)) % (5 : Int32)), rv (own_pick ((p1 &&& (2147483647 : Int32)) % (5 : Int32)) w_NONE w_DECLINED w_OFFERED w_TAKEN w_SKIPPED), rv b2, rv w_OFFER, .unset, .unset] [.ref w_OFFER, .ref w_OFFER_offeredBy, .ref w_OFFER_offeredBy, .ref (own_pick ((p1 &&& (2147483647 : Int32)) % (5 : Int32)) w_NONE w_DECLINED w_OFFERED w_TAKEN w_SKIPPED), .ref b13, .ref b13] _
      refine st23.trans ?_
      show Sq p e below m T23 121 #[iv p1, iv p2, iv p3, iv ((p1 &&& (2147483647 : Int32)) % (5 : Int32)), rv (own_pick ((p1 &&& (2147483647 : Int32)) % (5 : Int32)) w_NONE w_DECLINED w_OFFERED w_TAKEN w_SKIPPED), rv b2, rv w_OFFER, .unset, .unset] [.ref w_OFFER_offeredBy, .ref w_OFFER_offeredBy, .ref w_OFFER_offeredBy, .ref (own_pick ((p1 &&& (2147483647 : Int32)) % (5 : Int32)) w_NONE w_DECLINED w_OFFERED w_TAKEN w_SKIPPED), .ref b13, .ref b13] _
      refine XS.aload X23.here hx rfl (hb hby at_121) rfl rfl ?_
      show Sq p e below m T23 123 #[iv p1, iv p2, iv p3, iv ((p1 &&& (2147483647 : Int32)) % (5 : Int32)), rv (own_pick ((p1 &&& (2147483647 : Int32)) % (5 : Int32)) w_NONE w_DECLINED w_OFFERED w_TAKEN w_SKIPPED), rv b2, rv w_OFFER, .unset, .unset] [.ref b2, .ref w_OFFER_offeredBy, .ref w_OFFER_offeredBy, .ref w_OFFER_offeredBy, .ref (own_pick ((p1 &&& (2147483647 : Int32)) % (5 : Int32)) w_NONE w_DECLINED w_OFFERED w_TAKEN w_SKIPPED), .ref b13, .ref b13] _
      refine st24.trans ?_
      show Sq p e below m T24 126 #[iv p1, iv p2, iv p3, iv ((p1 &&& (2147483647 : Int32)) % (5 : Int32)), rv (own_pick ((p1 &&& (2147483647 : Int32)) % (5 : Int32)) w_NONE w_DECLINED w_OFFERED w_TAKEN w_SKIPPED), rv b2, rv w_OFFER, .unset, .unset] [.ref b13] _
      refine XS.astore X24.here hx rfl (hb hby at_126) rfl rfl rfl ?_
      refine XS.iloadN X24.here hx rfl (hb hby at_128) rfl ?_
      show Sq p e below m T24 129 #[iv p1, iv p2, iv p3, iv ((p1 &&& (2147483647 : Int32)) % (5 : Int32)), rv (own_pick ((p1 &&& (2147483647 : Int32)) % (5 : Int32)) w_NONE w_DECLINED w_OFFERED w_TAKEN w_SKIPPED), rv b2, rv w_OFFER, rv b13, .unset] [.int ((p1 &&& (2147483647 : Int32)) % (5 : Int32))] _
      refine XS.iconst X24.here hx rfl (hb hby at_129) ?_
      exact kt
    by_cases hc130 : ((p1 &&& (2147483647 : Int32)) % (5 : Int32)) = (2 : Int32)
    · obtain ⟨cq28, kq28, q28a, q28b, q28c⟩ := isOf hZ e24 A13
      obtain ⟨_, _, ⟨T28, L28, k28, n28⟩, -, X28, ⟨Lc28, hQ28, l28, y28, z28⟩, st28⟩ := X24.virtualBack hx (y := y_21) (z := y_21) hown (mvT hZ (W 157 rfl)) (mvT hZ (W 158 rfl)) (notFace_of_selects (args := #[]) (mvT hZ (W 160 rfl))) (mvT hZ (W 160 rfl)) (mvT hZ (W 159 rfl)) (by decide) (backOf (W := 0) (wait1 l Z a0 hw [] b13 (own_pick ((p1 &&& (2147483647 : Int32)) % (5 : Int32)) w_NONE w_DECLINED w_OFFERED w_TAKEN w_SKIPPED) w_OFFERED h24 n0 O25 p24_1 S_w_OFFERED (own_pk2 hc130)) hZ (W 161 rfl) (W 124 rfl) (by decide) (by decide)) q28a q28c (g := (mkF m 142 #[iv p1, iv p2, iv p3, iv ((p1 &&& (2147483647 : Int32)) % (5 : Int32)), rv (own_pick ((p1 &&& (2147483647 : Int32)) % (5 : Int32)) w_NONE w_DECLINED w_OFFERED w_TAKEN w_SKIPPED), rv b2, rv w_OFFER, rv b13, iv 1] [.ref b13])) rfl (by rw [hml]; rfl) (Steps.refl _) (argsL := []) (rest := []) (lenOf pd_13 rfl) rfl (by show 2 * 0 + _ ≤ _; exact Nat.le_of_eq rfl) (hb hby at_142) (fun _ _ => ⟨rfl, e24, (by decide : 2 + 0 ≤ _), (by decide : 8 + 0 ≤ _)⟩)
      dsimp only [Pt.U, Pt.locs, Pt.cells, Pt.slots] at X28 l28 y28 z28 st28 hQ28
      subst l28 y28 z28
      obtain ⟨h28, e28⟩ : ∃ z, T28.heap = z := ⟨_, rfl⟩
      rw [e28] at hQ28
      obtain ⟨rfl, N28q, p28_0⟩ := hQ28
      have N28 := Fr.app N24 N28q
      rw [p28_0] at e28
      obtain ⟨fs, hr, hrun, hended, hW, hsame⟩ := X28.leave (v := some (.int (1 : Int32))) (fun h => by rw [Bd.returns] at h; cases h)
      refine ⟨_, _, pre27 _ ?_, hrun, hended, _, _, rfl, ?_, ⟨_, rfl⟩, hW, hsame.mono (by decide) (by decide)⟩
      · show Sq p e below m T24 130 #[iv p1, iv p2, iv p3, iv ((p1 &&& (2147483647 : Int32)) % (5 : Int32)), rv (own_pick ((p1 &&& (2147483647 : Int32)) % (5 : Int32)) w_NONE w_DECLINED w_OFFERED w_TAKEN w_SKIPPED), rv b2, rv w_OFFER, rv b13, .unset] [.int 2, .int ((p1 &&& (2147483647 : Int32)) % (5 : Int32))] _
        refine XS.icmpNo X24.here hx rfl (hb hby at_130) rfl (teq hc130).2 ?_
        refine XS.iconst X24.here hx rfl (hb hby at_133) ?_
        show Sq p e below m T24 134 #[iv p1, iv p2, iv p3, iv ((p1 &&& (2147483647 : Int32)) % (5 : Int32)), rv (own_pick ((p1 &&& (2147483647 : Int32)) % (5 : Int32)) w_NONE w_DECLINED w_OFFERED w_TAKEN w_SKIPPED), rv b2, rv w_OFFER, rv b13, .unset] [.int 1] _
        refine XS.goto X24.here hx rfl (pc0 := 134) (pc' := 138) rfl (hb hby at_134) (by decide) (by decide) ?_
        refine XS.istore X24.here hx rfl (hb hby at_138) rfl rfl ?_
        show Sq p e below m T24 140 #[iv p1, iv p2, iv p3, iv ((p1 &&& (2147483647 : Int32)) % (5 : Int32)), rv (own_pick ((p1 &&& (2147483647 : Int32)) % (5 : Int32)) w_NONE w_DECLINED w_OFFERED w_TAKEN w_SKIPPED), rv b2, rv w_OFFER, rv b13, iv 1] [] _
        refine XS.aload X24.here hx rfl (hb hby at_140) rfl rfl ?_
        show Sq p e below m T24 142 #[iv p1, iv p2, iv p3, iv ((p1 &&& (2147483647 : Int32)) % (5 : Int32)), rv (own_pick ((p1 &&& (2147483647 : Int32)) % (5 : Int32)) w_NONE w_DECLINED w_OFFERED w_TAKEN w_SKIPPED), rv b2, rv w_OFFER, rv b13, iv 1] [.ref b13] _
        refine st28.trans ?_
        show Sq p e below m T28 145 #[iv p1, iv p2, iv p3, iv ((p1 &&& (2147483647 : Int32)) % (5 : Int32)), rv (own_pick ((p1 &&& (2147483647 : Int32)) % (5 : Int32)) w_NONE w_DECLINED w_OFFERED w_TAKEN w_SKIPPED), rv b2, rv w_OFFER, rv b13, iv 1] [.int 1] _
        refine XS.iload X28.here hx rfl (hb hby at_145) rfl ?_
        refine XS.icmpNo X28.here hx rfl (hb hby at_147) rfl (teq (rfl : (1 : Int32) = (1 : Int32))).2 ?_
        show Sq p e below m T28 150 #[iv p1, iv p2, iv p3, iv ((p1 &&& (2147483647 : Int32)) % (5 : Int32)), rv (own_pick ((p1 &&& (2147483647 : Int32)) % (5 : Int32)) w_NONE w_DECLINED w_OFFERED w_TAKEN w_SKIPPED), rv b2, rv w_OFFER, rv b13, iv 1] [] _
        refine XS.iconst X28.here hx rfl (hb hby at_150) ?_
        refine XS.goto X28.here hx rfl (pc0 := 151) (pc' := 155) rfl (hb hby at_151) (by decide) (by decide) ?_
        show Sq p e below m T28 155 #[iv p1, iv p2, iv p3, iv ((p1 &&& (2147483647 : Int32)) % (5 : Int32)), rv (own_pick ((p1 &&& (2147483647 : Int32)) % (5 : Int32)) w_NONE w_DECLINED w_OFFERED w_TAKEN w_SKIPPED), rv b2, rv w_OFFER, rv b13, iv 1] [.int 1] _
        exact retN X28 hx (t := .boolean) Bd.returns (by simp) (hb hby at_155) hr
      · show Q_rm0 Z p1 p2 p3 w_NONE w_OFFER w_OFFER_offeredBy w_OFFERED w_DECLINED w_SKIPPED w_TAKEN w_DEF w_ELIST kdef cs h0 n0 _ T28.heap _
        rw [e28]
        exact ⟨rfl, N28⟩
    · obtain ⟨cq28, kq28, q28a, q28b, q28c⟩ := isOf hZ e24 A13
      obtain ⟨_, _, ⟨T28, L28, k28, n28⟩, -, X28, ⟨Lc28, hQ28, l28, y28, z28⟩, st28⟩ := X24.virtualBack hx (y := y_21) (z := y_21) hown (mvT hZ (W 157 rfl)) (mvT hZ (W 158 rfl)) (notFace_of_selects (args := #[]) (mvT hZ (W 160 rfl))) (mvT hZ (W 160 rfl)) (mvT hZ (W 159 rfl)) (by decide) (backOf (W := 0) (wait0 l Z a0 hw [] b13 (own_pick ((p1 &&& (2147483647 : Int32)) % (5 : Int32)) w_NONE w_DECLINED w_OFFERED w_TAKEN w_SKIPPED) w_OFFERED h24 n0 O25 p24_1 S_w_OFFERED (own_pkn hc130 ne_0 ne_1 ne_3 ne_4)) hZ (W 161 rfl) (W 124 rfl) (by decide) (by decide)) q28a q28c (g := (mkF m 142 #[iv p1, iv p2, iv p3, iv ((p1 &&& (2147483647 : Int32)) % (5 : Int32)), rv (own_pick ((p1 &&& (2147483647 : Int32)) % (5 : Int32)) w_NONE w_DECLINED w_OFFERED w_TAKEN w_SKIPPED), rv b2, rv w_OFFER, rv b13, iv 0] [.ref b13])) rfl (by rw [hml]; rfl) (Steps.refl _) (argsL := []) (rest := []) (lenOf pd_13 rfl) rfl (by show 2 * 0 + _ ≤ _; exact Nat.le_of_eq rfl) (hb hby at_142) (fun _ _ => ⟨rfl, e24, (by decide : 2 + 0 ≤ _), (by decide : 8 + 0 ≤ _)⟩)
      dsimp only [Pt.U, Pt.locs, Pt.cells, Pt.slots] at X28 l28 y28 z28 st28 hQ28
      subst l28 y28 z28
      obtain ⟨h28, e28⟩ : ∃ z, T28.heap = z := ⟨_, rfl⟩
      rw [e28] at hQ28
      obtain ⟨rfl, N28q, p28_0⟩ := hQ28
      have N28 := Fr.app N24 N28q
      rw [p28_0] at e28
      obtain ⟨fs, hr, hrun, hended, hW, hsame⟩ := X28.leave (v := some (.int (1 : Int32))) (fun h => by rw [Bd.returns] at h; cases h)
      refine ⟨_, _, pre27 _ ?_, hrun, hended, _, _, rfl, ?_, ⟨_, rfl⟩, hW, hsame.mono (by decide) (by decide)⟩
      · show Sq p e below m T24 130 #[iv p1, iv p2, iv p3, iv ((p1 &&& (2147483647 : Int32)) % (5 : Int32)), rv (own_pick ((p1 &&& (2147483647 : Int32)) % (5 : Int32)) w_NONE w_DECLINED w_OFFERED w_TAKEN w_SKIPPED), rv b2, rv w_OFFER, rv b13, .unset] [.int 2, .int ((p1 &&& (2147483647 : Int32)) % (5 : Int32))] _
        refine XS.icmpYes X24.here hx rfl (pc0 := 130) (pc' := 137) rfl (hb hby at_130) rfl (feq hc130).2 (by decide) (by decide) ?_
        refine XS.iconst X24.here hx rfl (hb hby at_137) ?_
        show Sq p e below m T24 138 #[iv p1, iv p2, iv p3, iv ((p1 &&& (2147483647 : Int32)) % (5 : Int32)), rv (own_pick ((p1 &&& (2147483647 : Int32)) % (5 : Int32)) w_NONE w_DECLINED w_OFFERED w_TAKEN w_SKIPPED), rv b2, rv w_OFFER, rv b13, .unset] [.int 0] _
        refine XS.istore X24.here hx rfl (hb hby at_138) rfl rfl ?_
        refine XS.aload X24.here hx rfl (hb hby at_140) rfl rfl ?_
        show Sq p e below m T24 142 #[iv p1, iv p2, iv p3, iv ((p1 &&& (2147483647 : Int32)) % (5 : Int32)), rv (own_pick ((p1 &&& (2147483647 : Int32)) % (5 : Int32)) w_NONE w_DECLINED w_OFFERED w_TAKEN w_SKIPPED), rv b2, rv w_OFFER, rv b13, iv 0] [.ref b13] _
        refine st28.trans ?_
        show Sq p e below m T28 145 #[iv p1, iv p2, iv p3, iv ((p1 &&& (2147483647 : Int32)) % (5 : Int32)), rv (own_pick ((p1 &&& (2147483647 : Int32)) % (5 : Int32)) w_NONE w_DECLINED w_OFFERED w_TAKEN w_SKIPPED), rv b2, rv w_OFFER, rv b13, iv 0] [.int 0] _
        refine XS.iload X28.here hx rfl (hb hby at_145) rfl ?_
        refine XS.icmpNo X28.here hx rfl (hb hby at_147) rfl (teq (rfl : (0 : Int32) = (0 : Int32))).2 ?_
        show Sq p e below m T28 150 #[iv p1, iv p2, iv p3, iv ((p1 &&& (2147483647 : Int32)) % (5 : Int32)), rv (own_pick ((p1 &&& (2147483647 : Int32)) % (5 : Int32)) w_NONE w_DECLINED w_OFFERED w_TAKEN w_SKIPPED), rv b2, rv w_OFFER, rv b13, iv 0] [] _
        refine XS.iconst X28.here hx rfl (hb hby at_150) ?_
        refine XS.goto X28.here hx rfl (pc0 := 151) (pc' := 155) rfl (hb hby at_151) (by decide) (by decide) ?_
        show Sq p e below m T28 155 #[iv p1, iv p2, iv p3, iv ((p1 &&& (2147483647 : Int32)) % (5 : Int32)), rv (own_pick ((p1 &&& (2147483647 : Int32)) % (5 : Int32)) w_NONE w_DECLINED w_OFFERED w_TAKEN w_SKIPPED), rv b2, rv w_OFFER, rv b13, iv 0] [.int 1] _
        exact retN X28 hx (t := .boolean) Bd.returns (by simp) (hb hby at_155) hr
      · show Q_rm0 Z p1 p2 p3 w_NONE w_OFFER w_OFFER_offeredBy w_OFFERED w_DECLINED w_SKIPPED w_TAKEN w_DEF w_ELIST kdef cs h0 n0 _ T28.heap _
        rw [e28]
        exact ⟨rfl, N28⟩
  · obtain ⟨T12, h12, X12, e12, E12, A12, D12, -, st12⟩ := newO X8 hx hZ hown (W 8 rfl) (W 9 rfl) (W 10 rfl) e8 (g := (mkF m 28 #[iv p1, iv p2, iv p3, iv ((p1 &&& (2147483647 : Int32)) % (5 : Int32)), rv (own_pick ((p1 &&& (2147483647 : Int32)) % (5 : Int32)) w_NONE w_DECLINED w_OFFERED w_TAKEN w_SKIPPED), rv b2, .unset, .unset, .unset] [])) rfl (hb hby at_28) (by decide) (by decide)
    obtain ⟨b12, g12⟩ : ∃ z, z = h8.size := ⟨_, rfl⟩
    rw [← g12] at A12 D12 st12
    have g_b12 : n0 ≤ b12 := Nat.le_trans (own_sz O9) (Nat.le_of_eq g12.symm)
    have ne_b2_b12 : b2 ≠ b12 := Nat.ne_of_lt (Nat.lt_of_lt_of_le A2.lt (Nat.le_of_eq g12.symm))
    have A2 := A2.ext E12
    have p8_1 := p8_1.ext E12
    have p8_2 := p8_2.ext E12
    have p8_3 := p8_3.ext E12
    have O13 := O9.ext E12
    have Fz15 : Fld Z h12 b12 "java/util/AbstractList" "modCount" "I" (.int (0 : Int32)) := D12 (Or.inl (W 30 rfl)) (ty := .int) (by decide)
    have Fz16 : Fld Z h12 b12 "java/util/ArrayList" "elementData" "[Ljava/lang/Object;" .null := D12 (Or.inl (W 33 rfl)) (ty := (.array (.object "java/lang/Object"))) (by decide)
    have Fz17 : Fld Z h12 b12 "java/util/ArrayList" "size" "I" (.int (0 : Int32)) := D12 (Or.inl (W 70 rfl)) (ty := .int) (by decide)
    obtain ⟨_, _, ⟨T18, L18, k18, n18⟩, -, X18, ⟨Lc18, hQ18, l18, y18, z18⟩, st18⟩ := X12.specialBack hx (y := y_2) rfl hown (mvT hZ (W 11 rfl)) (mvT hZ (W 12 rfl)) (mvT hZ (W 13 rfl)) (by decide) (backOf (W := 1) (alinit l Z a0 hw [] b12 w_DEF h12 n0 O13 A12 Fz16 Fz17 Fz15 g_b12 S_w_DEF) hZ (W 13 rfl) (W 10 rfl) (by decide) (by decide)) (g := (mkF m 32 #[iv p1, iv p2, iv p3, iv ((p1 &&& (2147483647 : Int32)) % (5 : Int32)), rv (own_pick ((p1 &&& (2147483647 : Int32)) % (5 : Int32)) w_NONE w_DECLINED w_OFFERED w_TAKEN w_SKIPPED), rv b2, .unset, .unset, .unset] [.ref b12, .ref b12])) rfl (by rw [hml]; rfl) (Steps.refl _) (a := b12) (argsL := []) (rest := [.ref b12]) (lenOf pd_0 rfl) rfl (by show 2 * 0 + _ ≤ _; exact Nat.le_of_eq rfl) (hb hby at_32) (fun _ _ => ⟨rfl, e12, (by decide : 2 + 0 ≤ _), (by decide : 6 + 0 ≤ _)⟩)
    dsimp only [Pt.U, Pt.locs, Pt.cells, Pt.slots] at X18 l18 y18 z18 st18 hQ18
    subst l18 y18 z18
    obtain ⟨h18, e18⟩ : ∃ z, T18.heap = z := ⟨_, rfl⟩
    rw [e18] at hQ18
    obtain ⟨rfl, N18q, p18_0, p18_1, p18_2, p18_3⟩ := hQ18
    have N18 := Fr.app N8 N18q
    have A2 := A2.keep p18_0
    have p8_1 := p8_1.keep p18_0 (ninS ne_b2_b12 nin0)
    have p8_2 := p8_2.keep p18_0 (ninS ne_b2_b12 nin0)
    have p8_3 := p8_3.keep p18_0 (ninS ne_b2_b12 nin0)
    have A12 := A12.keep p18_0
    have O19 := O13.keep p18_0 (allS g_b12 all0)
    obtain ⟨_, _, ⟨T21, L21, k21, n21⟩, -, X21, ⟨Lc21, hQ21, l21, y21, z21⟩, st21⟩ := Jvm.LawKit.callS X18 hx (y := y_9) hown (mvT hZ (W 34 rfl)) (mvT hZ (W 35 rfl)) (mvT hZ (W 36 rfl)) (mvT hZ (W 37 rfl)) (by decide) (backOf (W := 1) (valof l Z a0 hw [] ((p3 &&& (255 : Int32)).toUInt32.toUInt16.toUInt32.toInt32) cs h18 n0 O19 Scs hcs (own_ch p3)) hZ (W 37 rfl) (W 36 rfl) (by decide) (by decide)) (g := (mkF m 45 #[iv p1, iv p2, iv p3, iv ((p1 &&& (2147483647 : Int32)) % (5 : Int32)), rv (own_pick ((p1 &&& (2147483647 : Int32)) % (5 : Int32)) w_NONE w_DECLINED w_OFFERED w_TAKEN w_SKIPPED), rv b2, rv b12, .unset, .unset] [.int ((p3 &&& (255 : Int32)).toUInt32.toUInt16.toUInt32.toInt32), .ref b12])) rfl (by rw [hml]; rfl) (argsL := [.int ((p3 &&& (255 : Int32)).toUInt32.toUInt16.toUInt32.toInt32)]) (rest := [.ref b12]) (lenOf pd_14 rfl) rfl (by show 2 * 0 + _ ≤ _; exact Nat.le_of_eq rfl) (hb hby at_45) (fun _ _ => ⟨rfl, e18, (by decide : 2 + 2 ≤ _), (by decide : 6 + 5 ≤ _)⟩)
    dsimp only [Pt.U, Pt.locs, Pt.cells, Pt.slots] at X21 l21 y21 z21 st21 hQ21
    subst l21 y21 z21
    obtain ⟨h21, e21⟩ : ∃ z, T21.heap = z := ⟨_, rfl⟩
    rw [e21] at hQ21
    obtain ⟨b21b, rfl, N21q, p21_0, p21_1, p21_2⟩ := hQ21
    have N21 := Fr.app N18 N21q
    have A2 := A2.keep p21_0
    have p8_1 := p8_1.keep p21_0 nin0
    have p8_2 := p8_2.keep p21_0 nin0
    have p8_3 := p8_3.keep p21_0 nin0
    have A12 := A12.keep p21_0
    have p18_1 := p18_1.keep p21_0 nin0
    have p18_2 := p18_2.keep p21_0 nin0
    have p18_3 := p18_3.keep p21_0 nin0
    have O22 := O19.keep p21_0 all0
    obtain ⟨cq24, kq24, q24a, q24b, q24c⟩ := isOf hZ e21 A12
    obtain ⟨_, _, ⟨T24, L24, k24, n24⟩, -, X24, ⟨Lc24, hQ24, l24, y24, z24⟩, st24⟩ := X21.interfaceBack hx (xi := y_22) (y := y_11) hown (mvT hZ (W 58 rfl)) (mvT hZ (W 59 rfl)) (mvT hZ (W 60 rfl)) (mvT hZ (W 61 rfl)) (mvT hZ (W 62 rfl)) (mvT hZ (W 63 rfl)) (mvT hZ (W 64 rfl)) (mvT hZ (W 65 rfl)) (by decide) (backOf (W := 0) (add0S l Z a0 hw [] b12 b21b (0 : Int32) w_DEF kdef h21 n0 O22 A12 p21_2 p18_1 p18_2 p18_3 g_b12 S_w_DEF V_w_DEF) hZ (W 66 rfl) (W 10 rfl) (by decide) (by decide)) q24a q24b q24c (g := (mkF m 48 #[iv p1, iv p2, iv p3, iv ((p1 &&& (2147483647 : Int32)) % (5 : Int32)), rv (own_pick ((p1 &&& (2147483647 : Int32)) % (5 : Int32)) w_NONE w_DECLINED w_OFFERED w_TAKEN w_SKIPPED), rv b2, rv b12, .unset, .unset] [.ref b21b, .ref b12])) rfl (by rw [hml]; rfl) (Steps.refl _) (argsL := [.ref b21b]) (rest := []) (lenOf pd_15 rfl) rfl (by show 2 * 0 + _ ≤ _; exact Nat.le_of_eq rfl) (hb hby at_48) (fun _ _ => ⟨rfl, e21, (by decide : 4 + 1 ≤ _), (by decide : 11 + 10 ≤ _)⟩)
    dsimp only [Pt.U, Pt.locs, Pt.cells, Pt.slots] at X24 l24 y24 z24 st24 hQ24
    subst l24 y24 z24
    obtain ⟨h24, e24⟩ : ∃ z, T24.heap = z := ⟨_, rfl⟩
    rw [e24] at hQ24
    obtain ⟨b24b, b24kb, rfl, N24q, p24_0, p24_1, p24_2, p24_3, p24_4, p24_5, p24_6, p24_7⟩ := hQ24
    have N24 := Fr.app N21 N24q
    have A2 := A2.keep p24_0
    have p8_1 := p8_1.keep p24_0 (ninS ne_b2_b12 nin0)
    have p8_2 := p8_2.keep p24_0 (ninS ne_b2_b12 nin0)
    have p8_3 := p8_3.keep p24_0 (ninS ne_b2_b12 nin0)
    have O25 := O22.keep p24_0 (allS g_b12 all0)
    obtain ⟨T27, h27, X27, e27, E27, A27, D27, -, st27⟩ := newO X24 hx hZ hown (W 93 rfl) (W 94 rfl) (W 95 rfl) e24 (g := (mkF m 56 #[iv p1, iv p2, iv p3, iv ((p1 &&& (2147483647 : Int32)) % (5 : Int32)), rv (own_pick ((p1 &&& (2147483647 : Int32)) % (5 : Int32)) w_NONE w_DECLINED w_OFFERED w_TAKEN w_SKIPPED), rv b2, rv b12, .unset, .unset] [.ref b2])) rfl (hb hby at_56) (by decide) (by decide)
    obtain ⟨b27, g27⟩ : ∃ z, z = h24.size := ⟨_, rfl⟩
    rw [← g27] at A27 D27 st27
    have g_b27 : n0 ≤ b27 := Nat.le_trans (own_sz O25) (Nat.le_of_eq g27.symm)
    have ne_b2_b27 : b2 ≠ b27 := Nat.ne_of_lt (Nat.lt_of_lt_of_le A2.lt (Nat.le_of_eq g27.symm))
    have A2 := A2.ext E27
    have p8_1 := p8_1.ext E27
    have p8_2 := p8_2.ext E27
    have p8_3 := p8_3.ext E27
    have O28 := O25.ext E27
    have Fz30 : Fld Z h27 b27 "com/example/latchkey/latchkey/ScaffoldOffer$Kind" "key" "Ljava/lang/String;" .null := D27 (Or.inr (W 115 rfl)) (ty := (.object "java/lang/String")) (by decide)
    have Fz31 : Fld Z h27 b27 "com/example/latchkey/latchkey/ScaffoldOffer$Kind" "label" "Ljava/lang/String;" .null := D27 (Or.inr (W 117 rfl)) (ty := (.object "java/lang/String")) (by decide)
    have Fz32 : Fld Z h27 b27 "com/example/latchkey/latchkey/ScaffoldOffer$Kind" "entries" "Ljava/util/List;" .null := D27 (Or.inr (W 119 rfl)) (ty := (.object "java/util/List")) (by decide)
    have Fz33 : Fld Z h27 b27 "com/example/latchkey/latchkey/ScaffoldOffer$Kind" "taken" "Ljava/util/List;" .null := D27 (Or.inr (W 121 rfl)) (ty := (.object "java/util/List")) (by decide)
    obtain ⟨_, _, ⟨T34, L34, k34, n34⟩, -, X34, ⟨Lc34, hQ34, l34, y34, z34⟩, st34⟩ := Jvm.LawKit.callS X27 hx (y := y_9) hown (mvT hZ (W 34 rfl)) (mvT hZ (W 35 rfl)) (mvT hZ (W 36 rfl)) (mvT hZ (W 37 rfl)) (by decide) (backOf (W := 3) (valof l Z a0 hw [] ((((p3.toUInt32 >>> ((8 : Int32) &&& 31).toUInt32).toInt32) &&& (255 : Int32)).toUInt32.toUInt16.toUInt32.toInt32) cs h27 n0 O28 Scs hcs (own_ch _)) hZ (W 37 rfl) (W 36 rfl) (by decide) (by decide)) (g := (mkF m 69 #[iv p1, iv p2, iv p3, iv ((p1 &&& (2147483647 : Int32)) % (5 : Int32)), rv (own_pick ((p1 &&& (2147483647 : Int32)) % (5 : Int32)) w_NONE w_DECLINED w_OFFERED w_TAKEN w_SKIPPED), rv b2, rv b12, .unset, .unset] [.int ((((p3.toUInt32 >>> ((8 : Int32) &&& 31).toUInt32).toInt32) &&& (255 : Int32)).toUInt32.toUInt16.toUInt32.toInt32), .ref b27, .ref b27, .ref b2])) rfl (by rw [hml]; rfl) (argsL := [.int ((((p3.toUInt32 >>> ((8 : Int32) &&& 31).toUInt32).toInt32) &&& (255 : Int32)).toUInt32.toUInt16.toUInt32.toInt32)]) (rest := [.ref b27, .ref b27, .ref b2]) (lenOf pd_14 rfl) rfl (by show 2 * 0 + _ ≤ _; exact Nat.le_of_eq rfl) (hb hby at_69) (fun _ _ => ⟨rfl, e27, (by decide : 6 + 2 ≤ _), (by decide : 25 + 5 ≤ _)⟩)
    dsimp only [Pt.U, Pt.locs, Pt.cells, Pt.slots] at X34 l34 y34 z34 st34 hQ34
    subst l34 y34 z34
    obtain ⟨h34, e34⟩ : ∃ z, T34.heap = z := ⟨_, rfl⟩
    rw [e34] at hQ34
    obtain ⟨b34b, rfl, N34q, p34_0, p34_1, p34_2⟩ := hQ34
    have N34 := Fr.app N24 N34q
    have A2 := A2.keep p34_0
    have p8_1 := p8_1.keep p34_0 nin0
    have p8_2 := p8_2.keep p34_0 nin0
    have p8_3 := p8_3.keep p34_0 nin0
    have A27 := A27.keep p34_0
    have Fz30 := Fz30.keep p34_0 nin0
    have Fz31 := Fz31.keep p34_0 nin0
    have Fz32 := Fz32.keep p34_0 nin0
    have Fz33 := Fz33.keep p34_0 nin0
    have O35 := O28.keep p34_0 all0
    obtain ⟨_, _, ⟨T37, L37, k37, n37⟩, -, X37, ⟨Lc37, hQ37, l37, y37, z37⟩, st37⟩ := Jvm.LawKit.callS X34 hx (y := y_9) hown (mvT hZ (W 34 rfl)) (mvT hZ (W 35 rfl)) (mvT hZ (W 36 rfl)) (mvT hZ (W 37 rfl)) (by decide) (backOf (W := 4) (valof l Z a0 hw [] ((((p3.toUInt32 >>> ((16 : Int32) &&& 31).toUInt32).toInt32) &&& (255 : Int32)).toUInt32.toUInt16.toUInt32.toInt32) cs h34 n0 O35 Scs hcs (own_ch _)) hZ (W 37 rfl) (W 36 rfl) (by decide) (by decide)) (g := (mkF m 81 #[iv p1, iv p2, iv p3, iv ((p1 &&& (2147483647 : Int32)) % (5 : Int32)), rv (own_pick ((p1 &&& (2147483647 : Int32)) % (5 : Int32)) w_NONE w_DECLINED w_OFFERED w_TAKEN w_SKIPPED), rv b2, rv b12, .unset, .unset] [.int ((((p3.toUInt32 >>> ((16 : Int32) &&& 31).toUInt32).toInt32) &&& (255 : Int32)).toUInt32.toUInt16.toUInt32.toInt32), .ref b34b, .ref b27, .ref b27, .ref b2])) rfl (by rw [hml]; rfl) (argsL := [.int ((((p3.toUInt32 >>> ((16 : Int32) &&& 31).toUInt32).toInt32) &&& (255 : Int32)).toUInt32.toUInt16.toUInt32.toInt32)]) (rest := [.ref b34b, .ref b27, .ref b27, .ref b2]) (lenOf pd_14 rfl) rfl (by show 2 * 0 + _ ≤ _; exact Nat.le_of_eq rfl) (hb hby at_81) (fun _ _ => ⟨rfl, e34, (by decide : 8 + 2 ≤ _), (by decide : 30 + 5 ≤ _)⟩)
    dsimp only [Pt.U, Pt.locs, Pt.cells, Pt.slots] at X37 l37 y37 z37 st37 hQ37
    subst l37 y37 z37
    obtain ⟨h37, e37⟩ : ∃ z, T37.heap = z := ⟨_, rfl⟩
    rw [e37] at hQ37
    obtain ⟨b37b, rfl, N37q, p37_0, p37_1, p37_2⟩ := hQ37
    have N37 := Fr.app N34 N37q
    have A2 := A2.keep p37_0
    have p8_1 := p8_1.keep p37_0 nin0
    have p8_2 := p8_2.keep p37_0 nin0
    have p8_3 := p8_3.keep p37_0 nin0
    have A27 := A27.keep p37_0
    have Fz30 := Fz30.keep p37_0 nin0
    have Fz31 := Fz31.keep p37_0 nin0
    have Fz32 := Fz32.keep p37_0 nin0
    have Fz33 := Fz33.keep p37_0 nin0
    have O38 := O35.keep p37_0 all0
    obtain ⟨_, _, ⟨T40, L40, k40, n40⟩, -, X40, ⟨Lc40, hQ40, l40, y40, z40⟩, st40⟩ := X37.specialBack hx (y := y_19) rfl hown (mvT hZ (W 96 rfl)) (mvT hZ (W 97 rfl)) (mvT hZ (W 98 rfl)) (by decide) (backOf (W := 2) (kinit3 l Z a0 hw [] b27 b34b b37b b12 w_ELIST h37 n0 O38 A27 Fz30 Fz31 Fz32 Fz33 g_b27 S_w_ELIST) hZ (W 98 rfl) (W 95 rfl) (by decide) (by decide)) (g := (mkF m 86 #[iv p1, iv p2, iv p3, iv ((p1 &&& (2147483647 : Int32)) % (5 : Int32)), rv (own_pick ((p1 &&& (2147483647 : Int32)) % (5 : Int32)) w_NONE w_DECLINED w_OFFERED w_TAKEN w_SKIPPED), rv b2, rv b12, .unset, .unset] [.ref b12, .ref b37b, .ref b34b, .ref b27, .ref b27, .ref b2])) rfl (by rw [hml]; rfl) (Steps.refl _) (a := b27) (argsL := [.ref b34b, .ref b37b, .ref b12]) (rest := [.ref b27, .ref b2]) (lenOf pd_16 rfl) rfl (by show 2 * 0 + _ ≤ _; exact Nat.le_of_eq rfl) (hb hby at_86) (fun _ _ => ⟨rfl, e37, (by decide : 10 + 0 ≤ _), (by decide : 35 + 0 ≤ _)⟩)
    dsimp only [Pt.U, Pt.locs, Pt.cells, Pt.slots] at X40 l40 y40 z40 st40 hQ40
    subst l40 y40 z40
    obtain ⟨h40, e40⟩ : ∃ z, T40.heap = z := ⟨_, rfl⟩
    rw [e40] at hQ40
    obtain ⟨rfl, N40q, p40_0⟩ := hQ40
    have N40 := Fr.app N37 N40q
    have A2 := A2.keep p40_0
    have p8_1 := p8_1.keep p40_0 (ninS ne_b2_b27 nin0)
    have p8_2 := p8_2.keep p40_0 (ninS ne_b2_b27 nin0)
    have p8_3 := p8_3.keep p40_0 (ninS ne_b2_b27 nin0)
    have A27 := A27.keep p40_0
    have O41 := O38.keep p40_0 (allS g_b27 all0)
    obtain ⟨cq43, kq43, q43a, q43b, q43c⟩ := isOf hZ e40 A2
    obtain ⟨_, _, ⟨T43, L43, k43, n43⟩, -, X43, ⟨Lc43, hQ43, l43, y43, z43⟩, st43⟩ := X40.interfaceBack hx (xi := y_22) (y := y_11) hown (mvT hZ (W 58 rfl)) (mvT hZ (W 59 rfl)) (mvT hZ (W 60 rfl)) (mvT hZ (W 61 rfl)) (mvT hZ (W 62 rfl)) (mvT hZ (W 63 rfl)) (mvT hZ (W 64 rfl)) (mvT hZ (W 65 rfl)) (by decide) (backOf (W := 0) (add0K l Z a0 hw [] b2 b27 (0 : Int32) w_DEF kdef h40 n0 O41 A2 A27 p8_1 p8_2 p8_3 g_b2 S_w_DEF V_w_DEF) hZ (W 66 rfl) (W 10 rfl) (by decide) (by decide)) q43a q43b q43c (g := (mkF m 89 #[iv p1, iv p2, iv p3, iv ((p1 &&& (2147483647 : Int32)) % (5 : Int32)), rv (own_pick ((p1 &&& (2147483647 : Int32)) % (5 : Int32)) w_NONE w_DECLINED w_OFFERED w_TAKEN w_SKIPPED), rv b2, rv b12, .unset, .unset] [.ref b27, .ref b2])) rfl (by rw [hml]; rfl) (Steps.refl _) (argsL := [.ref b27]) (rest := []) (lenOf pd_15 rfl) rfl (by show 2 * 0 + _ ≤ _; exact Nat.le_of_eq rfl) (hb hby at_89) (fun _ _ => ⟨rfl, e40, (by decide : 10 + 1 ≤ _), (by decide : 35 + 10 ≤ _)⟩)
    dsimp only [Pt.U, Pt.locs, Pt.cells, Pt.slots] at X43 l43 y43 z43 st43 hQ43
    subst l43 y43 z43
    obtain ⟨h43, e43⟩ : ∃ z, T43.heap = z := ⟨_, rfl⟩
    rw [e43] at hQ43
    obtain ⟨b43b, b43kb, rfl, N43q, p43_0, p43_1, p43_2, p43_3, p43_4, p43_5, p43_6, p43_7⟩ := hQ43
    have N43 := Fr.app N40 N43q
    have O44 := O41.keep p43_0 (allS g_b2 all0)
    obtain ⟨T46, X46, e46, st46⟩ := getS2 X43 hx hZ hown (host := "") (Or.inl (W 123 rfl)) Via.refl e43 (S_w_OFFER.ext O44.2) (g := (mkF m 95 #[iv p1, iv p2, iv p3, iv ((p1 &&& (2147483647 : Int32)) % (5 : Int32)), rv (own_pick ((p1 &&& (2147483647 : Int32)) % (5 : Int32)) w_NONE w_DECLINED w_OFFERED w_TAKEN w_SKIPPED), rv b2, rv b12, .unset, .unset] [])) rfl (hb hby at_95)
    obtain ⟨T47, h47, X47, e47, E47, A47, D47, -, st47⟩ := newO X46 hx hZ hown (W 126 rfl) (W 127 rfl) (W 124 rfl) e46 (g := (mkF m 100 #[iv p1, iv p2, iv p3, iv ((p1 &&& (2147483647 : Int32)) % (5 : Int32)), rv (own_pick ((p1 &&& (2147483647 : Int32)) % (5 : Int32)) w_NONE w_DECLINED w_OFFERED w_TAKEN w_SKIPPED), rv b2, rv w_OFFER, .unset, .unset] [])) rfl (hb hby at_100) (by decide) (by decide)
    obtain ⟨b47, g47⟩ : ∃ z, z = h43.size := ⟨_, rfl⟩
    rw [← g47] at A47 D47 st47
    have g_b47 : n0 ≤ b47 := Nat.le_trans (own_sz O44) (Nat.le_of_eq g47.symm)
    have O48 := O44.ext E47
    have Fz50 : Fld Z h47 b47 "com/example/latchkey/latchkey/ScaffoldOffer" "offeredBy" "Ljava/util/Optional;" .null := D47 (Or.inr (W 134 rfl)) (ty := (.object "java/util/Optional")) (by decide)
    have Fz51 : Fld Z h47 b47 "com/example/latchkey/latchkey/ScaffoldOffer" "offeredAt" "Ljava/util/Optional;" .null := D47 (Or.inr (W 141 rfl)) (ty := (.object "java/util/Optional")) (by decide)
    have Fz52 : Fld Z h47 b47 "com/example/latchkey/latchkey/ScaffoldOffer" "answeredAt" "Ljava/util/Optional;" .null := D47 (Or.inr (W 148 rfl)) (ty := (.object "java/util/Optional")) (by decide)
    have Fz53 : Fld Z h47 b47 "com/example/latchkey/latchkey/ScaffoldOffer" "status" "Lcom/example/latchkey/latchkey/ScaffoldOffer$Status;" .null := D47 (Or.inr (W 154 rfl)) (ty := (.object "com/example/latchkey/latchkey/ScaffoldOffer$Status")) (by decide)
    have Fz54 : Fld Z h47 b47 "com/example/latchkey/latchkey/ScaffoldOffer" "kinds" "Ljava/util/List;" .null := D47 (Or.inr (W 156 rfl)) (ty := (.object "java/util/List")) (by decide)
    obtain ⟨cq55, kq55, q55a, q55b, q55c⟩ := isOf hZ e47 (E_w_OFFER.ext O48.2)
    obtain ⟨_, _, ⟨T55, L55, k55, n55⟩, -, X55, ⟨Lc55, hQ55, l55, y55, z55⟩, st55⟩ := X47.virtualBack hx (y := y_12) (z := y_12) hown (mvT hZ (W 128 rfl)) (mvT hZ (W 129 rfl)) (notFace_of_selects (args := #[]) (mvT hZ (W 131 rfl))) (mvT hZ (W 131 rfl)) (mvT hZ (W 130 rfl)) (by decide) (backOf (W := 3) (getofferedBy l Z a0 hw [] w_OFFER w_OFFER_offeredBy h47 n0 O48 (F_w_OFFER_offeredBy.ext O48.2)) hZ (W 132 rfl) (W 124 rfl) (by decide) (by decide)) q55a q55c (g := (mkF m 108 #[iv p1, iv p2, iv p3, iv ((p1 &&& (2147483647 : Int32)) % (5 : Int32)), rv (own_pick ((p1 &&& (2147483647 : Int32)) % (5 : Int32)) w_NONE w_DECLINED w_OFFERED w_TAKEN w_SKIPPED), rv b2, rv w_OFFER, .unset, .unset] [.ref w_OFFER, .ref (own_pick ((p1 &&& (2147483647 : Int32)) % (5 : Int32)) w_NONE w_DECLINED w_OFFERED w_TAKEN w_SKIPPED), .ref b47, .ref b47])) rfl (by rw [hml]; rfl) (Steps.refl _) (argsL := []) (rest := [.ref (own_pick ((p1 &&& (2147483647 : Int32)) % (5 : Int32)) w_NONE w_DECLINED w_OFFERED w_TAKEN w_SKIPPED), .ref b47, .ref b47]) (lenOf pd_11 rfl) rfl (by show 2 * 0 + _ ≤ _; exact Nat.le_of_eq rfl) (hb hby at_108) (fun _ _ => ⟨rfl, e47, (by decide : 12 + 0 ≤ _), (by decide : 50 + 0 ≤ _)⟩)
    dsimp only [Pt.U, Pt.locs, Pt.cells, Pt.slots] at X55 l55 y55 z55 st55 hQ55
    subst l55 y55 z55
    obtain ⟨h55, e55⟩ : ∃ z, T55.heap = z := ⟨_, rfl⟩
    rw [e55] at hQ55
    obtain ⟨rfl, N55q, p55_0⟩ := hQ55
    have N55 := Fr.app N43 N55q
    rw [p55_0] at e55
    obtain ⟨cq56, kq56, q56a, q56b, q56c⟩ := isOf hZ e55 (E_w_OFFER.ext O48.2)
    obtain ⟨_, _, ⟨T56, L56, k56, n56⟩, -, X56, ⟨Lc56, hQ56, l56, y56, z56⟩, st56⟩ := X55.virtualBack hx (y := y_13) (z := y_13) hown (mvT hZ (W 135 rfl)) (mvT hZ (W 136 rfl)) (notFace_of_selects (args := #[]) (mvT hZ (W 138 rfl))) (mvT hZ (W 138 rfl)) (mvT hZ (W 137 rfl)) (by decide) (backOf (W := 4) (getofferedAt l Z a0 hw [] w_OFFER w_OFFER_offeredBy h47 n0 O48 (F_w_OFFER_offeredAt.ext O48.2)) hZ (W 139 rfl) (W 124 rfl) (by decide) (by decide)) q56a q56c (g := (mkF m 113 #[iv p1, iv p2, iv p3, iv ((p1 &&& (2147483647 : Int32)) % (5 : Int32)), rv (own_pick ((p1 &&& (2147483647 : Int32)) % (5 : Int32)) w_NONE w_DECLINED w_OFFERED w_TAKEN w_SKIPPED), rv b2, rv w_OFFER, .unset, .unset] [.ref w_OFFER, .ref w_OFFER_offeredBy, .ref (own_pick ((p1 &&& (2147483647 : Int32)) % (5 : Int32)) w_NONE w_DECLINED w_OFFERED w_TAKEN w_SKIPPED), .ref b47, .ref b47])) rfl (by rw [hml]; rfl) (Steps.refl _) (argsL := []) (rest := [.ref w_OFFER_offeredBy, .ref (own_pick ((p1 &&& (2147483647 : Int32)) % (5 : Int32)) w_NONE w_DECLINED w_OFFERED w_TAKEN w_SKIPPED), .ref b47, .ref b47]) (lenOf pd_11 rfl) rfl (by show 2 * 0 + _ ≤ _; exact Nat.le_of_eq rfl) (hb hby at_113) (fun _ _ => ⟨rfl, e55, (by decide : 12 + 0 ≤ _), (by decide : 50 + 0 ≤ _)⟩)
    dsimp only [Pt.U, Pt.locs, Pt.cells, Pt.slots] at X56 l56 y56 z56 st56 hQ56
    subst l56 y56 z56
    obtain ⟨h56, e56⟩ : ∃ z, T56.heap = z := ⟨_, rfl⟩
    rw [e56] at hQ56
    obtain ⟨rfl, N56q, p56_0⟩ := hQ56
    have N56 := Fr.app N55 N56q
    rw [p56_0] at e56
    obtain ⟨cq57, kq57, q57a, q57b, q57c⟩ := isOf hZ e56 (E_w_OFFER.ext O48.2)
    obtain ⟨_, _, ⟨T57, L57, k57, n57⟩, -, X57, ⟨Lc57, hQ57, l57, y57, z57⟩, st57⟩ := X56.virtualBack hx (y := y_14) (z := y_14) hown (mvT hZ (W 142 rfl)) (mvT hZ (W 143 rfl)) (notFace_of_selects (args := #[]) (mvT hZ (W 145 rfl))) (mvT hZ (W 145 rfl)) (mvT hZ (W 144 rfl)) (by decide) (backOf (W := 5) (getansweredAt l Z a0 hw [] w_OFFER w_OFFER_offeredBy h47 n0 O48 (F_w_OFFER_answeredAt.ext O48.2)) hZ (W 146 rfl) (W 124 rfl) (by decide) (by decide)) q57a q57c (g := (mkF m 118 #[iv p1, iv p2, iv p3, iv ((p1 &&& (2147483647 : Int32)) % (5 : Int32)), rv (own_pick ((p1 &&& (2147483647 : Int32)) % (5 : Int32)) w_NONE w_DECLINED w_OFFERED w_TAKEN w_SKIPPED), rv b2, rv w_OFFER, .unset, .unset] [.ref w_OFFER, .ref w_OFFER_offeredBy, .ref w_OFFER_offeredBy, .ref (own_pick ((p1 &&& (2147483647 : Int32)) % (5 : Int32)) w_NONE w_DECLINED w_OFFERED w_TAKEN w_SKIPPED), .ref b47, .ref b47])) rfl (by rw [hml]; rfl) (Steps.refl _) (argsL := []) (rest := [.ref w_OFFER_offeredBy, .ref w_OFFER_offeredBy, .ref (own_pick ((p1 &&& (2147483647 : Int32)) % (5 : Int32)) w_NONE w_DECLINED w_OFFERED w_TAKEN w_SKIPPED), .ref b47, .ref b47]) (lenOf pd_11 rfl) rfl (by show 2 * 0 + _ ≤ _; exact Nat.le_of_eq rfl) (hb hby at_118) (fun _ _ => ⟨rfl, e56, (by decide : 12 + 0 ≤ _), (by decide : 50 + 0 ≤ _)⟩)
    dsimp only [Pt.U, Pt.locs, Pt.cells, Pt.slots] at X57 l57 y57 z57 st57 hQ57
    subst l57 y57 z57
    obtain ⟨h57, e57⟩ : ∃ z, T57.heap = z := ⟨_, rfl⟩
    rw [e57] at hQ57
    obtain ⟨rfl, N57q, p57_0⟩ := hQ57
    have N57 := Fr.app N56 N57q
    rw [p57_0] at e57
    obtain ⟨_, _, ⟨T58, L58, k58, n58⟩, -, X58, ⟨Lc58, hQ58, l58, y58, z58⟩, st58⟩ := X57.specialBack hx (y := y_16) rfl hown (mvT hZ (W 149 rfl)) (mvT hZ (W 150 rfl)) (mvT hZ (W 151 rfl)) (by decide) (backOf (W := 1) (soinit l Z a0 hw [] b47 (own_pick ((p1 &&& (2147483647 : Int32)) % (5 : Int32)) w_NONE w_DECLINED w_OFFERED w_TAKEN w_SKIPPED) w_OFFER_offeredBy w_OFFER_offeredBy w_OFFER_offeredBy b2 h47 n0 O48 A47 Fz53 Fz50 Fz51 Fz52 Fz54 g_b47) hZ (W 151 rfl) (W 124 rfl) (by decide) (by decide)) (g := (mkF m 123 #[iv p1, iv p2, iv p3, iv ((p1 &&& (2147483647 : Int32)) % (5 : Int32)), rv (own_pick ((p1 &&& (2147483647 : Int32)) % (5 : Int32)) w_NONE w_DECLINED w_OFFERED w_TAKEN w_SKIPPED), rv b2, rv w_OFFER, .unset, .unset] [.ref b2, .ref w_OFFER_offeredBy, .ref w_OFFER_offeredBy, .ref w_OFFER_offeredBy, .ref (own_pick ((p1 &&& (2147483647 : Int32)) % (5 : Int32)) w_NONE w_DECLINED w_OFFERED w_TAKEN w_SKIPPED), .ref b47, .ref b47])) rfl (by rw [hml]; rfl) (Steps.refl _) (a := b47) (argsL := [.ref (own_pick ((p1 &&& (2147483647 : Int32)) % (5 : Int32)) w_NONE w_DECLINED w_OFFERED w_TAKEN w_SKIPPED), .ref w_OFFER_offeredBy, .ref w_OFFER_offeredBy, .ref w_OFFER_offeredBy, .ref b2]) (rest := [.ref b47]) (lenOf pd_12 rfl) rfl (by show 2 * 0 + _ ≤ _; exact Nat.le_of_eq rfl) (hb hby at_123) (fun _ _ => ⟨rfl, e57, (by decide : 12 + 0 ≤ _), (by decide : 50 + 0 ≤ _)⟩)
    dsimp only [Pt.U, Pt.locs, Pt.cells, Pt.slots] at X58 l58 y58 z58 st58 hQ58
    subst l58 y58 z58
    obtain ⟨h58, e58⟩ : ∃ z, T58.heap = z := ⟨_, rfl⟩
    rw [e58] at hQ58
    obtain ⟨rfl, N58q, p58_0, p58_1⟩ := hQ58
    have N58 := Fr.app N57 N58q
    have A47 := A47.keep p58_0
    have O59 := O48.keep p58_0 (allS g_b47 all0)
    have pre61 : ∀ t, Steps p.tables e below (T58.setTop (mkF m 130 #[iv p1, iv p2, iv p3, iv ((p1 &&& (2147483647 : Int32)) % (5 : Int32)), rv (own_pick ((p1 &&& (2147483647 : Int32)) % (5 : Int32)) w_NONE w_DECLINED w_OFFERED w_TAKEN w_SKIPPED), rv b2, rv w_OFFER, rv b47, .unset] [.int 2, .int ((p1 &&& (2147483647 : Int32)) % (5 : Int32))])) t → Steps p.tables e below (s₁.setTop (entryFrame m #[(.int p1), (.int p2), (.int p3)] maxLocals)) t := by
      intro t kt
      refine pre11 _ ?_
      show Sq p e below m T8 25 #[iv p1, iv p2, iv p3, iv ((p1 &&& (2147483647 : Int32)) % (5 : Int32)), rv (own_pick ((p1 &&& (2147483647 : Int32)) % (5 : Int32)) w_NONE w_DECLINED w_OFFERED w_TAKEN w_SKIPPED), rv b2, .unset, .unset, .unset] [.int (p2 &&& (1 : Int32))] _
      refine XS.ifNo X8.here hx rfl (hb hby at_25) rfl ((if0 _ _).trans (feq hc25).1) ?_
      show Sq p e below m T8 28 #[iv p1, iv p2, iv p3, iv ((p1 &&& (2147483647 : Int32)) % (5 : Int32)), rv (own_pick ((p1 &&& (2147483647 : Int32)) % (5 : Int32)) w_NONE w_DECLINED w_OFFERED w_TAKEN w_SKIPPED), rv b2, .unset, .unset, .unset] [] _
      refine st12 _ ?_
      show Sq p e below m T12 31 #[iv p1, iv p2, iv p3, iv ((p1 &&& (2147483647 : Int32)) % (5 : Int32)), rv (own_pick ((p1 &&& (2147483647 : Int32)) % (5 : Int32)) w_NONE w_DECLINED w_OFFERED w_TAKEN w_SKIPPED), rv b2, .unset, .unset, .unset] [.ref b12] _
      refine XS.dup X12.here hx rfl (hb hby at_31) rfl rfl ?_
      show Sq p e below m T12 32 #[iv p1, iv p2, iv p3, iv ((p1 &&& (2147483647 : Int32)) % (5 : Int32)), rv (own_pick ((p1 &&& (2147483647 : Int32)) % (5 : Int32)) w_NONE w_DECLINED w_OFFERED w_TAKEN w_SKIPPED), rv b2, .unset, .unset, .unset] [.ref b12, .ref b12] _
      refine st18.trans ?_
      show Sq p e below m T18 35 #[iv p1, iv p2, iv p3, iv ((p1 &&& (2147483647 : Int32)) % (5 : Int32)), rv (own_pick ((p1 &&& (2147483647 : Int32)) % (5 : Int32)) w_NONE w_DECLINED w_OFFERED w_TAKEN w_SKIPPED), rv b2, .unset, .unset, .unset] [.ref b12] _
      refine XS.astore X18.here hx rfl (hb hby at_35) rfl rfl rfl ?_
      refine XS.aload X18.here hx rfl (hb hby at_37) rfl rfl ?_
      show Sq p e below m T18 39 #[iv p1, iv p2, iv p3, iv ((p1 &&& (2147483647 : Int32)) % (5 : Int32)), rv (own_pick ((p1 &&& (2147483647 : Int32)) % (5 : Int32)) w_NONE w_DECLINED w_OFFERED w_TAKEN w_SKIPPED), rv b2, rv b12, .unset, .unset] [.ref b12] _
      refine XS.iloadN X18.here hx rfl (hb hby at_39) rfl ?_
      refine XS.sipush X18.here hx rfl (hb hby at_40) ?_
      show Sq p e below m T18 43 #[iv p1, iv p2, iv p3, iv ((p1 &&& (2147483647 : Int32)) % (5 : Int32)), rv (own_pick ((p1 &&& (2147483647 : Int32)) % (5 : Int32)) w_NONE w_DECLINED w_OFFERED w_TAKEN w_SKIPPED), rv b2, rv b12, .unset, .unset] [.int 255, .int p3, .ref b12] _
      refine XS.iand X18.here hx rfl (hb hby at_43) rfl ?_
      refine XS.i2c X18.here hx rfl (hb hby at_44) rfl ?_
      show Sq p e below m T18 45 #[iv p1, iv p2, iv p3, iv ((p1 &&& (2147483647 : Int32)) % (5 : Int32)), rv (own_pick ((p1 &&& (2147483647 : Int32)) % (5 : Int32)) w_NONE w_DECLINED w_OFFERED w_TAKEN w_SKIPPED), rv b2, rv b12, .unset, .unset] [.int ((p3 &&& (255 : Int32)).toUInt32.toUInt16.toUInt32.toInt32), .ref b12] _
      refine st21 _ ?_
      show Sq p e below m T21 48 #[iv p1, iv p2, iv p3, iv ((p1 &&& (2147483647 : Int32)) % (5 : Int32)), rv (own_pick ((p1 &&& (2147483647 : Int32)) % (5 : Int32)) w_NONE w_DECLINED w_OFFERED w_TAKEN w_SKIPPED), rv b2, rv b12, .unset, .unset] [.ref b21b, .ref b12] _
      refine st24.trans ?_
      show Sq p e below m T24 53 #[iv p1, iv p2, iv p3, iv ((p1 &&& (2147483647 : Int32)) % (5 : Int32)), rv (own_pick ((p1 &&& (2147483647 : Int32)) % (5 : Int32)) w_NONE w_DECLINED w_OFFERED w_TAKEN w_SKIPPED), rv b2, rv b12, .unset, .unset] [.int 1] _
      refine XS.pop X24.here hx rfl (hb hby at_53) rfl rfl ?_
      refine XS.aload X24.here hx rfl (hb hby at_54) rfl rfl ?_
      show Sq p e below m T24 56 #[iv p1, iv p2, iv p3, iv ((p1 &&& (2147483647 : Int32)) % (5 : Int32)), rv (own_pick ((p1 &&& (2147483647 : Int32)) % (5 : Int32)) w_NONE w_DECLINED w_OFFERED w_TAKEN w_SKIPPED), rv b2, rv b12, .unset, .unset] [.ref b2] _
      refine st27 _ ?_
      show Sq p e below m T27 59 #[iv p1, iv p2, iv p3, iv ((p1 &&& (2147483647 : Int32)) % (5 : Int32)), rv (own_pick ((p1 &&& (2147483647 : Int32)) % (5 : Int32)) w_NONE w_DECLINED w_OFFERED w_TAKEN w_SKIPPED), rv b2, rv b12, .unset, .unset] [.ref b27, .ref b2] _
      refine XS.dup X27.here hx rfl (hb hby at_59) rfl rfl ?_
      refine XS.iloadN X27.here hx rfl (hb hby at_60) rfl ?_
      show Sq p e below m T27 61 #[iv p1, iv p2, iv p3, iv ((p1 &&& (2147483647 : Int32)) % (5 : Int32)), rv (own_pick ((p1 &&& (2147483647 : Int32)) % (5 : Int32)) w_NONE w_DECLINED w_OFFERED w_TAKEN w_SKIPPED), rv b2, rv b12, .unset, .unset] [.int p3, .ref b27, .ref b27, .ref b2] _
      refine XS.bipush X27.here hx rfl (hb hby at_61) ?_
      refine XS.iushr X27.here hx rfl (hb hby at_63) rfl ?_
      show Sq p e below m T27 64 #[iv p1, iv p2, iv p3, iv ((p1 &&& (2147483647 : Int32)) % (5 : Int32)), rv (own_pick ((p1 &&& (2147483647 : Int32)) % (5 : Int32)) w_NONE w_DECLINED w_OFFERED w_TAKEN w_SKIPPED), rv b2, rv b12, .unset, .unset] [.int ((p3.toUInt32 >>> ((8 : Int32) &&& 31).toUInt32).toInt32), .ref b27, .ref b27, .ref b2] _
      refine XS.sipush X27.here hx rfl (hb hby at_64) ?_
      refine XS.iand X27.here hx rfl (hb hby at_67) rfl ?_
      show Sq p e below m T27 68 #[iv p1, iv p2, iv p3, iv ((p1 &&& (2147483647 : Int32)) % (5 : Int32)), rv (own_pick ((p1 &&& (2147483647 : Int32)) % (5 : Int32)) w_NONE w_DECLINED w_OFFERED w_TAKEN w_SKIPPED), rv b2, rv b12, .unset, .unset] [.int (((p3.toUInt32 >>> ((8 : Int32) &&& 31).toUInt32).toInt32) &&& (255 : Int32)), .ref b27, .ref b27, .ref b2] _
      refine XS.i2c X27.here hx rfl (hb hby at_68) rfl ?_
      show Sq p e below m T27 69 #[iv p1, iv p2, iv p3, iv ((p1 &&& (2147483647 : Int32)) % (5 : Int32)), rv (own_pick ((p1 &&& (2147483647 : Int32)) % (5 : Int32)) w_NONE w_DECLINED w_OFFERED w_TAKEN w_SKIPPED), rv b2, rv b12, .unset, .unset] [.int ((((p3.toUInt32 >>> ((8 : Int32) &&& 31).toUInt32).toInt32) &&& (255 : Int32)).toUInt32.toUInt16.toUInt32.toInt32), .ref b27, .ref b27, .ref b2] _
      refine st34 _ ?_
      show Sq p e below m T34 72 #[iv p1, iv p2, iv p3, iv ((p1 &&& (2147483647 : Int32)) % (5 : Int32)), rv (own_pick ((p1 &&& (2147483647 : Int32)) % (5 : Int32)) w_NONE w_DECLINED w_OFFERED w_TAKEN w_SKIPPED), rv b2, rv b12, .unset, .unset] [.ref b34b, .ref b27, .ref b27, .ref b2] _
      refine XS.iloadN X34.here hx rfl (hb hby at_72) rfl ?_
      refine XS.bipush X34.here hx rfl (hb hby at_73) ?_
      show Sq p e below m T34 75 #[iv p1, iv p2, iv p3, iv ((p1 &&& (2147483647 : Int32)) % (5 : Int32)), rv (own_pick ((p1 &&& (2147483647 : Int32)) % (5 : Int32)) w_NONE w_DECLINED w_OFFERED w_TAKEN w_SKIPPED), rv b2, rv b12, .unset, .unset] [.int 16, .int p3, .ref b34b, .ref b27, .ref b27, .ref b2] _
      refine XS.iushr X34.here hx rfl (hb hby at_75) rfl ?_
      refine XS.sipush X34.here hx rfl (hb hby at_76) ?_
      show Sq p e below m T34 79 #[iv p1, iv p2, iv p3, iv ((p1 &&& (2147483647 : Int32)) % (5 : Int32)), rv (own_pick ((p1 &&& (2147483647 : Int32)) % (5 : Int32)) w_NONE w_DECLINED w_OFFERED w_TAKEN w_SKIPPED), rv b2, rv b12, .unset, .unset] [.int 255, .int ((p3.toUInt32 >>> ((16 : Int32) &&& 31).toUInt32).toInt32), .ref b34b, .ref b27, .ref b27, .ref b2] _
      refine XS.iand X34.here hx rfl (hb hby at_79) rfl ?_
      refine XS.i2c X34.here hx rfl (hb hby at_80) rfl ?_
      show Sq p e below m T34 81 #[iv p1, iv p2, iv p3, iv ((p1 &&& (2147483647 : Int32)) % (5 : Int32)), rv (own_pick ((p1 &&& (2147483647 : Int32)) % (5 : Int32)) w_NONE w_DECLINED w_OFFERED w_TAKEN w_SKIPPED), rv b2, rv b12, .unset, .unset] [.int ((((p3.toUInt32 >>> ((16 : Int32) &&& 31).toUInt32).toInt32) &&& (255 : Int32)).toUInt32.toUInt16.toUInt32.toInt32), .ref b34b, .ref b27, .ref b27, .ref b2] _
      refine st37 _ ?_
      show Sq p e below m T37 84 #[iv p1, iv p2, iv p3, iv ((p1 &&& (2147483647 : Int32)) % (5 : Int32)), rv (own_pick ((p1 &&& (2147483647 : Int32)) % (5 : Int32)) w_NONE w_DECLINED w_OFFERED w_TAKEN w_SKIPPED), rv b2, rv b12, .unset, .unset] [.ref b37b, .ref b34b, .ref b27, .ref b27, .ref b2] _
      refine XS.aload X37.here hx rfl (hb hby at_84) rfl rfl ?_
      show Sq p e below m T37 86 #[iv p1, iv p2, iv p3, iv ((p1 &&& (2147483647 : Int32)) % (5 : Int32)), rv (own_pick ((p1 &&& (2147483647 : Int32)) % (5 : Int32)) w_NONE w_DECLINED w_OFFERED w_TAKEN w_SKIPPED), rv b2, rv b12, .unset, .unset] [.ref b12, .ref b37b, .ref b34b, .ref b27, .ref b27, .ref b2] _
      refine st40.trans ?_
      show Sq p e below m T40 89 #[iv p1, iv p2, iv p3, iv ((p1 &&& (2147483647 : Int32)) % (5 : Int32)), rv (own_pick ((p1 &&& (2147483647 : Int32)) % (5 : Int32)) w_NONE w_DECLINED w_OFFERED w_TAKEN w_SKIPPED), rv b2, rv b12, .unset, .unset] [.ref b27, .ref b2] _
      refine st43.trans ?_
      show Sq p e below m T43 94 #[iv p1, iv p2, iv p3, iv ((p1 &&& (2147483647 : Int32)) % (5 : Int32)), rv (own_pick ((p1 &&& (2147483647 : Int32)) % (5 : Int32)) w_NONE w_DECLINED w_OFFERED w_TAKEN w_SKIPPED), rv b2, rv b12, .unset, .unset] [.int 1] _
      refine XS.pop X43.here hx rfl (hb hby at_94) rfl rfl ?_
      show Sq p e below m T43 95 #[iv p1, iv p2, iv p3, iv ((p1 &&& (2147483647 : Int32)) % (5 : Int32)), rv (own_pick ((p1 &&& (2147483647 : Int32)) % (5 : Int32)) w_NONE w_DECLINED w_OFFERED w_TAKEN w_SKIPPED), rv b2, rv b12, .unset, .unset] [] _
      refine st46 _ ?_
      show Sq p e below m T46 98 #[iv p1, iv p2, iv p3, iv ((p1 &&& (2147483647 : Int32)) % (5 : Int32)), rv (own_pick ((p1 &&& (2147483647 : Int32)) % (5 : Int32)) w_NONE w_DECLINED w_OFFERED w_TAKEN w_SKIPPED), rv b2, rv b12, .unset, .unset] [.ref w_OFFER] _
      refine XS.astore X46.here hx rfl (hb hby at_98) rfl rfl rfl ?_
      show Sq p e below m T46 100 #[iv p1, iv p2, iv p3, iv ((p1 &&& (2147483647 : Int32)) % (5 : Int32)), rv (own_pick ((p1 &&& (2147483647 : Int32)) % (5 : Int32)) w_NONE w_DECLINED w_OFFERED w_TAKEN w_SKIPPED), rv b2, rv w_OFFER, .unset, .unset] [] _
      refine st47 _ ?_
      show Sq p e below m T47 103 #[iv p1, iv p2, iv p3, iv ((p1 &&& (2147483647 : Int32)) % (5 : Int32)), rv (own_pick ((p1 &&& (2147483647 : Int32)) % (5 : Int32)) w_NONE w_DECLINED w_OFFERED w_TAKEN w_SKIPPED), rv b2, rv w_OFFER, .unset, .unset] [.ref b47] _
      refine XS.dup X47.here hx rfl (hb hby at_103) rfl rfl ?_
      refine XS.aload X47.here hx rfl (hb hby at_104) rfl rfl ?_
      show Sq p e below m T47 106 #[iv p1, iv p2, iv p3, iv ((p1 &&& (2147483647 : Int32)) % (5 : Int32)), rv (own_pick ((p1 &&& (2147483647 : Int32)) % (5 : Int32)) w_NONE w_DECLINED w_OFFERED w_TAKEN w_SKIPPED), rv b2, rv w_OFFER, .unset, .unset] [.ref (own_pick ((p1 &&& (2147483647 : Int32)) % (5 : Int32)) w_NONE w_DECLINED w_OFFERED w_TAKEN w_SKIPPED), .ref b47, .ref b47] _
      refine XS.aload X47.here hx rfl (hb hby at_106) rfl rfl ?_
      show Sq p e below m T47 108 #[iv p1, iv p2, iv p3, iv ((p1 &&& (2147483647 : Int32)) % (5 : Int32)), rv (own_pick ((p1 &&& (2147483647 : Int32)) % (5 : Int32)) w_NONE w_DECLINED w_OFFERED w_TAKEN w_SKIPPED), rv b2, rv w_OFFER, .unset, .unset] [.ref w_OFFER, .ref (own_pick ((p1 &&& (2147483647 : Int32)) % (5 : Int32)) w_NONE w_DECLINED w_OFFERED w_TAKEN w_SKIPPED), .ref b47, .ref b47] _
      refine st55.trans ?_
      show Sq p e below m T55 111 #[iv p1, iv p2, iv p3, iv ((p1 &&& (2147483647 : Int32)) % (5 : Int32)), rv (own_pick ((p1 &&& (2147483647 : Int32)) % (5 : Int32)) w_NONE w_DECLINED w_OFFERED w_TAKEN w_SKIPPED), rv b2, rv w_OFFER, .unset, .unset] [.ref w_OFFER_offeredBy, .ref (own_pick ((p1 &&& (2147483647 : Int32)) % (5 : Int32)) w_NONE w_DECLINED w_OFFERED w_TAKEN w_SKIPPED), .ref b47, .ref b47] _
      refine XS.aload X55.here hx rfl (hb hby at_111) rfl rfl ?_
      show Sq p e below m T55 113 #[iv p1, iv p2, iv p3, iv ((p1 &&& (2147483647 : Int32)) % (5 : Int32)), rv (own_pick ((p1 &&& (2147483647 : Int32)) % (5 : Int32)) w_NONE w_DECLINED w_OFFERED w_TAKEN w_SKIPPED), rv b2, rv w_OFFER, .unset, .unset] [.ref w_OFFER, .ref w_OFFER_offeredBy, .ref (own_pick ((p1 &&& (2147483647 : Int32)) % (5 : Int32)) w_NONE w_DECLINED w_OFFERED w_TAKEN w_SKIPPED), .ref b47, .ref b47] _
      refine st56.trans ?_
      show Sq p e below m T56 116 #[iv p1, iv p2, iv p3, iv ((p1 &&& (2147483647 : Int32)) % (5 : Int32)), rv (own_pick ((p1 &&& (2147483647 : Int32)) % (5 : Int32)) w_NONE w_DECLINED w_OFFERED w_TAKEN w_SKIPPED), rv b2, rv w_OFFER, .unset, .unset] [.ref w_OFFER_offeredBy, .ref w_OFFER_offeredBy, .ref (own_pick ((p1 &&& (2147483647 : Int32)) % (5 : Int32)) w_NONE w_DECLINED w_OFFERED w_TAKEN w_SKIPPED), .ref b47, .ref b47] _
      refine XS.aload X56.here hx rfl (hb hby at_116) rfl rfl ?_
      show Sq p e below m T56 118 #[iv p1, iv p2, iv p3, iv ((p1 &&& (2147483647 : Int32)) % (5 : Int32)), rv (own_pick ((p1 &&& (2147483647 : Int32)) % (5 : Int32)) w_NONE w_DECLINED w_OFFERED w_TAKEN w_SKIPPED), rv b2, rv w_OFFER, .unset, .unset] [.ref w_OFFER, .ref w_OFFER_offeredBy, .ref w_OFFER_offeredBy, .ref (own_pick ((p1 &&& (2147483647 : Int32)) % (5 : Int32)) w_NONE w_DECLINED w_OFFERED w_TAKEN w_SKIPPED), .ref b47, .ref b47] _
      refine st57.trans ?_
      show Sq p e below m T57 121 #[iv p1, iv p2, iv p3, iv ((p1 &&& (2147483647 : Int32)) % (5 : Int32)), rv (own_pick ((p1 &&& (2147483647 : Int32)) % (5 : Int32)) w_NONE w_DECLINED w_OFFERED w_TAKEN w_SKIPPED), rv b2, rv w_OFFER, .unset, .unset] [.ref w_OFFER_offeredBy, .ref w_OFFER_offeredBy, .ref w_OFFER_offeredBy, .ref (own_pick ((p1 &&& (2147483647 : Int32)) % (5 : Int32)) w_NONE w_DECLINED w_OFFERED w_TAKEN w_SKIPPED), .ref b47, .ref b47] _
      refine XS.aload X57.here hx rfl (hb hby at_121) rfl rfl ?_
      show Sq p e below m T57 123 #[iv p1, iv p2, iv p3, iv ((p1 &&& (2147483647 : Int32)) % (5 : Int32)), rv (own_pick ((p1 &&& (2147483647 : Int32)) % (5 : Int32)) w_NONE w_DECLINED w_OFFERED w_TAKEN w_SKIPPED), rv b2, rv w_OFFER, .unset, .unset] [.ref b2, .ref w_OFFER_offeredBy, .ref w_OFFER_offeredBy, .ref w_OFFER_offeredBy, .ref (own_pick ((p1 &&& (2147483647 : Int32)) % (5 : Int32)) w_NONE w_DECLINED w_OFFERED w_TAKEN w_SKIPPED), .ref b47, .ref b47] _
      refine st58.trans ?_
      show Sq p e below m T58 126 #[iv p1, iv p2, iv p3, iv ((p1 &&& (2147483647 : Int32)) % (5 : Int32)), rv (own_pick ((p1 &&& (2147483647 : Int32)) % (5 : Int32)) w_NONE w_DECLINED w_OFFERED w_TAKEN w_SKIPPED), rv b2, rv w_OFFER, .unset, .unset] [.ref b47] _
      refine XS.astore X58.here hx rfl (hb hby at_126) rfl rfl rfl ?_
      refine XS.iloadN X58.here hx rfl (hb hby at_128) rfl ?_
      show Sq p e below m T58 129 #[iv p1, iv p2, iv p3, iv ((p1 &&& (2147483647 : Int32)) % (5 : Int32)), rv (own_pick ((p1 &&& (2147483647 : Int32)) % (5 : Int32)) w_NONE w_DECLINED w_OFFERED w_TAKEN w_SKIPPED), rv b2, rv w_OFFER, rv b47, .unset] [.int ((p1 &&& (2147483647 : Int32)) % (5 : Int32))] _
      refine XS.iconst X58.here hx rfl (hb hby at_129) ?_
      exact kt
    by_cases hc130 : ((p1 &&& (2147483647 : Int32)) % (5 : Int32)) = (2 : Int32)
    · obtain ⟨cq62, kq62, q62a, q62b, q62c⟩ := isOf hZ e58 A47
      obtain ⟨_, _, ⟨T62, L62, k62, n62⟩, -, X62, ⟨Lc62, hQ62, l62, y62, z62⟩, st62⟩ := X58.virtualBack hx (y := y_21) (z := y_21) hown (mvT hZ (W 157 rfl)) (mvT hZ (W 158 rfl)) (notFace_of_selects (args := #[]) (mvT hZ (W 160 rfl))) (mvT hZ (W 160 rfl)) (mvT hZ (W 159 rfl)) (by decide) (backOf (W := 0) (wait1 l Z a0 hw [] b47 (own_pick ((p1 &&& (2147483647 : Int32)) % (5 : Int32)) w_NONE w_DECLINED w_OFFERED w_TAKEN w_SKIPPED) w_OFFERED h58 n0 O59 p58_1 S_w_OFFERED (own_pk2 hc130)) hZ (W 161 rfl) (W 124 rfl) (by decide) (by decide)) q62a q62c (g := (mkF m 142 #[iv p1, iv p2, iv p3, iv ((p1 &&& (2147483647 : Int32)) % (5 : Int32)), rv (own_pick ((p1 &&& (2147483647 : Int32)) % (5 : Int32)) w_NONE w_DECLINED w_OFFERED w_TAKEN w_SKIPPED), rv b2, rv w_OFFER, rv b47, iv 1] [.ref b47])) rfl (by rw [hml]; rfl) (Steps.refl _) (argsL := []) (rest := []) (lenOf pd_13 rfl) rfl (by show 2 * 0 + _ ≤ _; exact Nat.le_of_eq rfl) (hb hby at_142) (fun _ _ => ⟨rfl, e58, (by decide : 12 + 0 ≤ _), (by decide : 50 + 0 ≤ _)⟩)
      dsimp only [Pt.U, Pt.locs, Pt.cells, Pt.slots] at X62 l62 y62 z62 st62 hQ62
      subst l62 y62 z62
      obtain ⟨h62, e62⟩ : ∃ z, T62.heap = z := ⟨_, rfl⟩
      rw [e62] at hQ62
      obtain ⟨rfl, N62q, p62_0⟩ := hQ62
      have N62 := Fr.app N58 N62q
      rw [p62_0] at e62
      obtain ⟨fs, hr, hrun, hended, hW, hsame⟩ := X62.leave (v := some (.int (1 : Int32))) (fun h => by rw [Bd.returns] at h; cases h)
      refine ⟨_, _, pre61 _ ?_, hrun, hended, _, _, rfl, ?_, ⟨_, rfl⟩, hW, hsame.mono (by decide) (by decide)⟩
      · show Sq p e below m T58 130 #[iv p1, iv p2, iv p3, iv ((p1 &&& (2147483647 : Int32)) % (5 : Int32)), rv (own_pick ((p1 &&& (2147483647 : Int32)) % (5 : Int32)) w_NONE w_DECLINED w_OFFERED w_TAKEN w_SKIPPED), rv b2, rv w_OFFER, rv b47, .unset] [.int 2, .int ((p1 &&& (2147483647 : Int32)) % (5 : Int32))] _
        refine XS.icmpNo X58.here hx rfl (hb hby at_130) rfl (teq hc130).2 ?_
        refine XS.iconst X58.here hx rfl (hb hby at_133) ?_
        show Sq p e below m T58 134 #[iv p1, iv p2, iv p3, iv ((p1 &&& (2147483647 : Int32)) % (5 : Int32)), rv (own_pick ((p1 &&& (2147483647 : Int32)) % (5 : Int32)) w_NONE w_DECLINED w_OFFERED w_TAKEN w_SKIPPED), rv b2, rv w_OFFER, rv b47, .unset] [.int 1] _
        refine XS.goto X58.here hx rfl (pc0 := 134) (pc' := 138) rfl (hb hby at_134) (by decide) (by decide) ?_
        refine XS.istore X58.here hx rfl (hb hby at_138) rfl rfl ?_
        show Sq p e below m T58 140 #[iv p1, iv p2, iv p3, iv ((p1 &&& (2147483647 : Int32)) % (5 : Int32)), rv (own_pick ((p1 &&& (2147483647 : Int32)) % (5 : Int32)) w_NONE w_DECLINED w_OFFERED w_TAKEN w_SKIPPED), rv b2, rv w_OFFER, rv b47, iv 1] [] _
        refine XS.aload X58.here hx rfl (hb hby at_140) rfl rfl ?_
        show Sq p e below m T58 142 #[iv p1, iv p2, iv p3, iv ((p1 &&& (2147483647 : Int32)) % (5 : Int32)), rv (own_pick ((p1 &&& (2147483647 : Int32)) % (5 : Int32)) w_NONE w_DECLINED w_OFFERED w_TAKEN w_SKIPPED), rv b2, rv w_OFFER, rv b47, iv 1] [.ref b47] _
        refine st62.trans ?_
        show Sq p e below m T62 145 #[iv p1, iv p2, iv p3, iv ((p1 &&& (2147483647 : Int32)) % (5 : Int32)), rv (own_pick ((p1 &&& (2147483647 : Int32)) % (5 : Int32)) w_NONE w_DECLINED w_OFFERED w_TAKEN w_SKIPPED), rv b2, rv w_OFFER, rv b47, iv 1] [.int 1] _
        refine XS.iload X62.here hx rfl (hb hby at_145) rfl ?_
        refine XS.icmpNo X62.here hx rfl (hb hby at_147) rfl (teq (rfl : (1 : Int32) = (1 : Int32))).2 ?_
        show Sq p e below m T62 150 #[iv p1, iv p2, iv p3, iv ((p1 &&& (2147483647 : Int32)) % (5 : Int32)), rv (own_pick ((p1 &&& (2147483647 : Int32)) % (5 : Int32)) w_NONE w_DECLINED w_OFFERED w_TAKEN w_SKIPPED), rv b2, rv w_OFFER, rv b47, iv 1] [] _
        refine XS.iconst X62.here hx rfl (hb hby at_150) ?_
        refine XS.goto X62.here hx rfl (pc0 := 151) (pc' := 155) rfl (hb hby at_151) (by decide) (by decide) ?_
        show Sq p e below m T62 155 #[iv p1, iv p2, iv p3, iv ((p1 &&& (2147483647 : Int32)) % (5 : Int32)), rv (own_pick ((p1 &&& (2147483647 : Int32)) % (5 : Int32)) w_NONE w_DECLINED w_OFFERED w_TAKEN w_SKIPPED), rv b2, rv w_OFFER, rv b47, iv 1] [.int 1] _
        exact retN X62 hx (t := .boolean) Bd.returns (by simp) (hb hby at_155) hr
      · show Q_rm0 Z p1 p2 p3 w_NONE w_OFFER w_OFFER_offeredBy w_OFFERED w_DECLINED w_SKIPPED w_TAKEN w_DEF w_ELIST kdef cs h0 n0 _ T62.heap _
        rw [e62]
        exact ⟨rfl, N62⟩
    · obtain ⟨cq62, kq62, q62a, q62b, q62c⟩ := isOf hZ e58 A47
      obtain ⟨_, _, ⟨T62, L62, k62, n62⟩, -, X62, ⟨Lc62, hQ62, l62, y62, z62⟩, st62⟩ := X58.virtualBack hx (y := y_21) (z := y_21) hown (mvT hZ (W 157 rfl)) (mvT hZ (W 158 rfl)) (notFace_of_selects (args := #[]) (mvT hZ (W 160 rfl))) (mvT hZ (W 160 rfl)) (mvT hZ (W 159 rfl)) (by decide) (backOf (W := 0) (wait0 l Z a0 hw [] b47 (own_pick ((p1 &&& (2147483647 : Int32)) % (5 : Int32)) w_NONE w_DECLINED w_OFFERED w_TAKEN w_SKIPPED) w_OFFERED h58 n0 O59 p58_1 S_w_OFFERED (own_pkn hc130 ne_0 ne_1 ne_3 ne_4)) hZ (W 161 rfl) (W 124 rfl) (by decide) (by decide)) q62a q62c (g := (mkF m 142 #[iv p1, iv p2, iv p3, iv ((p1 &&& (2147483647 : Int32)) % (5 : Int32)), rv (own_pick ((p1 &&& (2147483647 : Int32)) % (5 : Int32)) w_NONE w_DECLINED w_OFFERED w_TAKEN w_SKIPPED), rv b2, rv w_OFFER, rv b47, iv 0] [.ref b47])) rfl (by rw [hml]; rfl) (Steps.refl _) (argsL := []) (rest := []) (lenOf pd_13 rfl) rfl (by show 2 * 0 + _ ≤ _; exact Nat.le_of_eq rfl) (hb hby at_142) (fun _ _ => ⟨rfl, e58, (by decide : 12 + 0 ≤ _), (by decide : 50 + 0 ≤ _)⟩)
      dsimp only [Pt.U, Pt.locs, Pt.cells, Pt.slots] at X62 l62 y62 z62 st62 hQ62
      subst l62 y62 z62
      obtain ⟨h62, e62⟩ : ∃ z, T62.heap = z := ⟨_, rfl⟩
      rw [e62] at hQ62
      obtain ⟨rfl, N62q, p62_0⟩ := hQ62
      have N62 := Fr.app N58 N62q
      rw [p62_0] at e62
      obtain ⟨fs, hr, hrun, hended, hW, hsame⟩ := X62.leave (v := some (.int (1 : Int32))) (fun h => by rw [Bd.returns] at h; cases h)
      refine ⟨_, _, pre61 _ ?_, hrun, hended, _, _, rfl, ?_, ⟨_, rfl⟩, hW, hsame.mono (by decide) (by decide)⟩
      · show Sq p e below m T58 130 #[iv p1, iv p2, iv p3, iv ((p1 &&& (2147483647 : Int32)) % (5 : Int32)), rv (own_pick ((p1 &&& (2147483647 : Int32)) % (5 : Int32)) w_NONE w_DECLINED w_OFFERED w_TAKEN w_SKIPPED), rv b2, rv w_OFFER, rv b47, .unset] [.int 2, .int ((p1 &&& (2147483647 : Int32)) % (5 : Int32))] _
        refine XS.icmpYes X58.here hx rfl (pc0 := 130) (pc' := 137) rfl (hb hby at_130) rfl (feq hc130).2 (by decide) (by decide) ?_
        refine XS.iconst X58.here hx rfl (hb hby at_137) ?_
        show Sq p e below m T58 138 #[iv p1, iv p2, iv p3, iv ((p1 &&& (2147483647 : Int32)) % (5 : Int32)), rv (own_pick ((p1 &&& (2147483647 : Int32)) % (5 : Int32)) w_NONE w_DECLINED w_OFFERED w_TAKEN w_SKIPPED), rv b2, rv w_OFFER, rv b47, .unset] [.int 0] _
        refine XS.istore X58.here hx rfl (hb hby at_138) rfl rfl ?_
        refine XS.aload X58.here hx rfl (hb hby at_140) rfl rfl ?_
        show Sq p e below m T58 142 #[iv p1, iv p2, iv p3, iv ((p1 &&& (2147483647 : Int32)) % (5 : Int32)), rv (own_pick ((p1 &&& (2147483647 : Int32)) % (5 : Int32)) w_NONE w_DECLINED w_OFFERED w_TAKEN w_SKIPPED), rv b2, rv w_OFFER, rv b47, iv 0] [.ref b47] _
        refine st62.trans ?_
        show Sq p e below m T62 145 #[iv p1, iv p2, iv p3, iv ((p1 &&& (2147483647 : Int32)) % (5 : Int32)), rv (own_pick ((p1 &&& (2147483647 : Int32)) % (5 : Int32)) w_NONE w_DECLINED w_OFFERED w_TAKEN w_SKIPPED), rv b2, rv w_OFFER, rv b47, iv 0] [.int 0] _
        refine XS.iload X62.here hx rfl (hb hby at_145) rfl ?_
        refine XS.icmpNo X62.here hx rfl (hb hby at_147) rfl (teq (rfl : (0 : Int32) = (0 : Int32))).2 ?_
        show Sq p e below m T62 150 #[iv p1, iv p2, iv p3, iv ((p1 &&& (2147483647 : Int32)) % (5 : Int32)), rv (own_pick ((p1 &&& (2147483647 : Int32)) % (5 : Int32)) w_NONE w_DECLINED w_OFFERED w_TAKEN w_SKIPPED), rv b2, rv w_OFFER, rv b47, iv 0] [] _
        refine XS.iconst X62.here hx rfl (hb hby at_150) ?_
        refine XS.goto X62.here hx rfl (pc0 := 151) (pc' := 155) rfl (hb hby at_151) (by decide) (by decide) ?_
        show Sq p e below m T62 155 #[iv p1, iv p2, iv p3, iv ((p1 &&& (2147483647 : Int32)) % (5 : Int32)), rv (own_pick ((p1 &&& (2147483647 : Int32)) % (5 : Int32)) w_NONE w_DECLINED w_OFFERED w_TAKEN w_SKIPPED), rv b2, rv w_OFFER, rv b47, iv 0] [.int 1] _
        exact retN X62 hx (t := .boolean) Bd.returns (by simp) (hb hby at_155) hr
      · show Q_rm0 Z p1 p2 p3 w_NONE w_OFFER w_OFFER_offeredBy w_OFFERED w_DECLINED w_SKIPPED w_TAKEN w_DEF w_ELIST kdef cs h0 n0 _ T62.heap _
        rw [e62]
        exact ⟨rfl, N62⟩
set_option maxRecDepth 65536 in
set_option maxHeartbeats 40000000 in
theorem comes_1 {Post : Tables → Env → Array Value → State → Outcome → State → Prop} (hpost : ∀ tb e args s v u, (limb_1_1.after args s (.returned v) u = true ∧ limb_1_2.after args s (.returned v) u = true ∧ True) → FrameEnd s (.returned v) u (Jvm.fieldLocs frame_1_writes args s ++ Jvm.arrayLocs frame_1_arrays args s ++ Jvm.staticLocs frame_1_statics s) 32 192 → Post tb e args s (.returned v) u) :
    ArmFor flags0 classFile x code maxLocals ret World_1 tables_1 room_1 Calls_1 rest_1 Pre_1 Post := by
  intro l hfl _ _ p e ha hc hk s m args below hf hA hF happ hP
  obtain ⟨hcalls, hrest, hpre⟩ := hP
  obtain ⟨-, -, -, hnamed, -, -, -, hat⟩ := (Spec.applies_iff hf).mp happ
  obtain ⟨hg, hn⟩ := and_e (Cond.before_iff.mp (show (Jvm.Cond.and given_1 narrow_1).before args s = true from hpre))
  obtain ⟨gc, gr0⟩ := and_e hg
  obtain ⟨ga0, gr1⟩ := and_e gr0
  obtain ⟨ga1, gr2⟩ := and_e gr1
  obtain ⟨w0, w1, w2, rfl⟩ : ∃ w0 w1 w2 : Value, args = #[w0, w1, w2] := by
    have hs : args.size = 3 := by simpa [Cond.value, given_1] using gc
    obtain ⟨L⟩ := args
    match L, hs with
    | [w0, w1, w2], _ => exact ⟨w0, w1, w2, rfl⟩
  have hw := fun d (hd : d ∈ tables_1) => atoms_spec (ws := Jvm.Cond.code x code maxLocals ret :: tables_1) hat d (List.mem_cons_of_mem _ hd)
  have W := fun (i : Nat) {d : Jvm.Cond} (h : tables_1[i]? = some d) => hw d (List.mem_of_getElem? h)
  obtain ⟨hsets, hown0⟩ := atoms_of _ (rest_1_c_eq ▸ (show rest_1_c.before _ s = true from hrest))
  obtain ⟨i0, ei0⟩ := is_v ga0
  obtain rfl : w0 = (.int i0) := Option.some.inj ei0
  obtain ⟨i1, ei1⟩ := is_v ga1
  obtain rfl : w1 = (.int i1) := Option.some.inj ei1
  obtain ⟨i2, ei2⟩ := is_v gr2
  obtain rfl : w2 = (.int i2) := Option.some.inj ei2
  obtain ⟨c0, cr0⟩ := and_e hn
  obtain ⟨c1, cr1⟩ := and_e cr0
  obtain ⟨c2, cr2⟩ := and_e cr1
  obtain ⟨c3, cr3⟩ := and_e cr2
  obtain ⟨c4, cr4⟩ := and_e cr3
  obtain ⟨c5, cr5⟩ := and_e cr4
  obtain ⟨c6, cr6⟩ := and_e cr5
  obtain ⟨c7, cr7⟩ := and_e cr6
  obtain ⟨c8, cr8⟩ := and_e cr7
  obtain ⟨c9, cr9⟩ := and_e cr8
  obtain ⟨c10, cr10⟩ := and_e cr9
  obtain ⟨c11, cr11⟩ := and_e cr10
  obtain ⟨c12, cr12⟩ := and_e cr11
  have c13 := cr12
  obtain ⟨w_NONE, ev_w_NONE⟩ := exa_v c0
  have S_w_NONE := Sta.start ev_w_NONE (Or.inr ⟨(W 6 rfl), (W 7 rfl)⟩)
  have E_w_NONE := Exa.start ev_w_NONE c0
  obtain ⟨w_OFFER, ev_w_OFFER⟩ := exa_v c1
  have S_w_OFFER := Sta.start ev_w_OFFER (Or.inr ⟨(W 124 rfl), (W 125 rfl)⟩)
  have E_w_OFFER := Exa.start ev_w_OFFER c1
  obtain ⟨w_OFFER_offeredBy, ev_w_OFFER_offeredBy⟩ := exa_v c2
  have F_w_OFFER_offeredBy := own_fldR ev_w_OFFER ev_w_OFFER_offeredBy
  have E_w_OFFER_offeredBy := Exa.start ev_w_OFFER_offeredBy c2
  have ev_w_OFFER_offeredAt := own_eqR ev_w_OFFER_offeredBy c3
  have F_w_OFFER_offeredAt := own_fldR ev_w_OFFER ev_w_OFFER_offeredAt
  have ev_w_OFFER_answeredAt := own_eqR ev_w_OFFER_offeredBy c4
  have F_w_OFFER_answeredAt := own_fldR ev_w_OFFER ev_w_OFFER_answeredAt
  obtain ⟨w_OFFERED, ev_w_OFFERED⟩ := exa_v c5
  have S_w_OFFERED := Sta.start ev_w_OFFERED (Or.inr ⟨(W 6 rfl), (W 163 rfl)⟩)
  have E_w_OFFERED := Exa.start ev_w_OFFERED c5
  have ev_w_NONE_ordinal := eqv_i (Term.int_eval (0 : Int32)) c6
  have F_w_NONE_ordinal := own_fldR ev_w_NONE ev_w_NONE_ordinal
  have ev_w_OFFERED_ordinal := eqv_i (Term.int_eval (2 : Int32)) c7
  have F_w_OFFERED_ordinal := own_fldR ev_w_OFFERED ev_w_OFFERED_ordinal
  obtain ⟨w_DECLINED, ev_w_DECLINED⟩ := exa_v c8
  have S_w_DECLINED := Sta.start ev_w_DECLINED (Or.inr ⟨(W 6 rfl), (W 165 rfl)⟩)
  have E_w_DECLINED := Exa.start ev_w_DECLINED c8
  have ev_w_DECLINED_ordinal := eqv_i (Term.int_eval (1 : Int32)) c9
  have F_w_DECLINED_ordinal := own_fldR ev_w_DECLINED ev_w_DECLINED_ordinal
  obtain ⟨w_SKIPPED, ev_w_SKIPPED⟩ := exa_v c10
  have S_w_SKIPPED := Sta.start ev_w_SKIPPED (Or.inr ⟨(W 6 rfl), (W 167 rfl)⟩)
  have E_w_SKIPPED := Exa.start ev_w_SKIPPED c10
  have ev_w_SKIPPED_ordinal := eqv_i (Term.int_eval (4 : Int32)) c11
  have F_w_SKIPPED_ordinal := own_fldR ev_w_SKIPPED ev_w_SKIPPED_ordinal
  obtain ⟨w_TAKEN, ev_w_TAKEN⟩ := exa_v c12
  have S_w_TAKEN := Sta.start ev_w_TAKEN (Or.inr ⟨(W 6 rfl), (W 169 rfl)⟩)
  have E_w_TAKEN := Exa.start ev_w_TAKEN c12
  have ev_w_TAKEN_ordinal := eqv_i (Term.int_eval (3 : Int32)) c13
  have F_w_TAKEN_ordinal := own_fldR ev_w_TAKEN ev_w_TAKEN_ordinal
  obtain ⟨w_DEF, ev_w_DEF⟩ := arr_v (Cond.before_iff.mp (hsets _ (List.mem_of_getElem? (i := 6) rfl)))
  have S_w_DEF := Sta.start ev_w_DEF (Or.inr ⟨(W 10 rfl), (hsets _ (List.mem_of_getElem? (i := 2) rfl))⟩)
  obtain ⟨cl_w_DEF, Ar_w_DEF⟩ := Arr.start ev_w_DEF (Cond.before_iff.mp (hsets _ (List.mem_of_getElem? (i := 6) rfl)))
  have E_w_DEF := Exa.start ev_w_DEF (Cond.before_iff.mp (hsets _ (List.mem_of_getElem? (i := 7) rfl)))
  have len_w_DEF := own_len ev_w_DEF Ar_w_DEF (Cond.before_iff.mp (hsets _ (List.mem_of_getElem? (i := 8) rfl)))
  obtain ⟨w_ELIST, ev_w_ELIST⟩ := exa_v (Cond.before_iff.mp (hsets _ (List.mem_of_getElem? (i := 20) rfl)))
  have S_w_ELIST := Sta.start ev_w_ELIST (Or.inl (hsets _ (List.mem_of_getElem? (i := 19) rfl)))
  have E_w_ELIST := Exa.start ev_w_ELIST (Cond.before_iff.mp (hsets _ (List.mem_of_getElem? (i := 20) rfl)))
  obtain ⟨kdef, V_w_DEF⟩ := own_arvE (d := .null) Ar_w_DEF len_w_DEF
  obtain ⟨cs, evcs⟩ := is_v (Cond.before_iff.mp (hsets _ (List.mem_of_getElem? (i := 10) rfl)))
  have Scs := Sta.start evcs (Or.inl (hsets _ (List.mem_of_getElem? (i := 9) rfl)))
  have hcs := own_ne0 evcs (Cond.before_iff.mp (hsets _ (List.mem_of_getElem? (i := 11) rfl)))
  have ne_0 := own_ne F_w_NONE_ordinal F_w_OFFERED_ordinal (by decide)
  have ne_1 := own_ne F_w_DECLINED_ordinal F_w_OFFERED_ordinal (by decide)
  have ne_3 := own_ne F_w_TAKEN_ordinal F_w_OFFERED_ordinal (by decide)
  have ne_4 := own_ne F_w_SKIPPED_ordinal F_w_OFFERED_ordinal (by decide)
  obtain ⟨n, o, h1, h2, h3, _, L, rfl, ⟨rfl, N⟩, hq⟩ := rm0 l s _ hw tables_1 i0 i1 i2 w_NONE w_OFFER w_OFFER_offeredBy w_OFFERED w_DECLINED w_SKIPPED w_TAKEN w_DEF w_ELIST kdef cs s.heap s.heap.size (Old.start s) S_w_NONE E_w_NONE S_w_OFFER E_w_OFFER F_w_OFFER_offeredBy E_w_OFFER_offeredBy F_w_OFFER_offeredAt F_w_OFFER_answeredAt S_w_OFFERED E_w_OFFERED S_w_DECLINED E_w_DECLINED S_w_SKIPPED E_w_SKIPPED S_w_TAKEN E_w_TAKEN S_w_DEF E_w_DEF S_w_ELIST E_w_ELIST V_w_DEF Scs hcs ne_0 ne_1 ne_3 ne_4 p e ha hc hk s m _ below hf ((Spec.applies_iff_loose hf).mp happ).1 ⟨rfl, State.Warmed39.refl s, rfl⟩ trivial
  refine ⟨n, _, h1, h2, h3, hpost _ _ _ _ _ _ ⟨Cond.after_iff.mpr rfl, Cond.after_iff.mpr (eq_i res_at (Term.int_eval (1)) rfl), trivial⟩ ⟨hq.1, hq.2.1, (hq.2.2.sift fun y hy => Or.inr (N y hy)).mono (by decide) (by decide)⟩⟩
theorem main_1_1 : Claimed_1_1 := comes_1 fun _ _ _ _ _ _ h hF => ⟨h.1, hF⟩
theorem main_1_2 : Claimed_1_2 := comes_1 fun _ _ _ _ _ _ h hF => ⟨h.2.1, hF⟩
end Jvm.Pilot.@@N@@
namespace Jvm.Pilot.@@N@@
open Jvm Jvm.ClassFile Sem Op Lib Jvm.Free Jvm.Stand Jvm.Pilot.@@N@@.Jvm.D
/-! MADE BY PROGRAM (witnessworld.py) out of the Statement's table words and the real class files: 36 classes; the members and pool entries that the words name. The judged class is class 1, her method 2. -/
namespace start1
open Jvm.ClassFile
def u (s : String) : CpInfo := .utf8 (stringToUtf16 s)
/-- a pool by its gaps: so many unusable entries, then the entry; so many at the end -/
def gap : Nat → List CpInfo → List CpInfo
  | 0, r => r
  | n + 1, r => .unusable :: gap n r
def poolList (es : List (Nat × CpInfo)) (last : Nat) : List CpInfo := es.foldr (fun e r => gap e.1 (e.2 :: r)) (gap last [])
def pool (es : List (Nat × CpInfo)) (last : Nat) : Array CpInfo := ⟨poolList es last⟩
def fileOf (pool : Array CpInfo) (this : Nat) (attrs : Array Attribute := #[]) (ms : Array MethodInfo := #[]) (fl : Nat := 33) (sup : Nat := 0) (ifs : Array Nat := #[]) (fds : Array FieldInfo := #[]) : ClassFile where
  minorVersion := 0
  majorVersion := 65
  constantPool := pool
  accessFlags := fl
  thisClass := this
  superClass := sup
  interfaces := ifs
  fields := fds
  methods := ms
  attributes := attrs
def plain (name : String) (sup : Option ClassId) : Class where
  name := name
  kind := .ordinary
  loader := none
  accessFlags := 33
  super := sup
  interfaces := #[]
  cf := none
  fields := #[]
  methods := #[]
  instanceTypes := #[]
  staticTypes := #[]
  resolved := #[]
  callSites := []
  init := .initialized
  statics := none
  mirror := none

def pool0 : Array CpInfo := pool [(5, u "<init>"), (0, u "()V"), (1, .class_ 10), (1, u "java/lang/Object")] 113

def k0c0 : Code := { maxStack := 0, maxLocals := 1, code := object_method_1_code, exceptionTable := #[], attributes := #[] }
def k0m0 : Method := { name := "<init>", desc := "()V", sig := { parameters := [], returnType := none }, accessFlags := 1, code := some k0c0 }
/-- java/lang/Object -/
def k0 : Class := { plain "java/lang/Object" none with
  accessFlags := 33
  interfaces := #[]
  cf := some (fileOf pool0 8 #[] #[{ accessFlags := 1, nameIndex := 5, descriptorIndex := 6, attributes := #[] }] 33 0 #[] #[])
  fields := #[]
  methods := #[k0m0]
  instanceTypes := #[]
  staticTypes := #[]
  resolved := Array.replicate 124 none
  statics := none }

def pool1 : Array CpInfo := pool [(2, .class_ 4), (0, .nameAndType 5 6), (0, u "java/lang/Object"), (0, u "<init>"), (0, u "()V"), (0, .fieldref 8 9), (0, .class_ 10), (0, .nameAndType 11 12), (0, u "com/example/latchkey/latchkey/ScaffoldOffer$Status"), (0, u "NONE"), (0, u "Lcom/example/latchkey/latchkey/ScaffoldOffer$Status;"), (0, .fieldref 8 14), (0, .nameAndType 15 12), (0, u "DECLINED"), (0, .fieldref 8 17), (0, .nameAndType 18 12), (0, u "OFFERED"), (0, .fieldref 8 20), (0, .nameAndType 21 12), (0, u "TAKEN"), (0, .fieldref 8 23), (0, .nameAndType 24 12), (0, u "SKIPPED"), (0, .integer 2147483647), (0, .methodref 27 28), (0, .class_ 29), (0, .nameAndType 30 31), (0, u "com/example/latchkey/latchkey/ScaffoldOfferWaitsPinLaw"), (0, u "statusAt"), (0, u "(I)Lcom/example/latchkey/latchkey/ScaffoldOffer$Status;"), (0, .class_ 33), (0, u "java/util/ArrayList"), (0, .methodref 32 3), (0, .methodref 36 37), (0, .class_ 38), (0, .nameAndType 39 40), (0, u "java/lang/String"), (0, u "valueOf"), (0, u "(C)Ljava/lang/String;"), (0, .interfaceMethodref 42 43), (0, .class_ 44), (0, .nameAndType 45 46), (0, u "java/util/List"), (0, u "add"), (0, u "(Ljava/lang/Object;)Z"), (0, .class_ 48), (0, u "com/example/latchkey/latchkey/ScaffoldOffer$Kind"), (0, .methodref 47 50), (0, .nameAndType 5 51), (0, u "(Ljava/lang/String;Ljava/lang/String;Ljava/util/List;)V"), (0, .fieldref 53 54), (0, .class_ 55), (0, .nameAndType 11 56), (0, u "com/example/latchkey/latchkey/ScaffoldOffer"), (0, u "Lcom/example/latchkey/latchkey/ScaffoldOffer;"), (0, .methodref 53 58), (0, .nameAndType 59 60), (0, u "offeredBy"), (0, u "()Ljava/util/Optional;"), (0, .methodref 53 62), (0, .nameAndType 63 60), (0, u "offeredAt"), (0, .methodref 53 65), (0, .nameAndType 66 60), (0, u "answeredAt"), (0, .methodref 53 68), (0, .nameAndType 5 69), (0, u "(Lcom/example/latchkey/latchkey/ScaffoldOffer$Status;Ljava/util/Optional;Ljava/util/Optional;Ljava/util/Optional;Ljava/util/List;)V"), (0, .methodref 53 71), (0, .nameAndType 72 73), (0, u "waits"), (0, u "()Z"), (3, u "law"), (0, u "(III)Z")] 5

def k1m0 : Method := { name := "<init>", desc := "()V", sig := { parameters := [], returnType := none }, accessFlags := 2, code := none }
def k1c1 : Code := { maxStack := 2, maxLocals := 1, code := method_2_code, exceptionTable := #[], attributes := #[] }
def k1m1 : Method := { name := "statusAt", desc := "(I)Lcom/example/latchkey/latchkey/ScaffoldOffer$Status;", sig := { parameters := [.int], returnType := some (.object "com/example/latchkey/latchkey/ScaffoldOffer$Status") }, accessFlags := 10, code := some k1c1 }
def k1c2 : Code := { maxStack := 7, maxLocals := 9, code := code, exceptionTable := #[], attributes := #[] }
def k1m2 : Method := { name := "law", desc := "(III)Z", sig := { parameters := [.int, .int, .int], returnType := some .boolean }, accessFlags := 9, code := some k1c2 }
/-- com/example/latchkey/latchkey/ScaffoldOfferWaitsPinLaw -/
def k1 : Class := { plain "com/example/latchkey/latchkey/ScaffoldOfferWaitsPinLaw" (some 0) with
  accessFlags := 49
  interfaces := #[]
  cf := some (fileOf pool1 27 #[] #[{ accessFlags := 2, nameIndex := 5, descriptorIndex := 6, attributes := #[] }, { accessFlags := 10, nameIndex := 30, descriptorIndex := 31, attributes := #[] }, { accessFlags := 9, nameIndex := 77, descriptorIndex := 78, attributes := #[] }] 49 2 #[] #[])
  fields := #[]
  methods := #[k1m0, k1m1, k1m2]
  instanceTypes := #[]
  staticTypes := #[]
  resolved := Array.replicate 84 none
  statics := none }

def pool2 : Array CpInfo := pool [(1, .class_ 2), (0, u "java/lang/constant/Constable"), (0, .class_ 4), (0, u "java/lang/Object")] 6

/-- java/lang/constant/Constable -/
def k2 : Class := { plain "java/lang/constant/Constable" (some 0) with
  accessFlags := 1537
  interfaces := #[]
  cf := some (fileOf pool2 1 #[] #[] 1537 3 #[] #[])
  fields := #[]
  methods := #[]
  instanceTypes := #[]
  staticTypes := #[]
  resolved := Array.replicate 11 none
  statics := none }

def pool3 : Array CpInfo := pool [(1, .class_ 2), (0, u "java/lang/Comparable"), (0, .class_ 4), (0, u "java/lang/Object")] 7

/-- java/lang/Comparable -/
def k3 : Class := { plain "java/lang/Comparable" (some 0) with
  accessFlags := 1537
  interfaces := #[]
  cf := some (fileOf pool3 1 #[] #[] 1537 3 #[] #[])
  fields := #[]
  methods := #[]
  instanceTypes := #[]
  staticTypes := #[]
  resolved := Array.replicate 12 none
  statics := none }

def pool4 : Array CpInfo := pool [(1, .class_ 2), (0, u "java/io/Serializable"), (0, .class_ 4), (0, u "java/lang/Object")] 2

/-- java/io/Serializable -/
def k4 : Class := { plain "java/io/Serializable" (some 0) with
  accessFlags := 1537
  interfaces := #[]
  cf := some (fileOf pool4 1 #[] #[] 1537 3 #[] #[])
  fields := #[]
  methods := #[]
  instanceTypes := #[]
  staticTypes := #[]
  resolved := Array.replicate 7 none
  statics := none }

def pool5 : Array CpInfo := pool [(2, .class_ 4), (1, u "java/lang/Enum"), (0, u "name"), (0, u "Ljava/lang/String;"), (2, u "ordinal"), (0, u "I"), (1, .class_ 14), (1, u "java/lang/Object"), (4, u "hash"), (86, .class_ 108), (1, u "java/lang/Enum$EnumDesc"), (2, .class_ 112), (0, u "java/lang/constant/Constable"), (0, .class_ 114), (0, u "java/lang/Comparable"), (0, .class_ 116), (0, u "java/io/Serializable")] 87

/-- java/lang/Enum -/
def k5 : Class := { plain "java/lang/Enum" (some 0) with
  accessFlags := 1057
  interfaces := #[2, 3, 4]
  cf := some (fileOf pool5 2 #[.nestMembers #[106]] #[] 1057 12 #[111, 113, 115] #[{ accessFlags := 18, nameIndex := 5, descriptorIndex := 6, attributes := #[] }, { accessFlags := 18, nameIndex := 9, descriptorIndex := 10, attributes := #[] }, { accessFlags := 2, nameIndex := 19, descriptorIndex := 10, attributes := #[] }])
  fields := #[{ name := "name", type := (.object "java/lang/String"), accessFlags := 18, slot := 0, constantValue := 0 }, { name := "ordinal", type := .int, accessFlags := 18, slot := 1, constantValue := 0 }, { name := "hash", type := .int, accessFlags := 2, slot := 2, constantValue := 0 }]
  methods := #[]
  instanceTypes := #[(.object "java/lang/String"), .int, .int]
  staticTypes := #[]
  resolved := Array.replicate 204 none
  statics := none }

def pool6 : Array CpInfo := pool [(1, .class_ 2), (0, u "com/example/latchkey/latchkey/ScaffoldOffer$Status"), (2, u "NONE"), (0, u "Lcom/example/latchkey/latchkey/ScaffoldOffer$Status;"), (2, u "DECLINED"), (2, u "OFFERED"), (2, u "TAKEN"), (2, u "SKIPPED"), (2, u "$VALUES"), (0, u "[Lcom/example/latchkey/latchkey/ScaffoldOffer$Status;"), (6, .class_ 31), (1, u "java/lang/Enum"), (45, .class_ 78), (0, u "com/example/latchkey/latchkey/ScaffoldOffer")] 2

/-- com/example/latchkey/latchkey/ScaffoldOffer$Status -/
def k6 : Class := { plain "com/example/latchkey/latchkey/ScaffoldOffer$Status" (some 5) with
  accessFlags := 16432
  interfaces := #[]
  cf := some (fileOf pool6 1 #[.nestHost 77] #[] 16432 29 #[] #[{ accessFlags := 16409, nameIndex := 5, descriptorIndex := 6, attributes := #[] }, { accessFlags := 16409, nameIndex := 9, descriptorIndex := 6, attributes := #[] }, { accessFlags := 16409, nameIndex := 12, descriptorIndex := 6, attributes := #[] }, { accessFlags := 16409, nameIndex := 15, descriptorIndex := 6, attributes := #[] }, { accessFlags := 16409, nameIndex := 18, descriptorIndex := 6, attributes := #[] }, { accessFlags := 4122, nameIndex := 21, descriptorIndex := 22, attributes := #[] }])
  fields := #[{ name := "NONE", type := (.object "com/example/latchkey/latchkey/ScaffoldOffer$Status"), accessFlags := 16409, slot := 0, constantValue := 0 }, { name := "DECLINED", type := (.object "com/example/latchkey/latchkey/ScaffoldOffer$Status"), accessFlags := 16409, slot := 1, constantValue := 0 }, { name := "OFFERED", type := (.object "com/example/latchkey/latchkey/ScaffoldOffer$Status"), accessFlags := 16409, slot := 2, constantValue := 0 }, { name := "TAKEN", type := (.object "com/example/latchkey/latchkey/ScaffoldOffer$Status"), accessFlags := 16409, slot := 3, constantValue := 0 }, { name := "SKIPPED", type := (.object "com/example/latchkey/latchkey/ScaffoldOffer$Status"), accessFlags := 16409, slot := 4, constantValue := 0 }, { name := "$VALUES", type := (.array (.object "com/example/latchkey/latchkey/ScaffoldOffer$Status")), accessFlags := 4122, slot := 5, constantValue := 0 }]
  methods := #[]
  instanceTypes := #[(.object "java/lang/String"), .int, .int]
  staticTypes := #[(.object "com/example/latchkey/latchkey/ScaffoldOffer$Status"), (.object "com/example/latchkey/latchkey/ScaffoldOffer$Status"), (.object "com/example/latchkey/latchkey/ScaffoldOffer$Status"), (.object "com/example/latchkey/latchkey/ScaffoldOffer$Status"), (.object "com/example/latchkey/latchkey/ScaffoldOffer$Status"), (.array (.object "com/example/latchkey/latchkey/ScaffoldOffer$Status"))]
  resolved := Array.replicate 81 none
  statics := some 0 }

def pool7 : Array CpInfo := pool [(8, .class_ 10), (1, u "java/lang/Iterable"), (24, .class_ 36), (0, u "java/lang/Object")] 25

/-- java/lang/Iterable -/
def k7 : Class := { plain "java/lang/Iterable" (some 0) with
  accessFlags := 1537
  interfaces := #[]
  cf := some (fileOf pool7 8 #[] #[] 1537 35 #[] #[])
  fields := #[]
  methods := #[]
  instanceTypes := #[]
  staticTypes := #[]
  resolved := Array.replicate 62 none
  statics := none }

def pool8 : Array CpInfo := pool [(10, .class_ 12), (1, u "java/util/Collection"), (47, .class_ 61), (0, u "java/lang/Object"), (0, .class_ 63), (0, u "java/lang/Iterable")] 51

/-- java/util/Collection -/
def k8 : Class := { plain "java/util/Collection" (some 0) with
  accessFlags := 1537
  interfaces := #[7]
  cf := some (fileOf pool8 10 #[] #[] 1537 60 #[62] #[])
  fields := #[]
  methods := #[]
  instanceTypes := #[]
  staticTypes := #[]
  resolved := Array.replicate 115 none
  statics := none }

def pool9 : Array CpInfo := pool [(1, .methodref 2 3), (0, .class_ 4), (0, .nameAndType 5 6), (0, u "java/lang/Object"), (0, u "<init>"), (0, u "()V"), (1, .class_ 10), (1, u "java/util/AbstractCollection"), (66, .class_ 78), (0, u "java/util/Collection")] 81

def k9c0 : Code := { maxStack := 1, maxLocals := 1, code := jdk_22_method_1_code, exceptionTable := #[], attributes := #[] }
def k9m0 : Method := { name := "<init>", desc := "()V", sig := { parameters := [], returnType := none }, accessFlags := 4, code := some k9c0 }
/-- java/util/AbstractCollection -/
def k9 : Class := { plain "java/util/AbstractCollection" (some 0) with
  accessFlags := 1057
  interfaces := #[8]
  cf := some (fileOf pool9 8 #[] #[{ accessFlags := 4, nameIndex := 5, descriptorIndex := 6, attributes := #[] }] 1057 2 #[77] #[])
  fields := #[]
  methods := #[k9m0]
  instanceTypes := #[]
  staticTypes := #[]
  resolved := Array.replicate 160 none
  statics := none }

def pool10 : Array CpInfo := pool [(8, .class_ 10), (1, u "java/util/SequencedCollection"), (15, .class_ 27), (0, u "java/lang/Object"), (0, .class_ 29), (0, u "java/util/Collection")] 27

/-- java/util/SequencedCollection -/
def k10 : Class := { plain "java/util/SequencedCollection" (some 0) with
  accessFlags := 1537
  interfaces := #[8]
  cf := some (fileOf pool10 8 #[] #[] 1537 26 #[28] #[])
  fields := #[]
  methods := #[]
  instanceTypes := #[]
  staticTypes := #[]
  resolved := Array.replicate 57 none
  statics := none }

def pool11 : Array CpInfo := pool [(8, .class_ 10), (1, u "java/util/List"), (49, u "add"), (3, u "(Ljava/lang/Object;)Z"), (23, u "of"), (1, .fieldref 91 92), (0, .class_ 93), (0, .nameAndType 94 95), (0, u "java/util/ImmutableCollections"), (0, u "EMPTY_LIST"), (0, u "Ljava/util/ImmutableCollections$ListN;"), (7, .class_ 104), (0, u "java/lang/Object"), (14, u "()Ljava/util/List;"), (0, .class_ 121), (0, u "java/util/SequencedCollection")] 129

def k11m0 : Method := { name := "add", desc := "(Ljava/lang/Object;)Z", sig := { parameters := [(.object "java/lang/Object")], returnType := some .boolean }, accessFlags := 1025, code := none }
def k11c1 : Code := { maxStack := 1, maxLocals := 0, code := jdk_40_method_36_code, exceptionTable := #[], attributes := #[] }
def k11m1 : Method := { name := "of", desc := "()Ljava/util/List;", sig := { parameters := [], returnType := some (.object "java/util/List") }, accessFlags := 9, code := some k11c1 }
/-- java/util/List -/
def k11 : Class := { plain "java/util/List" (some 0) with
  accessFlags := 1537
  interfaces := #[10]
  cf := some (fileOf pool11 8 #[] #[{ accessFlags := 1025, nameIndex := 60, descriptorIndex := 64, attributes := #[] }, { accessFlags := 9, nameIndex := 88, descriptorIndex := 119, attributes := #[] }] 1537 103 #[120] #[])
  fields := #[]
  methods := #[k11m0, k11m1]
  instanceTypes := #[]
  staticTypes := #[]
  resolved := Array.replicate 251 none
  statics := none }

def pool12 : Array CpInfo := pool [(1, .methodref 2 3), (0, .class_ 4), (0, .nameAndType 5 6), (0, u "java/util/AbstractCollection"), (0, u "<init>"), (0, u "()V"), (0, .fieldref 8 9), (0, .class_ 10), (0, .nameAndType 11 12), (0, u "java/util/AbstractList"), (0, u "modCount"), (0, u "I"), (64, .class_ 78), (0, u "java/util/AbstractList$Itr"), (3, .class_ 83), (0, u "java/util/AbstractList$ListItr"), (9, .class_ 94), (0, u "java/util/AbstractList$RandomAccessSubList"), (3, .class_ 99), (0, u "java/util/AbstractList$SubList"), (33, .class_ 134), (0, u "java/util/List"), (73, .class_ 209), (0, u "java/util/AbstractList$SubList$1"), (0, .class_ 211), (0, u "java/util/AbstractList$RandomAccessSpliterator")] 6

def k12c0 : Code := { maxStack := 2, maxLocals := 1, code := jdk_39_method_1_code, exceptionTable := #[], attributes := #[] }
def k12m0 : Method := { name := "<init>", desc := "()V", sig := { parameters := [], returnType := none }, accessFlags := 4, code := some k12c0 }
/-- java/util/AbstractList -/
def k12 : Class := { plain "java/util/AbstractList" (some 9) with
  accessFlags := 1057
  interfaces := #[11]
  cf := some (fileOf pool12 8 #[.nestMembers #[93, 98, 208, 210, 82, 77]] #[{ accessFlags := 4, nameIndex := 5, descriptorIndex := 6, attributes := #[] }] 1057 2 #[133] #[{ accessFlags := 132, nameIndex := 11, descriptorIndex := 12, attributes := #[] }])
  fields := #[{ name := "modCount", type := .int, accessFlags := 132, slot := 0, constantValue := 0 }]
  methods := #[k12m0]
  instanceTypes := #[.int]
  staticTypes := #[]
  resolved := Array.replicate 218 none
  statics := none }

def pool13 : Array CpInfo := pool [(1, .class_ 2), (0, u "java/util/RandomAccess"), (0, .class_ 4), (0, u "java/lang/Object")] 2

/-- java/util/RandomAccess -/
def k13 : Class := { plain "java/util/RandomAccess" (some 0) with
  accessFlags := 1537
  interfaces := #[]
  cf := some (fileOf pool13 1 #[] #[] 1537 3 #[] #[])
  fields := #[]
  methods := #[]
  instanceTypes := #[]
  staticTypes := #[]
  resolved := Array.replicate 7 none
  statics := none }

def pool14 : Array CpInfo := pool [(1, .class_ 2), (0, u "java/lang/Cloneable"), (0, .class_ 4), (0, u "java/lang/Object")] 2

/-- java/lang/Cloneable -/
def k14 : Class := { plain "java/lang/Cloneable" (some 0) with
  accessFlags := 1537
  interfaces := #[]
  cf := some (fileOf pool14 1 #[] #[] 1537 3 #[] #[])
  fields := #[]
  methods := #[]
  instanceTypes := #[]
  staticTypes := #[]
  resolved := Array.replicate 7 none
  statics := none }

def pool15 : Array CpInfo := pool [(1, .methodref 2 3), (0, .class_ 4), (0, .nameAndType 5 6), (0, u "java/util/AbstractList"), (0, u "<init>"), (0, u "()V"), (0, .class_ 8), (0, u "java/lang/Object"), (0, .fieldref 10 11), (0, .class_ 12), (0, .nameAndType 13 14), (0, u "java/util/ArrayList"), (0, u "elementData"), (0, u "[Ljava/lang/Object;"), (2, u "EMPTY_ELEMENTDATA"), (21, .fieldref 10 40), (0, .nameAndType 41 14), (0, u "DEFAULTCAPACITY_EMPTY_ELEMENTDATA"), (5, u "()[Ljava/lang/Object;"), (0, .fieldref 10 49), (0, .nameAndType 50 51), (0, u "size"), (0, u "I"), (11, .fieldref 10 64), (0, .nameAndType 65 51), (0, u "modCount"), (3, .methodref 10 70), (0, .nameAndType 71 72), (0, u "grow"), (0, u "(I)[Ljava/lang/Object;"), (6, .methodref 80 81), (0, .class_ 82), (0, .nameAndType 83 84), (0, u "java/lang/Math"), (0, u "max"), (0, u "(II)I"), (11, u "(Ljava/lang/Object;)Z"), (32, .methodref 10 130), (0, .nameAndType 71 47), (0, .methodref 10 132), (0, .nameAndType 133 134), (0, u "add"), (0, u "(Ljava/lang/Object;[Ljava/lang/Object;I)V"), (13, .class_ 149), (0, u "java/util/List"), (112, .class_ 263), (0, u "java/util/ArrayList$ListItr"), (3, .class_ 268), (0, u "java/util/ArrayList$Itr"), (7, .class_ 277), (0, u "java/util/ArrayList$SubList"), (12, .class_ 291), (0, u "java/util/ArrayList$ArrayListSpliterator"), (37, .class_ 330), (0, u "java/util/RandomAccess"), (0, .class_ 332), (0, u "java/lang/Cloneable"), (0, .class_ 334), (0, u "java/io/Serializable"), (0, u "serialVersionUID"), (0, u "J"), (3, u "DEFAULT_CAPACITY"), (159, .class_ 501), (0, u "java/util/ArrayList$SubList$2"), (0, .class_ 503), (0, u "java/util/ArrayList$SubList$1")] 5

def k15c0 : Code := { maxStack := 2, maxLocals := 1, code := jdk_38_method_2_code, exceptionTable := #[], attributes := #[] }
def k15m0 : Method := { name := "<init>", desc := "()V", sig := { parameters := [], returnType := none }, accessFlags := 1, code := some k15c0 }
def k15c1 : Code := { maxStack := 4, maxLocals := 4, code := jdk_38_method_6_code, exceptionTable := #[], attributes := #[] }
def k15m1 : Method := { name := "grow", desc := "(I)[Ljava/lang/Object;", sig := { parameters := [.int], returnType := some (.array (.object "java/lang/Object")) }, accessFlags := 2, code := some k15c1 }
def k15c2 : Code := { maxStack := 3, maxLocals := 1, code := jdk_38_method_7_code, exceptionTable := #[], attributes := #[] }
def k15m2 : Method := { name := "grow", desc := "()[Ljava/lang/Object;", sig := { parameters := [], returnType := some (.array (.object "java/lang/Object")) }, accessFlags := 2, code := some k15c2 }
def k15c3 : Code := { maxStack := 3, maxLocals := 4, code := jdk_38_method_24_code, exceptionTable := #[], attributes := #[] }
def k15m3 : Method := { name := "add", desc := "(Ljava/lang/Object;[Ljava/lang/Object;I)V", sig := { parameters := [(.object "java/lang/Object"), (.array (.object "java/lang/Object")), .int], returnType := none }, accessFlags := 2, code := some k15c3 }
def k15c4 : Code := { maxStack := 4, maxLocals := 2, code := jdk_38_method_25_code, exceptionTable := #[], attributes := #[] }
def k15m4 : Method := { name := "add", desc := "(Ljava/lang/Object;)Z", sig := { parameters := [(.object "java/lang/Object")], returnType := some .boolean }, accessFlags := 1, code := some k15c4 }
/-- java/util/ArrayList -/
def k15 : Class := { plain "java/util/ArrayList" (some 12) with
  accessFlags := 33
  interfaces := #[11, 13, 14, 4]
  cf := some (fileOf pool15 10 #[.nestMembers #[290, 276, 500, 502, 262, 267]] #[{ accessFlags := 1, nameIndex := 5, descriptorIndex := 6, attributes := #[] }, { accessFlags := 2, nameIndex := 71, descriptorIndex := 72, attributes := #[] }, { accessFlags := 2, nameIndex := 71, descriptorIndex := 47, attributes := #[] }, { accessFlags := 2, nameIndex := 133, descriptorIndex := 134, attributes := #[] }, { accessFlags := 1, nameIndex := 133, descriptorIndex := 96, attributes := #[] }] 33 2 #[148, 329, 331, 333] #[{ accessFlags := 26, nameIndex := 335, descriptorIndex := 336, attributes := #[] }, { accessFlags := 26, nameIndex := 340, descriptorIndex := 51, attributes := #[] }, { accessFlags := 26, nameIndex := 17, descriptorIndex := 14, attributes := #[] }, { accessFlags := 26, nameIndex := 41, descriptorIndex := 14, attributes := #[] }, { accessFlags := 128, nameIndex := 13, descriptorIndex := 14, attributes := #[] }, { accessFlags := 2, nameIndex := 50, descriptorIndex := 51, attributes := #[] }])
  fields := #[{ name := "serialVersionUID", type := .long, accessFlags := 26, slot := 0, constantValue := 0 }, { name := "DEFAULT_CAPACITY", type := .int, accessFlags := 26, slot := 1, constantValue := 0 }, { name := "EMPTY_ELEMENTDATA", type := (.array (.object "java/lang/Object")), accessFlags := 26, slot := 2, constantValue := 0 }, { name := "DEFAULTCAPACITY_EMPTY_ELEMENTDATA", type := (.array (.object "java/lang/Object")), accessFlags := 26, slot := 3, constantValue := 0 }, { name := "elementData", type := (.array (.object "java/lang/Object")), accessFlags := 128, slot := 1, constantValue := 0 }, { name := "size", type := .int, accessFlags := 2, slot := 2, constantValue := 0 }]
  methods := #[k15m0, k15m1, k15m2, k15m3, k15m4]
  instanceTypes := #[.int, (.array (.object "java/lang/Object")), .int]
  staticTypes := #[.long, .int, (.array (.object "java/lang/Object")), (.array (.object "java/lang/Object"))]
  resolved := Array.replicate 509 none
  statics := some 1 }

def pool16 : Array CpInfo := pool [(2, .class_ 4), (1, u "java/lang/CharSequence"), (42, .class_ 48), (0, u "java/lang/CharSequence$1CodePointIterator"), (10, .class_ 60), (0, u "java/lang/CharSequence$1CharIterator"), (5, .class_ 67), (0, u "java/lang/Object")] 63

/-- java/lang/CharSequence -/
def k16 : Class := { plain "java/lang/CharSequence" (some 0) with
  accessFlags := 1537
  interfaces := #[]
  cf := some (fileOf pool16 2 #[.nestMembers #[47, 59]] #[] 1537 66 #[] #[])
  fields := #[]
  methods := #[]
  instanceTypes := #[]
  staticTypes := #[]
  resolved := Array.replicate 131 none
  statics := none }

def pool17 : Array CpInfo := pool [(1, .class_ 2), (0, u "java/lang/constant/ConstantDesc"), (0, .class_ 4), (0, u "java/lang/Object")] 32

/-- java/lang/constant/ConstantDesc -/
def k17 : Class := { plain "java/lang/constant/ConstantDesc" (some 0) with
  accessFlags := 1537
  interfaces := #[]
  cf := some (fileOf pool17 1 #[] #[] 1537 3 #[] #[])
  fields := #[]
  methods := #[]
  instanceTypes := #[]
  staticTypes := #[]
  resolved := Array.replicate 37 none
  statics := none }

def pool18 : Array CpInfo := pool [(1, .methodref 2 3), (0, .class_ 4), (0, .nameAndType 5 6), (0, u "java/lang/Object"), (0, u "<init>"), (0, u "()V"), (2, .fieldref 10 11), (0, .class_ 12), (0, .nameAndType 13 14), (0, u "java/lang/String"), (0, u "value"), (0, u "[B"), (0, .fieldref 10 16), (0, .nameAndType 17 18), (0, u "coder"), (0, u "B"), (2, u "hash"), (0, u "I"), (2, u "hashIsZero"), (0, u "Z"), (11, .fieldref 10 39), (0, .nameAndType 40 26), (0, u "COMPACT_STRINGS"), (12, u "toBytes"), (53, .class_ 109), (1, u "java/lang/StringLatin1"), (99, .methodref 10 210), (0, .nameAndType 5 211), (0, u "([BB)V"), (157, u "(C)Z"), (205, .class_ 576), (0, u "java/lang/CharSequence"), (22, u "CASE_INSENSITIVE_ORDER"), (0, u "Ljava/util/Comparator;"), (181, u "valueOf"), (0, u "(C)Ljava/lang/String;"), (231, .methodref 107 1016), (0, .nameAndType 1017 369), (0, u "canEncode"), (0, .methodref 107 1019), (0, .nameAndType 53 1020), (0, u "(C)[B"), (80, u "serialPersistentFields"), (0, u "[Ljava/io/ObjectStreamField;"), (0, .class_ 1104), (0, u "java/lang/String$CaseInsensitiveComparator"), (1, .class_ 1107), (0, u "java/io/Serializable"), (0, .class_ 1109), (0, u "java/lang/Comparable"), (0, .class_ 1111), (0, u "java/lang/constant/Constable"), (0, .class_ 1113), (0, u "java/lang/constant/ConstantDesc"), (2, u "serialVersionUID"), (0, u "J"), (3, u "REPL"), (0, u "C"), (2, u "LATIN1"), (1, u "UTF16")] 323

def k18m0 : Method := { name := "<init>", desc := "()V", sig := { parameters := [], returnType := none }, accessFlags := 1, code := none }
def k18c1 : Code := { maxStack := 4, maxLocals := 1, code := jdk_42_method_139_code, exceptionTable := #[], attributes := #[] }
def k18m1 : Method := { name := "valueOf", desc := "(C)Ljava/lang/String;", sig := { parameters := [.char], returnType := some (.object "java/lang/String") }, accessFlags := 9, code := some k18c1 }
def k18c2 : Code := { maxStack := 2, maxLocals := 3, code := jdk_42_method_151_code, exceptionTable := #[], attributes := #[] }
def k18m2 : Method := { name := "<init>", desc := "([BB)V", sig := { parameters := [(.array .byte), .byte], returnType := none }, accessFlags := 0, code := some k18c2 }
/-- java/lang/String -/
def k18 : Class := { plain "java/lang/String" (some 0) with
  accessFlags := 49
  interfaces := #[4, 3, 16, 2, 17]
  cf := some (fileOf pool18 10 #[.nestMembers #[1103]] #[{ accessFlags := 1, nameIndex := 5, descriptorIndex := 6, attributes := #[] }, { accessFlags := 9, nameIndex := 782, descriptorIndex := 783, attributes := #[] }, { accessFlags := 0, nameIndex := 5, descriptorIndex := 211, attributes := #[] }] 49 2 #[1106, 1108, 575, 1110, 1112] #[{ accessFlags := 18, nameIndex := 13, descriptorIndex := 14, attributes := #[] }, { accessFlags := 18, nameIndex := 17, descriptorIndex := 18, attributes := #[] }, { accessFlags := 2, nameIndex := 21, descriptorIndex := 22, attributes := #[] }, { accessFlags := 2, nameIndex := 25, descriptorIndex := 26, attributes := #[] }, { accessFlags := 26, nameIndex := 1116, descriptorIndex := 1117, attributes := #[] }, { accessFlags := 24, nameIndex := 40, descriptorIndex := 26, attributes := #[] }, { accessFlags := 26, nameIndex := 1101, descriptorIndex := 1102, attributes := #[] }, { accessFlags := 26, nameIndex := 1121, descriptorIndex := 1122, attributes := #[] }, { accessFlags := 25, nameIndex := 599, descriptorIndex := 600, attributes := #[] }, { accessFlags := 24, nameIndex := 1125, descriptorIndex := 18, attributes := #[] }, { accessFlags := 24, nameIndex := 1127, descriptorIndex := 18, attributes := #[] }])
  fields := #[{ name := "value", type := (.array .byte), accessFlags := 18, slot := 0, constantValue := 0 }, { name := "coder", type := .byte, accessFlags := 18, slot := 1, constantValue := 0 }, { name := "hash", type := .int, accessFlags := 2, slot := 2, constantValue := 0 }, { name := "hashIsZero", type := .boolean, accessFlags := 2, slot := 3, constantValue := 0 }, { name := "serialVersionUID", type := .long, accessFlags := 26, slot := 0, constantValue := 0 }, { name := "COMPACT_STRINGS", type := .boolean, accessFlags := 24, slot := 1, constantValue := 0 }, { name := "serialPersistentFields", type := (.array (.object "java/io/ObjectStreamField")), accessFlags := 26, slot := 2, constantValue := 0 }, { name := "REPL", type := .char, accessFlags := 26, slot := 3, constantValue := 0 }, { name := "CASE_INSENSITIVE_ORDER", type := (.object "java/util/Comparator"), accessFlags := 25, slot := 4, constantValue := 0 }, { name := "LATIN1", type := .byte, accessFlags := 24, slot := 5, constantValue := 0 }, { name := "UTF16", type := .byte, accessFlags := 24, slot := 6, constantValue := 0 }]
  methods := #[k18m0, k18m1, k18m2]
  instanceTypes := #[(.array .byte), .byte, .int, .boolean]
  staticTypes := #[.long, .boolean, (.array (.object "java/io/ObjectStreamField")), .char, (.object "java/util/Comparator"), .byte, .byte]
  resolved := Array.replicate 1451 none
  statics := some 2 }

def pool19 : Array CpInfo := pool [(4, .class_ 6), (1, u "java/lang/Object"), (0, u "<init>"), (0, u "()V"), (5, .class_ 16), (1, u "java/lang/StringLatin1"), (73, u "canEncode"), (14, u "(C)Z"), (15, u "$assertionsDisabled"), (0, u "Z"), (98, .class_ 223), (1, u "java/lang/StringLatin1$LinesSpliterator"), (156, u "toBytes"), (1, u "(C)[B"), (7, .class_ 391), (0, u "java/lang/StringLatin1$CharsSpliterator")] 3

def k19m0 : Method := { name := "<init>", desc := "()V", sig := { parameters := [], returnType := none }, accessFlags := 0, code := none }
def k19c1 : Code := { maxStack := 2, maxLocals := 1, code := jdk_43_method_3_code, exceptionTable := #[], attributes := #[] }
def k19m1 : Method := { name := "canEncode", desc := "(C)Z", sig := { parameters := [.char], returnType := some .boolean }, accessFlags := 9, code := some k19c1 }
def k19c2 : Code := { maxStack := 4, maxLocals := 1, code := jdk_43_method_46_code, exceptionTable := #[], attributes := #[] }
def k19m2 : Method := { name := "toBytes", desc := "(C)[B", sig := { parameters := [.char], returnType := some (.array .byte) }, accessFlags := 9, code := some k19c2 }
/-- java/lang/StringLatin1 -/
def k19 : Class := { plain "java/lang/StringLatin1" (some 0) with
  accessFlags := 48
  interfaces := #[]
  cf := some (fileOf pool19 14 #[.nestMembers #[390, 221]] #[{ accessFlags := 0, nameIndex := 7, descriptorIndex := 8, attributes := #[] }, { accessFlags := 9, nameIndex := 90, descriptorIndex := 105, attributes := #[] }, { accessFlags := 9, nameIndex := 380, descriptorIndex := 382, attributes := #[] }] 48 4 #[] #[{ accessFlags := 4120, nameIndex := 121, descriptorIndex := 122, attributes := #[] }])
  fields := #[{ name := "$assertionsDisabled", type := .boolean, accessFlags := 4120, slot := 0, constantValue := 0 }]
  methods := #[k19m0, k19m1, k19m2]
  instanceTypes := #[]
  staticTypes := #[.boolean]
  resolved := Array.replicate 395 none
  statics := none }

def pool20 : Array CpInfo := pool [(1, .class_ 2), (0, u "java/lang/Math"), (1, .class_ 6), (1, u "java/lang/Object"), (0, u "<init>"), (0, u "()V"), (89, .class_ 100), (1, u "java/lang/Math$RandomNumberGeneratorHolder"), (71, u "negativeZeroFloatBits"), (0, u "J"), (2, u "negativeZeroDoubleBits"), (21, u "max"), (46, u "$assertionsDisabled"), (0, u "Z"), (88, u "(II)I"), (2, u "twoToTheDoubleScaleDown"), (0, u "D"), (4, u "twoToTheDoubleScaleUp"), (9, u "E"), (3, u "PI"), (2, u "TAU"), (2, u "DEGREES_TO_RADIANS"), (0, u "RADIANS_TO_DEGREES")] 94

def k20m0 : Method := { name := "<init>", desc := "()V", sig := { parameters := [], returnType := none }, accessFlags := 2, code := none }
def k20c1 : Code := { maxStack := 2, maxLocals := 2, code := jdk_29_method_65_code, exceptionTable := #[], attributes := #[] }
def k20m1 : Method := { name := "max", desc := "(II)I", sig := { parameters := [.int, .int], returnType := some .int }, accessFlags := 9, code := some k20c1 }
/-- java/lang/Math -/
def k20 : Class := { plain "java/lang/Math" (some 0) with
  accessFlags := 49
  interfaces := #[]
  cf := some (fileOf pool20 1 #[.nestMembers #[98]] #[{ accessFlags := 2, nameIndex := 7, descriptorIndex := 8, attributes := #[] }, { accessFlags := 9, nameIndex := 198, descriptorIndex := 335, attributes := #[] }] 49 4 #[] #[{ accessFlags := 25, nameIndex := 354, descriptorIndex := 339, attributes := #[] }, { accessFlags := 25, nameIndex := 358, descriptorIndex := 339, attributes := #[] }, { accessFlags := 25, nameIndex := 361, descriptorIndex := 339, attributes := #[] }, { accessFlags := 26, nameIndex := 364, descriptorIndex := 339, attributes := #[] }, { accessFlags := 26, nameIndex := 365, descriptorIndex := 339, attributes := #[] }, { accessFlags := 26, nameIndex := 172, descriptorIndex := 173, attributes := #[] }, { accessFlags := 26, nameIndex := 176, descriptorIndex := 173, attributes := #[] }, { accessFlags := 8, nameIndex := 344, descriptorIndex := 339, attributes := #[] }, { accessFlags := 8, nameIndex := 338, descriptorIndex := 339, attributes := #[] }, { accessFlags := 4120, nameIndex := 245, descriptorIndex := 246, attributes := #[] }])
  fields := #[{ name := "E", type := .double, accessFlags := 25, slot := 0, constantValue := 0 }, { name := "PI", type := .double, accessFlags := 25, slot := 1, constantValue := 0 }, { name := "TAU", type := .double, accessFlags := 25, slot := 2, constantValue := 0 }, { name := "DEGREES_TO_RADIANS", type := .double, accessFlags := 26, slot := 3, constantValue := 0 }, { name := "RADIANS_TO_DEGREES", type := .double, accessFlags := 26, slot := 4, constantValue := 0 }, { name := "negativeZeroFloatBits", type := .long, accessFlags := 26, slot := 5, constantValue := 0 }, { name := "negativeZeroDoubleBits", type := .long, accessFlags := 26, slot := 6, constantValue := 0 }, { name := "twoToTheDoubleScaleUp", type := .double, accessFlags := 8, slot := 7, constantValue := 0 }, { name := "twoToTheDoubleScaleDown", type := .double, accessFlags := 8, slot := 8, constantValue := 0 }, { name := "$assertionsDisabled", type := .boolean, accessFlags := 4120, slot := 9, constantValue := 0 }]
  methods := #[k20m0, k20m1]
  instanceTypes := #[]
  staticTypes := #[.double, .double, .double, .double, .double, .long, .long, .double, .double, .boolean]
  resolved := Array.replicate 460 none
  statics := none }

def pool21 : Array CpInfo := pool [(1, .methodref 2 3), (0, .class_ 4), (0, .nameAndType 5 6), (0, u "java/lang/Object"), (0, u "<init>"), (0, u "()V"), (0, .class_ 8), (0, u "java/lang/Record")] 13

def k21c0 : Code := { maxStack := 1, maxLocals := 1, code := jdk_30_method_1_code, exceptionTable := #[], attributes := #[] }
def k21m0 : Method := { name := "<init>", desc := "()V", sig := { parameters := [], returnType := none }, accessFlags := 4, code := some k21c0 }
/-- java/lang/Record -/
def k21 : Class := { plain "java/lang/Record" (some 0) with
  accessFlags := 1057
  interfaces := #[]
  cf := some (fileOf pool21 7 #[] #[{ accessFlags := 4, nameIndex := 5, descriptorIndex := 6, attributes := #[] }] 1057 2 #[] #[])
  fields := #[]
  methods := #[k21m0]
  instanceTypes := #[]
  staticTypes := #[]
  resolved := Array.replicate 22 none
  statics := none }

def pool22 : Array CpInfo := pool [(1, .methodref 2 3), (0, .class_ 4), (0, .nameAndType 5 6), (0, u "java/lang/Record"), (0, u "<init>"), (0, u "()V"), (0, .fieldref 8 9), (0, .class_ 10), (0, .nameAndType 11 12), (0, u "com/example/latchkey/latchkey/ScaffoldOffer$Kind"), (0, u "key"), (0, u "Ljava/lang/String;"), (0, .fieldref 8 14), (0, .nameAndType 15 12), (0, u "label"), (0, .fieldref 8 17), (0, .nameAndType 18 19), (0, u "entries"), (0, u "Ljava/util/List;"), (0, .fieldref 8 21), (0, .nameAndType 22 19), (0, u "taken"), (0, .interfaceMethodref 24 25), (0, .class_ 26), (0, .nameAndType 27 28), (0, u "java/util/List"), (0, u "of"), (0, u "()Ljava/util/List;"), (0, .methodref 8 30), (0, .nameAndType 5 31), (0, u "(Ljava/lang/String;Ljava/lang/String;Ljava/util/List;Ljava/util/List;)V"), (14, u "(Ljava/lang/String;Ljava/lang/String;Ljava/util/List;)V"), (12, .class_ 60), (0, u "com/example/latchkey/latchkey/ScaffoldOffer")] 22

def k22c0 : Code := { maxStack := 5, maxLocals := 4, code := prog_62_method_1_code, exceptionTable := #[], attributes := #[] }
def k22m0 : Method := { name := "<init>", desc := "(Ljava/lang/String;Ljava/lang/String;Ljava/util/List;)V", sig := { parameters := [(.object "java/lang/String"), (.object "java/lang/String"), (.object "java/util/List")], returnType := none }, accessFlags := 0, code := some k22c0 }
def k22c1 : Code := { maxStack := 2, maxLocals := 5, code := prog_62_method_2_code, exceptionTable := #[], attributes := #[] }
def k22m1 : Method := { name := "<init>", desc := "(Ljava/lang/String;Ljava/lang/String;Ljava/util/List;Ljava/util/List;)V", sig := { parameters := [(.object "java/lang/String"), (.object "java/lang/String"), (.object "java/util/List"), (.object "java/util/List")], returnType := none }, accessFlags := 0, code := some k22c1 }
/-- com/example/latchkey/latchkey/ScaffoldOffer$Kind -/
def k22 : Class := { plain "com/example/latchkey/latchkey/ScaffoldOffer$Kind" (some 21) with
  accessFlags := 48
  interfaces := #[]
  cf := some (fileOf pool22 8 #[.nestHost 59] #[{ accessFlags := 0, nameIndex := 5, descriptorIndex := 46, attributes := #[] }, { accessFlags := 0, nameIndex := 5, descriptorIndex := 31, attributes := #[] }] 48 2 #[] #[{ accessFlags := 18, nameIndex := 11, descriptorIndex := 12, attributes := #[] }, { accessFlags := 18, nameIndex := 15, descriptorIndex := 12, attributes := #[] }, { accessFlags := 18, nameIndex := 18, descriptorIndex := 19, attributes := #[] }, { accessFlags := 18, nameIndex := 22, descriptorIndex := 19, attributes := #[] }])
  fields := #[{ name := "key", type := (.object "java/lang/String"), accessFlags := 18, slot := 0, constantValue := 0 }, { name := "label", type := (.object "java/lang/String"), accessFlags := 18, slot := 1, constantValue := 0 }, { name := "entries", type := (.object "java/util/List"), accessFlags := 18, slot := 2, constantValue := 0 }, { name := "taken", type := (.object "java/util/List"), accessFlags := 18, slot := 3, constantValue := 0 }]
  methods := #[k22m0, k22m1]
  instanceTypes := #[(.object "java/lang/String"), (.object "java/lang/String"), (.object "java/util/List"), (.object "java/util/List")]
  staticTypes := #[]
  resolved := Array.replicate 83 none
  statics := none }

def pool23 : Array CpInfo := pool [(2, .class_ 4), (1, u "java/lang/Object"), (0, u "<init>"), (0, u "()V"), (3, .class_ 11), (0, u "java/util/ImmutableCollections$List12"), (0, .class_ 13), (0, u "java/util/ImmutableCollections$ListN"), (3, u "Z"), (29, .class_ 49), (1, u "java/util/ImmutableCollections"), (0, u "$assertionsDisabled"), (5, u "[Ljava/lang/Object;"), (5, u "EMPTY_LIST"), (0, u "Ljava/util/ImmutableCollections$ListN;"), (8, u "EMPTY_LIST_NULLS"), (22, u "SALT32L"), (0, u "J"), (2, u "REVERSE"), (6, u "archivedObjects"), (2, u "EMPTY"), (0, u "Ljava/lang/Object;"), (0, .class_ 112), (0, u "java/util/ImmutableCollections$SetN"), (5, u "EMPTY_SET"), (0, u "Ljava/util/ImmutableCollections$SetN;"), (0, .class_ 121), (0, u "java/util/ImmutableCollections$MapN"), (3, u "EMPTY_MAP"), (0, u "Ljava/util/ImmutableCollections$MapN;"), (4, u "EXPAND_FACTOR"), (0, u "I"), (36, .class_ 170), (0, u "java/util/ImmutableCollections$MapN$MapNIterator"), (0, .class_ 172), (0, u "java/util/ImmutableCollections$MapN$1"), (0, .class_ 174), (0, u "java/util/ImmutableCollections$Map1"), (0, .class_ 176), (0, u "java/util/ImmutableCollections$AbstractImmutableMap"), (0, .class_ 178), (0, u "java/util/ImmutableCollections$SetN$SetNIterator"), (0, .class_ 180), (0, u "java/util/ImmutableCollections$Set12"), (0, .class_ 182), (0, u "java/util/ImmutableCollections$Set12$1"), (0, .class_ 184), (0, u "java/util/ImmutableCollections$AbstractImmutableSet"), (0, .class_ 186), (0, u "java/util/ImmutableCollections$SubList"), (0, .class_ 188), (0, u "java/util/ImmutableCollections$ListItr"), (0, .class_ 190), (0, u "java/util/ImmutableCollections$AbstractImmutableList"), (0, .class_ 192), (0, u "java/util/ImmutableCollections$AbstractImmutableCollection"), (0, .class_ 194), (0, u "java/util/ImmutableCollections$Access"), (0, .class_ 196), (0, u "java/util/ImmutableCollections$Access$1")] 16

def k23m0 : Method := { name := "<init>", desc := "()V", sig := { parameters := [], returnType := none }, accessFlags := 2, code := none }
/-- java/util/ImmutableCollections -/
def k23 : Class := { plain "java/util/ImmutableCollections" (some 0) with
  accessFlags := 32
  interfaces := #[]
  cf := some (fileOf pool23 47 #[.nestMembers #[120, 169, 171, 173, 175, 111, 177, 179, 181, 183, 12, 10, 185, 187, 189, 191, 193, 195]] #[{ accessFlags := 2, nameIndex := 5, descriptorIndex := 6, attributes := #[] }] 32 2 #[] #[{ accessFlags := 26, nameIndex := 95, descriptorIndex := 96, attributes := #[] }, { accessFlags := 26, nameIndex := 99, descriptorIndex := 17, attributes := #[] }, { accessFlags := 10, nameIndex := 106, descriptorIndex := 56, attributes := #[] }, { accessFlags := 26, nameIndex := 109, descriptorIndex := 110, attributes := #[] }, { accessFlags := 24, nameIndex := 62, descriptorIndex := 63, attributes := #[] }, { accessFlags := 24, nameIndex := 72, descriptorIndex := 63, attributes := #[] }, { accessFlags := 24, nameIndex := 118, descriptorIndex := 119, attributes := #[] }, { accessFlags := 24, nameIndex := 125, descriptorIndex := 126, attributes := #[] }, { accessFlags := 24, nameIndex := 131, descriptorIndex := 132, attributes := #[] }, { accessFlags := 4120, nameIndex := 50, descriptorIndex := 17, attributes := #[] }])
  fields := #[{ name := "SALT32L", type := .long, accessFlags := 26, slot := 0, constantValue := 0 }, { name := "REVERSE", type := .boolean, accessFlags := 26, slot := 1, constantValue := 0 }, { name := "archivedObjects", type := (.array (.object "java/lang/Object")), accessFlags := 10, slot := 2, constantValue := 0 }, { name := "EMPTY", type := (.object "java/lang/Object"), accessFlags := 26, slot := 3, constantValue := 0 }, { name := "EMPTY_LIST", type := (.object "java/util/ImmutableCollections$ListN"), accessFlags := 24, slot := 4, constantValue := 0 }, { name := "EMPTY_LIST_NULLS", type := (.object "java/util/ImmutableCollections$ListN"), accessFlags := 24, slot := 5, constantValue := 0 }, { name := "EMPTY_SET", type := (.object "java/util/ImmutableCollections$SetN"), accessFlags := 24, slot := 6, constantValue := 0 }, { name := "EMPTY_MAP", type := (.object "java/util/ImmutableCollections$MapN"), accessFlags := 24, slot := 7, constantValue := 0 }, { name := "EXPAND_FACTOR", type := .int, accessFlags := 24, slot := 8, constantValue := 0 }, { name := "$assertionsDisabled", type := .boolean, accessFlags := 4120, slot := 9, constantValue := 0 }]
  methods := #[k23m0]
  instanceTypes := #[]
  staticTypes := #[.long, .boolean, (.array (.object "java/lang/Object")), (.object "java/lang/Object"), (.object "java/util/ImmutableCollections$ListN"), (.object "java/util/ImmutableCollections$ListN"), (.object "java/util/ImmutableCollections$SetN"), (.object "java/util/ImmutableCollections$MapN"), .int, .boolean]
  resolved := Array.replicate 213 none
  statics := some 3 }

def pool24 : Array CpInfo := pool [(1, .methodref 2 3), (0, .class_ 4), (0, .nameAndType 5 6), (0, u "java/lang/Record"), (0, u "<init>"), (0, u "()V"), (0, .fieldref 8 9), (0, .class_ 10), (0, .nameAndType 11 12), (0, u "com/example/latchkey/latchkey/ScaffoldOffer"), (0, u "status"), (0, u "Lcom/example/latchkey/latchkey/ScaffoldOffer$Status;"), (0, .fieldref 8 14), (0, .nameAndType 15 16), (0, u "offeredBy"), (0, u "Ljava/util/Optional;"), (0, .fieldref 8 18), (0, .nameAndType 19 16), (0, u "offeredAt"), (0, .fieldref 8 21), (0, .nameAndType 22 16), (0, u "answeredAt"), (0, .fieldref 8 24), (0, .nameAndType 25 26), (0, u "kinds"), (0, u "Ljava/util/List;"), (1, .class_ 30), (1, u "com/example/latchkey/latchkey/ScaffoldOffer$Status"), (0, u "NONE"), (0, .fieldref 28 33), (0, .nameAndType 34 12), (0, u "OFFERED"), (14, u "()Z"), (4, .class_ 55), (0, u "com/example/latchkey/latchkey/ScaffoldOffer$Kind"), (44, u "NUMBER"), (0, u "Ljava/util/regex/Pattern;"), (62, u "()Ljava/util/Optional;"), (2, u "(Lcom/example/latchkey/latchkey/ScaffoldOffer$Status;Ljava/util/Optional;Ljava/util/Optional;Ljava/util/Optional;Ljava/util/List;)V"), (2, u "Lcom/example/latchkey/latchkey/ScaffoldOffer;"), (16, u "waits")] 48

def k24c0 : Code := { maxStack := 2, maxLocals := 6, code := prog_61_method_1_code, exceptionTable := #[], attributes := #[] }
def k24m0 : Method := { name := "<init>", desc := "(Lcom/example/latchkey/latchkey/ScaffoldOffer$Status;Ljava/util/Optional;Ljava/util/Optional;Ljava/util/Optional;Ljava/util/List;)V", sig := { parameters := [(.object "com/example/latchkey/latchkey/ScaffoldOffer$Status"), (.object "java/util/Optional"), (.object "java/util/Optional"), (.object "java/util/Optional"), (.object "java/util/List")], returnType := none }, accessFlags := 0, code := some k24c0 }
def k24c1 : Code := { maxStack := 2, maxLocals := 1, code := prog_61_method_3_code, exceptionTable := #[], attributes := #[] }
def k24m1 : Method := { name := "waits", desc := "()Z", sig := { parameters := [], returnType := some .boolean }, accessFlags := 0, code := some k24c1 }
def k24c2 : Code := { maxStack := 1, maxLocals := 1, code := prog_61_method_9_code, exceptionTable := #[], attributes := #[] }
def k24m2 : Method := { name := "offeredBy", desc := "()Ljava/util/Optional;", sig := { parameters := [], returnType := some (.object "java/util/Optional") }, accessFlags := 1, code := some k24c2 }
def k24c3 : Code := { maxStack := 1, maxLocals := 1, code := prog_61_method_10_code, exceptionTable := #[], attributes := #[] }
def k24m3 : Method := { name := "offeredAt", desc := "()Ljava/util/Optional;", sig := { parameters := [], returnType := some (.object "java/util/Optional") }, accessFlags := 1, code := some k24c3 }
def k24c4 : Code := { maxStack := 1, maxLocals := 1, code := prog_61_method_11_code, exceptionTable := #[], attributes := #[] }
def k24m4 : Method := { name := "answeredAt", desc := "()Ljava/util/Optional;", sig := { parameters := [], returnType := some (.object "java/util/Optional") }, accessFlags := 1, code := some k24c4 }
/-- com/example/latchkey/latchkey/ScaffoldOffer -/
def k24 : Class := { plain "com/example/latchkey/latchkey/ScaffoldOffer" (some 21) with
  accessFlags := 48
  interfaces := #[]
  cf := some (fileOf pool24 8 #[.nestMembers #[28, 54]] #[{ accessFlags := 0, nameIndex := 5, descriptorIndex := 167, attributes := #[] }, { accessFlags := 0, nameIndex := 187, descriptorIndex := 49, attributes := #[] }, { accessFlags := 1, nameIndex := 15, descriptorIndex := 164, attributes := #[] }, { accessFlags := 1, nameIndex := 19, descriptorIndex := 164, attributes := #[] }, { accessFlags := 1, nameIndex := 22, descriptorIndex := 164, attributes := #[] }] 48 2 #[] #[{ accessFlags := 18, nameIndex := 11, descriptorIndex := 12, attributes := #[] }, { accessFlags := 18, nameIndex := 15, descriptorIndex := 16, attributes := #[] }, { accessFlags := 18, nameIndex := 19, descriptorIndex := 16, attributes := #[] }, { accessFlags := 18, nameIndex := 22, descriptorIndex := 16, attributes := #[] }, { accessFlags := 18, nameIndex := 25, descriptorIndex := 26, attributes := #[] }, { accessFlags := 24, nameIndex := 31, descriptorIndex := 170, attributes := #[] }, { accessFlags := 26, nameIndex := 100, descriptorIndex := 101, attributes := #[] }])
  fields := #[{ name := "status", type := (.object "com/example/latchkey/latchkey/ScaffoldOffer$Status"), accessFlags := 18, slot := 0, constantValue := 0 }, { name := "offeredBy", type := (.object "java/util/Optional"), accessFlags := 18, slot := 1, constantValue := 0 }, { name := "offeredAt", type := (.object "java/util/Optional"), accessFlags := 18, slot := 2, constantValue := 0 }, { name := "answeredAt", type := (.object "java/util/Optional"), accessFlags := 18, slot := 3, constantValue := 0 }, { name := "kinds", type := (.object "java/util/List"), accessFlags := 18, slot := 4, constantValue := 0 }, { name := "NONE", type := (.object "com/example/latchkey/latchkey/ScaffoldOffer"), accessFlags := 24, slot := 0, constantValue := 0 }, { name := "NUMBER", type := (.object "java/util/regex/Pattern"), accessFlags := 26, slot := 1, constantValue := 0 }]
  methods := #[k24m0, k24m1, k24m2, k24m3, k24m4]
  instanceTypes := #[(.object "com/example/latchkey/latchkey/ScaffoldOffer$Status"), (.object "java/util/Optional"), (.object "java/util/Optional"), (.object "java/util/Optional"), (.object "java/util/List")]
  staticTypes := #[(.object "com/example/latchkey/latchkey/ScaffoldOffer"), (.object "java/util/regex/Pattern")]
  resolved := Array.replicate 236 none
  statics := some 4 }

def pool25 : Array CpInfo := pool [(2, .class_ 4), (1, u "java/lang/Object"), (0, u "<init>"), (0, u "()V"), (17, .class_ 26), (1, u "jdk/internal/util/Preconditions"), (28, .class_ 56), (0, u "jdk/internal/util/Preconditions$4"), (57, .class_ 115), (0, u "jdk/internal/util/Preconditions$1"), (7, u "SIOOBE_FORMATTER"), (0, u "Ljava/util/function/BiFunction;"), (0, .class_ 126), (0, u "jdk/internal/util/Preconditions$2"), (3, u "AIOOBE_FORMATTER"), (0, .class_ 132), (0, u "jdk/internal/util/Preconditions$3"), (3, u "IOOBE_FORMATTER")] 57

def k25m0 : Method := { name := "<init>", desc := "()V", sig := { parameters := [], returnType := none }, accessFlags := 1, code := none }
/-- jdk/internal/util/Preconditions -/
def k25 : Class := { plain "jdk/internal/util/Preconditions" (some 0) with
  accessFlags := 33
  interfaces := #[]
  cf := some (fileOf pool25 24 #[.nestMembers #[55, 131, 125, 114]] #[{ accessFlags := 1, nameIndex := 5, descriptorIndex := 6, attributes := #[] }] 33 2 #[] #[{ accessFlags := 25, nameIndex := 123, descriptorIndex := 124, attributes := #[] }, { accessFlags := 25, nameIndex := 130, descriptorIndex := 124, attributes := #[] }, { accessFlags := 25, nameIndex := 136, descriptorIndex := 124, attributes := #[] }])
  fields := #[{ name := "SIOOBE_FORMATTER", type := (.object "java/util/function/BiFunction"), accessFlags := 25, slot := 0, constantValue := 0 }, { name := "AIOOBE_FORMATTER", type := (.object "java/util/function/BiFunction"), accessFlags := 25, slot := 1, constantValue := 0 }, { name := "IOOBE_FORMATTER", type := (.object "java/util/function/BiFunction"), accessFlags := 25, slot := 2, constantValue := 0 }]
  methods := #[k25m0]
  instanceTypes := #[]
  staticTypes := #[(.object "java/util/function/BiFunction"), (.object "java/util/function/BiFunction"), (.object "java/util/function/BiFunction")]
  resolved := Array.replicate 194 none
  statics := some 5 }

def pool26 : Array CpInfo := pool [(9, u "<init>"), (6, .class_ 18), (1, u "java/lang/Object"), (0, u "()V"), (1, .class_ 23), (1, u "jdk/internal/util/ArraysSupport"), (0, u "LOG2_ARRAY_LONG_INDEX_SCALE"), (0, u "I"), (2, u "U"), (0, u "Ljdk/internal/misc/Unsafe;"), (8, u "BIG_ENDIAN"), (0, u "Z"), (8, u "LOG2_BYTE_BIT_SIZE"), (4, u "LOG2_ARRAY_INT_INDEX_SCALE"), (54, u "JLA"), (0, u "Ljdk/internal/access/JavaLangAccess;"), (11, u "LOG2_ARRAY_BOOLEAN_INDEX_SCALE"), (9, u "LOG2_ARRAY_BYTE_INDEX_SCALE"), (5, u "LOG2_ARRAY_CHAR_INDEX_SCALE"), (5, u "LOG2_ARRAY_SHORT_INDEX_SCALE"), (18, u "LOG2_ARRAY_FLOAT_INDEX_SCALE"), (24, u "LOG2_ARRAY_DOUBLE_INDEX_SCALE"), (89, u "T_BOOLEAN"), (2, u "T_CHAR"), (1, u "T_FLOAT"), (1, u "T_DOUBLE"), (1, u "T_BYTE"), (1, u "T_SHORT"), (1, u "T_INT"), (1, u "T_LONG"), (1, u "SOFT_MAX_ARRAY_LENGTH")] 83

def k26m0 : Method := { name := "<init>", desc := "()V", sig := { parameters := [], returnType := none }, accessFlags := 2, code := none }
/-- jdk/internal/util/ArraysSupport -/
def k26 : Class := { plain "jdk/internal/util/ArraysSupport" (some 0) with
  accessFlags := 33
  interfaces := #[]
  cf := some (fileOf pool26 21 #[] #[{ accessFlags := 2, nameIndex := 9, descriptorIndex := 19, attributes := #[] }] 33 16 #[] #[{ accessFlags := 24, nameIndex := 28, descriptorIndex := 29, attributes := #[] }, { accessFlags := 26, nameIndex := 38, descriptorIndex := 39, attributes := #[] }, { accessFlags := 25, nameIndex := 121, descriptorIndex := 25, attributes := #[] }, { accessFlags := 25, nameIndex := 131, descriptorIndex := 25, attributes := #[] }, { accessFlags := 25, nameIndex := 137, descriptorIndex := 25, attributes := #[] }, { accessFlags := 25, nameIndex := 143, descriptorIndex := 25, attributes := #[] }, { accessFlags := 25, nameIndex := 53, descriptorIndex := 25, attributes := #[] }, { accessFlags := 25, nameIndex := 24, descriptorIndex := 25, attributes := #[] }, { accessFlags := 25, nameIndex := 162, descriptorIndex := 25, attributes := #[] }, { accessFlags := 25, nameIndex := 187, descriptorIndex := 25, attributes := #[] }, { accessFlags := 26, nameIndex := 48, descriptorIndex := 25, attributes := #[] }, { accessFlags := 25, nameIndex := 277, descriptorIndex := 25, attributes := #[] }, { accessFlags := 25, nameIndex := 280, descriptorIndex := 25, attributes := #[] }, { accessFlags := 25, nameIndex := 282, descriptorIndex := 25, attributes := #[] }, { accessFlags := 25, nameIndex := 284, descriptorIndex := 25, attributes := #[] }, { accessFlags := 25, nameIndex := 286, descriptorIndex := 25, attributes := #[] }, { accessFlags := 25, nameIndex := 288, descriptorIndex := 25, attributes := #[] }, { accessFlags := 25, nameIndex := 290, descriptorIndex := 25, attributes := #[] }, { accessFlags := 25, nameIndex := 292, descriptorIndex := 25, attributes := #[] }, { accessFlags := 26, nameIndex := 108, descriptorIndex := 109, attributes := #[] }, { accessFlags := 25, nameIndex := 294, descriptorIndex := 25, attributes := #[] }])
  fields := #[{ name := "U", type := (.object "jdk/internal/misc/Unsafe"), accessFlags := 24, slot := 0, constantValue := 0 }, { name := "BIG_ENDIAN", type := .boolean, accessFlags := 26, slot := 1, constantValue := 0 }, { name := "LOG2_ARRAY_BOOLEAN_INDEX_SCALE", type := .int, accessFlags := 25, slot := 2, constantValue := 0 }, { name := "LOG2_ARRAY_BYTE_INDEX_SCALE", type := .int, accessFlags := 25, slot := 3, constantValue := 0 }, { name := "LOG2_ARRAY_CHAR_INDEX_SCALE", type := .int, accessFlags := 25, slot := 4, constantValue := 0 }, { name := "LOG2_ARRAY_SHORT_INDEX_SCALE", type := .int, accessFlags := 25, slot := 5, constantValue := 0 }, { name := "LOG2_ARRAY_INT_INDEX_SCALE", type := .int, accessFlags := 25, slot := 6, constantValue := 0 }, { name := "LOG2_ARRAY_LONG_INDEX_SCALE", type := .int, accessFlags := 25, slot := 7, constantValue := 0 }, { name := "LOG2_ARRAY_FLOAT_INDEX_SCALE", type := .int, accessFlags := 25, slot := 8, constantValue := 0 }, { name := "LOG2_ARRAY_DOUBLE_INDEX_SCALE", type := .int, accessFlags := 25, slot := 9, constantValue := 0 }, { name := "LOG2_BYTE_BIT_SIZE", type := .int, accessFlags := 26, slot := 10, constantValue := 0 }, { name := "T_BOOLEAN", type := .int, accessFlags := 25, slot := 11, constantValue := 0 }, { name := "T_CHAR", type := .int, accessFlags := 25, slot := 12, constantValue := 0 }, { name := "T_FLOAT", type := .int, accessFlags := 25, slot := 13, constantValue := 0 }, { name := "T_DOUBLE", type := .int, accessFlags := 25, slot := 14, constantValue := 0 }, { name := "T_BYTE", type := .int, accessFlags := 25, slot := 15, constantValue := 0 }, { name := "T_SHORT", type := .int, accessFlags := 25, slot := 16, constantValue := 0 }, { name := "T_INT", type := .int, accessFlags := 25, slot := 17, constantValue := 0 }, { name := "T_LONG", type := .int, accessFlags := 25, slot := 18, constantValue := 0 }, { name := "JLA", type := (.object "jdk/internal/access/JavaLangAccess"), accessFlags := 26, slot := 19, constantValue := 0 }, { name := "SOFT_MAX_ARRAY_LENGTH", type := .int, accessFlags := 25, slot := 20, constantValue := 0 }]
  methods := #[k26m0]
  instanceTypes := #[]
  staticTypes := #[(.object "jdk/internal/misc/Unsafe"), .boolean, .int, .int, .int, .int, .int, .int, .int, .int, .int, .int, .int, .int, .int, .int, .int, .int, .int, (.object "jdk/internal/access/JavaLangAccess"), .int]
  resolved := Array.replicate 378 none
  statics := none }

def pool27 : Array CpInfo := pool [(2, .class_ 4), (1, u "java/util/Optional"), (0, u "EMPTY"), (0, u "Ljava/util/Optional;"), (1, .class_ 10), (1, u "java/lang/Object"), (4, u "value"), (0, u "Ljava/lang/Object;")] 170

/-- java/util/Optional -/
def k27 : Class := { plain "java/util/Optional" (some 0) with
  accessFlags := 49
  interfaces := #[]
  cf := some (fileOf pool27 2 #[] #[] 49 8 #[] #[{ accessFlags := 26, nameIndex := 5, descriptorIndex := 6, attributes := #[] }, { accessFlags := 18, nameIndex := 15, descriptorIndex := 16, attributes := #[] }])
  fields := #[{ name := "EMPTY", type := (.object "java/util/Optional"), accessFlags := 26, slot := 0, constantValue := 0 }, { name := "value", type := (.object "java/lang/Object"), accessFlags := 18, slot := 0, constantValue := 0 }]
  methods := #[]
  instanceTypes := #[(.object "java/lang/Object")]
  staticTypes := #[(.object "java/util/Optional")]
  resolved := Array.replicate 187 none
  statics := none }

def pool28 : Array CpInfo := pool [(2, .class_ 4), (1, u "java/util/AbstractCollection"), (0, u "<init>"), (0, u "()V"), (1, .class_ 10), (1, u "java/util/ImmutableCollections"), (2, .class_ 14), (0, u "java/util/ImmutableCollections$AbstractImmutableCollection")] 41

def k28m0 : Method := { name := "<init>", desc := "()V", sig := { parameters := [], returnType := none }, accessFlags := 0, code := none }
/-- java/util/ImmutableCollections$AbstractImmutableCollection -/
def k28 : Class := { plain "java/util/ImmutableCollections$AbstractImmutableCollection" (some 9) with
  accessFlags := 1056
  interfaces := #[]
  cf := some (fileOf pool28 13 #[.nestHost 8] #[{ accessFlags := 0, nameIndex := 5, descriptorIndex := 6, attributes := #[] }] 1056 2 #[] #[])
  fields := #[]
  methods := #[k28m0]
  instanceTypes := #[]
  staticTypes := #[]
  resolved := Array.replicate 56 none
  statics := none }

def pool29 : Array CpInfo := pool [(2, .class_ 4), (1, u "java/util/ImmutableCollections$AbstractImmutableCollection"), (0, u "<init>"), (0, u "()V"), (1, .class_ 10), (1, u "java/util/ImmutableCollections"), (3, .class_ 16), (1, u "java/util/ImmutableCollections$AbstractImmutableList"), (60, .class_ 78), (0, u "java/util/List"), (45, .class_ 125), (0, u "java/util/RandomAccess")] 70

def k29m0 : Method := { name := "<init>", desc := "()V", sig := { parameters := [], returnType := none }, accessFlags := 0, code := none }
/-- java/util/ImmutableCollections$AbstractImmutableList -/
def k29 : Class := { plain "java/util/ImmutableCollections$AbstractImmutableList" (some 28) with
  accessFlags := 1056
  interfaces := #[11, 13]
  cf := some (fileOf pool29 14 #[.nestHost 8] #[{ accessFlags := 0, nameIndex := 5, descriptorIndex := 6, attributes := #[] }] 1056 2 #[77, 124] #[])
  fields := #[]
  methods := #[k29m0]
  instanceTypes := #[]
  staticTypes := #[]
  resolved := Array.replicate 196 none
  statics := none }

def pool30 : Array CpInfo := pool [(2, .class_ 4), (1, u "java/util/ImmutableCollections$AbstractImmutableList"), (3, .class_ 10), (1, u "java/util/ImmutableCollections$ListN"), (0, u "elements"), (0, u "[Ljava/lang/Object;"), (2, u "allowNulls"), (0, u "Z"), (42, .class_ 60), (0, u "java/io/Serializable"), (53, .class_ 115), (0, u "java/util/ImmutableCollections")] 3

/-- java/util/ImmutableCollections$ListN -/
def k30 : Class := { plain "java/util/ImmutableCollections$ListN" (some 29) with
  accessFlags := 48
  interfaces := #[4]
  cf := some (fileOf pool30 8 #[.nestHost 114] #[] 48 2 #[59] #[{ accessFlags := 18, nameIndex := 11, descriptorIndex := 12, attributes := #[] }, { accessFlags := 18, nameIndex := 15, descriptorIndex := 16, attributes := #[] }])
  fields := #[{ name := "elements", type := (.array (.object "java/lang/Object")), accessFlags := 18, slot := 0, constantValue := 0 }, { name := "allowNulls", type := .boolean, accessFlags := 18, slot := 1, constantValue := 0 }]
  methods := #[]
  instanceTypes := #[(.array (.object "java/lang/Object")), .boolean]
  staticTypes := #[]
  resolved := Array.replicate 119 none
  statics := none }

/-- the primitive byte -/
def k31 : Class := { plain "byte" none with kind := .primitive 'B', accessFlags := 0x411 }
/-- [B -/
def k32 : Class := { plain "[B" (some 0) with kind := .array 31 .byte, interfaces := #[14, 4], accessFlags := 1041 }

/-- the primitive int -/
def k33 : Class := { plain "int" none with kind := .primitive 'I', accessFlags := 0x411 }
/-- [I -/
def k34 : Class := { plain "[I" (some 0) with kind := .array 33 .int, interfaces := #[14, 4], accessFlags := 1041 }

/-- [Ljava/lang/Object; -/
def k35 : Class := { plain "[Ljava/lang/Object;" (some 0) with kind := .array 0 (.object "java/lang/Object"), interfaces := #[14, 4], accessFlags := 1041 }

def heap : Heap := #[{ cls := 6, slots := #[.ref 7, .ref 8, .ref 9, .ref 10, .ref 11, .null], vm := .statics 6 },
  { cls := 15, slots := #[.long 0, .int 0, .ref 15, .ref 16], vm := .statics 15 },
  { cls := 18, slots := #[.long 0, .int 1, .null, .int 0, .null, .int 0, .int 0], vm := .statics 18 },
  { cls := 23, slots := #[.long 0, .int 0, .null, .null, .ref 14, .null, .null, .null, .int 0, .int 0], vm := .statics 23 },
  { cls := 24, slots := #[.ref 13, .null], vm := .statics 24 },
  { cls := 25, slots := #[.null, .null, .null], vm := .statics 25 },
  { cls := 35, slots := #[], vm := .none },
  { cls := 6, slots := #[.null, .int 0, .int 0], vm := .none },
  { cls := 6, slots := #[.null, .int 1, .int 0], vm := .none },
  { cls := 6, slots := #[.null, .int 2, .int 0], vm := .none },
  { cls := 6, slots := #[.null, .int 3, .int 0], vm := .none },
  { cls := 6, slots := #[.null, .int 4, .int 0], vm := .none },
  { cls := 27, slots := #[.null], vm := .none },
  { cls := 24, slots := #[.ref 7, .ref 12, .ref 12, .ref 12, .null], vm := .none },
  { cls := 30, slots := #[.ref 6, .int 0], vm := .none },
  { cls := 35, slots := #[], vm := .none },
  { cls := 35, slots := #[], vm := .none }]
def classes : Array Class := #[k0, k1, k2, k3, k4, k5, k6, k7, k8, k9, k10, k11, k12, k13, k14, k15, k16, k17, k18, k19, k20, k21, k22, k23, k24, k25, k26, k27, k28, k29, k30, k31, k32, k33, k34, k35]
def interned : List (Array UInt16 × Addr) := []
def slotsUsed : Nat := 55
def theMethod : MethodId := ⟨1, 2⟩
def args0 : Array Value := #[.int 5, .int 1, .int 65]
def aboutOver (below : List Frame) : State where
  vm := { classes := classes, interned := interned.toArray }
  heap := heap
  slotsUsed := slotsUsed
  threads := #[{ frames := .invoking theMethod args0 :: below }]
def below0 : List Frame := [.native { method := ⟨0, 0⟩, args := #[] }]
def about1 : State := aboutOver below0
def p0 : Program := .bare "" "" ""
def e0 : Env := launch0.env 0 0 0
theorem w_frames : about1.frames = Frame.invoking theMethod args0 :: below0 := rfl
set_option maxRecDepth 65536 in
theorem w_args : argsFit about1.vm theMethod args0 = true := by decide +kernel
set_option maxRecDepth 65536 in
theorem w_heap : heapFits about1 = true := by decide +kernel
set_option maxRecDepth 65536 in
theorem w_runnable : about1.curStatus? = some .runnable := by decide +kernel
set_option maxRecDepth 65536 in
theorem w_alone : about1.alone = true := by decide +kernel
set_option maxRecDepth 65536 in
theorem w_named : about1.methodNamed? x = some theMethod := by decide +kernel
set_option maxRecDepth 65536 in
theorem w_hears : about1.hears theMethod below0 = true := by decide +kernel
set_option maxRecDepth 65536 in
theorem w_ripe : about1.ripe theMethod args0 below0 = true := by decide +kernel
theorem w_running : about1.status = .running := rfl
set_option maxRecDepth 65536 in
theorem w_room : about1.hasRoom e0.platform room_1 = true :=
  launch0.hasRoom_least _ room_1 (by decide +kernel) (by decide +kernel) (by decide +kernel) (by decide +kernel) (by decide +kernel) (by decide +kernel)
theorem allAtoms_all (ts : List Jvm.Cond) (a : Array Jvm.Value) (st : Jvm.State) : (allAtoms ts).before a st = ts.all (fun c => c.before a st) := by
  induction ts with
  | nil => rfl
  | cons c t ih =>
    show (Jvm.Cond.and c (allAtoms t)).before a st = _
    rw [Jvm.Cond.before_and, ih, List.all_cons]
def words1 : List Jvm.Cond := Jvm.Cond.code x code maxLocals ret :: tables_1
/-- a 'code' word, met by the world's own term for the bytes: nothing is compared byte by byte -/
theorem code_word {y : MethodName} {bytes : ByteArray} {mx : Nat} {rt : Option FieldType} {a : Array Value} {s : State} {m : MethodId} {meth : Method} {c : Code} (h1 : s.methodNamed? y = some m) (h2 : s.vm.method? m = some meth) (h3 : meth.code = some c) (h4 : c.code = bytes)
    (h5 : (c.maxLocals == mx && c.exceptionTable.isEmpty && decide (c.maxStack ≤ mostOperands) && decide (meth.sig.returnType = rt) && !meth.locks && decide (parseMethodDescriptor y.desc = some meth.sig)) = true) : (Jvm.Cond.code y bytes mx rt).before a s = true := by
  simp only [Bool.and_eq_true, beq_iff_eq, Bool.not_eq_true', decide_eq_true_eq] at h5
  obtain ⟨⟨⟨⟨⟨g1, g2⟩, g3⟩, g4⟩, g5⟩, g6⟩ := h5
  simp [Cond.before, Cond.holds, Cond.value, h1, h2, h3, h4, g1, g2, g3, g4, g5, g6]
def isCode : Jvm.Cond → Bool
  | .code _ _ _ _ => true
  | _ => false
theorem all_split {L : List Jvm.Cond} {P : Jvm.Cond → Bool} (h1 : L.all (fun c => isCode c || P c) = true) (h2 : ∀ c ∈ L.filter isCode, P c = true) : L.all P = true := by
  refine List.all_eq_true.mpr fun c hc => ?_
  have h := List.all_eq_true.mp h1 c hc
  rcases Bool.eq_false_or_eq_true (isCode c) with hi | hi
  · exact h2 c (List.mem_filter.mpr ⟨hc, hi⟩)
  · simpa [hi] using h
set_option maxRecDepth 65536 in
theorem w_c0 : (Jvm.Cond.code x code maxLocals ret).before args0 about1 = true := code_word (m := ⟨1, 2⟩) (meth := k1m2) (c := k1c2) (by decide +kernel) rfl rfl rfl (by decide +kernel)
set_option maxRecDepth 65536 in
theorem w_c1 : (Jvm.Cond.code ({ cls := "com/example/latchkey/latchkey/ScaffoldOfferWaitsPinLaw", name := "statusAt", desc := "(I)Lcom/example/latchkey/latchkey/ScaffoldOffer$Status;" } : Jvm.MethodName) method_2_code (1 : Nat) (Option.some (Jvm.ClassFile.FieldType.object "com/example/latchkey/latchkey/ScaffoldOffer$Status"))).before args0 about1 = true := code_word (m := ⟨1, 1⟩) (meth := k1m1) (c := k1c1) (by decide +kernel) rfl rfl rfl (by decide +kernel)
set_option maxRecDepth 65536 in
theorem w_c2 : (Jvm.Cond.code ({ cls := "java/util/ArrayList", name := "<init>", desc := "()V" } : Jvm.MethodName) jdk_38_method_2_code (1 : Nat) (Option.none : Option Jvm.ClassFile.FieldType)).before args0 about1 = true := code_word (m := ⟨15, 0⟩) (meth := k15m0) (c := k15c0) (by decide +kernel) rfl rfl rfl (by decide +kernel)
set_option maxRecDepth 65536 in
theorem w_c3 : (Jvm.Cond.code ({ cls := "java/util/AbstractList", name := "<init>", desc := "()V" } : Jvm.MethodName) jdk_39_method_1_code (1 : Nat) (Option.none : Option Jvm.ClassFile.FieldType)).before args0 about1 = true := code_word (m := ⟨12, 0⟩) (meth := k12m0) (c := k12c0) (by decide +kernel) rfl rfl rfl (by decide +kernel)
set_option maxRecDepth 65536 in
theorem w_c4 : (Jvm.Cond.code ({ cls := "java/util/AbstractCollection", name := "<init>", desc := "()V" } : Jvm.MethodName) jdk_22_method_1_code (1 : Nat) (Option.none : Option Jvm.ClassFile.FieldType)).before args0 about1 = true := code_word (m := ⟨9, 0⟩) (meth := k9m0) (c := k9c0) (by decide +kernel) rfl rfl rfl (by decide +kernel)
set_option maxRecDepth 65536 in
theorem w_c5 : (Jvm.Cond.code ({ cls := "java/lang/Object", name := "<init>", desc := "()V" } : Jvm.MethodName) object_method_1_code (1 : Nat) (Option.none : Option Jvm.ClassFile.FieldType)).before args0 about1 = true := code_word (m := ⟨0, 0⟩) (meth := k0m0) (c := k0c0) (by decide +kernel) rfl rfl rfl (by decide +kernel)
set_option maxRecDepth 65536 in
theorem w_c6 : (Jvm.Cond.code ({ cls := "java/lang/String", name := "valueOf", desc := "(C)Ljava/lang/String;" } : Jvm.MethodName) jdk_42_method_139_code (1 : Nat) (Option.some (Jvm.ClassFile.FieldType.object "java/lang/String"))).before args0 about1 = true := code_word (m := ⟨18, 1⟩) (meth := k18m1) (c := k18c1) (by decide +kernel) rfl rfl rfl (by decide +kernel)
set_option maxRecDepth 65536 in
theorem w_c7 : (Jvm.Cond.code ({ cls := "java/lang/StringLatin1", name := "canEncode", desc := "(C)Z" } : Jvm.MethodName) jdk_43_method_3_code (1 : Nat) (Option.some Jvm.ClassFile.FieldType.boolean)).before args0 about1 = true := code_word (m := ⟨19, 1⟩) (meth := k19m1) (c := k19c1) (by decide +kernel) rfl rfl rfl (by decide +kernel)
set_option maxRecDepth 65536 in
theorem w_c8 : (Jvm.Cond.code ({ cls := "java/lang/StringLatin1", name := "toBytes", desc := "(C)[B" } : Jvm.MethodName) jdk_43_method_46_code (1 : Nat) (Option.some (Jvm.ClassFile.FieldType.array Jvm.ClassFile.FieldType.byte))).before args0 about1 = true := code_word (m := ⟨19, 2⟩) (meth := k19m2) (c := k19c2) (by decide +kernel) rfl rfl rfl (by decide +kernel)
set_option maxRecDepth 65536 in
theorem w_c9 : (Jvm.Cond.code ({ cls := "java/lang/String", name := "<init>", desc := "([BB)V" } : Jvm.MethodName) jdk_42_method_151_code (3 : Nat) (Option.none : Option Jvm.ClassFile.FieldType)).before args0 about1 = true := code_word (m := ⟨18, 2⟩) (meth := k18m2) (c := k18c2) (by decide +kernel) rfl rfl rfl (by decide +kernel)
set_option maxRecDepth 65536 in
theorem w_c10 : (Jvm.Cond.code ({ cls := "java/util/ArrayList", name := "add", desc := "(Ljava/lang/Object;)Z" } : Jvm.MethodName) jdk_38_method_25_code (2 : Nat) (Option.some Jvm.ClassFile.FieldType.boolean)).before args0 about1 = true := code_word (m := ⟨15, 4⟩) (meth := k15m4) (c := k15c4) (by decide +kernel) rfl rfl rfl (by decide +kernel)
set_option maxRecDepth 65536 in
theorem w_c11 : (Jvm.Cond.code ({ cls := "java/util/ArrayList", name := "add", desc := "(Ljava/lang/Object;[Ljava/lang/Object;I)V" } : Jvm.MethodName) jdk_38_method_24_code (4 : Nat) (Option.none : Option Jvm.ClassFile.FieldType)).before args0 about1 = true := code_word (m := ⟨15, 3⟩) (meth := k15m3) (c := k15c3) (by decide +kernel) rfl rfl rfl (by decide +kernel)
set_option maxRecDepth 65536 in
theorem w_c12 : (Jvm.Cond.code ({ cls := "java/util/ArrayList", name := "grow", desc := "()[Ljava/lang/Object;" } : Jvm.MethodName) jdk_38_method_7_code (1 : Nat) (Option.some (Jvm.ClassFile.FieldType.array (Jvm.ClassFile.FieldType.object "java/lang/Object")))).before args0 about1 = true := code_word (m := ⟨15, 2⟩) (meth := k15m2) (c := k15c2) (by decide +kernel) rfl rfl rfl (by decide +kernel)
set_option maxRecDepth 65536 in
theorem w_c13 : (Jvm.Cond.code ({ cls := "java/util/ArrayList", name := "grow", desc := "(I)[Ljava/lang/Object;" } : Jvm.MethodName) jdk_38_method_6_code (4 : Nat) (Option.some (Jvm.ClassFile.FieldType.array (Jvm.ClassFile.FieldType.object "java/lang/Object")))).before args0 about1 = true := code_word (m := ⟨15, 1⟩) (meth := k15m1) (c := k15c1) (by decide +kernel) rfl rfl rfl (by decide +kernel)
set_option maxRecDepth 65536 in
theorem w_c14 : (Jvm.Cond.code ({ cls := "java/lang/Math", name := "max", desc := "(II)I" } : Jvm.MethodName) jdk_29_method_65_code (2 : Nat) (Option.some Jvm.ClassFile.FieldType.int)).before args0 about1 = true := code_word (m := ⟨20, 1⟩) (meth := k20m1) (c := k20c1) (by decide +kernel) rfl rfl rfl (by decide +kernel)
set_option maxRecDepth 65536 in
theorem w_c15 : (Jvm.Cond.code ({ cls := "com/example/latchkey/latchkey/ScaffoldOffer$Kind", name := "<init>", desc := "(Ljava/lang/String;Ljava/lang/String;Ljava/util/List;)V" } : Jvm.MethodName) prog_62_method_1_code (4 : Nat) (Option.none : Option Jvm.ClassFile.FieldType)).before args0 about1 = true := code_word (m := ⟨22, 0⟩) (meth := k22m0) (c := k22c0) (by decide +kernel) rfl rfl rfl (by decide +kernel)
set_option maxRecDepth 65536 in
theorem w_c16 : (Jvm.Cond.code ({ cls := "java/util/List", name := "of", desc := "()Ljava/util/List;" } : Jvm.MethodName) jdk_40_method_36_code (0 : Nat) (Option.some (Jvm.ClassFile.FieldType.object "java/util/List"))).before args0 about1 = true := code_word (m := ⟨11, 1⟩) (meth := k11m1) (c := k11c1) (by decide +kernel) rfl rfl rfl (by decide +kernel)
set_option maxRecDepth 65536 in
theorem w_c17 : (Jvm.Cond.code ({ cls := "com/example/latchkey/latchkey/ScaffoldOffer$Kind", name := "<init>", desc := "(Ljava/lang/String;Ljava/lang/String;Ljava/util/List;Ljava/util/List;)V" } : Jvm.MethodName) prog_62_method_2_code (5 : Nat) (Option.none : Option Jvm.ClassFile.FieldType)).before args0 about1 = true := code_word (m := ⟨22, 1⟩) (meth := k22m1) (c := k22c1) (by decide +kernel) rfl rfl rfl (by decide +kernel)
set_option maxRecDepth 65536 in
theorem w_c18 : (Jvm.Cond.code ({ cls := "java/lang/Record", name := "<init>", desc := "()V" } : Jvm.MethodName) jdk_30_method_1_code (1 : Nat) (Option.none : Option Jvm.ClassFile.FieldType)).before args0 about1 = true := code_word (m := ⟨21, 0⟩) (meth := k21m0) (c := k21c0) (by decide +kernel) rfl rfl rfl (by decide +kernel)
set_option maxRecDepth 65536 in
theorem w_c19 : (Jvm.Cond.code ({ cls := "com/example/latchkey/latchkey/ScaffoldOffer", name := "offeredBy", desc := "()Ljava/util/Optional;" } : Jvm.MethodName) prog_61_method_9_code (1 : Nat) (Option.some (Jvm.ClassFile.FieldType.object "java/util/Optional"))).before args0 about1 = true := code_word (m := ⟨24, 2⟩) (meth := k24m2) (c := k24c2) (by decide +kernel) rfl rfl rfl (by decide +kernel)
set_option maxRecDepth 65536 in
theorem w_c20 : (Jvm.Cond.code ({ cls := "com/example/latchkey/latchkey/ScaffoldOffer", name := "offeredAt", desc := "()Ljava/util/Optional;" } : Jvm.MethodName) prog_61_method_10_code (1 : Nat) (Option.some (Jvm.ClassFile.FieldType.object "java/util/Optional"))).before args0 about1 = true := code_word (m := ⟨24, 3⟩) (meth := k24m3) (c := k24c3) (by decide +kernel) rfl rfl rfl (by decide +kernel)
set_option maxRecDepth 65536 in
theorem w_c21 : (Jvm.Cond.code ({ cls := "com/example/latchkey/latchkey/ScaffoldOffer", name := "answeredAt", desc := "()Ljava/util/Optional;" } : Jvm.MethodName) prog_61_method_11_code (1 : Nat) (Option.some (Jvm.ClassFile.FieldType.object "java/util/Optional"))).before args0 about1 = true := code_word (m := ⟨24, 4⟩) (meth := k24m4) (c := k24c4) (by decide +kernel) rfl rfl rfl (by decide +kernel)
set_option maxRecDepth 65536 in
theorem w_c22 : (Jvm.Cond.code ({ cls := "com/example/latchkey/latchkey/ScaffoldOffer", name := "<init>", desc := "(Lcom/example/latchkey/latchkey/ScaffoldOffer$Status;Ljava/util/Optional;Ljava/util/Optional;Ljava/util/Optional;Ljava/util/List;)V" } : Jvm.MethodName) prog_61_method_1_code (6 : Nat) (Option.none : Option Jvm.ClassFile.FieldType)).before args0 about1 = true := code_word (m := ⟨24, 0⟩) (meth := k24m0) (c := k24c0) (by decide +kernel) rfl rfl rfl (by decide +kernel)
set_option maxRecDepth 65536 in
theorem w_c23 : (Jvm.Cond.code ({ cls := "com/example/latchkey/latchkey/ScaffoldOffer", name := "waits", desc := "()Z" } : Jvm.MethodName) prog_61_method_3_code (1 : Nat) (Option.some Jvm.ClassFile.FieldType.boolean)).before args0 about1 = true := code_word (m := ⟨24, 1⟩) (meth := k24m1) (c := k24c1) (by decide +kernel) rfl rfl rfl (by decide +kernel)
def codes1 : List Jvm.Cond := [Jvm.Cond.code x code maxLocals ret, Jvm.Cond.code ({ cls := "com/example/latchkey/latchkey/ScaffoldOfferWaitsPinLaw", name := "statusAt", desc := "(I)Lcom/example/latchkey/latchkey/ScaffoldOffer$Status;" } : Jvm.MethodName) method_2_code (1 : Nat) (Option.some (Jvm.ClassFile.FieldType.object "com/example/latchkey/latchkey/ScaffoldOffer$Status")), Jvm.Cond.code ({ cls := "java/util/ArrayList", name := "<init>", desc := "()V" } : Jvm.MethodName) jdk_38_method_2_code (1 : Nat) (Option.none : Option Jvm.ClassFile.FieldType), Jvm.Cond.code ({ cls := "java/util/AbstractList", name := "<init>", desc := "()V" } : Jvm.MethodName) jdk_39_method_1_code (1 : Nat) (Option.none : Option Jvm.ClassFile.FieldType), Jvm.Cond.code ({ cls := "java/util/AbstractCollection", name := "<init>", desc := "()V" } : Jvm.MethodName) jdk_22_method_1_code (1 : Nat) (Option.none : Option Jvm.ClassFile.FieldType), Jvm.Cond.code ({ cls := "java/lang/Object", name := "<init>", desc := "()V" } : Jvm.MethodName) object_method_1_code (1 : Nat) (Option.none : Option Jvm.ClassFile.FieldType), Jvm.Cond.code ({ cls := "java/lang/String", name := "valueOf", desc := "(C)Ljava/lang/String;" } : Jvm.MethodName) jdk_42_method_139_code (1 : Nat) (Option.some (Jvm.ClassFile.FieldType.object "java/lang/String")), Jvm.Cond.code ({ cls := "java/lang/StringLatin1", name := "canEncode", desc := "(C)Z" } : Jvm.MethodName) jdk_43_method_3_code (1 : Nat) (Option.some Jvm.ClassFile.FieldType.boolean), Jvm.Cond.code ({ cls := "java/lang/StringLatin1", name := "toBytes", desc := "(C)[B" } : Jvm.MethodName) jdk_43_method_46_code (1 : Nat) (Option.some (Jvm.ClassFile.FieldType.array Jvm.ClassFile.FieldType.byte)), Jvm.Cond.code ({ cls := "java/lang/String", name := "<init>", desc := "([BB)V" } : Jvm.MethodName) jdk_42_method_151_code (3 : Nat) (Option.none : Option Jvm.ClassFile.FieldType), Jvm.Cond.code ({ cls := "java/util/ArrayList", name := "add", desc := "(Ljava/lang/Object;)Z" } : Jvm.MethodName) jdk_38_method_25_code (2 : Nat) (Option.some Jvm.ClassFile.FieldType.boolean), Jvm.Cond.code ({ cls := "java/util/ArrayList", name := "add", desc := "(Ljava/lang/Object;[Ljava/lang/Object;I)V" } : Jvm.MethodName) jdk_38_method_24_code (4 : Nat) (Option.none : Option Jvm.ClassFile.FieldType), Jvm.Cond.code ({ cls := "java/util/ArrayList", name := "grow", desc := "()[Ljava/lang/Object;" } : Jvm.MethodName) jdk_38_method_7_code (1 : Nat) (Option.some (Jvm.ClassFile.FieldType.array (Jvm.ClassFile.FieldType.object "java/lang/Object"))), Jvm.Cond.code ({ cls := "java/util/ArrayList", name := "grow", desc := "(I)[Ljava/lang/Object;" } : Jvm.MethodName) jdk_38_method_6_code (4 : Nat) (Option.some (Jvm.ClassFile.FieldType.array (Jvm.ClassFile.FieldType.object "java/lang/Object"))), Jvm.Cond.code ({ cls := "java/lang/Math", name := "max", desc := "(II)I" } : Jvm.MethodName) jdk_29_method_65_code (2 : Nat) (Option.some Jvm.ClassFile.FieldType.int), Jvm.Cond.code ({ cls := "com/example/latchkey/latchkey/ScaffoldOffer$Kind", name := "<init>", desc := "(Ljava/lang/String;Ljava/lang/String;Ljava/util/List;)V" } : Jvm.MethodName) prog_62_method_1_code (4 : Nat) (Option.none : Option Jvm.ClassFile.FieldType), Jvm.Cond.code ({ cls := "java/util/List", name := "of", desc := "()Ljava/util/List;" } : Jvm.MethodName) jdk_40_method_36_code (0 : Nat) (Option.some (Jvm.ClassFile.FieldType.object "java/util/List")), Jvm.Cond.code ({ cls := "com/example/latchkey/latchkey/ScaffoldOffer$Kind", name := "<init>", desc := "(Ljava/lang/String;Ljava/lang/String;Ljava/util/List;Ljava/util/List;)V" } : Jvm.MethodName) prog_62_method_2_code (5 : Nat) (Option.none : Option Jvm.ClassFile.FieldType), Jvm.Cond.code ({ cls := "java/lang/Record", name := "<init>", desc := "()V" } : Jvm.MethodName) jdk_30_method_1_code (1 : Nat) (Option.none : Option Jvm.ClassFile.FieldType), Jvm.Cond.code ({ cls := "com/example/latchkey/latchkey/ScaffoldOffer", name := "offeredBy", desc := "()Ljava/util/Optional;" } : Jvm.MethodName) prog_61_method_9_code (1 : Nat) (Option.some (Jvm.ClassFile.FieldType.object "java/util/Optional")), Jvm.Cond.code ({ cls := "com/example/latchkey/latchkey/ScaffoldOffer", name := "offeredAt", desc := "()Ljava/util/Optional;" } : Jvm.MethodName) prog_61_method_10_code (1 : Nat) (Option.some (Jvm.ClassFile.FieldType.object "java/util/Optional")), Jvm.Cond.code ({ cls := "com/example/latchkey/latchkey/ScaffoldOffer", name := "answeredAt", desc := "()Ljava/util/Optional;" } : Jvm.MethodName) prog_61_method_11_code (1 : Nat) (Option.some (Jvm.ClassFile.FieldType.object "java/util/Optional")), Jvm.Cond.code ({ cls := "com/example/latchkey/latchkey/ScaffoldOffer", name := "<init>", desc := "(Lcom/example/latchkey/latchkey/ScaffoldOffer$Status;Ljava/util/Optional;Ljava/util/Optional;Ljava/util/Optional;Ljava/util/List;)V" } : Jvm.MethodName) prog_61_method_1_code (6 : Nat) (Option.none : Option Jvm.ClassFile.FieldType), Jvm.Cond.code ({ cls := "com/example/latchkey/latchkey/ScaffoldOffer", name := "waits", desc := "()Z" } : Jvm.MethodName) prog_61_method_3_code (1 : Nat) (Option.some Jvm.ClassFile.FieldType.boolean)]
set_option maxRecDepth 65536 in
theorem codes_eq : words1.filter isCode = codes1 := rfl
theorem w_codes : ∀ c ∈ words1.filter isCode, c.before args0 about1 = true := by
  rw [codes_eq]
  intro c hc
  simp only [codes1, List.mem_cons, List.not_mem_nil, or_false] at hc
  rcases hc with rfl | rfl | rfl | rfl | rfl | rfl | rfl | rfl | rfl | rfl | rfl | rfl | rfl | rfl | rfl | rfl | rfl | rfl | rfl | rfl | rfl | rfl | rfl | rfl
  · exact w_c0
  · exact w_c1
  · exact w_c2
  · exact w_c3
  · exact w_c4
  · exact w_c5
  · exact w_c6
  · exact w_c7
  · exact w_c8
  · exact w_c9
  · exact w_c10
  · exact w_c11
  · exact w_c12
  · exact w_c13
  · exact w_c14
  · exact w_c15
  · exact w_c16
  · exact w_c17
  · exact w_c18
  · exact w_c19
  · exact w_c20
  · exact w_c21
  · exact w_c22
  · exact w_c23
set_option maxRecDepth 65536 in
theorem w_t1 : (words1.take 24).all (fun c => isCode c || c.before args0 about1) = true := by decide +kernel
set_option maxRecDepth 65536 in
theorem w_t2 : ((words1.drop 24).take 24).all (fun c => isCode c || c.before args0 about1) = true := by decide +kernel
set_option maxRecDepth 65536 in
theorem w_t3 : (((words1.drop 24).drop 24).take 24).all (fun c => isCode c || c.before args0 about1) = true := by decide +kernel
set_option maxRecDepth 65536 in
theorem w_t4 : ((((words1.drop 24).drop 24).drop 24).take 24).all (fun c => isCode c || c.before args0 about1) = true := by decide +kernel
set_option maxRecDepth 65536 in
theorem w_t5 : (((((words1.drop 24).drop 24).drop 24).drop 24).take 24).all (fun c => isCode c || c.before args0 about1) = true := by decide +kernel
set_option maxRecDepth 65536 in
theorem w_t6 : ((((((words1.drop 24).drop 24).drop 24).drop 24).drop 24).take 24).all (fun c => isCode c || c.before args0 about1) = true := by decide +kernel
set_option maxRecDepth 65536 in
theorem w_t7 : (((((((words1.drop 24).drop 24).drop 24).drop 24).drop 24).drop 24).take 24).all (fun c => isCode c || c.before args0 about1) = true := by decide +kernel
set_option maxRecDepth 65536 in
theorem w_t8 : (((((((words1.drop 24).drop 24).drop 24).drop 24).drop 24).drop 24).drop 24).all (fun c => isCode c || c.before args0 about1) = true := by decide +kernel
theorem w_tables : (allAtoms (Jvm.Cond.code x code maxLocals ret :: tables_1)).before args0 about1 = true := by
  rw [allAtoms_all]
  show words1.all (fun c => c.before args0 about1) = true
  refine all_split ?_ w_codes
  rw [← List.take_append_drop 24 words1, List.all_append, w_t1, ← List.take_append_drop 24 (words1.drop 24), List.all_append, w_t2, ← List.take_append_drop 24 ((words1.drop 24).drop 24), List.all_append, w_t3, ← List.take_append_drop 24 (((words1.drop 24).drop 24).drop 24), List.all_append, w_t4, ← List.take_append_drop 24 ((((words1.drop 24).drop 24).drop 24).drop 24), List.all_append, w_t5, ← List.take_append_drop 24 (((((words1.drop 24).drop 24).drop 24).drop 24).drop 24), List.all_append, w_t6, ← List.take_append_drop 24 ((((((words1.drop 24).drop 24).drop 24).drop 24).drop 24).drop 24), List.all_append, w_t7, w_t8]
  rfl
set_option maxRecDepth 65536 in
theorem w_rest : rest_1_c.before args0 about1 = true := by decide +kernel
set_option maxRecDepth 65536 in
theorem w_case : (Jvm.Cond.and given_1 narrow_1).before args0 about1 = true := by decide +kernel
theorem w_applies : (headSpec (Jvm.Cond.code x code maxLocals ret :: tables_1) room_1).applies x e0.platform about1 = true :=
  (Spec.applies_iff w_frames).mpr ⟨w_running, w_runnable, w_alone, w_named, w_hears, w_ripe, w_room, w_tables⟩
theorem atStart : AtStart classFile x code maxLocals ret World_1 tables_1 room_1 Calls_1 rest_1 Pre_1 launch0 p0 e0 about1 theMethod args0 below0 :=
  ⟨lists_1, trivial, launch0.admits_env _ _ _, launch0.least_env, fairChoices_fair.cas, fairChoices_fair.clock, w_frames, w_args, w_heap, w_applies, trivial, w_rest, w_case⟩
end start1
theorem witness_1 : WitnessClaimed_1 := ⟨start1.p0, start1.e0, start1.about1, start1.theMethod, start1.args0, start1.below0, start1.atStart⟩
end Jvm.Pilot.@@N@@
