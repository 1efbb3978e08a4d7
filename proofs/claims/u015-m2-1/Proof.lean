import JvmDerived
import JvmDerived.Pilot.@@N@@Statement
import JvmDerived.Pilot.@@N@@Code
set_option linter.unusedVariables false
set_option linter.unusedSimpArgs false
namespace Jvm.RoadKit
open Sem ClassFile Op Lib Jvm.Stand Jvm.Free Jvm.LawKit
section New
variable {p : Program} {l : Launch} {e : Env} {R : Room} {s : State} {m : MethodId} {args : Array Value} {below : List Frame} {meth : Method} {c : Code} {T : State} {locs : List Loc} {cells slots : Nat}
theorem retI (X : Stand p l e R s m args below meth c T locs cells slots) (hx : p.tables.exec = Jvm.exec) {pc : Nat} {Ls : Array Slot} {z : Int32} {rest : List Value} (hret : meth.sig.returnType = some .int) (hd : decode c.code pc = .ok (.ireturn, 1)) {fs : List Frame}
    (hl : ∀ (f : JFrame) (acts : List Action), f.method = m → f.locked = none → f.entered = [] → (doReturn e (T.setTop f) acts (some (.int z))).1 = T.setFrames fs) : Steps p.tables e below (T.setTop (mkF m pc Ls (.int z :: rest))) (T.setFrames fs) := by
  have hm' : T.vm.method? m = some meth := X.method'
  have hn : narrow .int (.int z) = .int z := rfl
  show Steps p.tables e below (T.setTop { method := m, pc := pc, locals := Ls, stack := _ :: rest, locked := none }) _
  jvm_step X.here [X.here.top, hx, hd, hm', hret, hn]
  first | (intro acts; rw [hl _ acts rfl rfl rfl]) | rw [hl _ _ rfl rfl rfl]
  exact Steps.refl _
abbrev Sq (p : Program) (e : Env) (below : List Frame) (m : MethodId) (T : State) (pc : Nat) (L : Array Slot) (S : List Value) (t : State) : Prop := Steps p.tables e below (T.setTop (mkF m pc L S)) t
abbrev Ctr (l : Launch) (Z : State) (y : MethodName) (b : ByteArray) (ml : Nat) (rt : Option FieldType) (ws : List Cond) (rm : Room) (as' : Array Value) (h0 : Heap) (Q : Option Value → Heap → List Loc → Prop) : Prop :=
  MetFree l y (head1 (Cond.code y b ml rt :: ws) rm) (fun a U => a = as' ∧ Z.Warmed39 U.vm ∧ U.heap = h0) (fun _ _ _ _ _ => True) (fun _ U o U' => ∃ v L, o = .returned v ∧ Q v U'.heap L ∧ FrameEnd U o U' L rm.cells rm.slots)
theorem own_sz {Z : State} {n0 : Nat} {h : Heap} (O : Old Z n0 h) : n0 ≤ h.size := O.1 ▸ O.2.1
theorem own_selpriv {Z s : State} {a0 args : Array Value} {y : MethodName} {n : Nat} (hZ : Z.Warmed39 s.vm) (wi : (Cond.instantiable y.cls n).before a0 Z = true) (wm : (Cond.instanceMethod y).before a0 Z = true) (wp : (Cond.privateMethod y).before a0 Z = true) (hy : y.cls ≠ "java/lang/invoke/MethodHandle" ∧ y.cls ≠ "java/lang/invoke/VarHandle") : (Cond.selects y.cls y y).before args s = true := by
  obtain ⟨c, k, h1, h2, -, h4, -⟩ := Cond.instantiable_spec (mv (args := args) hZ wi)
  have hk : k.isInterface = false := by cases h : k.isInterface <;> simp_all
  exact selects_self_of_private h1 h2 hk (Cond.privateMethod_at (mvP hZ wp (args := args))) (mv hZ wm) hy
theorem own_fldinj {Z : State} {h : Heap} {a : Addr} {C n d : String} {v w : Value} (F : Fld Z h a C n d v) (G : Fld Z h a C n d w) : v = w := by
  obtain ⟨c1, cf, k, i, f, h1, h2, -, -, -, -, h3⟩ := F
  obtain ⟨c2, cf2, k2, i2, f2, g1, g2, -, -, -, -, g3⟩ := G
  cases h1.symm.trans g1
  cases h2.symm.trans g2
  exact Option.some.inj (h3.symm.trans g3)
theorem own_ne {Z : State} {h : Heap} {a b : Addr} {C n d : String} {v w : Value} (F : Fld Z h a C n d v) (G : Fld Z h b C n d w) (q : v ≠ w) : a ≠ b := fun e => by
  subst e; exact q (own_fldinj F G)
theorem own_static {s : State} {args : Array Value} {C f d K : String} (h : (Cond.exactly (Term.static C f d) K).value args s none s [] = some true) (hi : (Cond.initializedFor C f d).before args s = true ∨ ((Cond.initialized C).before args s = true ∧ (Cond.laysStatic C f d).before args s = true)) :
    ∃ w, Sta s s.heap C f d (.ref w) ∧ Exa s s.heap w K ∧ (Term.static C f d).eval args s none [] s = some (.ref w) := by
  obtain ⟨w, ev⟩ := exa_v h
  exact ⟨w, Sta.start ev hi, Exa.start ev h, ev⟩
theorem own_field {s : State} {args : Array Value} {t : Term} {w : Addr} {O f d : String} {n : Int32} (ev : t.eval args s none [] s = some (.ref w)) (h : (Cond.eq (Term.field t O f d) (Term.int n)).value args s none s [] = some true) : Fld s s.heap w O f d (.int n) := by
  have q := eqv_i (Term.int_eval n) h
  rw [fld_at ev] at q
  exact Fld.start q
theorem own_fldR {s : State} {args : Array Value} {t : Term} {w : Addr} {O f d : String} {v : Value} (ev : t.eval args s none [] s = some (.ref w)) (h : (Term.field t O f d).eval args s none [] s = some v) : Fld s s.heap w O f d v := Fld.start ((fld_at ev).symm.trans h)
theorem own_eqR {s : State} {args : Array Value} {a b : Term} {y : Addr} (hb : b.eval args s none [] s = some (.ref y)) (h : (Cond.eq a b).value args s none s [] = some true) : a.eval args s none [] s = some (.ref y) :=
  Cond.eq_refs (by simp [Cond.holds, h]) hb rfl
theorem own_len {s : State} {args : Array Value} {t : Term} {a : Addr} {c : Cell} {ty : FieldType} {n : Int32} (ev : t.eval args s none [] s = some (.ref a)) (A : Arr s s.heap a c ty) (h : (Cond.eq (Term.length t) (Term.int n)).value args s none s [] = some true) :
    c.slots.size < 2 ^ 31 ∧ c.slots.size.toInt32 = n := by
  have q := eqv_i (Term.int_eval n) h
  have f := A.fin (Vm.Alike.refl _)
  simp [Term.eval, ev, f] at q
  exact ⟨by simpa using q.1, q.2⟩
def own_minL (a b : Int64) : Int64 := if b < a then b else a
theorem own_J : (0 : Int64).toInt = 0 ∧ (1000 : Int64).toInt = 1000 ∧ (9223372036854775807 : Int64).toInt = 9223372036854775807 ∧ (1000000 : Int64).toInt = 1000000 ∧ (1000000 : Int32).toInt = 1000000 ∧ (0 : Int32).toInt = 0 ∧ (-9223372036854775808 : Int64).toInt = -9223372036854775808 := by decide
theorem own_h1 {p q : Int64} (h : (p &&& (9223372036854775807 : Int64)) = q) : 0 ≤ q.toInt := by
  have a := c_maskL p 9223372036854775807 63 (by decide) (by decide)
  rw [h] at a
  omega
theorem own_h2 {q1 m2 q2 : Int64} (h1 : 0 ≤ q1.toInt) (hm : 0 ≤ m2.toInt) (h : (own_minL m2 ((9223372036854775807 : Int64) - q1)) = q2) : 0 ≤ q2.toInt ∧ q1.toInt + q2.toInt < 9223372036854775808 := by
  obtain ⟨-, -, e, -⟩ := own_J
  have a := c_lsub 9223372036854775807 q1
  have b := rng64 ((9223372036854775807 : Int64) - q1)
  have c := rng64 q1
  subst h
  unfold own_minL
  by_cases d : ((9223372036854775807 : Int64) - q1) < m2
  · rw [if_pos d]; omega
  · rw [if_neg d]; rw [Int64.lt_iff_toInt_lt] at d; omega
theorem own_cge {x : Int64} (h : 0 ≤ x.toInt) : ¬ ((lcmpW x (0 : Int64)) < (0 : Int32)) := by
  rw [lw_lt, Int64.lt_iff_toInt_lt]
  have := own_J.1
  omega
theorem own_z {se : Int64} {nn : Int32} (h : (lcmpW (se ||| (nn.toInt64)) (0 : Int64)) = (0 : Int32)) : se = (0 : Int64) ∧ nn = (0 : Int32) := by
  have h := (lw_eq _ _).mp h
  have q : (se ||| nn.toInt64).toBitVec = 0#64 := by rw [h]; rfl
  rw [Int64.toBitVec_or] at q
  have q := BitVec.or_eq_zero_iff.mp q
  have r : nn.toInt64 = 0 := Int64.toBitVec_inj.mp q.2
  have t := c_i2l nn
  rw [r] at t
  exact ⟨Int64.toBitVec_inj.mp q.1, Int32.toInt_inj.mp (t.symm.trans (by decide))⟩
theorem own_z1 {se : Int64} {nn : Int32} (h : (lcmpW (se ||| (nn.toInt64)) (0 : Int64)) = (0 : Int32)) : se = (0 : Int64) := (own_z h).1
theorem own_z2 {se : Int64} {nn : Int32} (h : (lcmpW (se ||| (nn.toInt64)) (0 : Int64)) = (0 : Int32)) : nn = (0 : Int32) := (own_z h).2
theorem own_mo {q : Int64} (h : 0 ≤ q.toInt) : (((q - q / (1000 : Int64) * (1000 : Int64)).toInt32)).toInt = q.toInt % 1000 ∧ (q / (1000 : Int64)).toInt = q.toInt / 1000 := by
  have a := (c_lrem q 1000 1000 (by decide)).1 h
  have b := c_l2i (q - q / (1000 : Int64) * (1000 : Int64))
  have c := rng32 ((q - q / (1000 : Int64) * (1000 : Int64)).toInt32)
  have d := (c_ldiv q 1000 1000 (by decide) (by decide)).1 h
  omega
theorem own_mos {q : Int64} (h : 0 ≤ q.toInt) : ¬ (((q - q / (1000 : Int64) * (1000 : Int64)).toInt32) < (0 : Int32)) := by
  have a := (own_mo h).1
  rw [Int32.lt_iff_toInt_lt]
  have := own_J.2.2.2.2.2.1
  omega
theorem own_nnI {q : Int64} (h : 0 ≤ q.toInt) : ((((q - q / (1000 : Int64) * (1000 : Int64)).toInt32)) * (1000000 : Int32)).toInt = q.toInt % 1000 * 1000000 := by
  have a := (own_mo h).1
  have b := c_imul ((q - q / (1000 : Int64) * (1000 : Int64)).toInt32) 1000000
  have c := rng32 ((((q - q / (1000 : Int64) * (1000 : Int64)).toInt32)) * (1000000 : Int32))
  rw [a, own_J.2.2.2.2.1] at b
  omega
theorem own_hs {q : Int64} (h : 0 ≤ q.toInt) : 0 ≤ (q / (1000 : Int64)).toInt ∧ (q / (1000 : Int64)).toInt ≤ 9223372036854775 := by
  have a := (own_mo h).2
  have b := rng64 q
  omega
theorem own_hn {q : Int64} (h : 0 ≤ q.toInt) : 0 ≤ ((((q - q / (1000 : Int64) * (1000 : Int64)).toInt32)) * (1000000 : Int32)).toInt ∧ ((((q - q / (1000 : Int64) * (1000 : Int64)).toInt32)) * (1000000 : Int32)).toInt < 1000000000 ∧ (q / (1000 : Int64)).toInt * 1000 + ((((q - q / (1000 : Int64) * (1000 : Int64)).toInt32)) * (1000000 : Int32)).toInt / 1000000 < 9223372036854775808 := by
  have a := (own_mo h).2
  have b := rng64 q
  have c := own_nnI h
  rw [a, c]
  omega
theorem own_tm {se : Int64} {nn : Int32} (hs : 0 ≤ se.toInt ∧ se.toInt ≤ 9223372036854775) (hn : 0 ≤ nn.toInt ∧ nn.toInt < 1000000000 ∧ se.toInt * 1000 + nn.toInt / 1000000 < 9223372036854775808) :
    (se * (1000 : Int64)).toInt = se.toInt * 1000 ∧ ((nn.toInt64) / (1000000 : Int64)).toInt = nn.toInt / 1000000 := by
  have a := c_lmul se 1000
  have b := rng64 (se * (1000 : Int64))
  rw [own_J.2.1] at a
  have c := (c_ldiv nn.toInt64 1000000 1000000 (by decide) (by decide)).1 (by rw [c_i2l]; omega)
  rw [c_i2l] at c
  omega
theorem own_ab {se : Int64} {nn : Int32} (hs : 0 ≤ se.toInt ∧ se.toInt ≤ 9223372036854775) (hn : 0 ≤ nn.toInt ∧ nn.toInt < 1000000000 ∧ se.toInt * 1000 + nn.toInt / 1000000 < 9223372036854775808) :
    0 ≤ (se * (1000 : Int64)).toInt ∧ 0 ≤ ((nn.toInt64) / (1000000 : Int64)).toInt ∧ (se * (1000 : Int64)).toInt + ((nn.toInt64) / (1000000 : Int64)).toInt < 9223372036854775808 := by
  have a := own_tm hs hn
  omega
theorem own_rt {q : Int64} (h : 0 ≤ q.toInt) : (((q / (1000 : Int64)) * (1000 : Int64)) + ((((((q - q / (1000 : Int64) * (1000 : Int64)).toInt32)) * (1000000 : Int32)).toInt64) / (1000000 : Int64))) = q := by
  have a := own_tm (own_hs h) (own_hn h)
  have b := own_nnI h
  have c := (own_mo h).2
  have d := c_ladd ((q / (1000 : Int64)) * (1000 : Int64)) ((((((q - q / (1000 : Int64) * (1000 : Int64)).toInt32)) * (1000000 : Int32)).toInt64) / (1000000 : Int64))
  have e := rng64 (((q / (1000 : Int64)) * (1000 : Int64)) + ((((((q - q / (1000 : Int64) * (1000 : Int64)).toInt32)) * (1000000 : Int32)).toInt64) / (1000000 : Int64)))
  have f := rng64 q
  rw [a.1, a.2, b, c] at d
  refine Int64.toInt_inj.mp ?_
  omega
theorem own_md {x : Int64} (h : 0 ≤ x.toInt ∧ x.toInt ≤ 9223372036854775) : (lcmpW ((x * (1000 : Int64)) / (1000 : Int64)) x) = (0 : Int32) := by
  rw [lw_eq, ← Int64.toInt_inj]
  have a := c_lmul x 1000
  have b := rng64 (x * (1000 : Int64))
  rw [own_J.2.1] at a
  have c : (x * (1000 : Int64)).toInt = x.toInt * 1000 := by omega
  have d := (c_ldiv (x * 1000) 1000 1000 (by decide) (by decide)).1 (by omega)
  omega
theorem own_nmin {x : Int64} (h : 0 ≤ x.toInt) : ¬ ((lcmpW x (-9223372036854775808 : Int64)) = (0 : Int32)) := by
  rw [lw_eq]
  intro e
  rw [e] at h
  have := own_J.2.2.2.2.2.2
  omega
theorem own_addx {a b : Int64} (h : 0 ≤ a.toInt ∧ 0 ≤ b.toInt ∧ a.toInt + b.toInt < 9223372036854775808) : ¬ ((lcmpW ((a ^^^ (a + b)) &&& (b ^^^ (a + b))) (0 : Int64)) < (0 : Int32)) := by
  have c := c_ladd a b
  have d := rng64 (a + b)
  have e := (c_xorSL a (a + b)).2.2.2 h.1 (by omega)
  exact own_cge ((c_andSL _ _).2.1 e)
theorem own_a0 (q : Int64) : (0 : Int64) + q = q := by
  refine Int64.toInt_inj.mp ?_
  have a := c_ladd 0 q
  have b := rng64 q
  have c := rng64 ((0 : Int64) + q)
  rw [own_J.1] at a
  omega
theorem own_b0 (q : Int64) : q + (0 : Int64) = q := by
  refine Int64.toInt_inj.mp ?_
  have a := c_ladd q 0
  have b := rng64 q
  have c := rng64 (q + (0 : Int64))
  rw [own_J.1] at a
  omega
theorem own_c1 (q : Int64) : (lcmpW ((0 : Int64) + q) q) = (0 : Int32) := (lw_eq _ _).mpr (own_a0 q)
theorem own_c2 (q : Int64) : (lcmpW (((0 : Int64) + q) + (0 : Int64)) q) = (0 : Int32) := (lw_eq _ _).mpr (by rw [own_a0, own_b0])
theorem own_c3 (q r : Int64) : (lcmpW ((((0 : Int64) + q) + (0 : Int64)) + r) (q + r)) = (0 : Int32) := (lw_eq _ _).mpr (by rw [own_a0, own_b0])
theorem own_le0 (q : Int64) : ¬ ((0 : Int32) < (lcmpW q ((9223372036854775807 : Int64) - (0 : Int64)))) := by
  rw [lw_gt, Int64.lt_iff_toInt_lt]
  have a : ((9223372036854775807 : Int64) - (0 : Int64)).toInt = 9223372036854775807 := by decide
  have b := rng64 q
  omega
theorem own_le1 {q r : Int64} (h1 : 0 ≤ q.toInt) (h2 : 0 ≤ r.toInt ∧ q.toInt + r.toInt < 9223372036854775808) : ¬ ((0 : Int32) < (lcmpW r ((9223372036854775807 : Int64) - (((0 : Int64) + q) + (0 : Int64))))) := by
  rw [own_a0, own_b0, lw_gt, Int64.lt_iff_toInt_lt]
  have a := c_lsub 9223372036854775807 q
  have b := rng64 ((9223372036854775807 : Int64) - q)
  have c := own_J.2.2.1
  omega
end New
end Jvm.RoadKit
namespace Jvm.Pilot.@@N@@
open Jvm Jvm.ClassFile Sem Op Lib Jvm.Free Jvm.Stand Jvm.LawKit Jvm.RoadKit Bundle Jvm.Pilot.@@N@@.Jvm.D
theorem d1_0 : decode jdk_29_method_70_code 0 = .ok (.lload_n 0, 1) := by decide +kernel
theorem d1_1 : decode jdk_29_method_70_code 1 = .ok (.lload_n 2, 1) := by decide +kernel
theorem d1_2 : decode jdk_29_method_70_code 2 = .ok (.lcmp, 1) := by decide +kernel
theorem d1_3 : decode jdk_29_method_70_code 3 = .ok (.ifCond .gt 7, 3) := by decide +kernel
theorem d1_10 : decode jdk_29_method_70_code 10 = .ok (.lload_n 2, 1) := by decide +kernel
theorem d1_11 : decode jdk_29_method_70_code 11 = .ok (.lreturn, 1) := by decide +kernel
theorem d1_6 : decode jdk_29_method_70_code 6 = .ok (.lload_n 0, 1) := by decide +kernel
theorem d1_7 : decode jdk_29_method_70_code 7 = .ok (.goto 4, 3) := by decide +kernel
def Q_minL (Z : State) (a : Int64) (b : Int64) (h0 : Heap) (n0 : Nat) (v : Option Value) (h : Heap) (L : List Loc) : Prop := v = some (.long (own_minL a b)) ∧ Fr n0 L ∧ h = h0
theorem ef_0 (m : MethodId) (x0 : Int64) (x1 : Int64) : entryFrame m #[(.long x0), (.long x1)] 4 = mkF m 0 #[.val (.long x0), .second, .val (.long x1), .second] [] := by first | (simp [entryFrame, mkF, argsToLocals, Value.category]; done) | rfl
abbrev y_0 : MethodName := ⟨"java/lang/Math", "min", "(JJ)J"⟩
set_option maxRecDepth 65536 in
set_option maxHeartbeats 40000000 in
theorem minL_0 (l : Launch) (Z : State) (a0 : Array Value) (hw : ∀ d ∈ tables_1, d.before a0 Z = true) (ws : List Jvm.Cond) (a : Int64) (b : Int64) (h0 : Heap) (n0 : Nat) (O : Old Z n0 h0) (hc3 : (0 : Int32) < (lcmpW a b)) :
    Ctr l Z y_0 jdk_29_method_70_code 4 (some .long) ws ({ frames := 0, cells := 0, slots := 0, locals := 0 } : Room) #[(.long a), (.long b)] h0 (Q_minL Z a b h0 n0) := by
  refine MetFree.of_bodySF (Jvm.Free.JP.mathPlain rfl (by decide +kernel)) hisR ?_
  intro p e s m args below meth c s₁ Bd hml0 hP hK
  obtain ⟨rfl, hZ, hh⟩ := hP
  have W := fun (i : Nat) {d : Jvm.Cond} (h : tables_1[i]? = some d) => hw d (List.mem_of_getElem? h)
  have hx := Bd.exec
  have hby := Bd.bytes
  have hml : c.maxLocals = 4 := hml0
  have hown : s.vm.findClass "java/lang/Math" = some m.cls := findClass_of_methodNamed Bd.named
  have hnm := (name_of_methodNamed Bd.named Bd.method).1
  have X0 : Stand p l e ({ frames := 0, cells := 0, slots := 0, locals := 0 } : Room) s m #[(.long a), (.long b)] below meth c s₁ [] 0 0 := Stand.of_body Bd
  have e0 : s₁.heap = h0 := by rw [← hh, Bd.state]; rfl
  have N0 := Fr.nil n0
  have pre0 : ∀ t, Steps p.tables e below (s₁.setTop (mkF m 0 #[.val (.long a), .second, .val (.long b), .second] [])) t → Steps p.tables e below (s₁.setTop (entryFrame m #[(.long a), (.long b)] 4)) t := fun t kk_ => castTop (ef_0 m a b) kk_
  obtain ⟨fs, hr, hrun, hended, hW, hsame⟩ := X0.leave (v := some (.long b)) (fun h => by rw [Bd.returns] at h; cases h)
  refine ⟨_, _, pre0 _ ?_, hrun, hended, _, _, rfl, ?_, ⟨_, rfl⟩, hW, hsame.mono (by decide) (by decide)⟩
  · show Sq p e below m s₁ 0 #[.val (.long a), .second, .val (.long b), .second] [] _
    refine XS.lloadN X0.here hx rfl (hb hby d1_0) rfl ?_
    refine XS.lloadN X0.here hx rfl (hb hby d1_1) rfl ?_
    show Sq p e below m s₁ 2 #[.val (.long a), .second, .val (.long b), .second] [.long b, .long a] _
    refine XS.lcmp X0.here hx rfl (hb hby d1_2) rfl ?_
    refine XS.ifYes X0.here hx rfl (pc0 := 3) (pc' := 10) rfl (hb hby d1_3) rfl ((if0 _ _).trans (tlt hc3).2.2.1) (by decide) (by decide) ?_
    show Sq p e below m s₁ 10 #[.val (.long a), .second, .val (.long b), .second] [] _
    refine XS.lloadN X0.here hx rfl (hb hby d1_10) rfl ?_
    show Sq p e below m s₁ 11 #[.val (.long a), .second, .val (.long b), .second] [.long b] _
    jvm_step X0.here [X0.here.top, hx, (hb hby d1_11), X0.method', Bd.returns, narrow]
    first | (intro acts; rw [hr _ acts rfl rfl rfl]) | rw [hr _ _ rfl rfl rfl]
    exact Steps.refl _
  · show Q_minL Z a b h0 n0 _ s₁.heap _
    rw [e0]
    exact ⟨(by rw [own_minL, if_pos ((lw_gt _ _).mp hc3)]), N0, rfl⟩
set_option maxRecDepth 65536 in
set_option maxHeartbeats 40000000 in
theorem minL_1 (l : Launch) (Z : State) (a0 : Array Value) (hw : ∀ d ∈ tables_1, d.before a0 Z = true) (ws : List Jvm.Cond) (a : Int64) (b : Int64) (h0 : Heap) (n0 : Nat) (O : Old Z n0 h0) (hc3 : ¬ ((0 : Int32) < (lcmpW a b))) :
    Ctr l Z y_0 jdk_29_method_70_code 4 (some .long) ws ({ frames := 0, cells := 0, slots := 0, locals := 0 } : Room) #[(.long a), (.long b)] h0 (Q_minL Z a b h0 n0) := by
  refine MetFree.of_bodySF (Jvm.Free.JP.mathPlain rfl (by decide +kernel)) hisR ?_
  intro p e s m args below meth c s₁ Bd hml0 hP hK
  obtain ⟨rfl, hZ, hh⟩ := hP
  have W := fun (i : Nat) {d : Jvm.Cond} (h : tables_1[i]? = some d) => hw d (List.mem_of_getElem? h)
  have hx := Bd.exec
  have hby := Bd.bytes
  have hml : c.maxLocals = 4 := hml0
  have hown : s.vm.findClass "java/lang/Math" = some m.cls := findClass_of_methodNamed Bd.named
  have hnm := (name_of_methodNamed Bd.named Bd.method).1
  have X0 : Stand p l e ({ frames := 0, cells := 0, slots := 0, locals := 0 } : Room) s m #[(.long a), (.long b)] below meth c s₁ [] 0 0 := Stand.of_body Bd
  have e0 : s₁.heap = h0 := by rw [← hh, Bd.state]; rfl
  have N0 := Fr.nil n0
  have pre0 : ∀ t, Steps p.tables e below (s₁.setTop (mkF m 0 #[.val (.long a), .second, .val (.long b), .second] [])) t → Steps p.tables e below (s₁.setTop (entryFrame m #[(.long a), (.long b)] 4)) t := fun t kk_ => castTop (ef_0 m a b) kk_
  obtain ⟨fs, hr, hrun, hended, hW, hsame⟩ := X0.leave (v := some (.long a)) (fun h => by rw [Bd.returns] at h; cases h)
  refine ⟨_, _, pre0 _ ?_, hrun, hended, _, _, rfl, ?_, ⟨_, rfl⟩, hW, hsame.mono (by decide) (by decide)⟩
  · show Sq p e below m s₁ 0 #[.val (.long a), .second, .val (.long b), .second] [] _
    refine XS.lloadN X0.here hx rfl (hb hby d1_0) rfl ?_
    refine XS.lloadN X0.here hx rfl (hb hby d1_1) rfl ?_
    show Sq p e below m s₁ 2 #[.val (.long a), .second, .val (.long b), .second] [.long b, .long a] _
    refine XS.lcmp X0.here hx rfl (hb hby d1_2) rfl ?_
    refine XS.ifNo X0.here hx rfl (hb hby d1_3) rfl ((if0 _ _).trans (flt hc3).2.2.1) ?_
    show Sq p e below m s₁ 6 #[.val (.long a), .second, .val (.long b), .second] [] _
    refine XS.lloadN X0.here hx rfl (hb hby d1_6) rfl ?_
    refine XS.goto X0.here hx rfl (pc0 := 7) (pc' := 11) rfl (hb hby d1_7) (by decide) (by decide) ?_
    show Sq p e below m s₁ 11 #[.val (.long a), .second, .val (.long b), .second] [.long a] _
    jvm_step X0.here [X0.here.top, hx, (hb hby d1_11), X0.method', Bd.returns, narrow]
    first | (intro acts; rw [hr _ acts rfl rfl rfl]) | rw [hr _ _ rfl rfl rfl]
    exact Steps.refl _
  · show Q_minL Z a b h0 n0 _ s₁.heap _
    rw [e0]
    exact ⟨(by rw [own_minL, if_neg (fun q => hc3 ((lw_gt _ _).mpr q))]), N0, rfl⟩
set_option maxRecDepth 65536 in
theorem minL (l : Launch) (Z : State) (a0 : Array Value) (hw : ∀ d ∈ tables_1, d.before a0 Z = true) (ws : List Jvm.Cond) (a : Int64) (b : Int64) (h0 : Heap) (n0 : Nat) (O : Old Z n0 h0) :
    Ctr l Z y_0 jdk_29_method_70_code 4 (some .long) ws ({ frames := 0, cells := 0, slots := 0, locals := 0 } : Room) #[(.long a), (.long b)] h0 (Q_minL Z a b h0 n0) := by
  by_cases hc3 : (0 : Int32) < (lcmpW a b)
  · exact minL_0 l Z a0 hw ws a b h0 n0 O hc3
  · exact minL_1 l Z a0 hw ws a b h0 n0 O hc3
theorem d2_0 : decode prog_113_method_1_code 0 = .ok (.aload_n 0, 1) := by decide +kernel
theorem d2_1 : decode prog_113_method_1_code 1 = .ok (.invokespecial 1, 3) := by decide +kernel
theorem d2_4 : decode prog_113_method_1_code 4 = .ok (.return_, 1) := by decide +kernel
def Q_ckinit (Z : State) (a : Addr) (h0 : Heap) (n0 : Nat) (v : Option Value) (h : Heap) (L : List Loc) : Prop := v = none ∧ Fr n0 L ∧ h = h0
theorem ef_1 (m : MethodId) (x0 : Addr) : entryFrame m #[(.ref x0)] 1 = mkF m 0 #[.val (.ref x0)] [] := by first | (simp [entryFrame, mkF, argsToLocals, Value.category]; done) | rfl
theorem pn_0 : plainName "com/example/anole/anole/scenario/SimulatedClock" = true := by first | (simp [plainName, overriddenIn]; done) | decide +kernel
abbrev y_1 : MethodName := ⟨"com/example/anole/anole/scenario/SimulatedClock", "<init>", "()V"⟩
set_option maxRecDepth 65536 in
set_option maxHeartbeats 40000000 in
theorem ckinit (l : Launch) (Z : State) (a0 : Array Value) (hw : ∀ d ∈ tables_1, d.before a0 Z = true) (ws : List Jvm.Cond) (a : Addr) (h0 : Heap) (n0 : Nat) (O : Old Z n0 h0) :
    Ctr l Z y_1 prog_113_method_1_code 1 none ws ({ frames := 1, cells := 0, slots := 0, locals := 12 } : Room) #[(.ref a)] h0 (Q_ckinit Z a h0 n0) := by
  refine MetFree.of_bodySF (plainFor_of_name pn_0) hisR ?_
  intro p e s m args below meth c s₁ Bd hml0 hP hK
  obtain ⟨rfl, hZ, hh⟩ := hP
  have W := fun (i : Nat) {d : Jvm.Cond} (h : tables_1[i]? = some d) => hw d (List.mem_of_getElem? h)
  have hx := Bd.exec
  have hby := Bd.bytes
  have hml : c.maxLocals = 1 := hml0
  have hown : s.vm.findClass "com/example/anole/anole/scenario/SimulatedClock" = some m.cls := findClass_of_methodNamed Bd.named
  have hnm := (name_of_methodNamed Bd.named Bd.method).1
  have X0 : Stand p l e ({ frames := 1, cells := 0, slots := 0, locals := 12 } : Room) s m #[(.ref a)] below meth c s₁ [] 0 0 := Stand.of_body Bd
  have e0 : s₁.heap = h0 := by rw [← hh, Bd.state]; rfl
  have N0 := Fr.nil n0
  have pre0 : ∀ t, Steps p.tables e below (s₁.setTop (mkF m 0 #[.val (.ref a)] [])) t → Steps p.tables e below (s₁.setTop (entryFrame m #[(.ref a)] 1)) t := fun t kk_ => castTop (ef_1 m a) kk_
  obtain ⟨T1, X1, e1, st1⟩ := initO X0 hx hZ hown (W 11 rfl) (W 12 rfl) (W 13 rfl) e0 (g := (mkF m 1 #[rv a] [.ref a])) rfl (by rw [hml]; rfl) rfl (hb hby d2_1) (by decide) (W := 0) (by show 2 * 0 + _ ≤ _; exact Nat.le_of_eq rfl) (by decide)
  obtain ⟨fs, hr, hrun, hended, hW, hsame⟩ := X1.leave (v := none) (fun _ => rfl)
  refine ⟨_, _, pre0 _ ?_, hrun, hended, _, _, rfl, ?_, ⟨_, rfl⟩, hW, hsame.mono (by decide) (by decide)⟩
  · show Sq p e below m s₁ 0 #[rv a] [] _
    refine XS.aloadN X0.here hx rfl (hb hby d2_0) rfl rfl ?_
    show Sq p e below m s₁ 1 #[rv a] [.ref a] _
    refine st1 _ ?_
    show Sq p e below m T1 4 #[rv a] [] _
    exact X1.returnOut hx Bd.returns (hb hby d2_4) hr
  · show Q_ckinit Z a h0 n0 _ T1.heap _
    rw [e1]
    exact ⟨rfl, N0, rfl⟩
theorem d6_0 : decode jdk_2316_method_17_code 0 = .ok (.aload_n 0, 1) := by decide +kernel
theorem d6_1 : decode jdk_2316_method_17_code 1 = .ok (.invokespecial 218, 3) := by decide +kernel
theorem d6_4 : decode jdk_2316_method_17_code 4 = .ok (.aload_n 0, 1) := by decide +kernel
theorem d6_5 : decode jdk_2316_method_17_code 5 = .ok (.lload_n 1, 1) := by decide +kernel
theorem d6_6 : decode jdk_2316_method_17_code 6 = .ok (.putfield 221, 3) := by decide +kernel
theorem d6_9 : decode jdk_2316_method_17_code 9 = .ok (.aload_n 0, 1) := by decide +kernel
theorem d6_10 : decode jdk_2316_method_17_code 10 = .ok (.iload_n 3, 1) := by decide +kernel
theorem d6_11 : decode jdk_2316_method_17_code 11 = .ok (.putfield 224, 3) := by decide +kernel
theorem d6_14 : decode jdk_2316_method_17_code 14 = .ok (.return_, 1) := by decide +kernel
def Q_dinit (Z : State) (a : Addr) (se : Int64) (nn : Int32) (h0 : Heap) (n0 : Nat) (v : Option Value) (h : Heap) (L : List Loc) : Prop := v = none ∧ Fr n0 L ∧ Keep h0 h [a] ∧ Fld Z h a "java/time/Duration" "seconds" "J" (.long se) ∧ Fld Z h a "java/time/Duration" "nanos" "I" (.int nn)
theorem ef_2 (m : MethodId) (x0 : Addr) (x1 : Int64) (x2 : Int32) : entryFrame m #[(.ref x0), (.long x1), (.int x2)] 4 = mkF m 0 #[.val (.ref x0), .val (.long x1), .second, .val (.int x2)] [] := by first | (simp [entryFrame, mkF, argsToLocals, Value.category]; done) | rfl
theorem pn_1 : plainName "java/time/Duration" = true := by first | (simp [plainName, overriddenIn]; done) | decide +kernel
abbrev y_2 : MethodName := ⟨"java/time/Duration", "<init>", "(JI)V"⟩
set_option maxRecDepth 65536 in
set_option maxHeartbeats 40000000 in
theorem dinit (l : Launch) (Z : State) (a0 : Array Value) (hw : ∀ d ∈ tables_1, d.before a0 Z = true) (ws : List Jvm.Cond) (a : Addr) (se : Int64) (nn : Int32) (h0 : Heap) (n0 : Nat) (O : Old Z n0 h0) (Ea : Exa Z h0 a "java/time/Duration") (Fs : Fld Z h0 a "java/time/Duration" "seconds" "J" (.long (0 : Int64))) (Fn : Fld Z h0 a "java/time/Duration" "nanos" "I" (.int (0 : Int32))) (ga : n0 ≤ a) :
    Ctr l Z y_2 jdk_2316_method_17_code 4 none ws ({ frames := 1, cells := 0, slots := 0, locals := 12 } : Room) #[(.ref a), (.long se), (.int nn)] h0 (Q_dinit Z a se nn h0 n0) := by
  refine MetFree.of_bodySF (plainFor_of_name pn_1) hisR ?_
  intro p e s m args below meth c s₁ Bd hml0 hP hK
  obtain ⟨rfl, hZ, hh⟩ := hP
  have W := fun (i : Nat) {d : Jvm.Cond} (h : tables_1[i]? = some d) => hw d (List.mem_of_getElem? h)
  have hx := Bd.exec
  have hby := Bd.bytes
  have hml : c.maxLocals = 4 := hml0
  have hown : s.vm.findClass "java/time/Duration" = some m.cls := findClass_of_methodNamed Bd.named
  have hnm := (name_of_methodNamed Bd.named Bd.method).1
  have X0 : Stand p l e ({ frames := 1, cells := 0, slots := 0, locals := 12 } : Room) s m #[(.ref a), (.long se), (.int nn)] below meth c s₁ [] 0 0 := Stand.of_body Bd
  have e0 : s₁.heap = h0 := by rw [← hh, Bd.state]; rfl
  have N0 := Fr.nil n0
  have pre0 : ∀ t, Steps p.tables e below (s₁.setTop (mkF m 0 #[.val (.ref a), .val (.long se), .second, .val (.int nn)] [])) t → Steps p.tables e below (s₁.setTop (entryFrame m #[(.ref a), (.long se), (.int nn)] 4)) t := fun t kk_ => castTop (ef_2 m a se nn) kk_
  have K0 := Keep.refl h0 [a]
  obtain ⟨T1, X1, e1, st1⟩ := initO X0 hx hZ hown (W 29 rfl) (W 12 rfl) (W 13 rfl) e0 (g := (mkF m 1 #[rv a, .val (.long se), .second, iv nn] [.ref a])) rfl (by rw [hml]; rfl) rfl (hb hby d6_1) (by decide) (W := 0) (by show 2 * 0 + _ ≤ _; exact Nat.le_of_eq rfl) (by decide)
  obtain ⟨T2, h2, X2, e2, W2, st2⟩ := putF X1 hx hZ hown (host := "") (Or.inl (W 30 rfl)) Via.refl e1 Fs Ea (Or.inr ⟨(W 31 rfl), rfl, hnm⟩) (W 24 rfl) (ty := .long) (by decide) rfl rfl (g := (mkF m 6 #[rv a, .val (.long se), .second, iv nn] [.long se, .ref a])) rfl rfl (hb hby d6_6)
  have Fz2 := Fs.same W2
  have Ea := Ea.wr W2
  have Fn := Fn.other W2 (Or.inr (slot_ne (Or.inr (W 33 rfl)) (Or.inr (W 31 rfl)) (by decide) (t := .int) (t' := .long) (by decide) (by decide)))
  have K4 := K0.wr W2 (Or.inl (List.mem_of_getElem? (i := 0) rfl))
  have N5 := Fr.snoc X2 N0 ga
  obtain ⟨T6, h6, X6, e6, W6, st6⟩ := putF X2 hx hZ hown (host := "") (Or.inl (W 32 rfl)) Via.refl e2 Fn Ea (Or.inr ⟨(W 33 rfl), rfl, hnm⟩) (W 24 rfl) (ty := .int) (by decide) rfl rfl (g := (mkF m 11 #[rv a, .val (.long se), .second, iv nn] [.int nn, .ref a])) rfl rfl (hb hby d6_11)
  have Fz6 := Fn.same W6
  have Fz2 := Fz2.other W6 (Or.inr (slot_ne (Or.inr (W 31 rfl)) (Or.inr (W 33 rfl)) (by decide) (t := .long) (t' := .int) (by decide) (by decide)))
  have K8 := K4.wr W6 (Or.inl (List.mem_of_getElem? (i := 0) rfl))
  have N9 := Fr.snoc X6 N5 ga
  obtain ⟨fs, hr, hrun, hended, hW, hsame⟩ := X6.leave (v := none) (fun _ => rfl)
  refine ⟨_, _, pre0 _ ?_, hrun, hended, _, _, rfl, ?_, ⟨_, rfl⟩, hW, hsame.mono (by decide) (by decide)⟩
  · show Sq p e below m s₁ 0 #[rv a, .val (.long se), .second, iv nn] [] _
    refine XS.aloadN X0.here hx rfl (hb hby d6_0) rfl rfl ?_
    show Sq p e below m s₁ 1 #[rv a, .val (.long se), .second, iv nn] [.ref a] _
    refine st1 _ ?_
    show Sq p e below m T1 4 #[rv a, .val (.long se), .second, iv nn] [] _
    refine XS.aloadN X1.here hx rfl (hb hby d6_4) rfl rfl ?_
    refine XS.lloadN X1.here hx rfl (hb hby d6_5) rfl ?_
    show Sq p e below m T1 6 #[rv a, .val (.long se), .second, iv nn] [.long se, .ref a] _
    refine st2 _ ?_
    show Sq p e below m T2 9 #[rv a, .val (.long se), .second, iv nn] [] _
    refine XS.aloadN X2.here hx rfl (hb hby d6_9) rfl rfl ?_
    refine XS.iloadN X2.here hx rfl (hb hby d6_10) rfl ?_
    show Sq p e below m T2 11 #[rv a, .val (.long se), .second, iv nn] [.int nn, .ref a] _
    refine st6 _ ?_
    show Sq p e below m T6 14 #[rv a, .val (.long se), .second, iv nn] [] _
    exact X6.returnOut hx Bd.returns (hb hby d6_14) hr
  · show Q_dinit Z a se nn h0 n0 _ T6.heap _
    rw [e6]
    exact ⟨rfl, N9, K8, Fz2, Fz6⟩
theorem d5_0 : decode jdk_2316_method_16_code 0 = .ok (.lload_n 0, 1) := by decide +kernel
theorem d5_1 : decode jdk_2316_method_16_code 1 = .ok (.iload_n 2, 1) := by decide +kernel
theorem d5_2 : decode jdk_2316_method_16_code 2 = .ok (.i2l, 1) := by decide +kernel
theorem d5_3 : decode jdk_2316_method_16_code 3 = .ok (.lor, 1) := by decide +kernel
theorem d5_4 : decode jdk_2316_method_16_code 4 = .ok (.lconst 0, 1) := by decide +kernel
theorem d5_5 : decode jdk_2316_method_16_code 5 = .ok (.lcmp, 1) := by decide +kernel
theorem d5_6 : decode jdk_2316_method_16_code 6 = .ok (.ifCond .ne 7, 3) := by decide +kernel
theorem d5_9 : decode jdk_2316_method_16_code 9 = .ok (.getstatic 32, 3) := by decide +kernel
theorem d5_12 : decode jdk_2316_method_16_code 12 = .ok (.areturn, 1) := by decide +kernel
theorem d5_13 : decode jdk_2316_method_16_code 13 = .ok (.new 11, 3) := by decide +kernel
theorem d5_16 : decode jdk_2316_method_16_code 16 = .ok (.dup, 1) := by decide +kernel
theorem d5_17 : decode jdk_2316_method_16_code 17 = .ok (.lload_n 0, 1) := by decide +kernel
theorem d5_18 : decode jdk_2316_method_16_code 18 = .ok (.iload_n 2, 1) := by decide +kernel
theorem d5_19 : decode jdk_2316_method_16_code 19 = .ok (.invokespecial 215, 3) := by decide +kernel
theorem pd_0 : parseMethodDescriptor "(JI)V" = some ⟨[.long, .int], none⟩ := by decide +kernel
theorem d5_22 : decode jdk_2316_method_16_code 22 = .ok (.areturn, 1) := by decide +kernel
def Q_create (Z : State) (se : Int64) (nn : Int32) (w_ZERO : Addr) (h0 : Heap) (n0 : Nat) (v : Option Value) (h : Heap) (L : List Loc) : Prop := ∃ b : Addr, v = some (.ref b) ∧ Fr n0 L ∧ Keep h0 h [] ∧ Exa Z h b "java/time/Duration" ∧ Fld Z h b "java/time/Duration" "seconds" "J" (.long se) ∧ Fld Z h b "java/time/Duration" "nanos" "I" (.int nn)
theorem ef_3 (m : MethodId) (x0 : Int64) (x1 : Int32) : entryFrame m #[(.long x0), (.int x1)] 3 = mkF m 0 #[.val (.long x0), .second, .val (.int x1)] [] := by first | (simp [entryFrame, mkF, argsToLocals, Value.category]; done) | rfl
abbrev y_3 : MethodName := ⟨"java/time/Duration", "create", "(JI)Ljava/time/Duration;"⟩
set_option maxRecDepth 65536 in
set_option maxHeartbeats 40000000 in
theorem create_0 (l : Launch) (Z : State) (a0 : Array Value) (hw : ∀ d ∈ tables_1, d.before a0 Z = true) (ws : List Jvm.Cond) (se : Int64) (nn : Int32) (w_ZERO : Addr) (h0 : Heap) (n0 : Nat) (O : Old Z n0 h0) (S_w_ZERO : Sta Z Z.heap "java/time/Duration" "ZERO" "Ljava/time/Duration;" (.ref w_ZERO)) (E_w_ZERO : Exa Z Z.heap w_ZERO "java/time/Duration") (F_w_ZERO_seconds : Fld Z Z.heap w_ZERO "java/time/Duration" "seconds" "J" (.long (0 : Int64))) (F_w_ZERO_nanos : Fld Z Z.heap w_ZERO "java/time/Duration" "nanos" "I" (.int (0 : Int32))) (hc6 : (lcmpW (se ||| (nn.toInt64)) (0 : Int64)) = (0 : Int32)) :
    Ctr l Z y_3 jdk_2316_method_16_code 3 (some (.object "java/time/Duration")) ws ({ frames := 2, cells := 1, slots := 2, locals := 28 } : Room) #[(.long se), (.int nn)] h0 (Q_create Z se nn w_ZERO h0 n0) := by
  refine MetFree.of_bodySF (plainFor_of_name pn_1) hisR ?_
  intro p e s m args below meth c s₁ Bd hml0 hP hK
  obtain ⟨rfl, hZ, hh⟩ := hP
  have W := fun (i : Nat) {d : Jvm.Cond} (h : tables_1[i]? = some d) => hw d (List.mem_of_getElem? h)
  have hx := Bd.exec
  have hby := Bd.bytes
  have hml : c.maxLocals = 3 := hml0
  have hown : s.vm.findClass "java/time/Duration" = some m.cls := findClass_of_methodNamed Bd.named
  have hnm := (name_of_methodNamed Bd.named Bd.method).1
  have X0 : Stand p l e ({ frames := 2, cells := 1, slots := 2, locals := 28 } : Room) s m #[(.long se), (.int nn)] below meth c s₁ [] 0 0 := Stand.of_body Bd
  have e0 : s₁.heap = h0 := by rw [← hh, Bd.state]; rfl
  have N0 := Fr.nil n0
  have pre0 : ∀ t, Steps p.tables e below (s₁.setTop (mkF m 0 #[.val (.long se), .second, .val (.int nn)] [])) t → Steps p.tables e below (s₁.setTop (entryFrame m #[(.long se), (.int nn)] 3)) t := fun t kk_ => castTop (ef_3 m se nn) kk_
  have K0 := Keep.refl h0 []
  obtain ⟨T1, X1, e1, st1⟩ := getS2 X0 hx hZ hown (host := "") (Or.inl (W 73 rfl)) Via.refl e0 (S_w_ZERO.ext O.2) (g := (mkF m 9 #[.val (.long se), .second, iv nn] [])) rfl (hb hby d5_9)
  obtain ⟨fs, hr, hrun, hended, hW, hsame⟩ := X1.leave (v := some (.ref w_ZERO)) (fun h => by rw [Bd.returns] at h; cases h)
  refine ⟨_, _, pre0 _ ?_, hrun, hended, _, _, rfl, ?_, ⟨_, rfl⟩, hW, hsame.mono (by decide) (by decide)⟩
  · show Sq p e below m s₁ 0 #[.val (.long se), .second, iv nn] [] _
    refine XS.lloadN X0.here hx rfl (hb hby d5_0) rfl ?_
    refine XS.iloadN X0.here hx rfl (hb hby d5_1) rfl ?_
    show Sq p e below m s₁ 2 #[.val (.long se), .second, iv nn] [.int nn, .long se] _
    refine XS.i2l X0.here hx rfl (hb hby d5_2) rfl ?_
    refine XS.lor X0.here hx rfl (hb hby d5_3) rfl ?_
    show Sq p e below m s₁ 4 #[.val (.long se), .second, iv nn] [.long (se ||| (nn.toInt64))] _
    refine XS.lconst X0.here hx rfl (hb hby d5_4) ?_
    refine XS.lcmp X0.here hx rfl (hb hby d5_5) rfl ?_
    show Sq p e below m s₁ 6 #[.val (.long se), .second, iv nn] [.int (lcmpW (se ||| (nn.toInt64)) (0 : Int64))] _
    refine XS.ifNo X0.here hx rfl (hb hby d5_6) rfl ((if0 _ _).trans (teq hc6).2) ?_
    show Sq p e below m s₁ 9 #[.val (.long se), .second, iv nn] [] _
    refine st1 _ ?_
    show Sq p e below m T1 12 #[.val (.long se), .second, iv nn] [.ref w_ZERO] _
    jvm_step X1.here [X1.here.top, hx, (hb hby d5_12), X1.method', Bd.returns, Value.isRef, FieldType.isReference]
    first | (intro acts; rw [hr _ acts rfl rfl rfl]) | rw [hr _ _ rfl rfl rfl]
    exact Steps.refl _
  · show Q_create Z se nn w_ZERO h0 n0 _ T1.heap _
    rw [e1]
    exact ⟨w_ZERO, rfl, N0, K0, (E_w_ZERO.ext O.2), (by rw [own_z1 hc6]; exact (F_w_ZERO_seconds.ext O.2)), (by rw [own_z2 hc6]; exact (F_w_ZERO_nanos.ext O.2))⟩
set_option maxRecDepth 65536 in
set_option maxHeartbeats 40000000 in
theorem create_1 (l : Launch) (Z : State) (a0 : Array Value) (hw : ∀ d ∈ tables_1, d.before a0 Z = true) (ws : List Jvm.Cond) (se : Int64) (nn : Int32) (w_ZERO : Addr) (h0 : Heap) (n0 : Nat) (O : Old Z n0 h0) (S_w_ZERO : Sta Z Z.heap "java/time/Duration" "ZERO" "Ljava/time/Duration;" (.ref w_ZERO)) (E_w_ZERO : Exa Z Z.heap w_ZERO "java/time/Duration") (F_w_ZERO_seconds : Fld Z Z.heap w_ZERO "java/time/Duration" "seconds" "J" (.long (0 : Int64))) (F_w_ZERO_nanos : Fld Z Z.heap w_ZERO "java/time/Duration" "nanos" "I" (.int (0 : Int32))) (hc6 : ¬ ((lcmpW (se ||| (nn.toInt64)) (0 : Int64)) = (0 : Int32))) :
    Ctr l Z y_3 jdk_2316_method_16_code 3 (some (.object "java/time/Duration")) ws ({ frames := 2, cells := 1, slots := 2, locals := 28 } : Room) #[(.long se), (.int nn)] h0 (Q_create Z se nn w_ZERO h0 n0) := by
  refine MetFree.of_bodySF (plainFor_of_name pn_1) hisR ?_
  intro p e s m args below meth c s₁ Bd hml0 hP hK
  obtain ⟨rfl, hZ, hh⟩ := hP
  have W := fun (i : Nat) {d : Jvm.Cond} (h : tables_1[i]? = some d) => hw d (List.mem_of_getElem? h)
  have hx := Bd.exec
  have hby := Bd.bytes
  have hml : c.maxLocals = 3 := hml0
  have hown : s.vm.findClass "java/time/Duration" = some m.cls := findClass_of_methodNamed Bd.named
  have hnm := (name_of_methodNamed Bd.named Bd.method).1
  have X0 : Stand p l e ({ frames := 2, cells := 1, slots := 2, locals := 28 } : Room) s m #[(.long se), (.int nn)] below meth c s₁ [] 0 0 := Stand.of_body Bd
  have e0 : s₁.heap = h0 := by rw [← hh, Bd.state]; rfl
  have N0 := Fr.nil n0
  have pre0 : ∀ t, Steps p.tables e below (s₁.setTop (mkF m 0 #[.val (.long se), .second, .val (.int nn)] [])) t → Steps p.tables e below (s₁.setTop (entryFrame m #[(.long se), (.int nn)] 3)) t := fun t kk_ => castTop (ef_3 m se nn) kk_
  have K0 := Keep.refl h0 []
  obtain ⟨T1, h1, X1, e1, E1, A1, D1, -, st1⟩ := newO X0 hx hZ hown (W 23 rfl) (W 24 rfl) (W 16 rfl) e0 (g := (mkF m 13 #[.val (.long se), .second, iv nn] [])) rfl (hb hby d5_13) (by decide) (by decide)
  obtain ⟨b1, g1⟩ : ∃ z, z = h0.size := ⟨_, rfl⟩
  rw [← g1] at A1 D1 st1
  have g_b1 : n0 ≤ b1 := Nat.le_trans (own_sz O) (Nat.le_of_eq g1.symm)
  have sz_b1 : h0.size ≤ b1 := Nat.le_trans K0.1 (Nat.le_of_eq g1.symm)
  have O2 := O.ext E1
  have K3 := K0.ext E1
  have Fz4 : Fld Z h1 b1 "java/time/Duration" "seconds" "J" (.long (0 : Int64)) := D1 (Or.inr (W 31 rfl)) (ty := .long) (by decide)
  have Fz5 : Fld Z h1 b1 "java/time/Duration" "nanos" "I" (.int (0 : Int32)) := D1 (Or.inr (W 33 rfl)) (ty := .int) (by decide)
  obtain ⟨_, _, ⟨T6, L6, k6, n6⟩, -, X6, ⟨Lc6, hQ6, l6, y6, z6⟩, st6⟩ := X1.specialBack hx (y := y_2) rfl hown (mvT hZ (W 25 rfl)) (mvT hZ (W 26 rfl)) (mvT hZ (W 28 rfl)) (by decide) (backOf (W := 1) (dinit l Z a0 hw [] b1 se nn h1 n0 O2 A1 Fz4 Fz5 g_b1) hZ (W 28 rfl) (W 16 rfl) (by decide) (by decide)) (g := (mkF m 19 #[.val (.long se), .second, iv nn] [.int nn, .long se, .ref b1, .ref b1])) rfl (by rw [hml]; rfl) (Steps.refl _) (a := b1) (argsL := [.long se, .int nn]) (rest := [.ref b1]) (lenOf pd_0 rfl) rfl (by show 2 * 0 + _ ≤ _; exact Nat.le_of_eq rfl) (hb hby d5_19) (fun _ _ => ⟨rfl, e1, (by decide : 1 + 0 ≤ _), (by decide : 2 + 0 ≤ _)⟩)
  dsimp only [Pt.U, Pt.locs, Pt.cells, Pt.slots] at X6 l6 y6 z6 st6 hQ6
  subst l6 y6 z6
  obtain ⟨h6, e6⟩ : ∃ z, T6.heap = z := ⟨_, rfl⟩
  rw [e6] at hQ6
  obtain ⟨rfl, N6q, p6_0, p6_1, p6_2⟩ := hQ6
  have N6 := Fr.app N0 N6q
  have A1 := A1.keep p6_0
  have K8 := K3.trans p6_0 (allS (Or.inr sz_b1) all0)
  obtain ⟨fs, hr, hrun, hended, hW, hsame⟩ := X6.leave (v := some (.ref b1)) (fun h => by rw [Bd.returns] at h; cases h)
  refine ⟨_, _, pre0 _ ?_, hrun, hended, _, _, rfl, ?_, ⟨_, rfl⟩, hW, hsame.mono (by decide) (by decide)⟩
  · show Sq p e below m s₁ 0 #[.val (.long se), .second, iv nn] [] _
    refine XS.lloadN X0.here hx rfl (hb hby d5_0) rfl ?_
    refine XS.iloadN X0.here hx rfl (hb hby d5_1) rfl ?_
    show Sq p e below m s₁ 2 #[.val (.long se), .second, iv nn] [.int nn, .long se] _
    refine XS.i2l X0.here hx rfl (hb hby d5_2) rfl ?_
    refine XS.lor X0.here hx rfl (hb hby d5_3) rfl ?_
    show Sq p e below m s₁ 4 #[.val (.long se), .second, iv nn] [.long (se ||| (nn.toInt64))] _
    refine XS.lconst X0.here hx rfl (hb hby d5_4) ?_
    refine XS.lcmp X0.here hx rfl (hb hby d5_5) rfl ?_
    show Sq p e below m s₁ 6 #[.val (.long se), .second, iv nn] [.int (lcmpW (se ||| (nn.toInt64)) (0 : Int64))] _
    refine XS.ifYes X0.here hx rfl (pc0 := 6) (pc' := 13) rfl (hb hby d5_6) rfl ((if0 _ _).trans (feq hc6).2) (by decide) (by decide) ?_
    show Sq p e below m s₁ 13 #[.val (.long se), .second, iv nn] [] _
    refine st1 _ ?_
    show Sq p e below m T1 16 #[.val (.long se), .second, iv nn] [.ref b1] _
    refine XS.dup X1.here hx rfl (hb hby d5_16) rfl rfl ?_
    refine XS.lloadN X1.here hx rfl (hb hby d5_17) rfl ?_
    show Sq p e below m T1 18 #[.val (.long se), .second, iv nn] [.long se, .ref b1, .ref b1] _
    refine XS.iloadN X1.here hx rfl (hb hby d5_18) rfl ?_
    show Sq p e below m T1 19 #[.val (.long se), .second, iv nn] [.int nn, .long se, .ref b1, .ref b1] _
    refine st6.trans ?_
    show Sq p e below m T6 22 #[.val (.long se), .second, iv nn] [.ref b1] _
    jvm_step X6.here [X6.here.top, hx, (hb hby d5_22), X6.method', Bd.returns, Value.isRef, FieldType.isReference]
    first | (intro acts; rw [hr _ acts rfl rfl rfl]) | rw [hr _ _ rfl rfl rfl]
    exact Steps.refl _
  · show Q_create Z se nn w_ZERO h0 n0 _ T6.heap _
    rw [e6]
    exact ⟨b1, rfl, N6, K8, A1, p6_1, p6_2⟩
set_option maxRecDepth 65536 in
theorem create (l : Launch) (Z : State) (a0 : Array Value) (hw : ∀ d ∈ tables_1, d.before a0 Z = true) (ws : List Jvm.Cond) (se : Int64) (nn : Int32) (w_ZERO : Addr) (h0 : Heap) (n0 : Nat) (O : Old Z n0 h0) (S_w_ZERO : Sta Z Z.heap "java/time/Duration" "ZERO" "Ljava/time/Duration;" (.ref w_ZERO)) (E_w_ZERO : Exa Z Z.heap w_ZERO "java/time/Duration") (F_w_ZERO_seconds : Fld Z Z.heap w_ZERO "java/time/Duration" "seconds" "J" (.long (0 : Int64))) (F_w_ZERO_nanos : Fld Z Z.heap w_ZERO "java/time/Duration" "nanos" "I" (.int (0 : Int32))) :
    Ctr l Z y_3 jdk_2316_method_16_code 3 (some (.object "java/time/Duration")) ws ({ frames := 2, cells := 1, slots := 2, locals := 28 } : Room) #[(.long se), (.int nn)] h0 (Q_create Z se nn w_ZERO h0 n0) := by
  by_cases hc6 : (lcmpW (se ||| (nn.toInt64)) (0 : Int64)) = (0 : Int32)
  · exact create_0 l Z a0 hw ws se nn w_ZERO h0 n0 O S_w_ZERO E_w_ZERO F_w_ZERO_seconds F_w_ZERO_nanos hc6
  · exact create_1 l Z a0 hw ws se nn w_ZERO h0 n0 O S_w_ZERO E_w_ZERO F_w_ZERO_seconds F_w_ZERO_nanos hc6
theorem d4_0 : decode jdk_2316_method_6_code 0 = .ok (.lload_n 0, 1) := by decide +kernel
theorem d4_1 : decode jdk_2316_method_6_code 1 = .ok (.ldc2_w 28, 3) := by decide +kernel
theorem d4_4 : decode jdk_2316_method_6_code 4 = .ok (.ldiv, 1) := by decide +kernel
theorem d4_5 : decode jdk_2316_method_6_code 5 = .ok (.lstore_n 2, 1) := by decide +kernel
theorem d4_6 : decode jdk_2316_method_6_code 6 = .ok (.lload_n 0, 1) := by decide +kernel
theorem d4_7 : decode jdk_2316_method_6_code 7 = .ok (.ldc2_w 28, 3) := by decide +kernel
theorem d4_10 : decode jdk_2316_method_6_code 10 = .ok (.lrem, 1) := by decide +kernel
theorem d4_11 : decode jdk_2316_method_6_code 11 = .ok (.l2i, 1) := by decide +kernel
theorem d4_12 : decode jdk_2316_method_6_code 12 = .ok (.istore 4, 2) := by decide +kernel
theorem d4_14 : decode jdk_2316_method_6_code 14 = .ok (.iload 4, 2) := by decide +kernel
theorem d4_16 : decode jdk_2316_method_6_code 16 = .ok (.ifCond .ge 13, 3) := by decide +kernel
theorem d4_29 : decode jdk_2316_method_6_code 29 = .ok (.lload_n 2, 1) := by decide +kernel
theorem d4_30 : decode jdk_2316_method_6_code 30 = .ok (.iload 4, 2) := by decide +kernel
theorem d4_32 : decode jdk_2316_method_6_code 32 = .ok (.ldc 30, 2) := by decide +kernel
theorem d4_34 : decode jdk_2316_method_6_code 34 = .ok (.imul, 1) := by decide +kernel
theorem d4_35 : decode jdk_2316_method_6_code 35 = .ok (.invokestatic 10, 3) := by decide +kernel
theorem pd_1 : parseMethodDescriptor "(JI)Ljava/time/Duration;" = some ⟨[.long, .int], some (.object "java/time/Duration")⟩ := by decide +kernel
theorem d4_38 : decode jdk_2316_method_6_code 38 = .ok (.areturn, 1) := by decide +kernel
def Q_ofms (Z : State) (q : Int64) (w_ZERO : Addr) (h0 : Heap) (n0 : Nat) (v : Option Value) (h : Heap) (L : List Loc) : Prop := ∃ b : Addr, v = some (.ref b) ∧ Fr n0 L ∧ Keep h0 h [] ∧ Exa Z h b "java/time/Duration" ∧ Fld Z h b "java/time/Duration" "seconds" "J" (.long (q / (1000 : Int64))) ∧ Fld Z h b "java/time/Duration" "nanos" "I" (.int (((q - q / (1000 : Int64) * (1000 : Int64)).toInt32) * (1000000 : Int32)))
theorem ef_4 (m : MethodId) (x0 : Int64) : entryFrame m #[(.long x0)] 5 = mkF m 0 #[.val (.long x0), .second, .unset, .unset, .unset] [] := by first | (simp [entryFrame, mkF, argsToLocals, Value.category]; done) | rfl
abbrev y_4 : MethodName := ⟨"java/time/Duration", "ofMillis", "(J)Ljava/time/Duration;"⟩
set_option maxRecDepth 65536 in
set_option maxHeartbeats 40000000 in
theorem ofms (l : Launch) (Z : State) (a0 : Array Value) (hw : ∀ d ∈ tables_1, d.before a0 Z = true) (ws : List Jvm.Cond) (q : Int64) (w_ZERO : Addr) (h0 : Heap) (n0 : Nat) (O : Old Z n0 h0) (S_w_ZERO : Sta Z Z.heap "java/time/Duration" "ZERO" "Ljava/time/Duration;" (.ref w_ZERO)) (E_w_ZERO : Exa Z Z.heap w_ZERO "java/time/Duration") (F_w_ZERO_seconds : Fld Z Z.heap w_ZERO "java/time/Duration" "seconds" "J" (.long (0 : Int64))) (F_w_ZERO_nanos : Fld Z Z.heap w_ZERO "java/time/Duration" "nanos" "I" (.int (0 : Int32))) (hq : 0 ≤ q.toInt) :
    Ctr l Z y_4 jdk_2316_method_6_code 5 (some (.object "java/time/Duration")) ws ({ frames := 3, cells := 1, slots := 2, locals := 42 } : Room) #[(.long q)] h0 (Q_ofms Z q w_ZERO h0 n0) := by
  refine MetFree.of_bodySF (plainFor_of_name pn_1) hisR ?_
  intro p e s m args below meth c s₁ Bd hml0 hP hK
  obtain ⟨rfl, hZ, hh⟩ := hP
  have W := fun (i : Nat) {d : Jvm.Cond} (h : tables_1[i]? = some d) => hw d (List.mem_of_getElem? h)
  have hx := Bd.exec
  have hby := Bd.bytes
  have hml : c.maxLocals = 5 := hml0
  have hown : s.vm.findClass "java/time/Duration" = some m.cls := findClass_of_methodNamed Bd.named
  have hnm := (name_of_methodNamed Bd.named Bd.method).1
  have X0 : Stand p l e ({ frames := 3, cells := 1, slots := 2, locals := 42 } : Room) s m #[(.long q)] below meth c s₁ [] 0 0 := Stand.of_body Bd
  have e0 : s₁.heap = h0 := by rw [← hh, Bd.state]; rfl
  have N0 := Fr.nil n0
  have pre0 : ∀ t, Steps p.tables e below (s₁.setTop (mkF m 0 #[.val (.long q), .second, .unset, .unset, .unset] [])) t → Steps p.tables e below (s₁.setTop (entryFrame m #[(.long q)] 5)) t := fun t kk_ => castTop (ef_4 m q) kk_
  have K0 := Keep.refl h0 []
  obtain ⟨_, _, ⟨T1, L1, k1, n1⟩, -, X1, ⟨Lc1, hQ1, l1, y1, z1⟩, st1⟩ := Jvm.LawKit.callS X0 hx (y := y_3) hown (mvT hZ (W 20 rfl)) (mvT hZ (W 21 rfl)) (mvT hZ (W 16 rfl)) (mvT hZ (W 22 rfl)) (by decide) (backOf (W := 0) (create l Z a0 hw [] (q / (1000 : Int64)) (((q - q / (1000 : Int64) * (1000 : Int64)).toInt32) * (1000000 : Int32)) w_ZERO h0 n0 O S_w_ZERO E_w_ZERO F_w_ZERO_seconds F_w_ZERO_nanos) hZ (W 22 rfl) (W 16 rfl) (by decide) (by decide)) (g := (mkF m 35 #[.val (.long q), .second, .val (.long (q / (1000 : Int64))), .second, iv ((q - q / (1000 : Int64) * (1000 : Int64)).toInt32)] [.int (((q - q / (1000 : Int64) * (1000 : Int64)).toInt32) * (1000000 : Int32)), .long (q / (1000 : Int64))])) rfl (by rw [hml]; rfl) (argsL := [.long (q / (1000 : Int64)), .int (((q - q / (1000 : Int64) * (1000 : Int64)).toInt32) * (1000000 : Int32))]) (rest := []) (lenOf pd_1 rfl) rfl (by show 2 * 0 + _ ≤ _; exact Nat.le_of_eq rfl) (hb hby d4_35) (fun _ _ => ⟨rfl, e0, (by decide : 0 + 1 ≤ _), (by decide : 0 + 2 ≤ _)⟩)
  dsimp only [Pt.U, Pt.locs, Pt.cells, Pt.slots] at X1 l1 y1 z1 st1 hQ1
  subst l1 y1 z1
  obtain ⟨h1, e1⟩ : ∃ z, T1.heap = z := ⟨_, rfl⟩
  rw [e1] at hQ1
  obtain ⟨b1b, rfl, N1q, p1_0, p1_1, p1_2, p1_3⟩ := hQ1
  have N1 := Fr.app N0 N1q
  have K3 := K0.trans p1_0 all0
  obtain ⟨fs, hr, hrun, hended, hW, hsame⟩ := X1.leave (v := some (.ref b1b)) (fun h => by rw [Bd.returns] at h; cases h)
  refine ⟨_, _, pre0 _ ?_, hrun, hended, _, _, rfl, ?_, ⟨_, rfl⟩, hW, hsame.mono (by decide) (by decide)⟩
  · show Sq p e below m s₁ 0 #[.val (.long q), .second, .unset, .unset, .unset] [] _
    refine XS.lloadN X0.here hx rfl (hb hby d4_0) rfl ?_
    show Sq p e below m s₁ 1 #[.val (.long q), .second, .unset, .unset, .unset] [.long q] _
    refine X0.ldc2Long hx hown (mvT hZ (W 18 rfl)) (g := (mkF m 1 #[.val (.long q), .second, .unset, .unset, .unset] [.long q])) rfl (hb hby d4_1) _ ?_
    show Sq p e below m s₁ 4 #[.val (.long q), .second, .unset, .unset, .unset] [.long 1000, .long q] _
    refine XS.ldiv X0.here hx rfl (hb hby d4_4) rfl (by decide) ?_
    refine XS.lstoreN X0.here hx rfl (hb hby d4_5) rfl rfl ?_
    show Sq p e below m s₁ 6 #[.val (.long q), .second, .val (.long (q / (1000 : Int64))), .second, .unset] [] _
    refine XS.lloadN X0.here hx rfl (hb hby d4_6) rfl ?_
    show Sq p e below m s₁ 7 #[.val (.long q), .second, .val (.long (q / (1000 : Int64))), .second, .unset] [.long q] _
    refine X0.ldc2Long hx hown (mvT hZ (W 18 rfl)) (g := (mkF m 7 #[.val (.long q), .second, .val (.long (q / (1000 : Int64))), .second, .unset] [.long q])) rfl (hb hby d4_7) _ ?_
    show Sq p e below m s₁ 10 #[.val (.long q), .second, .val (.long (q / (1000 : Int64))), .second, .unset] [.long 1000, .long q] _
    refine XS.lrem X0.here hx rfl (hb hby d4_10) rfl (by decide) ?_
    refine XS.l2i X0.here hx rfl (hb hby d4_11) rfl ?_
    show Sq p e below m s₁ 12 #[.val (.long q), .second, .val (.long (q / (1000 : Int64))), .second, .unset] [.int ((q - q / (1000 : Int64) * (1000 : Int64)).toInt32)] _
    refine XS.istore X0.here hx rfl (hb hby d4_12) rfl rfl ?_
    refine XS.iload X0.here hx rfl (hb hby d4_14) rfl ?_
    show Sq p e below m s₁ 16 #[.val (.long q), .second, .val (.long (q / (1000 : Int64))), .second, iv ((q - q / (1000 : Int64) * (1000 : Int64)).toInt32)] [.int ((q - q / (1000 : Int64) * (1000 : Int64)).toInt32)] _
    refine XS.ifYes X0.here hx rfl (pc0 := 16) (pc' := 29) rfl (hb hby d4_16) rfl ((if0 _ _).trans (flt (own_mos hq : ¬ (((q - q / (1000 : Int64) * (1000 : Int64)).toInt32) < (0 : Int32)))).2.1) (by decide) (by decide) ?_
    refine XS.lloadN X0.here hx rfl (hb hby d4_29) rfl ?_
    show Sq p e below m s₁ 30 #[.val (.long q), .second, .val (.long (q / (1000 : Int64))), .second, iv ((q - q / (1000 : Int64) * (1000 : Int64)).toInt32)] [.long (q / (1000 : Int64))] _
    refine XS.iload X0.here hx rfl (hb hby d4_30) rfl ?_
    show Sq p e below m s₁ 32 #[.val (.long q), .second, .val (.long (q / (1000 : Int64))), .second, iv ((q - q / (1000 : Int64) * (1000 : Int64)).toInt32)] [.int ((q - q / (1000 : Int64) * (1000 : Int64)).toInt32), .long (q / (1000 : Int64))] _
    refine X0.ldcInt hx hown (mvT hZ (W 19 rfl)) (g := (mkF m 32 #[.val (.long q), .second, .val (.long (q / (1000 : Int64))), .second, iv ((q - q / (1000 : Int64) * (1000 : Int64)).toInt32)] [.int ((q - q / (1000 : Int64) * (1000 : Int64)).toInt32), .long (q / (1000 : Int64))])) rfl (hb hby d4_32) _ ?_
    show Sq p e below m s₁ 34 #[.val (.long q), .second, .val (.long (q / (1000 : Int64))), .second, iv ((q - q / (1000 : Int64) * (1000 : Int64)).toInt32)] [.int 1000000, .int ((q - q / (1000 : Int64) * (1000 : Int64)).toInt32), .long (q / (1000 : Int64))] _
    refine XS.imul X0.here hx rfl (hb hby d4_34) rfl ?_
    show Sq p e below m s₁ 35 #[.val (.long q), .second, .val (.long (q / (1000 : Int64))), .second, iv ((q - q / (1000 : Int64) * (1000 : Int64)).toInt32)] [.int (((q - q / (1000 : Int64) * (1000 : Int64)).toInt32) * (1000000 : Int32)), .long (q / (1000 : Int64))] _
    refine st1 _ ?_
    show Sq p e below m T1 38 #[.val (.long q), .second, .val (.long (q / (1000 : Int64))), .second, iv ((q - q / (1000 : Int64) * (1000 : Int64)).toInt32)] [.ref b1b] _
    jvm_step X1.here [X1.here.top, hx, (hb hby d4_38), X1.method', Bd.returns, Value.isRef, FieldType.isReference]
    first | (intro acts; rw [hr _ acts rfl rfl rfl]) | rw [hr _ _ rfl rfl rfl]
    exact Steps.refl _
  · show Q_ofms Z q w_ZERO h0 n0 _ T1.heap _
    rw [e1]
    exact ⟨b1b, rfl, N1, K3, p1_1, p1_2, p1_3⟩
theorem d11_0 : decode jdk_29_method_61_code 0 = .ok (.lload_n 0, 1) := by decide +kernel
theorem d11_1 : decode jdk_29_method_61_code 1 = .ok (.lconst 0, 1) := by decide +kernel
theorem d11_2 : decode jdk_29_method_61_code 2 = .ok (.lcmp, 1) := by decide +kernel
theorem d11_3 : decode jdk_29_method_61_code 3 = .ok (.ifCond .ge 8, 3) := by decide +kernel
theorem d11_11 : decode jdk_29_method_61_code 11 = .ok (.lload_n 0, 1) := by decide +kernel
theorem d11_12 : decode jdk_29_method_61_code 12 = .ok (.lreturn, 1) := by decide +kernel
def Q_absP (Z : State) (x1 : Int64) (h0 : Heap) (n0 : Nat) (v : Option Value) (h : Heap) (L : List Loc) : Prop := v = some (.long x1) ∧ Fr n0 L ∧ h = h0
theorem ef_5 (m : MethodId) (x0 : Int64) : entryFrame m #[(.long x0)] 2 = mkF m 0 #[.val (.long x0), .second] [] := by first | (simp [entryFrame, mkF, argsToLocals, Value.category]; done) | rfl
abbrev y_5 : MethodName := ⟨"java/lang/Math", "abs", "(J)J"⟩
set_option maxRecDepth 65536 in
set_option maxHeartbeats 40000000 in
theorem absP (l : Launch) (Z : State) (a0 : Array Value) (hw : ∀ d ∈ tables_1, d.before a0 Z = true) (ws : List Jvm.Cond) (x1 : Int64) (h0 : Heap) (n0 : Nat) (O : Old Z n0 h0) (hx0 : 0 ≤ x1.toInt ∧ x1.toInt ≤ 9223372036854775) :
    Ctr l Z y_5 jdk_29_method_61_code 2 (some .long) ws ({ frames := 0, cells := 0, slots := 0, locals := 0 } : Room) #[(.long x1)] h0 (Q_absP Z x1 h0 n0) := by
  refine MetFree.of_bodySF (Jvm.Free.JP.mathPlain rfl (by decide +kernel)) hisR ?_
  intro p e s m args below meth c s₁ Bd hml0 hP hK
  obtain ⟨rfl, hZ, hh⟩ := hP
  have W := fun (i : Nat) {d : Jvm.Cond} (h : tables_1[i]? = some d) => hw d (List.mem_of_getElem? h)
  have hx := Bd.exec
  have hby := Bd.bytes
  have hml : c.maxLocals = 2 := hml0
  have hown : s.vm.findClass "java/lang/Math" = some m.cls := findClass_of_methodNamed Bd.named
  have hnm := (name_of_methodNamed Bd.named Bd.method).1
  have X0 : Stand p l e ({ frames := 0, cells := 0, slots := 0, locals := 0 } : Room) s m #[(.long x1)] below meth c s₁ [] 0 0 := Stand.of_body Bd
  have e0 : s₁.heap = h0 := by rw [← hh, Bd.state]; rfl
  have N0 := Fr.nil n0
  have pre0 : ∀ t, Steps p.tables e below (s₁.setTop (mkF m 0 #[.val (.long x1), .second] [])) t → Steps p.tables e below (s₁.setTop (entryFrame m #[(.long x1)] 2)) t := fun t kk_ => castTop (ef_5 m x1) kk_
  obtain ⟨fs, hr, hrun, hended, hW, hsame⟩ := X0.leave (v := some (.long x1)) (fun h => by rw [Bd.returns] at h; cases h)
  refine ⟨_, _, pre0 _ ?_, hrun, hended, _, _, rfl, ?_, ⟨_, rfl⟩, hW, hsame.mono (by decide) (by decide)⟩
  · show Sq p e below m s₁ 0 #[.val (.long x1), .second] [] _
    refine XS.lloadN X0.here hx rfl (hb hby d11_0) rfl ?_
    refine XS.lconst X0.here hx rfl (hb hby d11_1) ?_
    show Sq p e below m s₁ 2 #[.val (.long x1), .second] [.long 0, .long x1] _
    refine XS.lcmp X0.here hx rfl (hb hby d11_2) rfl ?_
    refine XS.ifYes X0.here hx rfl (pc0 := 3) (pc' := 11) rfl (hb hby d11_3) rfl ((if0 _ _).trans (flt (own_cge hx0.1 : ¬ ((lcmpW x1 (0 : Int64)) < (0 : Int32)))).2.1) (by decide) (by decide) ?_
    show Sq p e below m s₁ 11 #[.val (.long x1), .second] [] _
    refine XS.lloadN X0.here hx rfl (hb hby d11_11) rfl ?_
    show Sq p e below m s₁ 12 #[.val (.long x1), .second] [.long x1] _
    jvm_step X0.here [X0.here.top, hx, (hb hby d11_12), X0.method', Bd.returns, narrow]
    first | (intro acts; rw [hr _ acts rfl rfl rfl]) | rw [hr _ _ rfl rfl rfl]
    exact Steps.refl _
  · show Q_absP Z x1 h0 n0 _ s₁.heap _
    rw [e0]
    exact ⟨rfl, N0, rfl⟩
def Q_absK (Z : State) (h0 : Heap) (n0 : Nat) (v : Option Value) (h : Heap) (L : List Loc) : Prop := v = some (.long (1000 : Int64)) ∧ Fr n0 L ∧ h = h0
theorem ef_6 (m : MethodId) (x0 : Int64) : entryFrame m #[(.long x0)] 2 = mkF m 0 #[.val (.long x0), .second] [] := by first | (simp [entryFrame, mkF, argsToLocals, Value.category]; done) | rfl
set_option maxRecDepth 65536 in
set_option maxHeartbeats 40000000 in
theorem absK (l : Launch) (Z : State) (a0 : Array Value) (hw : ∀ d ∈ tables_1, d.before a0 Z = true) (ws : List Jvm.Cond) (h0 : Heap) (n0 : Nat) (O : Old Z n0 h0) :
    Ctr l Z y_5 jdk_29_method_61_code 2 (some .long) ws ({ frames := 0, cells := 0, slots := 0, locals := 0 } : Room) #[(.long (1000 : Int64))] h0 (Q_absK Z  h0 n0) := by
  refine MetFree.of_bodySF (Jvm.Free.JP.mathPlain rfl (by decide +kernel)) hisR ?_
  intro p e s m args below meth c s₁ Bd hml0 hP hK
  obtain ⟨rfl, hZ, hh⟩ := hP
  have W := fun (i : Nat) {d : Jvm.Cond} (h : tables_1[i]? = some d) => hw d (List.mem_of_getElem? h)
  have hx := Bd.exec
  have hby := Bd.bytes
  have hml : c.maxLocals = 2 := hml0
  have hown : s.vm.findClass "java/lang/Math" = some m.cls := findClass_of_methodNamed Bd.named
  have hnm := (name_of_methodNamed Bd.named Bd.method).1
  have X0 : Stand p l e ({ frames := 0, cells := 0, slots := 0, locals := 0 } : Room) s m #[(.long (1000 : Int64))] below meth c s₁ [] 0 0 := Stand.of_body Bd
  have e0 : s₁.heap = h0 := by rw [← hh, Bd.state]; rfl
  have N0 := Fr.nil n0
  have pre0 : ∀ t, Steps p.tables e below (s₁.setTop (mkF m 0 #[.val (.long (1000 : Int64)), .second] [])) t → Steps p.tables e below (s₁.setTop (entryFrame m #[(.long (1000 : Int64))] 2)) t := fun t kk_ => castTop (ef_6 m (1000 : Int64)) kk_
  obtain ⟨fs, hr, hrun, hended, hW, hsame⟩ := X0.leave (v := some (.long (1000 : Int64))) (fun h => by rw [Bd.returns] at h; cases h)
  refine ⟨_, _, pre0 _ ?_, hrun, hended, _, _, rfl, ?_, ⟨_, rfl⟩, hW, hsame.mono (by decide) (by decide)⟩
  · show Sq p e below m s₁ 0 #[.val (.long 1000), .second] [] _
    refine XS.lloadN X0.here hx rfl (hb hby d11_0) rfl ?_
    refine XS.lconst X0.here hx rfl (hb hby d11_1) ?_
    show Sq p e below m s₁ 2 #[.val (.long 1000), .second] [.long 0, .long 1000] _
    refine XS.lcmp X0.here hx rfl (hb hby d11_2) rfl ?_
    show Sq p e below m s₁ 3 #[.val (.long 1000), .second] [.int (lcmpW (1000 : Int64) (0 : Int64))] _
    rw [show (lcmpW (1000 : Int64) (0 : Int64)) = (1 : Int32) from by decide]
    show Sq p e below m s₁ 3 #[.val (.long 1000), .second] [.int 1] _
    refine XS.ifYes X0.here hx rfl (pc0 := 3) (pc' := 11) rfl (hb hby d11_3) rfl ((if0 _ _).trans (flt (by decide)).2.1) (by decide) (by decide) ?_
    refine XS.lloadN X0.here hx rfl (hb hby d11_11) rfl ?_
    show Sq p e below m s₁ 12 #[.val (.long 1000), .second] [.long 1000] _
    jvm_step X0.here [X0.here.top, hx, (hb hby d11_12), X0.method', Bd.returns, narrow]
    first | (intro acts; rw [hr _ acts rfl rfl rfl]) | rw [hr _ _ rfl rfl rfl]
    exact Steps.refl _
  · show Q_absK Z  h0 n0 _ s₁.heap _
    rw [e0]
    exact ⟨rfl, N0, rfl⟩
theorem d10_0 : decode jdk_29_method_30_code 0 = .ok (.lload_n 0, 1) := by decide +kernel
theorem d10_1 : decode jdk_29_method_30_code 1 = .ok (.lload_n 2, 1) := by decide +kernel
theorem d10_2 : decode jdk_29_method_30_code 2 = .ok (.lmul, 1) := by decide +kernel
theorem d10_3 : decode jdk_29_method_30_code 3 = .ok (.lstore 4, 2) := by decide +kernel
theorem d10_5 : decode jdk_29_method_30_code 5 = .ok (.lload_n 0, 1) := by decide +kernel
theorem d10_6 : decode jdk_29_method_30_code 6 = .ok (.invokestatic 122, 3) := by decide +kernel
theorem pd_2 : parseMethodDescriptor "(J)J" = some ⟨[.long], some .long⟩ := by decide +kernel
theorem d10_9 : decode jdk_29_method_30_code 9 = .ok (.lstore 6, 2) := by decide +kernel
theorem d10_11 : decode jdk_29_method_30_code 11 = .ok (.lload_n 2, 1) := by decide +kernel
theorem d10_12 : decode jdk_29_method_30_code 12 = .ok (.invokestatic 122, 3) := by decide +kernel
theorem d10_15 : decode jdk_29_method_30_code 15 = .ok (.lstore 8, 2) := by decide +kernel
theorem d10_17 : decode jdk_29_method_30_code 17 = .ok (.lload 6, 2) := by decide +kernel
theorem d10_19 : decode jdk_29_method_30_code 19 = .ok (.lload 8, 2) := by decide +kernel
theorem d10_21 : decode jdk_29_method_30_code 21 = .ok (.lor, 1) := by decide +kernel
theorem d10_22 : decode jdk_29_method_30_code 22 = .ok (.bipush 31, 2) := by decide +kernel
theorem d10_24 : decode jdk_29_method_30_code 24 = .ok (.lushr, 1) := by decide +kernel
theorem d10_25 : decode jdk_29_method_30_code 25 = .ok (.lconst 0, 1) := by decide +kernel
theorem d10_26 : decode jdk_29_method_30_code 26 = .ok (.lcmp, 1) := by decide +kernel
theorem d10_27 : decode jdk_29_method_30_code 27 = .ok (.ifCond .eq 44, 3) := by decide +kernel
theorem d10_71 : decode jdk_29_method_30_code 71 = .ok (.lload 4, 2) := by decide +kernel
theorem d10_73 : decode jdk_29_method_30_code 73 = .ok (.lreturn, 1) := by decide +kernel
theorem d10_30 : decode jdk_29_method_30_code 30 = .ok (.lload_n 2, 1) := by decide +kernel
theorem d10_31 : decode jdk_29_method_30_code 31 = .ok (.lconst 0, 1) := by decide +kernel
theorem d10_32 : decode jdk_29_method_30_code 32 = .ok (.lcmp, 1) := by decide +kernel
theorem d10_33 : decode jdk_29_method_30_code 33 = .ok (.ifCond .eq 12, 3) := by decide +kernel
theorem d10_36 : decode jdk_29_method_30_code 36 = .ok (.lload 4, 2) := by decide +kernel
theorem d10_38 : decode jdk_29_method_30_code 38 = .ok (.lload_n 2, 1) := by decide +kernel
theorem d10_39 : decode jdk_29_method_30_code 39 = .ok (.ldiv, 1) := by decide +kernel
theorem d10_40 : decode jdk_29_method_30_code 40 = .ok (.lload_n 0, 1) := by decide +kernel
theorem d10_41 : decode jdk_29_method_30_code 41 = .ok (.lcmp, 1) := by decide +kernel
theorem d10_42 : decode jdk_29_method_30_code 42 = .ok (.ifCond .ne 19, 3) := by decide +kernel
theorem d10_45 : decode jdk_29_method_30_code 45 = .ok (.lload_n 0, 1) := by decide +kernel
theorem d10_46 : decode jdk_29_method_30_code 46 = .ok (.ldc2_w 128, 3) := by decide +kernel
theorem d10_49 : decode jdk_29_method_30_code 49 = .ok (.lcmp, 1) := by decide +kernel
theorem d10_50 : decode jdk_29_method_30_code 50 = .ok (.ifCond .ne 21, 3) := by decide +kernel
def Q_mulJJ (Z : State) (x1 : Int64) (h0 : Heap) (n0 : Nat) (v : Option Value) (h : Heap) (L : List Loc) : Prop := v = some (.long (x1 * (1000 : Int64))) ∧ Fr n0 L ∧ h = h0
theorem ef_7 (m : MethodId) (x0 : Int64) (x1 : Int64) : entryFrame m #[(.long x0), (.long x1)] 10 = mkF m 0 #[.val (.long x0), .second, .val (.long x1), .second, .unset, .unset, .unset, .unset, .unset, .unset] [] := by first | (simp [entryFrame, mkF, argsToLocals, Value.category]; done) | rfl
abbrev y_6 : MethodName := ⟨"java/lang/Math", "multiplyExact", "(JJ)J"⟩
set_option maxRecDepth 65536 in
set_option maxHeartbeats 40000000 in
theorem mulJJ_0 (l : Launch) (Z : State) (a0 : Array Value) (hw : ∀ d ∈ tables_1, d.before a0 Z = true) (ws : List Jvm.Cond) (x1 : Int64) (h0 : Heap) (n0 : Nat) (O : Old Z n0 h0) (hx0 : 0 ≤ x1.toInt ∧ x1.toInt ≤ 9223372036854775) (hc27 : (lcmpW (((x1 ||| (1000 : Int64)).toUInt64 >>> ((31 : Int32) &&& 0x3f).toInt64.toUInt64).toInt64) (0 : Int64)) = (0 : Int32)) :
    Ctr l Z y_6 jdk_29_method_30_code 10 (some .long) ws ({ frames := 1, cells := 0, slots := 0, locals := 13 } : Room) #[(.long x1), (.long (1000 : Int64))] h0 (Q_mulJJ Z x1 h0 n0) := by
  refine MetFree.of_bodySF (Jvm.Free.JP.mathPlain rfl (by decide +kernel)) hisR ?_
  intro p e s m args below meth c s₁ Bd hml0 hP hK
  obtain ⟨rfl, hZ, hh⟩ := hP
  have W := fun (i : Nat) {d : Jvm.Cond} (h : tables_1[i]? = some d) => hw d (List.mem_of_getElem? h)
  have hx := Bd.exec
  have hby := Bd.bytes
  have hml : c.maxLocals = 10 := hml0
  have hown : s.vm.findClass "java/lang/Math" = some m.cls := findClass_of_methodNamed Bd.named
  have hnm := (name_of_methodNamed Bd.named Bd.method).1
  have X0 : Stand p l e ({ frames := 1, cells := 0, slots := 0, locals := 13 } : Room) s m #[(.long x1), (.long (1000 : Int64))] below meth c s₁ [] 0 0 := Stand.of_body Bd
  have e0 : s₁.heap = h0 := by rw [← hh, Bd.state]; rfl
  have N0 := Fr.nil n0
  have pre0 : ∀ t, Steps p.tables e below (s₁.setTop (mkF m 0 #[.val (.long x1), .second, .val (.long (1000 : Int64)), .second, .unset, .unset, .unset, .unset, .unset, .unset] [])) t → Steps p.tables e below (s₁.setTop (entryFrame m #[(.long x1), (.long (1000 : Int64))] 10)) t := fun t kk_ => castTop (ef_7 m x1 (1000 : Int64)) kk_
  obtain ⟨_, _, ⟨T1, L1, k1, n1⟩, -, X1, ⟨Lc1, hQ1, l1, y1, z1⟩, st1⟩ := Jvm.LawKit.callS X0 hx (y := y_5) hown (mvT hZ (W 50 rfl)) (mvT hZ (W 51 rfl)) (mvT hZ (W 3 rfl)) (mvT hZ (W 52 rfl)) (by decide) (backOf (W := 0) (absP l Z a0 hw [] x1 h0 n0 O hx0) hZ (W 52 rfl) (W 3 rfl) (by decide) (by decide)) (g := (mkF m 6 #[.val (.long x1), .second, .val (.long 1000), .second, .val (.long (x1 * (1000 : Int64))), .second, .unset, .unset, .unset, .unset] [.long x1])) rfl (by rw [hml]; rfl) (argsL := [.long x1]) (rest := []) (lenOf pd_2 rfl) rfl (by show 2 * 0 + _ ≤ _; exact Nat.le_of_eq rfl) (hb hby d10_6) (fun _ _ => ⟨rfl, e0, (by decide : 0 + 0 ≤ _), (by decide : 0 + 0 ≤ _)⟩)
  dsimp only [Pt.U, Pt.locs, Pt.cells, Pt.slots] at X1 l1 y1 z1 st1 hQ1
  subst l1 y1 z1
  obtain ⟨h1, e1⟩ : ∃ z, T1.heap = z := ⟨_, rfl⟩
  rw [e1] at hQ1
  obtain ⟨rfl, N1q, p1_0⟩ := hQ1
  have N1 := Fr.app N0 N1q
  rw [p1_0] at e1
  obtain ⟨_, _, ⟨T2, L2, k2, n2⟩, -, X2, ⟨Lc2, hQ2, l2, y2, z2⟩, st2⟩ := Jvm.LawKit.callS X1 hx (y := y_5) hown (mvT hZ (W 50 rfl)) (mvT hZ (W 51 rfl)) (mvT hZ (W 3 rfl)) (mvT hZ (W 52 rfl)) (by decide) (backOf (W := 0) (absK l Z a0 hw []  h0 n0 O ) hZ (W 52 rfl) (W 3 rfl) (by decide) (by decide)) (g := (mkF m 12 #[.val (.long x1), .second, .val (.long 1000), .second, .val (.long (x1 * (1000 : Int64))), .second, .val (.long x1), .second, .unset, .unset] [.long 1000])) rfl (by rw [hml]; rfl) (argsL := [.long 1000]) (rest := []) (lenOf pd_2 rfl) rfl (by show 2 * 0 + _ ≤ _; exact Nat.le_of_eq rfl) (hb hby d10_12) (fun _ _ => ⟨rfl, e1, (by decide : 0 + 0 ≤ _), (by decide : 0 + 0 ≤ _)⟩)
  dsimp only [Pt.U, Pt.locs, Pt.cells, Pt.slots] at X2 l2 y2 z2 st2 hQ2
  subst l2 y2 z2
  obtain ⟨h2, e2⟩ : ∃ z, T2.heap = z := ⟨_, rfl⟩
  rw [e2] at hQ2
  obtain ⟨rfl, N2q, p2_0⟩ := hQ2
  have N2 := Fr.app N1 N2q
  rw [p2_0] at e2
  obtain ⟨fs, hr, hrun, hended, hW, hsame⟩ := X2.leave (v := some (.long (x1 * (1000 : Int64)))) (fun h => by rw [Bd.returns] at h; cases h)
  refine ⟨_, _, pre0 _ ?_, hrun, hended, _, _, rfl, ?_, ⟨_, rfl⟩, hW, hsame.mono (by decide) (by decide)⟩
  · show Sq p e below m s₁ 0 #[.val (.long x1), .second, .val (.long 1000), .second, .unset, .unset, .unset, .unset, .unset, .unset] [] _
    refine XS.lloadN X0.here hx rfl (hb hby d10_0) rfl ?_
    refine XS.lloadN X0.here hx rfl (hb hby d10_1) rfl ?_
    show Sq p e below m s₁ 2 #[.val (.long x1), .second, .val (.long 1000), .second, .unset, .unset, .unset, .unset, .unset, .unset] [.long 1000, .long x1] _
    refine XS.lmul X0.here hx rfl (hb hby d10_2) rfl ?_
    refine XS.lstore X0.here hx rfl (hb hby d10_3) rfl rfl ?_
    show Sq p e below m s₁ 5 #[.val (.long x1), .second, .val (.long 1000), .second, .val (.long (x1 * (1000 : Int64))), .second, .unset, .unset, .unset, .unset] [] _
    refine XS.lloadN X0.here hx rfl (hb hby d10_5) rfl ?_
    show Sq p e below m s₁ 6 #[.val (.long x1), .second, .val (.long 1000), .second, .val (.long (x1 * (1000 : Int64))), .second, .unset, .unset, .unset, .unset] [.long x1] _
    refine st1 _ ?_
    show Sq p e below m T1 9 #[.val (.long x1), .second, .val (.long 1000), .second, .val (.long (x1 * (1000 : Int64))), .second, .unset, .unset, .unset, .unset] [.long x1] _
    refine XS.lstore X1.here hx rfl (hb hby d10_9) rfl rfl ?_
    refine XS.lloadN X1.here hx rfl (hb hby d10_11) rfl ?_
    show Sq p e below m T1 12 #[.val (.long x1), .second, .val (.long 1000), .second, .val (.long (x1 * (1000 : Int64))), .second, .val (.long x1), .second, .unset, .unset] [.long 1000] _
    refine st2 _ ?_
    show Sq p e below m T2 15 #[.val (.long x1), .second, .val (.long 1000), .second, .val (.long (x1 * (1000 : Int64))), .second, .val (.long x1), .second, .unset, .unset] [.long 1000] _
    refine XS.lstore X2.here hx rfl (hb hby d10_15) rfl rfl ?_
    refine XS.lload X2.here hx rfl (hb hby d10_17) rfl ?_
    show Sq p e below m T2 19 #[.val (.long x1), .second, .val (.long 1000), .second, .val (.long (x1 * (1000 : Int64))), .second, .val (.long x1), .second, .val (.long 1000), .second] [.long x1] _
    refine XS.lload X2.here hx rfl (hb hby d10_19) rfl ?_
    refine XS.lor X2.here hx rfl (hb hby d10_21) rfl ?_
    show Sq p e below m T2 22 #[.val (.long x1), .second, .val (.long 1000), .second, .val (.long (x1 * (1000 : Int64))), .second, .val (.long x1), .second, .val (.long 1000), .second] [.long (x1 ||| (1000 : Int64))] _
    refine XS.bipush X2.here hx rfl (hb hby d10_22) ?_
    show Sq p e below m T2 24 #[.val (.long x1), .second, .val (.long 1000), .second, .val (.long (x1 * (1000 : Int64))), .second, .val (.long x1), .second, .val (.long 1000), .second] [.int 31, .long (x1 ||| (1000 : Int64))] _
    refine XS.lushr X2.here hx rfl (hb hby d10_24) rfl ?_
    refine XS.lconst X2.here hx rfl (hb hby d10_25) ?_
    show Sq p e below m T2 26 #[.val (.long x1), .second, .val (.long 1000), .second, .val (.long (x1 * (1000 : Int64))), .second, .val (.long x1), .second, .val (.long 1000), .second] [.long 0, .long (((x1 ||| (1000 : Int64)).toUInt64 >>> ((31 : Int32) &&& 0x3f).toInt64.toUInt64).toInt64)] _
    refine XS.lcmp X2.here hx rfl (hb hby d10_26) rfl ?_
    refine XS.ifYes X2.here hx rfl (pc0 := 27) (pc' := 71) rfl (hb hby d10_27) rfl ((if0 _ _).trans (teq hc27).1) (by decide) (by decide) ?_
    show Sq p e below m T2 71 #[.val (.long x1), .second, .val (.long 1000), .second, .val (.long (x1 * (1000 : Int64))), .second, .val (.long x1), .second, .val (.long 1000), .second] [] _
    refine XS.lload X2.here hx rfl (hb hby d10_71) rfl ?_
    show Sq p e below m T2 73 #[.val (.long x1), .second, .val (.long 1000), .second, .val (.long (x1 * (1000 : Int64))), .second, .val (.long x1), .second, .val (.long 1000), .second] [.long (x1 * (1000 : Int64))] _
    jvm_step X2.here [X2.here.top, hx, (hb hby d10_73), X2.method', Bd.returns, narrow]
    first | (intro acts; rw [hr _ acts rfl rfl rfl]) | rw [hr _ _ rfl rfl rfl]
    exact Steps.refl _
  · show Q_mulJJ Z x1 h0 n0 _ T2.heap _
    rw [e2]
    exact ⟨rfl, N2, rfl⟩
set_option maxRecDepth 65536 in
set_option maxHeartbeats 40000000 in
theorem mulJJ_1 (l : Launch) (Z : State) (a0 : Array Value) (hw : ∀ d ∈ tables_1, d.before a0 Z = true) (ws : List Jvm.Cond) (x1 : Int64) (h0 : Heap) (n0 : Nat) (O : Old Z n0 h0) (hx0 : 0 ≤ x1.toInt ∧ x1.toInt ≤ 9223372036854775) (hc27 : ¬ ((lcmpW (((x1 ||| (1000 : Int64)).toUInt64 >>> ((31 : Int32) &&& 0x3f).toInt64.toUInt64).toInt64) (0 : Int64)) = (0 : Int32))) :
    Ctr l Z y_6 jdk_29_method_30_code 10 (some .long) ws ({ frames := 1, cells := 0, slots := 0, locals := 13 } : Room) #[(.long x1), (.long (1000 : Int64))] h0 (Q_mulJJ Z x1 h0 n0) := by
  refine MetFree.of_bodySF (Jvm.Free.JP.mathPlain rfl (by decide +kernel)) hisR ?_
  intro p e s m args below meth c s₁ Bd hml0 hP hK
  obtain ⟨rfl, hZ, hh⟩ := hP
  have W := fun (i : Nat) {d : Jvm.Cond} (h : tables_1[i]? = some d) => hw d (List.mem_of_getElem? h)
  have hx := Bd.exec
  have hby := Bd.bytes
  have hml : c.maxLocals = 10 := hml0
  have hown : s.vm.findClass "java/lang/Math" = some m.cls := findClass_of_methodNamed Bd.named
  have hnm := (name_of_methodNamed Bd.named Bd.method).1
  have X0 : Stand p l e ({ frames := 1, cells := 0, slots := 0, locals := 13 } : Room) s m #[(.long x1), (.long (1000 : Int64))] below meth c s₁ [] 0 0 := Stand.of_body Bd
  have e0 : s₁.heap = h0 := by rw [← hh, Bd.state]; rfl
  have N0 := Fr.nil n0
  have pre0 : ∀ t, Steps p.tables e below (s₁.setTop (mkF m 0 #[.val (.long x1), .second, .val (.long (1000 : Int64)), .second, .unset, .unset, .unset, .unset, .unset, .unset] [])) t → Steps p.tables e below (s₁.setTop (entryFrame m #[(.long x1), (.long (1000 : Int64))] 10)) t := fun t kk_ => castTop (ef_7 m x1 (1000 : Int64)) kk_
  obtain ⟨_, _, ⟨T1, L1, k1, n1⟩, -, X1, ⟨Lc1, hQ1, l1, y1, z1⟩, st1⟩ := Jvm.LawKit.callS X0 hx (y := y_5) hown (mvT hZ (W 50 rfl)) (mvT hZ (W 51 rfl)) (mvT hZ (W 3 rfl)) (mvT hZ (W 52 rfl)) (by decide) (backOf (W := 0) (absP l Z a0 hw [] x1 h0 n0 O hx0) hZ (W 52 rfl) (W 3 rfl) (by decide) (by decide)) (g := (mkF m 6 #[.val (.long x1), .second, .val (.long 1000), .second, .val (.long (x1 * (1000 : Int64))), .second, .unset, .unset, .unset, .unset] [.long x1])) rfl (by rw [hml]; rfl) (argsL := [.long x1]) (rest := []) (lenOf pd_2 rfl) rfl (by show 2 * 0 + _ ≤ _; exact Nat.le_of_eq rfl) (hb hby d10_6) (fun _ _ => ⟨rfl, e0, (by decide : 0 + 0 ≤ _), (by decide : 0 + 0 ≤ _)⟩)
  dsimp only [Pt.U, Pt.locs, Pt.cells, Pt.slots] at X1 l1 y1 z1 st1 hQ1
  subst l1 y1 z1
  obtain ⟨h1, e1⟩ : ∃ z, T1.heap = z := ⟨_, rfl⟩
  rw [e1] at hQ1
  obtain ⟨rfl, N1q, p1_0⟩ := hQ1
  have N1 := Fr.app N0 N1q
  rw [p1_0] at e1
  obtain ⟨_, _, ⟨T2, L2, k2, n2⟩, -, X2, ⟨Lc2, hQ2, l2, y2, z2⟩, st2⟩ := Jvm.LawKit.callS X1 hx (y := y_5) hown (mvT hZ (W 50 rfl)) (mvT hZ (W 51 rfl)) (mvT hZ (W 3 rfl)) (mvT hZ (W 52 rfl)) (by decide) (backOf (W := 0) (absK l Z a0 hw []  h0 n0 O ) hZ (W 52 rfl) (W 3 rfl) (by decide) (by decide)) (g := (mkF m 12 #[.val (.long x1), .second, .val (.long 1000), .second, .val (.long (x1 * (1000 : Int64))), .second, .val (.long x1), .second, .unset, .unset] [.long 1000])) rfl (by rw [hml]; rfl) (argsL := [.long 1000]) (rest := []) (lenOf pd_2 rfl) rfl (by show 2 * 0 + _ ≤ _; exact Nat.le_of_eq rfl) (hb hby d10_12) (fun _ _ => ⟨rfl, e1, (by decide : 0 + 0 ≤ _), (by decide : 0 + 0 ≤ _)⟩)
  dsimp only [Pt.U, Pt.locs, Pt.cells, Pt.slots] at X2 l2 y2 z2 st2 hQ2
  subst l2 y2 z2
  obtain ⟨h2, e2⟩ : ∃ z, T2.heap = z := ⟨_, rfl⟩
  rw [e2] at hQ2
  obtain ⟨rfl, N2q, p2_0⟩ := hQ2
  have N2 := Fr.app N1 N2q
  rw [p2_0] at e2
  obtain ⟨fs, hr, hrun, hended, hW, hsame⟩ := X2.leave (v := some (.long (x1 * (1000 : Int64)))) (fun h => by rw [Bd.returns] at h; cases h)
  refine ⟨_, _, pre0 _ ?_, hrun, hended, _, _, rfl, ?_, ⟨_, rfl⟩, hW, hsame.mono (by decide) (by decide)⟩
  · show Sq p e below m s₁ 0 #[.val (.long x1), .second, .val (.long 1000), .second, .unset, .unset, .unset, .unset, .unset, .unset] [] _
    refine XS.lloadN X0.here hx rfl (hb hby d10_0) rfl ?_
    refine XS.lloadN X0.here hx rfl (hb hby d10_1) rfl ?_
    show Sq p e below m s₁ 2 #[.val (.long x1), .second, .val (.long 1000), .second, .unset, .unset, .unset, .unset, .unset, .unset] [.long 1000, .long x1] _
    refine XS.lmul X0.here hx rfl (hb hby d10_2) rfl ?_
    refine XS.lstore X0.here hx rfl (hb hby d10_3) rfl rfl ?_
    show Sq p e below m s₁ 5 #[.val (.long x1), .second, .val (.long 1000), .second, .val (.long (x1 * (1000 : Int64))), .second, .unset, .unset, .unset, .unset] [] _
    refine XS.lloadN X0.here hx rfl (hb hby d10_5) rfl ?_
    show Sq p e below m s₁ 6 #[.val (.long x1), .second, .val (.long 1000), .second, .val (.long (x1 * (1000 : Int64))), .second, .unset, .unset, .unset, .unset] [.long x1] _
    refine st1 _ ?_
    show Sq p e below m T1 9 #[.val (.long x1), .second, .val (.long 1000), .second, .val (.long (x1 * (1000 : Int64))), .second, .unset, .unset, .unset, .unset] [.long x1] _
    refine XS.lstore X1.here hx rfl (hb hby d10_9) rfl rfl ?_
    refine XS.lloadN X1.here hx rfl (hb hby d10_11) rfl ?_
    show Sq p e below m T1 12 #[.val (.long x1), .second, .val (.long 1000), .second, .val (.long (x1 * (1000 : Int64))), .second, .val (.long x1), .second, .unset, .unset] [.long 1000] _
    refine st2 _ ?_
    show Sq p e below m T2 15 #[.val (.long x1), .second, .val (.long 1000), .second, .val (.long (x1 * (1000 : Int64))), .second, .val (.long x1), .second, .unset, .unset] [.long 1000] _
    refine XS.lstore X2.here hx rfl (hb hby d10_15) rfl rfl ?_
    refine XS.lload X2.here hx rfl (hb hby d10_17) rfl ?_
    show Sq p e below m T2 19 #[.val (.long x1), .second, .val (.long 1000), .second, .val (.long (x1 * (1000 : Int64))), .second, .val (.long x1), .second, .val (.long 1000), .second] [.long x1] _
    refine XS.lload X2.here hx rfl (hb hby d10_19) rfl ?_
    refine XS.lor X2.here hx rfl (hb hby d10_21) rfl ?_
    show Sq p e below m T2 22 #[.val (.long x1), .second, .val (.long 1000), .second, .val (.long (x1 * (1000 : Int64))), .second, .val (.long x1), .second, .val (.long 1000), .second] [.long (x1 ||| (1000 : Int64))] _
    refine XS.bipush X2.here hx rfl (hb hby d10_22) ?_
    show Sq p e below m T2 24 #[.val (.long x1), .second, .val (.long 1000), .second, .val (.long (x1 * (1000 : Int64))), .second, .val (.long x1), .second, .val (.long 1000), .second] [.int 31, .long (x1 ||| (1000 : Int64))] _
    refine XS.lushr X2.here hx rfl (hb hby d10_24) rfl ?_
    refine XS.lconst X2.here hx rfl (hb hby d10_25) ?_
    show Sq p e below m T2 26 #[.val (.long x1), .second, .val (.long 1000), .second, .val (.long (x1 * (1000 : Int64))), .second, .val (.long x1), .second, .val (.long 1000), .second] [.long 0, .long (((x1 ||| (1000 : Int64)).toUInt64 >>> ((31 : Int32) &&& 0x3f).toInt64.toUInt64).toInt64)] _
    refine XS.lcmp X2.here hx rfl (hb hby d10_26) rfl ?_
    refine XS.ifNo X2.here hx rfl (hb hby d10_27) rfl ((if0 _ _).trans (feq hc27).1) ?_
    show Sq p e below m T2 30 #[.val (.long x1), .second, .val (.long 1000), .second, .val (.long (x1 * (1000 : Int64))), .second, .val (.long x1), .second, .val (.long 1000), .second] [] _
    refine XS.lloadN X2.here hx rfl (hb hby d10_30) rfl ?_
    refine XS.lconst X2.here hx rfl (hb hby d10_31) ?_
    show Sq p e below m T2 32 #[.val (.long x1), .second, .val (.long 1000), .second, .val (.long (x1 * (1000 : Int64))), .second, .val (.long x1), .second, .val (.long 1000), .second] [.long 0, .long 1000] _
    refine XS.lcmp X2.here hx rfl (hb hby d10_32) rfl ?_
    show Sq p e below m T2 33 #[.val (.long x1), .second, .val (.long 1000), .second, .val (.long (x1 * (1000 : Int64))), .second, .val (.long x1), .second, .val (.long 1000), .second] [.int (lcmpW (1000 : Int64) (0 : Int64))] _
    rw [show (lcmpW (1000 : Int64) (0 : Int64)) = (1 : Int32) from by decide]
    show Sq p e below m T2 33 #[.val (.long x1), .second, .val (.long 1000), .second, .val (.long (x1 * (1000 : Int64))), .second, .val (.long x1), .second, .val (.long 1000), .second] [.int 1] _
    refine XS.ifNo X2.here hx rfl (hb hby d10_33) rfl ((if0 _ _).trans (feq (by decide)).1) ?_
    refine XS.lload X2.here hx rfl (hb hby d10_36) rfl ?_
    show Sq p e below m T2 38 #[.val (.long x1), .second, .val (.long 1000), .second, .val (.long (x1 * (1000 : Int64))), .second, .val (.long x1), .second, .val (.long 1000), .second] [.long (x1 * (1000 : Int64))] _
    refine XS.lloadN X2.here hx rfl (hb hby d10_38) rfl ?_
    show Sq p e below m T2 39 #[.val (.long x1), .second, .val (.long 1000), .second, .val (.long (x1 * (1000 : Int64))), .second, .val (.long x1), .second, .val (.long 1000), .second] [.long 1000, .long (x1 * (1000 : Int64))] _
    refine XS.ldiv X2.here hx rfl (hb hby d10_39) rfl (by decide) ?_
    refine XS.lloadN X2.here hx rfl (hb hby d10_40) rfl ?_
    show Sq p e below m T2 41 #[.val (.long x1), .second, .val (.long 1000), .second, .val (.long (x1 * (1000 : Int64))), .second, .val (.long x1), .second, .val (.long 1000), .second] [.long x1, .long ((x1 * (1000 : Int64)) / (1000 : Int64))] _
    refine XS.lcmp X2.here hx rfl (hb hby d10_41) rfl ?_
    refine XS.ifNo X2.here hx rfl (hb hby d10_42) rfl ((if0 _ _).trans (teq (own_md hx0 : (lcmpW ((x1 * (1000 : Int64)) / (1000 : Int64)) x1) = (0 : Int32))).2) ?_
    show Sq p e below m T2 45 #[.val (.long x1), .second, .val (.long 1000), .second, .val (.long (x1 * (1000 : Int64))), .second, .val (.long x1), .second, .val (.long 1000), .second] [] _
    refine XS.lloadN X2.here hx rfl (hb hby d10_45) rfl ?_
    show Sq p e below m T2 46 #[.val (.long x1), .second, .val (.long 1000), .second, .val (.long (x1 * (1000 : Int64))), .second, .val (.long x1), .second, .val (.long 1000), .second] [.long x1] _
    refine X2.ldc2Long hx hown (mvT hZ (W 72 rfl)) (g := (mkF m 46 #[.val (.long x1), .second, .val (.long 1000), .second, .val (.long (x1 * (1000 : Int64))), .second, .val (.long x1), .second, .val (.long 1000), .second] [.long x1])) rfl (hb hby d10_46) _ ?_
    show Sq p e below m T2 49 #[.val (.long x1), .second, .val (.long 1000), .second, .val (.long (x1 * (1000 : Int64))), .second, .val (.long x1), .second, .val (.long 1000), .second] [.long (-9223372036854775808), .long x1] _
    refine XS.lcmp X2.here hx rfl (hb hby d10_49) rfl ?_
    refine XS.ifYes X2.here hx rfl (pc0 := 50) (pc' := 71) rfl (hb hby d10_50) rfl ((if0 _ _).trans (feq (own_nmin hx0.1 : ¬ ((lcmpW x1 (-9223372036854775808 : Int64)) = (0 : Int32)))).2) (by decide) (by decide) ?_
    show Sq p e below m T2 71 #[.val (.long x1), .second, .val (.long 1000), .second, .val (.long (x1 * (1000 : Int64))), .second, .val (.long x1), .second, .val (.long 1000), .second] [] _
    refine XS.lload X2.here hx rfl (hb hby d10_71) rfl ?_
    show Sq p e below m T2 73 #[.val (.long x1), .second, .val (.long 1000), .second, .val (.long (x1 * (1000 : Int64))), .second, .val (.long x1), .second, .val (.long 1000), .second] [.long (x1 * (1000 : Int64))] _
    jvm_step X2.here [X2.here.top, hx, (hb hby d10_73), X2.method', Bd.returns, narrow]
    first | (intro acts; rw [hr _ acts rfl rfl rfl]) | rw [hr _ _ rfl rfl rfl]
    exact Steps.refl _
  · show Q_mulJJ Z x1 h0 n0 _ T2.heap _
    rw [e2]
    exact ⟨rfl, N2, rfl⟩
set_option maxRecDepth 65536 in
theorem mulJJ (l : Launch) (Z : State) (a0 : Array Value) (hw : ∀ d ∈ tables_1, d.before a0 Z = true) (ws : List Jvm.Cond) (x1 : Int64) (h0 : Heap) (n0 : Nat) (O : Old Z n0 h0) (hx0 : 0 ≤ x1.toInt ∧ x1.toInt ≤ 9223372036854775) :
    Ctr l Z y_6 jdk_29_method_30_code 10 (some .long) ws ({ frames := 1, cells := 0, slots := 0, locals := 13 } : Room) #[(.long x1), (.long (1000 : Int64))] h0 (Q_mulJJ Z x1 h0 n0) := by
  by_cases hc27 : (lcmpW (((x1 ||| (1000 : Int64)).toUInt64 >>> ((31 : Int32) &&& 0x3f).toInt64.toUInt64).toInt64) (0 : Int64)) = (0 : Int32)
  · exact mulJJ_0 l Z a0 hw ws x1 h0 n0 O hx0 hc27
  · exact mulJJ_1 l Z a0 hw ws x1 h0 n0 O hx0 hc27
theorem d9_0 : decode jdk_29_method_29_code 0 = .ok (.lload_n 0, 1) := by decide +kernel
theorem d9_1 : decode jdk_29_method_29_code 1 = .ok (.iload_n 2, 1) := by decide +kernel
theorem d9_2 : decode jdk_29_method_29_code 2 = .ok (.i2l, 1) := by decide +kernel
theorem d9_3 : decode jdk_29_method_29_code 3 = .ok (.invokestatic 118, 3) := by decide +kernel
theorem pd_3 : parseMethodDescriptor "(JJ)J" = some ⟨[.long, .long], some .long⟩ := by decide +kernel
theorem d9_6 : decode jdk_29_method_29_code 6 = .ok (.lreturn, 1) := by decide +kernel
def Q_mulJI (Z : State) (x1 : Int64) (h0 : Heap) (n0 : Nat) (v : Option Value) (h : Heap) (L : List Loc) : Prop := v = some (.long (x1 * (1000 : Int64))) ∧ Fr n0 L ∧ h = h0
theorem ef_8 (m : MethodId) (x0 : Int64) (x1 : Int32) : entryFrame m #[(.long x0), (.int x1)] 3 = mkF m 0 #[.val (.long x0), .second, .val (.int x1)] [] := by first | (simp [entryFrame, mkF, argsToLocals, Value.category]; done) | rfl
abbrev y_7 : MethodName := ⟨"java/lang/Math", "multiplyExact", "(JI)J"⟩
set_option maxRecDepth 65536 in
set_option maxHeartbeats 40000000 in
theorem mulJI (l : Launch) (Z : State) (a0 : Array Value) (hw : ∀ d ∈ tables_1, d.before a0 Z = true) (ws : List Jvm.Cond) (x1 : Int64) (h0 : Heap) (n0 : Nat) (O : Old Z n0 h0) (hx0 : 0 ≤ x1.toInt ∧ x1.toInt ≤ 9223372036854775) :
    Ctr l Z y_7 jdk_29_method_29_code 3 (some .long) ws ({ frames := 2, cells := 0, slots := 0, locals := 34 } : Room) #[(.long x1), (.int (1000 : Int32))] h0 (Q_mulJI Z x1 h0 n0) := by
  refine MetFree.of_bodySF (Jvm.Free.JP.mathPlain rfl (by decide +kernel)) hisR ?_
  intro p e s m args below meth c s₁ Bd hml0 hP hK
  obtain ⟨rfl, hZ, hh⟩ := hP
  have W := fun (i : Nat) {d : Jvm.Cond} (h : tables_1[i]? = some d) => hw d (List.mem_of_getElem? h)
  have hx := Bd.exec
  have hby := Bd.bytes
  have hml : c.maxLocals = 3 := hml0
  have hown : s.vm.findClass "java/lang/Math" = some m.cls := findClass_of_methodNamed Bd.named
  have hnm := (name_of_methodNamed Bd.named Bd.method).1
  have X0 : Stand p l e ({ frames := 2, cells := 0, slots := 0, locals := 34 } : Room) s m #[(.long x1), (.int (1000 : Int32))] below meth c s₁ [] 0 0 := Stand.of_body Bd
  have e0 : s₁.heap = h0 := by rw [← hh, Bd.state]; rfl
  have N0 := Fr.nil n0
  have pre0 : ∀ t, Steps p.tables e below (s₁.setTop (mkF m 0 #[.val (.long x1), .second, .val (.int (1000 : Int32))] [])) t → Steps p.tables e below (s₁.setTop (entryFrame m #[(.long x1), (.int (1000 : Int32))] 3)) t := fun t kk_ => castTop (ef_8 m x1 (1000 : Int32)) kk_
  obtain ⟨_, _, ⟨T1, L1, k1, n1⟩, -, X1, ⟨Lc1, hQ1, l1, y1, z1⟩, st1⟩ := Jvm.LawKit.callS X0 hx (y := y_6) hown (mvT hZ (W 47 rfl)) (mvT hZ (W 48 rfl)) (mvT hZ (W 3 rfl)) (mvT hZ (W 49 rfl)) (by decide) (backOf (W := 0) (mulJJ l Z a0 hw [] x1 h0 n0 O hx0) hZ (W 49 rfl) (W 3 rfl) (by decide) (by decide)) (g := (mkF m 3 #[.val (.long x1), .second, iv 1000] [.long 1000, .long x1])) rfl (by rw [hml]; rfl) (argsL := [.long x1, .long 1000]) (rest := []) (lenOf pd_3 rfl) rfl (by show 2 * 0 + _ ≤ _; exact Nat.le_of_eq rfl) (hb hby d9_3) (fun _ _ => ⟨rfl, e0, (by decide : 0 + 0 ≤ _), (by decide : 0 + 0 ≤ _)⟩)
  dsimp only [Pt.U, Pt.locs, Pt.cells, Pt.slots] at X1 l1 y1 z1 st1 hQ1
  subst l1 y1 z1
  obtain ⟨h1, e1⟩ : ∃ z, T1.heap = z := ⟨_, rfl⟩
  rw [e1] at hQ1
  obtain ⟨rfl, N1q, p1_0⟩ := hQ1
  have N1 := Fr.app N0 N1q
  rw [p1_0] at e1
  obtain ⟨fs, hr, hrun, hended, hW, hsame⟩ := X1.leave (v := some (.long (x1 * (1000 : Int64)))) (fun h => by rw [Bd.returns] at h; cases h)
  refine ⟨_, _, pre0 _ ?_, hrun, hended, _, _, rfl, ?_, ⟨_, rfl⟩, hW, hsame.mono (by decide) (by decide)⟩
  · show Sq p e below m s₁ 0 #[.val (.long x1), .second, iv 1000] [] _
    refine XS.lloadN X0.here hx rfl (hb hby d9_0) rfl ?_
    refine XS.iloadN X0.here hx rfl (hb hby d9_1) rfl ?_
    show Sq p e below m s₁ 2 #[.val (.long x1), .second, iv 1000] [.int 1000, .long x1] _
    refine XS.i2l X0.here hx rfl (hb hby d9_2) rfl ?_
    show Sq p e below m s₁ 3 #[.val (.long x1), .second, iv 1000] [.long ((1000 : Int32).toInt64), .long x1] _
    rw [show ((1000 : Int32).toInt64) = (1000 : Int64) from by decide]
    show Sq p e below m s₁ 3 #[.val (.long x1), .second, iv 1000] [.long 1000, .long x1] _
    refine st1 _ ?_
    show Sq p e below m T1 6 #[.val (.long x1), .second, iv 1000] [.long (x1 * (1000 : Int64))] _
    jvm_step X1.here [X1.here.top, hx, (hb hby d9_6), X1.method', Bd.returns, narrow]
    first | (intro acts; rw [hr _ acts rfl rfl rfl]) | rw [hr _ _ rfl rfl rfl]
    exact Steps.refl _
  · show Q_mulJI Z x1 h0 n0 _ T1.heap _
    rw [e1]
    exact ⟨rfl, N1, rfl⟩
theorem d12_0 : decode jdk_29_method_25_code 0 = .ok (.lload_n 0, 1) := by decide +kernel
theorem d12_1 : decode jdk_29_method_25_code 1 = .ok (.lload_n 2, 1) := by decide +kernel
theorem d12_2 : decode jdk_29_method_25_code 2 = .ok (.ladd, 1) := by decide +kernel
theorem d12_3 : decode jdk_29_method_25_code 3 = .ok (.lstore 4, 2) := by decide +kernel
theorem d12_5 : decode jdk_29_method_25_code 5 = .ok (.lload_n 0, 1) := by decide +kernel
theorem d12_6 : decode jdk_29_method_25_code 6 = .ok (.lload 4, 2) := by decide +kernel
theorem d12_8 : decode jdk_29_method_25_code 8 = .ok (.lxor, 1) := by decide +kernel
theorem d12_9 : decode jdk_29_method_25_code 9 = .ok (.lload_n 2, 1) := by decide +kernel
theorem d12_10 : decode jdk_29_method_25_code 10 = .ok (.lload 4, 2) := by decide +kernel
theorem d12_12 : decode jdk_29_method_25_code 12 = .ok (.lxor, 1) := by decide +kernel
theorem d12_13 : decode jdk_29_method_25_code 13 = .ok (.land, 1) := by decide +kernel
theorem d12_14 : decode jdk_29_method_25_code 14 = .ok (.lconst 0, 1) := by decide +kernel
theorem d12_15 : decode jdk_29_method_25_code 15 = .ok (.lcmp, 1) := by decide +kernel
theorem d12_16 : decode jdk_29_method_25_code 16 = .ok (.ifCond .ge 13, 3) := by decide +kernel
theorem d12_29 : decode jdk_29_method_25_code 29 = .ok (.lload 4, 2) := by decide +kernel
theorem d12_31 : decode jdk_29_method_25_code 31 = .ok (.lreturn, 1) := by decide +kernel
def Q_addX (Z : State) (a : Int64) (b : Int64) (h0 : Heap) (n0 : Nat) (v : Option Value) (h : Heap) (L : List Loc) : Prop := v = some (.long (a + b)) ∧ Fr n0 L ∧ h = h0
theorem ef_9 (m : MethodId) (x0 : Int64) (x1 : Int64) : entryFrame m #[(.long x0), (.long x1)] 6 = mkF m 0 #[.val (.long x0), .second, .val (.long x1), .second, .unset, .unset] [] := by first | (simp [entryFrame, mkF, argsToLocals, Value.category]; done) | rfl
abbrev y_8 : MethodName := ⟨"java/lang/Math", "addExact", "(JJ)J"⟩
set_option maxRecDepth 65536 in
set_option maxHeartbeats 40000000 in
theorem addX (l : Launch) (Z : State) (a0 : Array Value) (hw : ∀ d ∈ tables_1, d.before a0 Z = true) (ws : List Jvm.Cond) (a : Int64) (b : Int64) (h0 : Heap) (n0 : Nat) (O : Old Z n0 h0) (hab : 0 ≤ a.toInt ∧ 0 ≤ b.toInt ∧ a.toInt + b.toInt < 9223372036854775808) :
    Ctr l Z y_8 jdk_29_method_25_code 6 (some .long) ws ({ frames := 0, cells := 0, slots := 0, locals := 0 } : Room) #[(.long a), (.long b)] h0 (Q_addX Z a b h0 n0) := by
  refine MetFree.of_bodySF (Jvm.Free.JP.mathPlain rfl (by decide +kernel)) hisR ?_
  intro p e s m args below meth c s₁ Bd hml0 hP hK
  obtain ⟨rfl, hZ, hh⟩ := hP
  have W := fun (i : Nat) {d : Jvm.Cond} (h : tables_1[i]? = some d) => hw d (List.mem_of_getElem? h)
  have hx := Bd.exec
  have hby := Bd.bytes
  have hml : c.maxLocals = 6 := hml0
  have hown : s.vm.findClass "java/lang/Math" = some m.cls := findClass_of_methodNamed Bd.named
  have hnm := (name_of_methodNamed Bd.named Bd.method).1
  have X0 : Stand p l e ({ frames := 0, cells := 0, slots := 0, locals := 0 } : Room) s m #[(.long a), (.long b)] below meth c s₁ [] 0 0 := Stand.of_body Bd
  have e0 : s₁.heap = h0 := by rw [← hh, Bd.state]; rfl
  have N0 := Fr.nil n0
  have pre0 : ∀ t, Steps p.tables e below (s₁.setTop (mkF m 0 #[.val (.long a), .second, .val (.long b), .second, .unset, .unset] [])) t → Steps p.tables e below (s₁.setTop (entryFrame m #[(.long a), (.long b)] 6)) t := fun t kk_ => castTop (ef_9 m a b) kk_
  obtain ⟨fs, hr, hrun, hended, hW, hsame⟩ := X0.leave (v := some (.long (a + b))) (fun h => by rw [Bd.returns] at h; cases h)
  refine ⟨_, _, pre0 _ ?_, hrun, hended, _, _, rfl, ?_, ⟨_, rfl⟩, hW, hsame.mono (by decide) (by decide)⟩
  · show Sq p e below m s₁ 0 #[.val (.long a), .second, .val (.long b), .second, .unset, .unset] [] _
    refine XS.lloadN X0.here hx rfl (hb hby d12_0) rfl ?_
    refine XS.lloadN X0.here hx rfl (hb hby d12_1) rfl ?_
    show Sq p e below m s₁ 2 #[.val (.long a), .second, .val (.long b), .second, .unset, .unset] [.long b, .long a] _
    refine XS.ladd X0.here hx rfl (hb hby d12_2) rfl ?_
    refine XS.lstore X0.here hx rfl (hb hby d12_3) rfl rfl ?_
    show Sq p e below m s₁ 5 #[.val (.long a), .second, .val (.long b), .second, .val (.long (a + b)), .second] [] _
    refine XS.lloadN X0.here hx rfl (hb hby d12_5) rfl ?_
    refine XS.lload X0.here hx rfl (hb hby d12_6) rfl ?_
    show Sq p e below m s₁ 8 #[.val (.long a), .second, .val (.long b), .second, .val (.long (a + b)), .second] [.long (a + b), .long a] _
    refine XS.lxor X0.here hx rfl (hb hby d12_8) rfl ?_
    refine XS.lloadN X0.here hx rfl (hb hby d12_9) rfl ?_
    show Sq p e below m s₁ 10 #[.val (.long a), .second, .val (.long b), .second, .val (.long (a + b)), .second] [.long b, .long (a ^^^ (a + b))] _
    refine XS.lload X0.here hx rfl (hb hby d12_10) rfl ?_
    refine XS.lxor X0.here hx rfl (hb hby d12_12) rfl ?_
    show Sq p e below m s₁ 13 #[.val (.long a), .second, .val (.long b), .second, .val (.long (a + b)), .second] [.long (b ^^^ (a + b)), .long (a ^^^ (a + b))] _
    refine XS.land X0.here hx rfl (hb hby d12_13) rfl ?_
    refine XS.lconst X0.here hx rfl (hb hby d12_14) ?_
    show Sq p e below m s₁ 15 #[.val (.long a), .second, .val (.long b), .second, .val (.long (a + b)), .second] [.long 0, .long ((a ^^^ (a + b)) &&& (b ^^^ (a + b)))] _
    refine XS.lcmp X0.here hx rfl (hb hby d12_15) rfl ?_
    refine XS.ifYes X0.here hx rfl (pc0 := 16) (pc' := 29) rfl (hb hby d12_16) rfl ((if0 _ _).trans (flt (own_addx hab : ¬ ((lcmpW ((a ^^^ (a + b)) &&& (b ^^^ (a + b))) (0 : Int64)) < (0 : Int32)))).2.1) (by decide) (by decide) ?_
    show Sq p e below m s₁ 29 #[.val (.long a), .second, .val (.long b), .second, .val (.long (a + b)), .second] [] _
    refine XS.lload X0.here hx rfl (hb hby d12_29) rfl ?_
    show Sq p e below m s₁ 31 #[.val (.long a), .second, .val (.long b), .second, .val (.long (a + b)), .second] [.long (a + b)] _
    jvm_step X0.here [X0.here.top, hx, (hb hby d12_31), X0.method', Bd.returns, narrow]
    first | (intro acts; rw [hr _ acts rfl rfl rfl]) | rw [hr _ _ rfl rfl rfl]
    exact Steps.refl _
  · show Q_addX Z a b h0 n0 _ s₁.heap _
    rw [e0]
    exact ⟨rfl, N0, rfl⟩
theorem d8_0 : decode jdk_2316_method_57_code 0 = .ok (.aload_n 0, 1) := by decide +kernel
theorem d8_1 : decode jdk_2316_method_57_code 1 = .ok (.getfield 221, 3) := by decide +kernel
theorem d8_4 : decode jdk_2316_method_57_code 4 = .ok (.lstore_n 1, 1) := by decide +kernel
theorem d8_5 : decode jdk_2316_method_57_code 5 = .ok (.aload_n 0, 1) := by decide +kernel
theorem d8_6 : decode jdk_2316_method_57_code 6 = .ok (.getfield 224, 3) := by decide +kernel
theorem d8_9 : decode jdk_2316_method_57_code 9 = .ok (.i2l, 1) := by decide +kernel
theorem d8_10 : decode jdk_2316_method_57_code 10 = .ok (.lstore_n 3, 1) := by decide +kernel
theorem d8_11 : decode jdk_2316_method_57_code 11 = .ok (.lload_n 1, 1) := by decide +kernel
theorem d8_12 : decode jdk_2316_method_57_code 12 = .ok (.lconst 0, 1) := by decide +kernel
theorem d8_13 : decode jdk_2316_method_57_code 13 = .ok (.lcmp, 1) := by decide +kernel
theorem d8_14 : decode jdk_2316_method_57_code 14 = .ok (.ifCond .ge 13, 3) := by decide +kernel
theorem d8_27 : decode jdk_2316_method_57_code 27 = .ok (.lload_n 1, 1) := by decide +kernel
theorem d8_28 : decode jdk_2316_method_57_code 28 = .ok (.sipush 1000, 3) := by decide +kernel
theorem d8_31 : decode jdk_2316_method_57_code 31 = .ok (.invokestatic 4, 3) := by decide +kernel
theorem pd_4 : parseMethodDescriptor "(JI)J" = some ⟨[.long, .int], some .long⟩ := by decide +kernel
theorem d8_34 : decode jdk_2316_method_57_code 34 = .ok (.lstore 5, 2) := by decide +kernel
theorem d8_36 : decode jdk_2316_method_57_code 36 = .ok (.lload 5, 2) := by decide +kernel
theorem d8_38 : decode jdk_2316_method_57_code 38 = .ok (.lload_n 3, 1) := by decide +kernel
theorem d8_39 : decode jdk_2316_method_57_code 39 = .ok (.ldc2_w 294, 3) := by decide +kernel
theorem d8_42 : decode jdk_2316_method_57_code 42 = .ok (.ldiv, 1) := by decide +kernel
theorem d8_43 : decode jdk_2316_method_57_code 43 = .ok (.invokestatic 22, 3) := by decide +kernel
theorem d8_46 : decode jdk_2316_method_57_code 46 = .ok (.lstore 5, 2) := by decide +kernel
theorem d8_48 : decode jdk_2316_method_57_code 48 = .ok (.lload 5, 2) := by decide +kernel
theorem d8_50 : decode jdk_2316_method_57_code 50 = .ok (.lreturn, 1) := by decide +kernel
def Q_toms (Z : State) (a : Addr) (se : Int64) (nn : Int32) (h0 : Heap) (n0 : Nat) (v : Option Value) (h : Heap) (L : List Loc) : Prop := v = some (.long ((se * (1000 : Int64)) + ((nn.toInt64) / (1000000 : Int64)))) ∧ Fr n0 L ∧ h = h0
theorem ef_10 (m : MethodId) (x0 : Addr) : entryFrame m #[(.ref x0)] 7 = mkF m 0 #[.val (.ref x0), .unset, .unset, .unset, .unset, .unset, .unset] [] := by first | (simp [entryFrame, mkF, argsToLocals, Value.category]; done) | rfl
abbrev y_9 : MethodName := ⟨"java/time/Duration", "toMillis", "()J"⟩
set_option maxRecDepth 65536 in
set_option maxHeartbeats 40000000 in
theorem toms (l : Launch) (Z : State) (a0 : Array Value) (hw : ∀ d ∈ tables_1, d.before a0 Z = true) (ws : List Jvm.Cond) (a : Addr) (se : Int64) (nn : Int32) (h0 : Heap) (n0 : Nat) (O : Old Z n0 h0) (Fs : Fld Z h0 a "java/time/Duration" "seconds" "J" (.long se)) (Fn : Fld Z h0 a "java/time/Duration" "nanos" "I" (.int nn)) (hs : 0 ≤ se.toInt ∧ se.toInt ≤ 9223372036854775) (hn_ : 0 ≤ nn.toInt ∧ nn.toInt < 1000000000 ∧ se.toInt * 1000 + nn.toInt / 1000000 < 9223372036854775808) :
    Ctr l Z y_9 jdk_2316_method_57_code 7 (some .long) ws ({ frames := 3, cells := 0, slots := 0, locals := 48 } : Room) #[(.ref a)] h0 (Q_toms Z a se nn h0 n0) := by
  refine MetFree.of_bodySF (plainFor_of_name pn_1) hisR ?_
  intro p e s m args below meth c s₁ Bd hml0 hP hK
  obtain ⟨rfl, hZ, hh⟩ := hP
  have W := fun (i : Nat) {d : Jvm.Cond} (h : tables_1[i]? = some d) => hw d (List.mem_of_getElem? h)
  have hx := Bd.exec
  have hby := Bd.bytes
  have hml : c.maxLocals = 7 := hml0
  have hown : s.vm.findClass "java/time/Duration" = some m.cls := findClass_of_methodNamed Bd.named
  have hnm := (name_of_methodNamed Bd.named Bd.method).1
  have X0 : Stand p l e ({ frames := 3, cells := 0, slots := 0, locals := 48 } : Room) s m #[(.ref a)] below meth c s₁ [] 0 0 := Stand.of_body Bd
  have e0 : s₁.heap = h0 := by rw [← hh, Bd.state]; rfl
  have N0 := Fr.nil n0
  have pre0 : ∀ t, Steps p.tables e below (s₁.setTop (mkF m 0 #[.val (.ref a), .unset, .unset, .unset, .unset, .unset, .unset] [])) t → Steps p.tables e below (s₁.setTop (entryFrame m #[(.ref a)] 7)) t := fun t kk_ => castTop (ef_10 m a) kk_
  obtain ⟨T1, X1, e1, st1⟩ := getF X0 hx hZ hown (host := "") (Or.inl (W 30 rfl)) Via.refl e0 Fs (g := (mkF m 1 #[rv a, .unset, .unset, .unset, .unset, .unset, .unset] [.ref a])) rfl rfl (hb hby d8_1)
  obtain ⟨T2, X2, e2, st2⟩ := getF X1 hx hZ hown (host := "") (Or.inl (W 32 rfl)) Via.refl e1 Fn (g := (mkF m 6 #[rv a, .val (.long se), .second, .unset, .unset, .unset, .unset] [.ref a])) rfl rfl (hb hby d8_6)
  obtain ⟨_, _, ⟨T3, L3, k3, n3⟩, -, X3, ⟨Lc3, hQ3, l3, y3, z3⟩, st3⟩ := Jvm.LawKit.callS X2 hx (y := y_7) hown (mvT hZ (W 44 rfl)) (mvT hZ (W 45 rfl)) (mvT hZ (W 3 rfl)) (mvT hZ (W 46 rfl)) (by decide) (backOf (W := 0) (mulJI l Z a0 hw [] se h0 n0 O hs) hZ (W 46 rfl) (W 3 rfl) (by decide) (by decide)) (g := (mkF m 31 #[rv a, .val (.long se), .second, .val (.long (nn.toInt64)), .second, .unset, .unset] [.int 1000, .long se])) rfl (by rw [hml]; rfl) (argsL := [.long se, .int 1000]) (rest := []) (lenOf pd_4 rfl) rfl (by show 2 * 0 + _ ≤ _; exact Nat.le_of_eq rfl) (hb hby d8_31) (fun _ _ => ⟨rfl, e2, (by decide : 0 + 0 ≤ _), (by decide : 0 + 0 ≤ _)⟩)
  dsimp only [Pt.U, Pt.locs, Pt.cells, Pt.slots] at X3 l3 y3 z3 st3 hQ3
  subst l3 y3 z3
  obtain ⟨h3, e3⟩ : ∃ z, T3.heap = z := ⟨_, rfl⟩
  rw [e3] at hQ3
  obtain ⟨rfl, N3q, p3_0⟩ := hQ3
  have N3 := Fr.app N0 N3q
  rw [p3_0] at e3
  obtain ⟨_, _, ⟨T4, L4, k4, n4⟩, -, X4, ⟨Lc4, hQ4, l4, y4, z4⟩, st4⟩ := Jvm.LawKit.callS X3 hx (y := y_8) hown (mvT hZ (W 54 rfl)) (mvT hZ (W 55 rfl)) (mvT hZ (W 3 rfl)) (mvT hZ (W 56 rfl)) (by decide) (backOf (W := 0) (addX l Z a0 hw [] (se * (1000 : Int64)) ((nn.toInt64) / (1000000 : Int64)) h0 n0 O (own_ab hs hn_)) hZ (W 56 rfl) (W 3 rfl) (by decide) (by decide)) (g := (mkF m 43 #[rv a, .val (.long se), .second, .val (.long (nn.toInt64)), .second, .val (.long (se * (1000 : Int64))), .second] [.long ((nn.toInt64) / (1000000 : Int64)), .long (se * (1000 : Int64))])) rfl (by rw [hml]; rfl) (argsL := [.long (se * (1000 : Int64)), .long ((nn.toInt64) / (1000000 : Int64))]) (rest := []) (lenOf pd_3 rfl) rfl (by show 2 * 0 + _ ≤ _; exact Nat.le_of_eq rfl) (hb hby d8_43) (fun _ _ => ⟨rfl, e3, (by decide : 0 + 0 ≤ _), (by decide : 0 + 0 ≤ _)⟩)
  dsimp only [Pt.U, Pt.locs, Pt.cells, Pt.slots] at X4 l4 y4 z4 st4 hQ4
  subst l4 y4 z4
  obtain ⟨h4, e4⟩ : ∃ z, T4.heap = z := ⟨_, rfl⟩
  rw [e4] at hQ4
  obtain ⟨rfl, N4q, p4_0⟩ := hQ4
  have N4 := Fr.app N3 N4q
  rw [p4_0] at e4
  obtain ⟨fs, hr, hrun, hended, hW, hsame⟩ := X4.leave (v := some (.long ((se * (1000 : Int64)) + ((nn.toInt64) / (1000000 : Int64))))) (fun h => by rw [Bd.returns] at h; cases h)
  refine ⟨_, _, pre0 _ ?_, hrun, hended, _, _, rfl, ?_, ⟨_, rfl⟩, hW, hsame.mono (by decide) (by decide)⟩
  · show Sq p e below m s₁ 0 #[rv a, .unset, .unset, .unset, .unset, .unset, .unset] [] _
    refine XS.aloadN X0.here hx rfl (hb hby d8_0) rfl rfl ?_
    show Sq p e below m s₁ 1 #[rv a, .unset, .unset, .unset, .unset, .unset, .unset] [.ref a] _
    refine st1 _ ?_
    show Sq p e below m T1 4 #[rv a, .unset, .unset, .unset, .unset, .unset, .unset] [.long se] _
    refine XS.lstoreN X1.here hx rfl (hb hby d8_4) rfl rfl ?_
    refine XS.aloadN X1.here hx rfl (hb hby d8_5) rfl rfl ?_
    show Sq p e below m T1 6 #[rv a, .val (.long se), .second, .unset, .unset, .unset, .unset] [.ref a] _
    refine st2 _ ?_
    show Sq p e below m T2 9 #[rv a, .val (.long se), .second, .unset, .unset, .unset, .unset] [.int nn] _
    refine XS.i2l X2.here hx rfl (hb hby d8_9) rfl ?_
    refine XS.lstoreN X2.here hx rfl (hb hby d8_10) rfl rfl ?_
    show Sq p e below m T2 11 #[rv a, .val (.long se), .second, .val (.long (nn.toInt64)), .second, .unset, .unset] [] _
    refine XS.lloadN X2.here hx rfl (hb hby d8_11) rfl ?_
    refine XS.lconst X2.here hx rfl (hb hby d8_12) ?_
    show Sq p e below m T2 13 #[rv a, .val (.long se), .second, .val (.long (nn.toInt64)), .second, .unset, .unset] [.long 0, .long se] _
    refine XS.lcmp X2.here hx rfl (hb hby d8_13) rfl ?_
    refine XS.ifYes X2.here hx rfl (pc0 := 14) (pc' := 27) rfl (hb hby d8_14) rfl ((if0 _ _).trans (flt (own_cge hs.1 : ¬ ((lcmpW se (0 : Int64)) < (0 : Int32)))).2.1) (by decide) (by decide) ?_
    show Sq p e below m T2 27 #[rv a, .val (.long se), .second, .val (.long (nn.toInt64)), .second, .unset, .unset] [] _
    refine XS.lloadN X2.here hx rfl (hb hby d8_27) rfl ?_
    refine XS.sipush X2.here hx rfl (hb hby d8_28) ?_
    show Sq p e below m T2 31 #[rv a, .val (.long se), .second, .val (.long (nn.toInt64)), .second, .unset, .unset] [.int 1000, .long se] _
    refine st3 _ ?_
    show Sq p e below m T3 34 #[rv a, .val (.long se), .second, .val (.long (nn.toInt64)), .second, .unset, .unset] [.long (se * (1000 : Int64))] _
    refine XS.lstore X3.here hx rfl (hb hby d8_34) rfl rfl ?_
    refine XS.lload X3.here hx rfl (hb hby d8_36) rfl ?_
    show Sq p e below m T3 38 #[rv a, .val (.long se), .second, .val (.long (nn.toInt64)), .second, .val (.long (se * (1000 : Int64))), .second] [.long (se * (1000 : Int64))] _
    refine XS.lloadN X3.here hx rfl (hb hby d8_38) rfl ?_
    show Sq p e below m T3 39 #[rv a, .val (.long se), .second, .val (.long (nn.toInt64)), .second, .val (.long (se * (1000 : Int64))), .second] [.long (nn.toInt64), .long (se * (1000 : Int64))] _
    refine X3.ldc2Long hx hown (mvT hZ (W 53 rfl)) (g := (mkF m 39 #[rv a, .val (.long se), .second, .val (.long (nn.toInt64)), .second, .val (.long (se * (1000 : Int64))), .second] [.long (nn.toInt64), .long (se * (1000 : Int64))])) rfl (hb hby d8_39) _ ?_
    show Sq p e below m T3 42 #[rv a, .val (.long se), .second, .val (.long (nn.toInt64)), .second, .val (.long (se * (1000 : Int64))), .second] [.long 1000000, .long (nn.toInt64), .long (se * (1000 : Int64))] _
    refine XS.ldiv X3.here hx rfl (hb hby d8_42) rfl (by decide) ?_
    show Sq p e below m T3 43 #[rv a, .val (.long se), .second, .val (.long (nn.toInt64)), .second, .val (.long (se * (1000 : Int64))), .second] [.long ((nn.toInt64) / (1000000 : Int64)), .long (se * (1000 : Int64))] _
    refine st4 _ ?_
    show Sq p e below m T4 46 #[rv a, .val (.long se), .second, .val (.long (nn.toInt64)), .second, .val (.long (se * (1000 : Int64))), .second] [.long ((se * (1000 : Int64)) + ((nn.toInt64) / (1000000 : Int64)))] _
    refine XS.lstore X4.here hx rfl (hb hby d8_46) rfl rfl ?_
    refine XS.lload X4.here hx rfl (hb hby d8_48) rfl ?_
    show Sq p e below m T4 50 #[rv a, .val (.long se), .second, .val (.long (nn.toInt64)), .second, .val (.long ((se * (1000 : Int64)) + ((nn.toInt64) / (1000000 : Int64)))), .second] [.long ((se * (1000 : Int64)) + ((nn.toInt64) / (1000000 : Int64)))] _
    jvm_step X4.here [X4.here.top, hx, (hb hby d8_50), X4.method', Bd.returns, narrow]
    first | (intro acts; rw [hr _ acts rfl rfl rfl]) | rw [hr _ _ rfl rfl rfl]
    exact Steps.refl _
  · show Q_toms Z a se nn h0 n0 _ T4.heap _
    rw [e4]
    exact ⟨rfl, N4, rfl⟩
theorem d7_0 : decode prog_113_method_4_code 0 = .ok (.aload_n 1, 1) := by decide +kernel
theorem d7_1 : decode prog_113_method_4_code 1 = .ok (.invokevirtual 22, 3) := by decide +kernel
theorem pd_5 : parseMethodDescriptor "()J" = some ⟨[], some .long⟩ := by decide +kernel
theorem d7_4 : decode prog_113_method_4_code 4 = .ok (.lstore_n 2, 1) := by decide +kernel
theorem d7_5 : decode prog_113_method_4_code 5 = .ok (.lload_n 2, 1) := by decide +kernel
theorem d7_6 : decode prog_113_method_4_code 6 = .ok (.ldc2_w 30, 3) := by decide +kernel
theorem d7_9 : decode prog_113_method_4_code 9 = .ok (.aload_n 0, 1) := by decide +kernel
theorem d7_10 : decode prog_113_method_4_code 10 = .ok (.getfield 7, 3) := by decide +kernel
theorem d7_13 : decode prog_113_method_4_code 13 = .ok (.lsub, 1) := by decide +kernel
theorem d7_14 : decode prog_113_method_4_code 14 = .ok (.lcmp, 1) := by decide +kernel
theorem d7_15 : decode prog_113_method_4_code 15 = .ok (.ifCond .le 13, 3) := by decide +kernel
theorem d7_28 : decode prog_113_method_4_code 28 = .ok (.aload_n 0, 1) := by decide +kernel
theorem d7_29 : decode prog_113_method_4_code 29 = .ok (.lload_n 2, 1) := by decide +kernel
theorem d7_30 : decode prog_113_method_4_code 30 = .ok (.putfield 13, 3) := by decide +kernel
theorem d7_33 : decode prog_113_method_4_code 33 = .ok (.return_, 1) := by decide +kernel
def Q_setnm (Z : State) (a : Addr) (d : Addr) (se : Int64) (nn : Int32) (q : Int64) (mil : Int64) (nx : Int64) (h0 : Heap) (n0 : Nat) (v : Option Value) (h : Heap) (L : List Loc) : Prop := v = none ∧ Fr n0 L ∧ Keep h0 h [a] ∧ Fld Z h a "com/example/anole/anole/scenario/SimulatedClock" "millis" "J" (.long mil) ∧ Fld Z h a "com/example/anole/anole/scenario/SimulatedClock" "nextMoveMs" "J" (.long q)
theorem ef_11 (m : MethodId) (x0 : Addr) (x1 : Addr) : entryFrame m #[(.ref x0), (.ref x1)] 4 = mkF m 0 #[.val (.ref x0), .val (.ref x1), .unset, .unset] [] := by first | (simp [entryFrame, mkF, argsToLocals, Value.category]; done) | rfl
abbrev y_10 : MethodName := ⟨"com/example/anole/anole/scenario/SimulatedClock", "setNextMove", "(Ljava/time/Duration;)V"⟩
set_option maxRecDepth 65536 in
set_option maxHeartbeats 40000000 in
theorem setnm (l : Launch) (Z : State) (a0 : Array Value) (hw : ∀ d ∈ tables_1, d.before a0 Z = true) (ws : List Jvm.Cond) (a : Addr) (d : Addr) (se : Int64) (nn : Int32) (q : Int64) (mil : Int64) (nx : Int64) (h0 : Heap) (n0 : Nat) (O : Old Z n0 h0) (Ea : Exa Z h0 a "com/example/anole/anole/scenario/SimulatedClock") (Ed : Exa Z h0 d "java/time/Duration") (Fs : Fld Z h0 d "java/time/Duration" "seconds" "J" (.long se)) (Fn : Fld Z h0 d "java/time/Duration" "nanos" "I" (.int nn)) (Fm : Fld Z h0 a "com/example/anole/anole/scenario/SimulatedClock" "millis" "J" (.long mil)) (Fx : Fld Z h0 a "com/example/anole/anole/scenario/SimulatedClock" "nextMoveMs" "J" (.long nx)) (ga : n0 ≤ a) (nda : d ≠ a) (hs : 0 ≤ se.toInt ∧ se.toInt ≤ 9223372036854775) (hn_ : 0 ≤ nn.toInt ∧ nn.toInt < 1000000000 ∧ se.toInt * 1000 + nn.toInt / 1000000 < 9223372036854775808) (hq : ((se * (1000 : Int64)) + ((nn.toInt64) / (1000000 : Int64))) = q) (hle : ¬ ((0 : Int32) < (lcmpW q ((9223372036854775807 : Int64) - mil)))) :
    Ctr l Z y_10 prog_113_method_4_code 4 none ws ({ frames := 4, cells := 0, slots := 0, locals := 66 } : Room) #[(.ref a), (.ref d)] h0 (Q_setnm Z a d se nn q mil nx h0 n0) := by
  refine MetFree.of_bodySF (plainFor_of_name pn_0) hisR ?_
  intro p e s m args below meth c s₁ Bd hml0 hP hK
  obtain ⟨rfl, hZ, hh⟩ := hP
  have W := fun (i : Nat) {d : Jvm.Cond} (h : tables_1[i]? = some d) => hw d (List.mem_of_getElem? h)
  have hx := Bd.exec
  have hby := Bd.bytes
  have hml : c.maxLocals = 4 := hml0
  have hown : s.vm.findClass "com/example/anole/anole/scenario/SimulatedClock" = some m.cls := findClass_of_methodNamed Bd.named
  have hnm := (name_of_methodNamed Bd.named Bd.method).1
  have X0 : Stand p l e ({ frames := 4, cells := 0, slots := 0, locals := 66 } : Room) s m #[(.ref a), (.ref d)] below meth c s₁ [] 0 0 := Stand.of_body Bd
  have e0 : s₁.heap = h0 := by rw [← hh, Bd.state]; rfl
  have N0 := Fr.nil n0
  have pre0 : ∀ t, Steps p.tables e below (s₁.setTop (mkF m 0 #[.val (.ref a), .val (.ref d), .unset, .unset] [])) t → Steps p.tables e below (s₁.setTop (entryFrame m #[(.ref a), (.ref d)] 4)) t := fun t kk_ => castTop (ef_11 m a d) kk_
  have K0 := Keep.refl h0 [a]
  obtain ⟨cq1, kq1, q1a, q1b, q1c⟩ := isOf hZ e0 Ed
  obtain ⟨_, _, ⟨T1, L1, k1, n1⟩, -, X1, ⟨Lc1, hQ1, l1, y1, z1⟩, st1⟩ := X0.virtualBack hx (y := y_9) (z := y_9) hown (mvT hZ (W 39 rfl)) (mvT hZ (W 40 rfl)) (notFace_of_selects (args := #[]) (mvT hZ (W 42 rfl))) (mvT hZ (W 42 rfl)) (mvT hZ (W 41 rfl)) (by decide) (backOf (W := 0) (toms l Z a0 hw [] d se nn h0 n0 O Fs Fn hs hn_) hZ (W 43 rfl) (W 16 rfl) (by decide) (by decide)) q1a q1c (g := (mkF m 1 #[rv a, rv d, .unset, .unset] [.ref d])) rfl (by rw [hml]; rfl) (Steps.refl _) (argsL := []) (rest := []) (lenOf pd_5 rfl) rfl (by show 2 * 0 + _ ≤ _; exact Nat.le_of_eq rfl) (hb hby d7_1) (fun _ _ => ⟨rfl, e0, (by decide : 0 + 0 ≤ _), (by decide : 0 + 0 ≤ _)⟩)
  dsimp only [Pt.U, Pt.locs, Pt.cells, Pt.slots] at X1 l1 y1 z1 st1 hQ1
  subst l1 y1 z1
  obtain ⟨h1, e1⟩ : ∃ z, T1.heap = z := ⟨_, rfl⟩
  rw [e1] at hQ1
  obtain ⟨rfl, N1q, p1_0⟩ := hQ1
  have N1 := Fr.app N0 N1q
  rw [p1_0] at e1
  obtain ⟨T2, X2, e2, st2⟩ := getF X1 hx hZ hown (host := "") (Or.inl (W 58 rfl)) Via.refl e1 Fm (g := (mkF m 10 #[rv a, rv d, .val (.long q), .second] [.ref a, .long 9223372036854775807, .long q])) rfl rfl (hb hby d7_10)
  obtain ⟨T3, h3, X3, e3, W3, st3⟩ := putF X2 hx hZ hown (host := "") (Or.inl (W 60 rfl)) Via.refl e2 Fx Ea (Or.inl (W 61 rfl)) (W 6 rfl) (ty := .long) (by decide) rfl rfl (g := (mkF m 30 #[rv a, rv d, .val (.long q), .second] [.long q, .ref a])) rfl rfl (hb hby d7_30)
  have Fz3 := Fx.same W3
  have Fm := Fm.other W3 (Or.inr (slot_ne (Or.inl (W 59 rfl)) (Or.inl (W 61 rfl)) (by decide) (t := .long) (t' := .long) (by decide) (by decide)))
  have K5 := K0.wr W3 (Or.inl (List.mem_of_getElem? (i := 0) rfl))
  have N6 := Fr.snoc X3 N1 ga
  obtain ⟨fs, hr, hrun, hended, hW, hsame⟩ := X3.leave (v := none) (fun _ => rfl)
  refine ⟨_, _, pre0 _ ?_, hrun, hended, _, _, rfl, ?_, ⟨_, rfl⟩, hW, hsame.mono (by decide) (by decide)⟩
  · show Sq p e below m s₁ 0 #[rv a, rv d, .unset, .unset] [] _
    refine XS.aloadN X0.here hx rfl (hb hby d7_0) rfl rfl ?_
    show Sq p e below m s₁ 1 #[rv a, rv d, .unset, .unset] [.ref d] _
    refine st1.trans ?_
    show Sq p e below m T1 4 #[rv a, rv d, .unset, .unset] [.long ((se * (1000 : Int64)) + ((nn.toInt64) / (1000000 : Int64)))] _
    rw [hq]
    show Sq p e below m T1 4 #[rv a, rv d, .unset, .unset] [.long q] _
    refine XS.lstoreN X1.here hx rfl (hb hby d7_4) rfl rfl ?_
    refine XS.lloadN X1.here hx rfl (hb hby d7_5) rfl ?_
    show Sq p e below m T1 6 #[rv a, rv d, .val (.long q), .second] [.long q] _
    refine X1.ldc2Long hx hown (mvT hZ (W 57 rfl)) (g := (mkF m 6 #[rv a, rv d, .val (.long q), .second] [.long q])) rfl (hb hby d7_6) _ ?_
    show Sq p e below m T1 9 #[rv a, rv d, .val (.long q), .second] [.long 9223372036854775807, .long q] _
    refine XS.aloadN X1.here hx rfl (hb hby d7_9) rfl rfl ?_
    show Sq p e below m T1 10 #[rv a, rv d, .val (.long q), .second] [.ref a, .long 9223372036854775807, .long q] _
    refine st2 _ ?_
    show Sq p e below m T2 13 #[rv a, rv d, .val (.long q), .second] [.long mil, .long 9223372036854775807, .long q] _
    refine XS.lsub X2.here hx rfl (hb hby d7_13) rfl ?_
    refine XS.lcmp X2.here hx rfl (hb hby d7_14) rfl ?_
    show Sq p e below m T2 15 #[rv a, rv d, .val (.long q), .second] [.int (lcmpW q ((9223372036854775807 : Int64) - mil))] _
    refine XS.ifYes X2.here hx rfl (pc0 := 15) (pc' := 28) rfl (hb hby d7_15) rfl ((if0 _ _).trans (flt (hle : ¬ ((0 : Int32) < (lcmpW q ((9223372036854775807 : Int64) - mil))))).2.2.2) (by decide) (by decide) ?_
    refine XS.aloadN X2.here hx rfl (hb hby d7_28) rfl rfl ?_
    show Sq p e below m T2 29 #[rv a, rv d, .val (.long q), .second] [.ref a] _
    refine XS.lloadN X2.here hx rfl (hb hby d7_29) rfl ?_
    show Sq p e below m T2 30 #[rv a, rv d, .val (.long q), .second] [.long q, .ref a] _
    refine st3 _ ?_
    show Sq p e below m T3 33 #[rv a, rv d, .val (.long q), .second] [] _
    exact X3.returnOut hx Bd.returns (hb hby d7_33) hr
  · show Q_setnm Z a d se nn q mil nx h0 n0 _ T3.heap _
    rw [e3]
    exact ⟨rfl, N6, K5, Fm, Fz3⟩
theorem d13_0 : decode prog_113_method_5_code 0 = .ok (.aload_n 0, 1) := by decide +kernel
theorem d13_1 : decode prog_113_method_5_code 1 = .ok (.dup, 1) := by decide +kernel
theorem d13_2 : decode prog_113_method_5_code 2 = .ok (.getfield 7, 3) := by decide +kernel
theorem d13_5 : decode prog_113_method_5_code 5 = .ok (.aload_n 0, 1) := by decide +kernel
theorem d13_6 : decode prog_113_method_5_code 6 = .ok (.getfield 13, 3) := by decide +kernel
theorem d13_9 : decode prog_113_method_5_code 9 = .ok (.ladd, 1) := by decide +kernel
theorem d13_10 : decode prog_113_method_5_code 10 = .ok (.putfield 7, 3) := by decide +kernel
theorem d13_13 : decode prog_113_method_5_code 13 = .ok (.aload_n 0, 1) := by decide +kernel
theorem d13_14 : decode prog_113_method_5_code 14 = .ok (.lconst 0, 1) := by decide +kernel
theorem d13_15 : decode prog_113_method_5_code 15 = .ok (.putfield 13, 3) := by decide +kernel
theorem d13_18 : decode prog_113_method_5_code 18 = .ok (.return_, 1) := by decide +kernel
def Q_adv (Z : State) (a : Addr) (mil : Int64) (nx : Int64) (h0 : Heap) (n0 : Nat) (v : Option Value) (h : Heap) (L : List Loc) : Prop := v = none ∧ Fr n0 L ∧ Keep h0 h [a] ∧ Fld Z h a "com/example/anole/anole/scenario/SimulatedClock" "millis" "J" (.long (mil + nx)) ∧ Fld Z h a "com/example/anole/anole/scenario/SimulatedClock" "nextMoveMs" "J" (.long (0 : Int64))
theorem ef_12 (m : MethodId) (x0 : Addr) : entryFrame m #[(.ref x0)] 1 = mkF m 0 #[.val (.ref x0)] [] := by first | (simp [entryFrame, mkF, argsToLocals, Value.category]; done) | rfl
abbrev y_11 : MethodName := ⟨"com/example/anole/anole/scenario/SimulatedClock", "advance", "()V"⟩
set_option maxRecDepth 65536 in
set_option maxHeartbeats 40000000 in
theorem adv (l : Launch) (Z : State) (a0 : Array Value) (hw : ∀ d ∈ tables_1, d.before a0 Z = true) (ws : List Jvm.Cond) (a : Addr) (mil : Int64) (nx : Int64) (h0 : Heap) (n0 : Nat) (O : Old Z n0 h0) (Ea : Exa Z h0 a "com/example/anole/anole/scenario/SimulatedClock") (Fm : Fld Z h0 a "com/example/anole/anole/scenario/SimulatedClock" "millis" "J" (.long mil)) (Fx : Fld Z h0 a "com/example/anole/anole/scenario/SimulatedClock" "nextMoveMs" "J" (.long nx)) (ga : n0 ≤ a) :
    Ctr l Z y_11 prog_113_method_5_code 1 none ws ({ frames := 0, cells := 0, slots := 0, locals := 0 } : Room) #[(.ref a)] h0 (Q_adv Z a mil nx h0 n0) := by
  refine MetFree.of_bodySF (plainFor_of_name pn_0) hisR ?_
  intro p e s m args below meth c s₁ Bd hml0 hP hK
  obtain ⟨rfl, hZ, hh⟩ := hP
  have W := fun (i : Nat) {d : Jvm.Cond} (h : tables_1[i]? = some d) => hw d (List.mem_of_getElem? h)
  have hx := Bd.exec
  have hby := Bd.bytes
  have hml : c.maxLocals = 1 := hml0
  have hown : s.vm.findClass "com/example/anole/anole/scenario/SimulatedClock" = some m.cls := findClass_of_methodNamed Bd.named
  have hnm := (name_of_methodNamed Bd.named Bd.method).1
  have X0 : Stand p l e ({ frames := 0, cells := 0, slots := 0, locals := 0 } : Room) s m #[(.ref a)] below meth c s₁ [] 0 0 := Stand.of_body Bd
  have e0 : s₁.heap = h0 := by rw [← hh, Bd.state]; rfl
  have N0 := Fr.nil n0
  have pre0 : ∀ t, Steps p.tables e below (s₁.setTop (mkF m 0 #[.val (.ref a)] [])) t → Steps p.tables e below (s₁.setTop (entryFrame m #[(.ref a)] 1)) t := fun t kk_ => castTop (ef_12 m a) kk_
  have K0 := Keep.refl h0 [a]
  obtain ⟨T1, X1, e1, st1⟩ := getF X0 hx hZ hown (host := "") (Or.inl (W 58 rfl)) Via.refl e0 Fm (g := (mkF m 2 #[rv a] [.ref a, .ref a])) rfl rfl (hb hby d13_2)
  obtain ⟨T2, X2, e2, st2⟩ := getF X1 hx hZ hown (host := "") (Or.inl (W 60 rfl)) Via.refl e1 Fx (g := (mkF m 6 #[rv a] [.ref a, .long mil, .ref a])) rfl rfl (hb hby d13_6)
  obtain ⟨T3, h3, X3, e3, W3, st3⟩ := putF X2 hx hZ hown (host := "") (Or.inl (W 58 rfl)) Via.refl e2 Fm Ea (Or.inl (W 59 rfl)) (W 6 rfl) (ty := .long) (by decide) rfl rfl (g := (mkF m 10 #[rv a] [.long (mil + nx), .ref a])) rfl rfl (hb hby d13_10)
  have Fz3 := Fm.same W3
  have Ea := Ea.wr W3
  have Fx := Fx.other W3 (Or.inr (slot_ne (Or.inl (W 61 rfl)) (Or.inl (W 59 rfl)) (by decide) (t := .long) (t' := .long) (by decide) (by decide)))
  have K5 := K0.wr W3 (Or.inl (List.mem_of_getElem? (i := 0) rfl))
  have N6 := Fr.snoc X3 N0 ga
  obtain ⟨T7, h7, X7, e7, W7, st7⟩ := putF X3 hx hZ hown (host := "") (Or.inl (W 60 rfl)) Via.refl e3 Fx Ea (Or.inl (W 61 rfl)) (W 6 rfl) (ty := .long) (by decide) rfl rfl (g := (mkF m 15 #[rv a] [.long 0, .ref a])) rfl rfl (hb hby d13_15)
  have Fz7 := Fx.same W7
  have Fz3 := Fz3.other W7 (Or.inr (slot_ne (Or.inl (W 59 rfl)) (Or.inl (W 61 rfl)) (by decide) (t := .long) (t' := .long) (by decide) (by decide)))
  have K9 := K5.wr W7 (Or.inl (List.mem_of_getElem? (i := 0) rfl))
  have N10 := Fr.snoc X7 N6 ga
  obtain ⟨fs, hr, hrun, hended, hW, hsame⟩ := X7.leave (v := none) (fun _ => rfl)
  refine ⟨_, _, pre0 _ ?_, hrun, hended, _, _, rfl, ?_, ⟨_, rfl⟩, hW, hsame.mono (by decide) (by decide)⟩
  · show Sq p e below m s₁ 0 #[rv a] [] _
    refine XS.aloadN X0.here hx rfl (hb hby d13_0) rfl rfl ?_
    refine XS.dup X0.here hx rfl (hb hby d13_1) rfl rfl ?_
    show Sq p e below m s₁ 2 #[rv a] [.ref a, .ref a] _
    refine st1 _ ?_
    show Sq p e below m T1 5 #[rv a] [.long mil, .ref a] _
    refine XS.aloadN X1.here hx rfl (hb hby d13_5) rfl rfl ?_
    show Sq p e below m T1 6 #[rv a] [.ref a, .long mil, .ref a] _
    refine st2 _ ?_
    show Sq p e below m T2 9 #[rv a] [.long nx, .long mil, .ref a] _
    refine XS.ladd X2.here hx rfl (hb hby d13_9) rfl ?_
    show Sq p e below m T2 10 #[rv a] [.long (mil + nx), .ref a] _
    refine st3 _ ?_
    show Sq p e below m T3 13 #[rv a] [] _
    refine XS.aloadN X3.here hx rfl (hb hby d13_13) rfl rfl ?_
    refine XS.lconst X3.here hx rfl (hb hby d13_14) ?_
    show Sq p e below m T3 15 #[rv a] [.long 0, .ref a] _
    refine st7 _ ?_
    show Sq p e below m T7 18 #[rv a] [] _
    exact X7.returnOut hx Bd.returns (hb hby d13_18) hr
  · show Q_adv Z a mil nx h0 n0 _ T7.heap _
    rw [e7]
    exact ⟨rfl, N10, K9, Fz3, Fz7⟩
theorem d14_0 : decode prog_113_method_2_code 0 = .ok (.aload_n 0, 1) := by decide +kernel
theorem d14_1 : decode prog_113_method_2_code 1 = .ok (.getfield 7, 3) := by decide +kernel
theorem d14_4 : decode prog_113_method_2_code 4 = .ok (.lreturn, 1) := by decide +kernel
def Q_mls (Z : State) (a : Addr) (mil : Int64) (h0 : Heap) (n0 : Nat) (v : Option Value) (h : Heap) (L : List Loc) : Prop := v = some (.long mil) ∧ Fr n0 L ∧ h = h0
theorem ef_13 (m : MethodId) (x0 : Addr) : entryFrame m #[(.ref x0)] 1 = mkF m 0 #[.val (.ref x0)] [] := by first | (simp [entryFrame, mkF, argsToLocals, Value.category]; done) | rfl
abbrev y_12 : MethodName := ⟨"com/example/anole/anole/scenario/SimulatedClock", "millis", "()J"⟩
set_option maxRecDepth 65536 in
set_option maxHeartbeats 40000000 in
theorem mls (l : Launch) (Z : State) (a0 : Array Value) (hw : ∀ d ∈ tables_1, d.before a0 Z = true) (ws : List Jvm.Cond) (a : Addr) (mil : Int64) (h0 : Heap) (n0 : Nat) (O : Old Z n0 h0) (Fm : Fld Z h0 a "com/example/anole/anole/scenario/SimulatedClock" "millis" "J" (.long mil)) :
    Ctr l Z y_12 prog_113_method_2_code 1 (some .long) ws ({ frames := 0, cells := 0, slots := 0, locals := 0 } : Room) #[(.ref a)] h0 (Q_mls Z a mil h0 n0) := by
  refine MetFree.of_bodySF (plainFor_of_name pn_0) hisR ?_
  intro p e s m args below meth c s₁ Bd hml0 hP hK
  obtain ⟨rfl, hZ, hh⟩ := hP
  have W := fun (i : Nat) {d : Jvm.Cond} (h : tables_1[i]? = some d) => hw d (List.mem_of_getElem? h)
  have hx := Bd.exec
  have hby := Bd.bytes
  have hml : c.maxLocals = 1 := hml0
  have hown : s.vm.findClass "com/example/anole/anole/scenario/SimulatedClock" = some m.cls := findClass_of_methodNamed Bd.named
  have hnm := (name_of_methodNamed Bd.named Bd.method).1
  have X0 : Stand p l e ({ frames := 0, cells := 0, slots := 0, locals := 0 } : Room) s m #[(.ref a)] below meth c s₁ [] 0 0 := Stand.of_body Bd
  have e0 : s₁.heap = h0 := by rw [← hh, Bd.state]; rfl
  have N0 := Fr.nil n0
  have pre0 : ∀ t, Steps p.tables e below (s₁.setTop (mkF m 0 #[.val (.ref a)] [])) t → Steps p.tables e below (s₁.setTop (entryFrame m #[(.ref a)] 1)) t := fun t kk_ => castTop (ef_13 m a) kk_
  obtain ⟨T1, X1, e1, st1⟩ := getF X0 hx hZ hown (host := "") (Or.inl (W 58 rfl)) Via.refl e0 Fm (g := (mkF m 1 #[rv a] [.ref a])) rfl rfl (hb hby d14_1)
  obtain ⟨fs, hr, hrun, hended, hW, hsame⟩ := X1.leave (v := some (.long mil)) (fun h => by rw [Bd.returns] at h; cases h)
  refine ⟨_, _, pre0 _ ?_, hrun, hended, _, _, rfl, ?_, ⟨_, rfl⟩, hW, hsame.mono (by decide) (by decide)⟩
  · show Sq p e below m s₁ 0 #[rv a] [] _
    refine XS.aloadN X0.here hx rfl (hb hby d14_0) rfl rfl ?_
    show Sq p e below m s₁ 1 #[rv a] [.ref a] _
    refine st1 _ ?_
    show Sq p e below m T1 4 #[rv a] [.long mil] _
    jvm_step X1.here [X1.here.top, hx, (hb hby d14_4), X1.method', Bd.returns, narrow]
    first | (intro acts; rw [hr _ acts rfl rfl rfl]) | rw [hr _ _ rfl rfl rfl]
    exact Steps.refl _
  · show Q_mls Z a mil h0 n0 _ T1.heap _
    rw [e1]
    exact ⟨rfl, N0, rfl⟩
theorem pd_6 : parseMethodDescriptor "()V" = some ⟨[], none⟩ := by decide +kernel
theorem pd_7 : parseMethodDescriptor "(J)Ljava/time/Duration;" = some ⟨[.long], some (.object "java/time/Duration")⟩ := by decide +kernel
theorem pd_8 : parseMethodDescriptor "(Ljava/time/Duration;)V" = some ⟨[(.object "java/time/Duration")], none⟩ := by decide +kernel
def Q_rm1 (Z : State) (p1 : Int64) (p2 : Int64) (q1 : Int64) (m2 : Int64) (q2 : Int64) (w_ZERO : Addr) (h0 : Heap) (n0 : Nat) (v : Option Value) (h : Heap) (L : List Loc) : Prop := v = some (.int (1 : Int32)) ∧ Fr n0 L
theorem ef_14 (m : MethodId) (x0 : Int64) (x1 : Int64) : entryFrame m #[(.long x0), (.long x1)] maxLocals = mkF m 0 #[.val (.long x0), .second, .val (.long x1), .second, .unset, .unset, .unset, .unset, .unset, .unset, .unset, .unset] [] := by first | (simp [entryFrame, mkF, argsToLocals, Value.category, maxLocals]; done) | rfl
theorem pn_2 : plainName "com/example/anole/anole/scenario/SimulatedClockAdvancePinLaw" = true := by first | (simp [plainName, overriddenIn]; done) | decide +kernel
set_option maxRecDepth 65536 in
set_option maxHeartbeats 40000000 in
theorem rm1 (l : Launch) (Z : State) (a0 : Array Value) (hw : ∀ d ∈ tables_1, d.before a0 Z = true) (ws : List Jvm.Cond) (p1 : Int64) (p2 : Int64) (q1 : Int64) (m2 : Int64) (q2 : Int64) (w_ZERO : Addr) (h0 : Heap) (n0 : Nat) (O : Old Z n0 h0) (S_w_ZERO : Sta Z Z.heap "java/time/Duration" "ZERO" "Ljava/time/Duration;" (.ref w_ZERO)) (E_w_ZERO : Exa Z Z.heap w_ZERO "java/time/Duration") (F_w_ZERO_seconds : Fld Z Z.heap w_ZERO "java/time/Duration" "seconds" "J" (.long (0 : Int64))) (F_w_ZERO_nanos : Fld Z Z.heap w_ZERO "java/time/Duration" "nanos" "I" (.int (0 : Int32))) (hf1 : (p1 &&& (9223372036854775807 : Int64)) = q1) (hf2 : (p2 &&& (9223372036854775807 : Int64)) = m2) (hf3 : (own_minL m2 ((9223372036854775807 : Int64) - q1)) = q2) (hq1 : 0 ≤ q1.toInt) (hq2 : 0 ≤ q2.toInt ∧ q1.toInt + q2.toInt < 9223372036854775808) :
    Ctr l Z x code maxLocals ret ws room_1 #[(.long p1), (.long p2)] h0 (Q_rm1 Z p1 p2 q1 m2 q2 w_ZERO h0 n0) := by
  refine MetFree.of_bodySF (plainFor_of_name pn_2) hisR ?_
  intro p e s m args below meth c s₁ Bd hml0 hP hK
  obtain ⟨rfl, hZ, hh⟩ := hP
  have W := fun (i : Nat) {d : Jvm.Cond} (h : tables_1[i]? = some d) => hw d (List.mem_of_getElem? h)
  have hx := Bd.exec
  have hby := Bd.bytes
  have hml : c.maxLocals = 12 := hml0
  have hown : s.vm.findClass "com/example/anole/anole/scenario/SimulatedClockAdvancePinLaw" = some m.cls := findClass_of_methodNamed Bd.named
  have hnm := (name_of_methodNamed Bd.named Bd.method).1
  have X0 : Stand p l e room_1 s m #[(.long p1), (.long p2)] below meth c s₁ [] 0 0 := Stand.of_body Bd
  have e0 : s₁.heap = h0 := by rw [← hh, Bd.state]; rfl
  have N0 := Fr.nil n0
  have pre0 : ∀ t, Steps p.tables e below (s₁.setTop (mkF m 0 #[.val (.long p1), .second, .val (.long p2), .second, .unset, .unset, .unset, .unset, .unset, .unset, .unset, .unset] [])) t → Steps p.tables e below (s₁.setTop (entryFrame m #[(.long p1), (.long p2)] maxLocals)) t := fun t kk_ => castTop (ef_14 m p1 p2) kk_
  obtain ⟨_, _, ⟨T1, L1, k1, n1⟩, -, X1, ⟨Lc1, hQ1, l1, y1, z1⟩, st1⟩ := Jvm.LawKit.callS X0 hx (y := y_0) hown (mvT hZ (W 1 rfl)) (mvT hZ (W 2 rfl)) (mvT hZ (W 3 rfl)) (mvT hZ (W 4 rfl)) (by decide) (backOf (W := 0) (minL l Z a0 hw [] m2 ((9223372036854775807 : Int64) - q1) h0 n0 O ) hZ (W 4 rfl) (W 3 rfl) (by decide) (by decide)) (g := (mkF m 18 #[.val (.long p1), .second, .val (.long p2), .second, .val (.long q1), .second, .unset, .unset, .unset, .unset, .unset, .unset] [.long ((9223372036854775807 : Int64) - q1), .long m2])) rfl (by rw [hml]; rfl) (argsL := [.long m2, .long ((9223372036854775807 : Int64) - q1)]) (rest := []) (lenOf pd_3 rfl) rfl (by show 2 * 0 + _ ≤ _; exact Nat.le_of_eq rfl) (hb hby at_18) (fun _ _ => ⟨rfl, e0, (by decide : 0 + 0 ≤ _), (by decide : 0 + 0 ≤ _)⟩)
  dsimp only [Pt.U, Pt.locs, Pt.cells, Pt.slots] at X1 l1 y1 z1 st1 hQ1
  subst l1 y1 z1
  obtain ⟨h1, e1⟩ : ∃ z, T1.heap = z := ⟨_, rfl⟩
  rw [e1] at hQ1
  obtain ⟨rfl, N1q, p1_0⟩ := hQ1
  have N1 := Fr.app N0 N1q
  rw [p1_0] at e1
  obtain ⟨T2, h2, X2, e2, E2, A2, D2, -, st2⟩ := newO X1 hx hZ hown (W 5 rfl) (W 6 rfl) (W 7 rfl) e1 (g := (mkF m 23 #[.val (.long p1), .second, .val (.long p2), .second, .val (.long q1), .second, .val (.long q2), .second, .unset, .unset, .unset, .unset] [])) rfl (hb hby at_23) (by decide) (by decide)
  obtain ⟨b2, g2⟩ : ∃ z, z = h0.size := ⟨_, rfl⟩
  rw [← g2] at A2 D2 st2
  have g_b2 : n0 ≤ b2 := Nat.le_trans (own_sz O) (Nat.le_of_eq g2.symm)
  have O3 := O.ext E2
  have Fz5 : Fld Z h2 b2 "com/example/anole/anole/scenario/SimulatedClock" "millis" "J" (.long (0 : Int64)) := D2 (Or.inl (W 59 rfl)) (ty := .long) (by decide)
  have Fz6 : Fld Z h2 b2 "com/example/anole/anole/scenario/SimulatedClock" "nextMoveMs" "J" (.long (0 : Int64)) := D2 (Or.inl (W 61 rfl)) (ty := .long) (by decide)
  obtain ⟨_, _, ⟨T7, L7, k7, n7⟩, -, X7, ⟨Lc7, hQ7, l7, y7, z7⟩, st7⟩ := X2.specialBack hx (y := y_1) rfl hown (mvT hZ (W 8 rfl)) (mvT hZ (W 9 rfl)) (mvT hZ (W 10 rfl)) (by decide) (backOf (W := 1) (ckinit l Z a0 hw [] b2 h2 n0 O3 ) hZ (W 10 rfl) (W 7 rfl) (by decide) (by decide)) (g := (mkF m 27 #[.val (.long p1), .second, .val (.long p2), .second, .val (.long q1), .second, .val (.long q2), .second, .unset, .unset, .unset, .unset] [.ref b2, .ref b2])) rfl (by rw [hml]; rfl) (Steps.refl _) (a := b2) (argsL := []) (rest := [.ref b2]) (lenOf pd_6 rfl) rfl (by show 2 * 0 + _ ≤ _; exact Nat.le_of_eq rfl) (hb hby at_27) (fun _ _ => ⟨rfl, e2, (by decide : 1 + 0 ≤ _), (by decide : 2 + 0 ≤ _)⟩)
  dsimp only [Pt.U, Pt.locs, Pt.cells, Pt.slots] at X7 l7 y7 z7 st7 hQ7
  subst l7 y7 z7
  obtain ⟨h7, e7⟩ : ∃ z, T7.heap = z := ⟨_, rfl⟩
  rw [e7] at hQ7
  obtain ⟨rfl, N7q, p7_0⟩ := hQ7
  have N7 := Fr.app N1 N7q
  rw [p7_0] at e7
  obtain ⟨_, _, ⟨T8, L8, k8, n8⟩, -, X8, ⟨Lc8, hQ8, l8, y8, z8⟩, st8⟩ := Jvm.LawKit.callS X7 hx (y := y_4) hown (mvT hZ (W 14 rfl)) (mvT hZ (W 15 rfl)) (mvT hZ (W 16 rfl)) (mvT hZ (W 17 rfl)) (by decide) (backOf (W := 1) (ofms l Z a0 hw [] q1 w_ZERO h2 n0 O3 S_w_ZERO E_w_ZERO F_w_ZERO_seconds F_w_ZERO_nanos hq1) hZ (W 17 rfl) (W 16 rfl) (by decide) (by decide)) (g := (mkF m 36 #[.val (.long p1), .second, .val (.long p2), .second, .val (.long q1), .second, .val (.long q2), .second, rv b2, .unset, .unset, .unset] [.long q1, .ref b2])) rfl (by rw [hml]; rfl) (argsL := [.long q1]) (rest := [.ref b2]) (lenOf pd_7 rfl) rfl (by show 2 * 0 + _ ≤ _; exact Nat.le_of_eq rfl) (hb hby at_36) (fun _ _ => ⟨rfl, e7, (by decide : 1 + 1 ≤ _), (by decide : 2 + 2 ≤ _)⟩)
  dsimp only [Pt.U, Pt.locs, Pt.cells, Pt.slots] at X8 l8 y8 z8 st8 hQ8
  subst l8 y8 z8
  obtain ⟨h8, e8⟩ : ∃ z, T8.heap = z := ⟨_, rfl⟩
  rw [e8] at hQ8
  obtain ⟨b8b, rfl, N8q, p8_0, p8_1, p8_2, p8_3⟩ := hQ8
  have N8 := Fr.app N7 N8q
  have A2 := A2.keep p8_0
  have Fz5 := Fz5.keep p8_0 nin0
  have Fz6 := Fz6.keep p8_0 nin0
  have O9 := O3.keep p8_0 all0
  have nx_b8b_b2 : b8b ≠ b2 := ne_exa p8_1 A2 (by decide)
  obtain ⟨cq11, kq11, q11a, q11b, q11c⟩ := isOf hZ e8 A2
  obtain ⟨_, _, ⟨T11, L11, k11, n11⟩, -, X11, ⟨Lc11, hQ11, l11, y11, z11⟩, st11⟩ := X8.virtualBack hx (y := y_10) (z := y_10) hown (mvT hZ (W 34 rfl)) (mvT hZ (W 35 rfl)) (notFace_of_selects (args := #[]) (mvT hZ (W 37 rfl))) (mvT hZ (W 37 rfl)) (mvT hZ (W 36 rfl)) (by decide) (backOf (W := 0) (setnm l Z a0 hw [] b2 b8b (q1 / (1000 : Int64)) (((q1 - q1 / (1000 : Int64) * (1000 : Int64)).toInt32) * (1000000 : Int32)) q1 (0 : Int64) (0 : Int64) h8 n0 O9 A2 p8_1 p8_2 p8_3 Fz5 Fz6 g_b2 nx_b8b_b2 (own_hs hq1) (own_hn hq1) (own_rt hq1) (own_le0 q1)) hZ (W 38 rfl) (W 7 rfl) (by decide) (by decide)) q11a q11c (g := (mkF m 39 #[.val (.long p1), .second, .val (.long p2), .second, .val (.long q1), .second, .val (.long q2), .second, rv b2, .unset, .unset, .unset] [.ref b8b, .ref b2])) rfl (by rw [hml]; rfl) (Steps.refl _) (argsL := [.ref b8b]) (rest := []) (lenOf pd_8 rfl) rfl (by show 2 * 0 + _ ≤ _; exact Nat.le_of_eq rfl) (hb hby at_39) (fun _ _ => ⟨rfl, e8, (by decide : 2 + 0 ≤ _), (by decide : 4 + 0 ≤ _)⟩)
  dsimp only [Pt.U, Pt.locs, Pt.cells, Pt.slots] at X11 l11 y11 z11 st11 hQ11
  subst l11 y11 z11
  obtain ⟨h11, e11⟩ : ∃ z, T11.heap = z := ⟨_, rfl⟩
  rw [e11] at hQ11
  obtain ⟨rfl, N11q, p11_0, p11_1, p11_2⟩ := hQ11
  have N11 := Fr.app N8 N11q
  have A2 := A2.keep p11_0
  have O12 := O9.keep p11_0 (allS g_b2 all0)
  obtain ⟨cq14, kq14, q14a, q14b, q14c⟩ := isOf hZ e11 A2
  obtain ⟨_, _, ⟨T14, L14, k14, n14⟩, -, X14, ⟨Lc14, hQ14, l14, y14, z14⟩, st14⟩ := X11.virtualBack hx (y := y_11) (z := y_11) hown (mvT hZ (W 62 rfl)) (mvT hZ (W 63 rfl)) (notFace_of_selects (args := #[]) (mvT hZ (W 65 rfl))) (mvT hZ (W 65 rfl)) (mvT hZ (W 64 rfl)) (by decide) (backOf (W := 0) (adv l Z a0 hw [] b2 (0 : Int64) q1 h11 n0 O12 A2 p11_1 p11_2 g_b2) hZ (W 66 rfl) (W 7 rfl) (by decide) (by decide)) q14a q14c (g := (mkF m 44 #[.val (.long p1), .second, .val (.long p2), .second, .val (.long q1), .second, .val (.long q2), .second, rv b2, .unset, .unset, .unset] [.ref b2])) rfl (by rw [hml]; rfl) (Steps.refl _) (argsL := []) (rest := []) (lenOf pd_6 rfl) rfl (by show 2 * 0 + _ ≤ _; exact Nat.le_of_eq rfl) (hb hby at_44) (fun _ _ => ⟨rfl, e11, (by decide : 2 + 0 ≤ _), (by decide : 4 + 0 ≤ _)⟩)
  dsimp only [Pt.U, Pt.locs, Pt.cells, Pt.slots] at X14 l14 y14 z14 st14 hQ14
  subst l14 y14 z14
  obtain ⟨h14, e14⟩ : ∃ z, T14.heap = z := ⟨_, rfl⟩
  rw [e14] at hQ14
  obtain ⟨rfl, N14q, p14_0, p14_1, p14_2⟩ := hQ14
  have N14 := Fr.app N11 N14q
  have A2 := A2.keep p14_0
  have O15 := O12.keep p14_0 (allS g_b2 all0)
  obtain ⟨cq17, kq17, q17a, q17b, q17c⟩ := isOf hZ e14 A2
  obtain ⟨_, _, ⟨T17, L17, k17, n17⟩, -, X17, ⟨Lc17, hQ17, l17, y17, z17⟩, st17⟩ := X14.virtualBack hx (y := y_12) (z := y_12) hown (mvT hZ (W 67 rfl)) (mvT hZ (W 68 rfl)) (notFace_of_selects (args := #[]) (mvT hZ (W 70 rfl))) (mvT hZ (W 70 rfl)) (mvT hZ (W 69 rfl)) (by decide) (backOf (W := 0) (mls l Z a0 hw [] b2 ((0 : Int64) + q1) h14 n0 O15 p14_1) hZ (W 71 rfl) (W 7 rfl) (by decide) (by decide)) q17a q17c (g := (mkF m 49 #[.val (.long p1), .second, .val (.long p2), .second, .val (.long q1), .second, .val (.long q2), .second, rv b2, .unset, .unset, .unset] [.ref b2])) rfl (by rw [hml]; rfl) (Steps.refl _) (argsL := []) (rest := []) (lenOf pd_5 rfl) rfl (by show 2 * 0 + _ ≤ _; exact Nat.le_of_eq rfl) (hb hby at_49) (fun _ _ => ⟨rfl, e14, (by decide : 2 + 0 ≤ _), (by decide : 4 + 0 ≤ _)⟩)
  dsimp only [Pt.U, Pt.locs, Pt.cells, Pt.slots] at X17 l17 y17 z17 st17 hQ17
  subst l17 y17 z17
  obtain ⟨h17, e17⟩ : ∃ z, T17.heap = z := ⟨_, rfl⟩
  rw [e17] at hQ17
  obtain ⟨rfl, N17q, p17_0⟩ := hQ17
  have N17 := Fr.app N14 N17q
  rw [p17_0] at e17
  obtain ⟨cq18, kq18, q18a, q18b, q18c⟩ := isOf hZ e17 A2
  obtain ⟨_, _, ⟨T18, L18, k18, n18⟩, -, X18, ⟨Lc18, hQ18, l18, y18, z18⟩, st18⟩ := X17.virtualBack hx (y := y_11) (z := y_11) hown (mvT hZ (W 62 rfl)) (mvT hZ (W 63 rfl)) (notFace_of_selects (args := #[]) (mvT hZ (W 65 rfl))) (mvT hZ (W 65 rfl)) (mvT hZ (W 64 rfl)) (by decide) (backOf (W := 0) (adv l Z a0 hw [] b2 ((0 : Int64) + q1) (0 : Int64) h14 n0 O15 A2 p14_1 p14_2 g_b2) hZ (W 66 rfl) (W 7 rfl) (by decide) (by decide)) q18a q18c (g := (mkF m 67 #[.val (.long p1), .second, .val (.long p2), .second, .val (.long q1), .second, .val (.long q2), .second, rv b2, iv 1, .unset, .unset] [.ref b2])) rfl (by rw [hml]; rfl) (Steps.refl _) (argsL := []) (rest := []) (lenOf pd_6 rfl) rfl (by show 2 * 0 + _ ≤ _; exact Nat.le_of_eq rfl) (hb hby at_67) (fun _ _ => ⟨rfl, e17, (by decide : 2 + 0 ≤ _), (by decide : 4 + 0 ≤ _)⟩)
  dsimp only [Pt.U, Pt.locs, Pt.cells, Pt.slots] at X18 l18 y18 z18 st18 hQ18
  subst l18 y18 z18
  obtain ⟨h18, e18⟩ : ∃ z, T18.heap = z := ⟨_, rfl⟩
  rw [e18] at hQ18
  obtain ⟨rfl, N18q, p18_0, p18_1, p18_2⟩ := hQ18
  have N18 := Fr.app N17 N18q
  have A2 := A2.keep p18_0
  have O19 := O15.keep p18_0 (allS g_b2 all0)
  obtain ⟨cq21, kq21, q21a, q21b, q21c⟩ := isOf hZ e18 A2
  obtain ⟨_, _, ⟨T21, L21, k21, n21⟩, -, X21, ⟨Lc21, hQ21, l21, y21, z21⟩, st21⟩ := X18.virtualBack hx (y := y_12) (z := y_12) hown (mvT hZ (W 67 rfl)) (mvT hZ (W 68 rfl)) (notFace_of_selects (args := #[]) (mvT hZ (W 70 rfl))) (mvT hZ (W 70 rfl)) (mvT hZ (W 69 rfl)) (by decide) (backOf (W := 0) (mls l Z a0 hw [] b2 (((0 : Int64) + q1) + (0 : Int64)) h18 n0 O19 p18_1) hZ (W 71 rfl) (W 7 rfl) (by decide) (by decide)) q21a q21c (g := (mkF m 72 #[.val (.long p1), .second, .val (.long p2), .second, .val (.long q1), .second, .val (.long q2), .second, rv b2, iv 1, .unset, .unset] [.ref b2])) rfl (by rw [hml]; rfl) (Steps.refl _) (argsL := []) (rest := []) (lenOf pd_5 rfl) rfl (by show 2 * 0 + _ ≤ _; exact Nat.le_of_eq rfl) (hb hby at_72) (fun _ _ => ⟨rfl, e18, (by decide : 2 + 0 ≤ _), (by decide : 4 + 0 ≤ _)⟩)
  dsimp only [Pt.U, Pt.locs, Pt.cells, Pt.slots] at X21 l21 y21 z21 st21 hQ21
  subst l21 y21 z21
  obtain ⟨h21, e21⟩ : ∃ z, T21.heap = z := ⟨_, rfl⟩
  rw [e21] at hQ21
  obtain ⟨rfl, N21q, p21_0⟩ := hQ21
  have N21 := Fr.app N18 N21q
  rw [p21_0] at e21
  obtain ⟨_, _, ⟨T22, L22, k22, n22⟩, -, X22, ⟨Lc22, hQ22, l22, y22, z22⟩, st22⟩ := Jvm.LawKit.callS X21 hx (y := y_4) hown (mvT hZ (W 14 rfl)) (mvT hZ (W 15 rfl)) (mvT hZ (W 16 rfl)) (mvT hZ (W 17 rfl)) (by decide) (backOf (W := 1) (ofms l Z a0 hw [] q2 w_ZERO h18 n0 O19 S_w_ZERO E_w_ZERO F_w_ZERO_seconds F_w_ZERO_nanos hq2.1) hZ (W 17 rfl) (W 16 rfl) (by decide) (by decide)) (g := (mkF m 92 #[.val (.long p1), .second, .val (.long p2), .second, .val (.long q1), .second, .val (.long q2), .second, rv b2, iv 1, iv 1, .unset] [.long q2, .ref b2])) rfl (by rw [hml]; rfl) (argsL := [.long q2]) (rest := [.ref b2]) (lenOf pd_7 rfl) rfl (by show 2 * 0 + _ ≤ _; exact Nat.le_of_eq rfl) (hb hby at_92) (fun _ _ => ⟨rfl, e21, (by decide : 2 + 1 ≤ _), (by decide : 4 + 2 ≤ _)⟩)
  dsimp only [Pt.U, Pt.locs, Pt.cells, Pt.slots] at X22 l22 y22 z22 st22 hQ22
  subst l22 y22 z22
  obtain ⟨h22, e22⟩ : ∃ z, T22.heap = z := ⟨_, rfl⟩
  rw [e22] at hQ22
  obtain ⟨b22b, rfl, N22q, p22_0, p22_1, p22_2, p22_3⟩ := hQ22
  have N22 := Fr.app N21 N22q
  have A2 := A2.keep p22_0
  have p18_1 := p18_1.keep p22_0 nin0
  have p18_2 := p18_2.keep p22_0 nin0
  have O23 := O19.keep p22_0 all0
  have nx_b22b_b2 : b22b ≠ b2 := ne_exa p22_1 A2 (by decide)
  obtain ⟨cq25, kq25, q25a, q25b, q25c⟩ := isOf hZ e22 A2
  obtain ⟨_, _, ⟨T25, L25, k25, n25⟩, -, X25, ⟨Lc25, hQ25, l25, y25, z25⟩, st25⟩ := X22.virtualBack hx (y := y_10) (z := y_10) hown (mvT hZ (W 34 rfl)) (mvT hZ (W 35 rfl)) (notFace_of_selects (args := #[]) (mvT hZ (W 37 rfl))) (mvT hZ (W 37 rfl)) (mvT hZ (W 36 rfl)) (by decide) (backOf (W := 0) (setnm l Z a0 hw [] b2 b22b (q2 / (1000 : Int64)) (((q2 - q2 / (1000 : Int64) * (1000 : Int64)).toInt32) * (1000000 : Int32)) q2 (((0 : Int64) + q1) + (0 : Int64)) (0 : Int64) h22 n0 O23 A2 p22_1 p22_2 p22_3 p18_1 p18_2 g_b2 nx_b22b_b2 (own_hs hq2.1) (own_hn hq2.1) (own_rt hq2.1) (own_le1 hq1 hq2)) hZ (W 38 rfl) (W 7 rfl) (by decide) (by decide)) q25a q25c (g := (mkF m 95 #[.val (.long p1), .second, .val (.long p2), .second, .val (.long q1), .second, .val (.long q2), .second, rv b2, iv 1, iv 1, .unset] [.ref b22b, .ref b2])) rfl (by rw [hml]; rfl) (Steps.refl _) (argsL := [.ref b22b]) (rest := []) (lenOf pd_8 rfl) rfl (by show 2 * 0 + _ ≤ _; exact Nat.le_of_eq rfl) (hb hby at_95) (fun _ _ => ⟨rfl, e22, (by decide : 3 + 0 ≤ _), (by decide : 6 + 0 ≤ _)⟩)
  dsimp only [Pt.U, Pt.locs, Pt.cells, Pt.slots] at X25 l25 y25 z25 st25 hQ25
  subst l25 y25 z25
  obtain ⟨h25, e25⟩ : ∃ z, T25.heap = z := ⟨_, rfl⟩
  rw [e25] at hQ25
  obtain ⟨rfl, N25q, p25_0, p25_1, p25_2⟩ := hQ25
  have N25 := Fr.app N22 N25q
  have A2 := A2.keep p25_0
  have O26 := O23.keep p25_0 (allS g_b2 all0)
  obtain ⟨cq28, kq28, q28a, q28b, q28c⟩ := isOf hZ e25 A2
  obtain ⟨_, _, ⟨T28, L28, k28, n28⟩, -, X28, ⟨Lc28, hQ28, l28, y28, z28⟩, st28⟩ := X25.virtualBack hx (y := y_11) (z := y_11) hown (mvT hZ (W 62 rfl)) (mvT hZ (W 63 rfl)) (notFace_of_selects (args := #[]) (mvT hZ (W 65 rfl))) (mvT hZ (W 65 rfl)) (mvT hZ (W 64 rfl)) (by decide) (backOf (W := 0) (adv l Z a0 hw [] b2 (((0 : Int64) + q1) + (0 : Int64)) q2 h25 n0 O26 A2 p25_1 p25_2 g_b2) hZ (W 66 rfl) (W 7 rfl) (by decide) (by decide)) q28a q28c (g := (mkF m 100 #[.val (.long p1), .second, .val (.long p2), .second, .val (.long q1), .second, .val (.long q2), .second, rv b2, iv 1, iv 1, .unset] [.ref b2])) rfl (by rw [hml]; rfl) (Steps.refl _) (argsL := []) (rest := []) (lenOf pd_6 rfl) rfl (by show 2 * 0 + _ ≤ _; exact Nat.le_of_eq rfl) (hb hby at_100) (fun _ _ => ⟨rfl, e25, (by decide : 3 + 0 ≤ _), (by decide : 6 + 0 ≤ _)⟩)
  dsimp only [Pt.U, Pt.locs, Pt.cells, Pt.slots] at X28 l28 y28 z28 st28 hQ28
  subst l28 y28 z28
  obtain ⟨h28, e28⟩ : ∃ z, T28.heap = z := ⟨_, rfl⟩
  rw [e28] at hQ28
  obtain ⟨rfl, N28q, p28_0, p28_1, p28_2⟩ := hQ28
  have N28 := Fr.app N25 N28q
  have A2 := A2.keep p28_0
  have O29 := O26.keep p28_0 (allS g_b2 all0)
  obtain ⟨cq31, kq31, q31a, q31b, q31c⟩ := isOf hZ e28 A2
  obtain ⟨_, _, ⟨T31, L31, k31, n31⟩, -, X31, ⟨Lc31, hQ31, l31, y31, z31⟩, st31⟩ := X28.virtualBack hx (y := y_12) (z := y_12) hown (mvT hZ (W 67 rfl)) (mvT hZ (W 68 rfl)) (notFace_of_selects (args := #[]) (mvT hZ (W 70 rfl))) (mvT hZ (W 70 rfl)) (mvT hZ (W 69 rfl)) (by decide) (backOf (W := 0) (mls l Z a0 hw [] b2 ((((0 : Int64) + q1) + (0 : Int64)) + q2) h28 n0 O29 p28_1) hZ (W 71 rfl) (W 7 rfl) (by decide) (by decide)) q31a q31c (g := (mkF m 105 #[.val (.long p1), .second, .val (.long p2), .second, .val (.long q1), .second, .val (.long q2), .second, rv b2, iv 1, iv 1, .unset] [.ref b2])) rfl (by rw [hml]; rfl) (Steps.refl _) (argsL := []) (rest := []) (lenOf pd_5 rfl) rfl (by show 2 * 0 + _ ≤ _; exact Nat.le_of_eq rfl) (hb hby at_105) (fun _ _ => ⟨rfl, e28, (by decide : 3 + 0 ≤ _), (by decide : 6 + 0 ≤ _)⟩)
  dsimp only [Pt.U, Pt.locs, Pt.cells, Pt.slots] at X31 l31 y31 z31 st31 hQ31
  subst l31 y31 z31
  obtain ⟨h31, e31⟩ : ∃ z, T31.heap = z := ⟨_, rfl⟩
  rw [e31] at hQ31
  obtain ⟨rfl, N31q, p31_0⟩ := hQ31
  have N31 := Fr.app N28 N31q
  rw [p31_0] at e31
  obtain ⟨fs, hr, hrun, hended, hW, hsame⟩ := X31.leave (v := some (.int (1 : Int32))) (fun h => by rw [Bd.returns] at h; cases h)
  refine ⟨_, _, pre0 _ ?_, hrun, hended, _, _, rfl, ?_, ⟨_, rfl⟩, hW, hsame.mono (by decide) (by decide)⟩
  · show Sq p e below m s₁ 0 #[.val (.long p1), .second, .val (.long p2), .second, .unset, .unset, .unset, .unset, .unset, .unset, .unset, .unset] [] _
    refine XS.lloadN X0.here hx rfl (hb hby at_0) rfl ?_
    show Sq p e below m s₁ 1 #[.val (.long p1), .second, .val (.long p2), .second, .unset, .unset, .unset, .unset, .unset, .unset, .unset, .unset] [.long p1] _
    refine X0.ldc2Long hx hown (mvT hZ (W 0 rfl)) (g := (mkF m 1 #[.val (.long p1), .second, .val (.long p2), .second, .unset, .unset, .unset, .unset, .unset, .unset, .unset, .unset] [.long p1])) rfl (hb hby at_1) _ ?_
    show Sq p e below m s₁ 4 #[.val (.long p1), .second, .val (.long p2), .second, .unset, .unset, .unset, .unset, .unset, .unset, .unset, .unset] [.long 9223372036854775807, .long p1] _
    refine XS.land X0.here hx rfl (hb hby at_4) rfl ?_
    show Sq p e below m s₁ 5 #[.val (.long p1), .second, .val (.long p2), .second, .unset, .unset, .unset, .unset, .unset, .unset, .unset, .unset] [.long (p1 &&& (9223372036854775807 : Int64))] _
    rw [hf1]
    show Sq p e below m s₁ 5 #[.val (.long p1), .second, .val (.long p2), .second, .unset, .unset, .unset, .unset, .unset, .unset, .unset, .unset] [.long q1] _
    refine XS.lstore X0.here hx rfl (hb hby at_5) rfl rfl ?_
    refine XS.lloadN X0.here hx rfl (hb hby at_7) rfl ?_
    show Sq p e below m s₁ 8 #[.val (.long p1), .second, .val (.long p2), .second, .val (.long q1), .second, .unset, .unset, .unset, .unset, .unset, .unset] [.long p2] _
    refine X0.ldc2Long hx hown (mvT hZ (W 0 rfl)) (g := (mkF m 8 #[.val (.long p1), .second, .val (.long p2), .second, .val (.long q1), .second, .unset, .unset, .unset, .unset, .unset, .unset] [.long p2])) rfl (hb hby at_8) _ ?_
    show Sq p e below m s₁ 11 #[.val (.long p1), .second, .val (.long p2), .second, .val (.long q1), .second, .unset, .unset, .unset, .unset, .unset, .unset] [.long 9223372036854775807, .long p2] _
    refine XS.land X0.here hx rfl (hb hby at_11) rfl ?_
    show Sq p e below m s₁ 12 #[.val (.long p1), .second, .val (.long p2), .second, .val (.long q1), .second, .unset, .unset, .unset, .unset, .unset, .unset] [.long (p2 &&& (9223372036854775807 : Int64))] _
    rw [hf2]
    show Sq p e below m s₁ 12 #[.val (.long p1), .second, .val (.long p2), .second, .val (.long q1), .second, .unset, .unset, .unset, .unset, .unset, .unset] [.long m2] _
    refine X0.ldc2Long hx hown (mvT hZ (W 0 rfl)) (g := (mkF m 12 #[.val (.long p1), .second, .val (.long p2), .second, .val (.long q1), .second, .unset, .unset, .unset, .unset, .unset, .unset] [.long m2])) rfl (hb hby at_12) _ ?_
    show Sq p e below m s₁ 15 #[.val (.long p1), .second, .val (.long p2), .second, .val (.long q1), .second, .unset, .unset, .unset, .unset, .unset, .unset] [.long 9223372036854775807, .long m2] _
    refine XS.lload X0.here hx rfl (hb hby at_15) rfl ?_
    refine XS.lsub X0.here hx rfl (hb hby at_17) rfl ?_
    show Sq p e below m s₁ 18 #[.val (.long p1), .second, .val (.long p2), .second, .val (.long q1), .second, .unset, .unset, .unset, .unset, .unset, .unset] [.long ((9223372036854775807 : Int64) - q1), .long m2] _
    refine st1 _ ?_
    show Sq p e below m T1 21 #[.val (.long p1), .second, .val (.long p2), .second, .val (.long q1), .second, .unset, .unset, .unset, .unset, .unset, .unset] [.long (own_minL m2 ((9223372036854775807 : Int64) - q1))] _
    rw [hf3]
    show Sq p e below m T1 21 #[.val (.long p1), .second, .val (.long p2), .second, .val (.long q1), .second, .unset, .unset, .unset, .unset, .unset, .unset] [.long q2] _
    refine XS.lstore X1.here hx rfl (hb hby at_21) rfl rfl ?_
    show Sq p e below m T1 23 #[.val (.long p1), .second, .val (.long p2), .second, .val (.long q1), .second, .val (.long q2), .second, .unset, .unset, .unset, .unset] [] _
    refine st2 _ ?_
    show Sq p e below m T2 26 #[.val (.long p1), .second, .val (.long p2), .second, .val (.long q1), .second, .val (.long q2), .second, .unset, .unset, .unset, .unset] [.ref b2] _
    refine XS.dup X2.here hx rfl (hb hby at_26) rfl rfl ?_
    show Sq p e below m T2 27 #[.val (.long p1), .second, .val (.long p2), .second, .val (.long q1), .second, .val (.long q2), .second, .unset, .unset, .unset, .unset] [.ref b2, .ref b2] _
    refine st7.trans ?_
    show Sq p e below m T7 30 #[.val (.long p1), .second, .val (.long p2), .second, .val (.long q1), .second, .val (.long q2), .second, .unset, .unset, .unset, .unset] [.ref b2] _
    refine XS.astore X7.here hx rfl (hb hby at_30) rfl rfl rfl ?_
    refine XS.aload X7.here hx rfl (hb hby at_32) rfl rfl ?_
    show Sq p e below m T7 34 #[.val (.long p1), .second, .val (.long p2), .second, .val (.long q1), .second, .val (.long q2), .second, rv b2, .unset, .unset, .unset] [.ref b2] _
    refine XS.lload X7.here hx rfl (hb hby at_34) rfl ?_
    show Sq p e below m T7 36 #[.val (.long p1), .second, .val (.long p2), .second, .val (.long q1), .second, .val (.long q2), .second, rv b2, .unset, .unset, .unset] [.long q1, .ref b2] _
    refine st8 _ ?_
    show Sq p e below m T8 39 #[.val (.long p1), .second, .val (.long p2), .second, .val (.long q1), .second, .val (.long q2), .second, rv b2, .unset, .unset, .unset] [.ref b8b, .ref b2] _
    refine st11.trans ?_
    show Sq p e below m T11 42 #[.val (.long p1), .second, .val (.long p2), .second, .val (.long q1), .second, .val (.long q2), .second, rv b2, .unset, .unset, .unset] [] _
    refine XS.aload X11.here hx rfl (hb hby at_42) rfl rfl ?_
    show Sq p e below m T11 44 #[.val (.long p1), .second, .val (.long p2), .second, .val (.long q1), .second, .val (.long q2), .second, rv b2, .unset, .unset, .unset] [.ref b2] _
    refine st14.trans ?_
    show Sq p e below m T14 47 #[.val (.long p1), .second, .val (.long p2), .second, .val (.long q1), .second, .val (.long q2), .second, rv b2, .unset, .unset, .unset] [] _
    refine XS.aload X14.here hx rfl (hb hby at_47) rfl rfl ?_
    show Sq p e below m T14 49 #[.val (.long p1), .second, .val (.long p2), .second, .val (.long q1), .second, .val (.long q2), .second, rv b2, .unset, .unset, .unset] [.ref b2] _
    refine st17.trans ?_
    show Sq p e below m T17 52 #[.val (.long p1), .second, .val (.long p2), .second, .val (.long q1), .second, .val (.long q2), .second, rv b2, .unset, .unset, .unset] [.long ((0 : Int64) + q1)] _
    refine XS.lload X17.here hx rfl (hb hby at_52) rfl ?_
    refine XS.lcmp X17.here hx rfl (hb hby at_54) rfl ?_
    show Sq p e below m T17 55 #[.val (.long p1), .second, .val (.long p2), .second, .val (.long q1), .second, .val (.long q2), .second, rv b2, .unset, .unset, .unset] [.int (lcmpW ((0 : Int64) + q1) q1)] _
    refine XS.ifNo X17.here hx rfl (hb hby at_55) rfl ((if0 _ _).trans (teq (own_c1 q1 : (lcmpW ((0 : Int64) + q1) q1) = (0 : Int32))).2) ?_
    refine XS.iconst X17.here hx rfl (hb hby at_58) ?_
    show Sq p e below m T17 59 #[.val (.long p1), .second, .val (.long p2), .second, .val (.long q1), .second, .val (.long q2), .second, rv b2, .unset, .unset, .unset] [.int 1] _
    refine XS.goto X17.here hx rfl (pc0 := 59) (pc' := 63) rfl (hb hby at_59) (by decide) (by decide) ?_
    refine XS.istore X17.here hx rfl (hb hby at_63) rfl rfl ?_
    show Sq p e below m T17 65 #[.val (.long p1), .second, .val (.long p2), .second, .val (.long q1), .second, .val (.long q2), .second, rv b2, iv 1, .unset, .unset] [] _
    refine XS.aload X17.here hx rfl (hb hby at_65) rfl rfl ?_
    show Sq p e below m T17 67 #[.val (.long p1), .second, .val (.long p2), .second, .val (.long q1), .second, .val (.long q2), .second, rv b2, iv 1, .unset, .unset] [.ref b2] _
    refine st18.trans ?_
    show Sq p e below m T18 70 #[.val (.long p1), .second, .val (.long p2), .second, .val (.long q1), .second, .val (.long q2), .second, rv b2, iv 1, .unset, .unset] [] _
    refine XS.aload X18.here hx rfl (hb hby at_70) rfl rfl ?_
    show Sq p e below m T18 72 #[.val (.long p1), .second, .val (.long p2), .second, .val (.long q1), .second, .val (.long q2), .second, rv b2, iv 1, .unset, .unset] [.ref b2] _
    refine st21.trans ?_
    show Sq p e below m T21 75 #[.val (.long p1), .second, .val (.long p2), .second, .val (.long q1), .second, .val (.long q2), .second, rv b2, iv 1, .unset, .unset] [.long (((0 : Int64) + q1) + (0 : Int64))] _
    refine XS.lload X21.here hx rfl (hb hby at_75) rfl ?_
    refine XS.lcmp X21.here hx rfl (hb hby at_77) rfl ?_
    show Sq p e below m T21 78 #[.val (.long p1), .second, .val (.long p2), .second, .val (.long q1), .second, .val (.long q2), .second, rv b2, iv 1, .unset, .unset] [.int (lcmpW (((0 : Int64) + q1) + (0 : Int64)) q1)] _
    refine XS.ifNo X21.here hx rfl (hb hby at_78) rfl ((if0 _ _).trans (teq (own_c2 q1 : (lcmpW (((0 : Int64) + q1) + (0 : Int64)) q1) = (0 : Int32))).2) ?_
    refine XS.iconst X21.here hx rfl (hb hby at_81) ?_
    show Sq p e below m T21 82 #[.val (.long p1), .second, .val (.long p2), .second, .val (.long q1), .second, .val (.long q2), .second, rv b2, iv 1, .unset, .unset] [.int 1] _
    refine XS.goto X21.here hx rfl (pc0 := 82) (pc' := 86) rfl (hb hby at_82) (by decide) (by decide) ?_
    refine XS.istore X21.here hx rfl (hb hby at_86) rfl rfl ?_
    show Sq p e below m T21 88 #[.val (.long p1), .second, .val (.long p2), .second, .val (.long q1), .second, .val (.long q2), .second, rv b2, iv 1, iv 1, .unset] [] _
    refine XS.aload X21.here hx rfl (hb hby at_88) rfl rfl ?_
    refine XS.lload X21.here hx rfl (hb hby at_90) rfl ?_
    show Sq p e below m T21 92 #[.val (.long p1), .second, .val (.long p2), .second, .val (.long q1), .second, .val (.long q2), .second, rv b2, iv 1, iv 1, .unset] [.long q2, .ref b2] _
    refine st22 _ ?_
    show Sq p e below m T22 95 #[.val (.long p1), .second, .val (.long p2), .second, .val (.long q1), .second, .val (.long q2), .second, rv b2, iv 1, iv 1, .unset] [.ref b22b, .ref b2] _
    refine st25.trans ?_
    show Sq p e below m T25 98 #[.val (.long p1), .second, .val (.long p2), .second, .val (.long q1), .second, .val (.long q2), .second, rv b2, iv 1, iv 1, .unset] [] _
    refine XS.aload X25.here hx rfl (hb hby at_98) rfl rfl ?_
    show Sq p e below m T25 100 #[.val (.long p1), .second, .val (.long p2), .second, .val (.long q1), .second, .val (.long q2), .second, rv b2, iv 1, iv 1, .unset] [.ref b2] _
    refine st28.trans ?_
    show Sq p e below m T28 103 #[.val (.long p1), .second, .val (.long p2), .second, .val (.long q1), .second, .val (.long q2), .second, rv b2, iv 1, iv 1, .unset] [] _
    refine XS.aload X28.here hx rfl (hb hby at_103) rfl rfl ?_
    show Sq p e below m T28 105 #[.val (.long p1), .second, .val (.long p2), .second, .val (.long q1), .second, .val (.long q2), .second, rv b2, iv 1, iv 1, .unset] [.ref b2] _
    refine st31.trans ?_
    show Sq p e below m T31 108 #[.val (.long p1), .second, .val (.long p2), .second, .val (.long q1), .second, .val (.long q2), .second, rv b2, iv 1, iv 1, .unset] [.long ((((0 : Int64) + q1) + (0 : Int64)) + q2)] _
    refine XS.lload X31.here hx rfl (hb hby at_108) rfl ?_
    refine XS.lload X31.here hx rfl (hb hby at_110) rfl ?_
    show Sq p e below m T31 112 #[.val (.long p1), .second, .val (.long p2), .second, .val (.long q1), .second, .val (.long q2), .second, rv b2, iv 1, iv 1, .unset] [.long q2, .long q1, .long ((((0 : Int64) + q1) + (0 : Int64)) + q2)] _
    refine XS.ladd X31.here hx rfl (hb hby at_112) rfl ?_
    refine XS.lcmp X31.here hx rfl (hb hby at_113) rfl ?_
    show Sq p e below m T31 114 #[.val (.long p1), .second, .val (.long p2), .second, .val (.long q1), .second, .val (.long q2), .second, rv b2, iv 1, iv 1, .unset] [.int (lcmpW ((((0 : Int64) + q1) + (0 : Int64)) + q2) (q1 + q2))] _
    refine XS.ifNo X31.here hx rfl (hb hby at_114) rfl ((if0 _ _).trans (teq (own_c3 q1 q2 : (lcmpW ((((0 : Int64) + q1) + (0 : Int64)) + q2) (q1 + q2)) = (0 : Int32))).2) ?_
    refine XS.iconst X31.here hx rfl (hb hby at_117) ?_
    show Sq p e below m T31 118 #[.val (.long p1), .second, .val (.long p2), .second, .val (.long q1), .second, .val (.long q2), .second, rv b2, iv 1, iv 1, .unset] [.int 1] _
    refine XS.goto X31.here hx rfl (pc0 := 118) (pc' := 122) rfl (hb hby at_118) (by decide) (by decide) ?_
    refine XS.istore X31.here hx rfl (hb hby at_122) rfl rfl ?_
    show Sq p e below m T31 124 #[.val (.long p1), .second, .val (.long p2), .second, .val (.long q1), .second, .val (.long q2), .second, rv b2, iv 1, iv 1, iv 1] [] _
    refine XS.iload X31.here hx rfl (hb hby at_124) rfl ?_
    refine XS.ifNo X31.here hx rfl (hb hby at_126) rfl ((if0 _ _).trans (feq (by decide)).1) ?_
    show Sq p e below m T31 129 #[.val (.long p1), .second, .val (.long p2), .second, .val (.long q1), .second, .val (.long q2), .second, rv b2, iv 1, iv 1, iv 1] [] _
    refine XS.iload X31.here hx rfl (hb hby at_129) rfl ?_
    refine XS.ifNo X31.here hx rfl (hb hby at_131) rfl ((if0 _ _).trans (feq (by decide)).1) ?_
    show Sq p e below m T31 134 #[.val (.long p1), .second, .val (.long p2), .second, .val (.long q1), .second, .val (.long q2), .second, rv b2, iv 1, iv 1, iv 1] [] _
    refine XS.iload X31.here hx rfl (hb hby at_134) rfl ?_
    refine XS.ifNo X31.here hx rfl (hb hby at_136) rfl ((if0 _ _).trans (feq (by decide)).1) ?_
    show Sq p e below m T31 139 #[.val (.long p1), .second, .val (.long p2), .second, .val (.long q1), .second, .val (.long q2), .second, rv b2, iv 1, iv 1, iv 1] [] _
    refine XS.iconst X31.here hx rfl (hb hby at_139) ?_
    refine XS.goto X31.here hx rfl (pc0 := 140) (pc' := 144) rfl (hb hby at_140) (by decide) (by decide) ?_
    show Sq p e below m T31 144 #[.val (.long p1), .second, .val (.long p2), .second, .val (.long q1), .second, .val (.long q2), .second, rv b2, iv 1, iv 1, iv 1] [.int 1] _
    exact retN X31 hx (t := .boolean) Bd.returns (by simp) (hb hby at_144) hr
  · show Q_rm1 Z p1 p2 q1 m2 q2 w_ZERO h0 n0 _ T31.heap _
    rw [e31]
    exact ⟨rfl, N31⟩
set_option maxRecDepth 65536 in
set_option maxHeartbeats 40000000 in
theorem comes_1 {Post : Tables → Env → Array Value → State → Outcome → State → Prop} (hpost : ∀ tb e args s v u, (limb_1_1.after args s (.returned v) u = true ∧ limb_1_2.after args s (.returned v) u = true ∧ True) → FrameEnd s (.returned v) u (Jvm.fieldLocs frame_1_writes args s ++ Jvm.arrayLocs frame_1_arrays args s ++ Jvm.staticLocs frame_1_statics s) 16 128 → Post tb e args s (.returned v) u) :
    ArmFor flags0 classFile x code maxLocals ret World_1 tables_1 room_1 Calls_1 rest_1 Pre_1 Post := by
  intro l hfl _ _ p e ha hc hk s m args below hf hA hF happ hP
  obtain ⟨hcalls, hrest, hpre⟩ := hP
  obtain ⟨-, -, -, hnamed, -, -, -, hat⟩ := (Spec.applies_iff hf).mp happ
  obtain ⟨hg, hn⟩ := and_e (Cond.before_iff.mp (show (Jvm.Cond.and given_1 narrow_1).before args s = true from hpre))
  obtain ⟨gc, gr0⟩ := and_e hg
  obtain ⟨ga0, gr1⟩ := and_e gr0
  obtain ⟨w0, w1, rfl⟩ : ∃ w0 w1 : Value, args = #[w0, w1] := by
    have hs : args.size = 2 := by simpa [Cond.value, given_1] using gc
    obtain ⟨L⟩ := args
    match L, hs with
    | [w0, w1], _ => exact ⟨w0, w1, rfl⟩
  have hw := fun d (hd : d ∈ tables_1) => atoms_spec (ws := Jvm.Cond.code x code maxLocals ret :: tables_1) hat d (List.mem_cons_of_mem _ hd)
  have W := fun (i : Nat) {d : Jvm.Cond} (h : tables_1[i]? = some d) => hw d (List.mem_of_getElem? h)
  obtain ⟨hsets, hown0⟩ := atoms_of _ (rest_1_c_eq ▸ (show rest_1_c.before _ s = true from hrest))
  obtain ⟨i0, ei0⟩ := isL_v ga0
  obtain rfl : w0 = (.long i0) := Option.some.inj ei0
  obtain ⟨i1, ei1⟩ := isL_v gr1
  obtain rfl : w1 = (.long i1) := Option.some.inj ei1
  obtain ⟨w_ZERO, ev_w_ZERO⟩ := exa_v (Cond.before_iff.mp (hsets _ (List.mem_of_getElem? (i := 2) rfl)))
  have S_w_ZERO := Sta.start ev_w_ZERO (Or.inl (hsets _ (List.mem_of_getElem? (i := 1) rfl)))
  have E_w_ZERO := Exa.start ev_w_ZERO (Cond.before_iff.mp (hsets _ (List.mem_of_getElem? (i := 2) rfl)))
  have ev_w_ZERO_seconds := eqv_l (y := (0 : Int64)) rfl (Cond.before_iff.mp (hsets _ (List.mem_of_getElem? (i := 3) rfl)))
  have F_w_ZERO_seconds := own_fldR ev_w_ZERO ev_w_ZERO_seconds
  have ev_w_ZERO_nanos := eqv_i (Term.int_eval (0 : Int32)) (Cond.before_iff.mp (hsets _ (List.mem_of_getElem? (i := 4) rfl)))
  have F_w_ZERO_nanos := own_fldR ev_w_ZERO ev_w_ZERO_nanos
  obtain ⟨q1, hf1⟩ : ∃ q, (i0 &&& (9223372036854775807 : Int64)) = q := ⟨_, rfl⟩
  obtain ⟨m2, hf2⟩ : ∃ q, (i1 &&& (9223372036854775807 : Int64)) = q := ⟨_, rfl⟩
  obtain ⟨q2, hf3⟩ : ∃ q, (own_minL m2 ((9223372036854775807 : Int64) - q1)) = q := ⟨_, rfl⟩
  have hq1 := own_h1 hf1
  have hq2 := own_h2 hq1 (own_h1 hf2) hf3
  obtain ⟨n, o, h1, h2, h3, _, L, rfl, ⟨rfl, N⟩, hq⟩ := rm1 l s _ hw tables_1 i0 i1 q1 m2 q2 w_ZERO s.heap s.heap.size (Old.start s) S_w_ZERO E_w_ZERO F_w_ZERO_seconds F_w_ZERO_nanos hf1 hf2 hf3 hq1 hq2 p e ha hc hk s m _ below hf ((Spec.applies_iff_loose hf).mp happ).1 ⟨rfl, State.Warmed39.refl s, rfl⟩ trivial
  refine ⟨n, _, h1, h2, h3, hpost _ _ _ _ _ _ ⟨Cond.after_iff.mpr rfl, Cond.after_iff.mpr (eq_i res_at (Term.int_eval (1)) rfl), trivial⟩ ⟨hq.1, hq.2.1, (hq.2.2.sift fun y hy => Or.inr (N y hy)).mono (by decide) (by decide)⟩⟩
theorem main_1_1 : Claimed_1_1 := comes_1 fun _ _ _ _ _ _ h hF => ⟨h.1, hF⟩
theorem main_1_2 : Claimed_1_2 := comes_1 fun _ _ _ _ _ _ h hF => ⟨h.2.1, hF⟩
end Jvm.Pilot.@@N@@
namespace Jvm.Pilot.@@N@@
open Jvm Jvm.ClassFile Sem Op Lib Jvm.Free Jvm.Stand Jvm.Pilot.@@N@@.Jvm.D
/-! MADE BY PROGRAM (witnessworld.py) out of the Statement's table words and the real class files: 14 classes; the members and pool entries that the words name. The judged class is class 1, her method 1. -/
namespace start1
open Jvm.ClassFile
def u (s : String) : CpInfo := .utf8 (stringToUtf16 s)
/-- a pool by its gaps: so many unusable entries, then the entry; so many at the end -/
def gap : Nat → List CpInfo → List CpInfo
  | 0, r => r
  | n + 1, r => .unusable :: gap n r
def poolList (es : List (Nat × CpInfo)) (last : Nat) : List CpInfo := es.foldr (fun e r => gap e.1 (e.2 :: r)) (gap last [])
def pool (es : List (Nat × CpInfo)) (last : Nat) : Array CpInfo := ⟨poolList es last⟩
def fileOf (pool : Array CpInfo) (this : Nat) (attrs : Array Attribute := #[]) (ms : Array MethodInfo := #[]) (fl : Nat := 33) (sup : Nat := 0) (ifs : Array Nat := #[]) (fds : Array FieldInfo := #[]) : ClassFile where
  minorVersion := 0
  majorVersion := 65
  constantPool := pool
  accessFlags := fl
  thisClass := this
  superClass := sup
  interfaces := ifs
  fields := fds
  methods := ms
  attributes := attrs
def plain (name : String) (sup : Option ClassId) : Class where
  name := name
  kind := .ordinary
  loader := none
  accessFlags := 33
  super := sup
  interfaces := #[]
  cf := none
  fields := #[]
  methods := #[]
  instanceTypes := #[]
  staticTypes := #[]
  resolved := #[]
  callSites := []
  init := .initialized
  statics := none
  mirror := none

def pool0 : Array CpInfo := pool [(5, u "<init>"), (0, u "()V"), (1, .class_ 10), (1, u "java/lang/Object")] 113

def k0c0 : Code := { maxStack := 0, maxLocals := 1, code := object_method_1_code, exceptionTable := #[], attributes := #[] }
def k0m0 : Method := { name := "<init>", desc := "()V", sig := { parameters := [], returnType := none }, accessFlags := 1, code := some k0c0 }
/-- java/lang/Object -/
def k0 : Class := { plain "java/lang/Object" none with
  accessFlags := 33
  interfaces := #[]
  cf := some (fileOf pool0 8 #[] #[{ accessFlags := 1, nameIndex := 5, descriptorIndex := 6, attributes := #[] }] 33 0 #[] #[])
  fields := #[]
  methods := #[k0m0]
  instanceTypes := #[]
  staticTypes := #[]
  resolved := Array.replicate 124 none
  statics := none }

def pool1 : Array CpInfo := pool [(2, .class_ 4), (0, .nameAndType 5 6), (0, u "java/lang/Object"), (0, u "<init>"), (0, u "()V"), (2, .long 9223372036854775807), (1, .methodref 12 13), (0, .class_ 14), (0, .nameAndType 15 16), (0, u "java/lang/Math"), (0, u "min"), (0, u "(JJ)J"), (0, .class_ 18), (0, u "com/example/anole/anole/scenario/SimulatedClock"), (0, .methodref 17 3), (0, .methodref 21 22), (0, .class_ 23), (0, .nameAndType 24 25), (0, u "java/time/Duration"), (0, u "ofMillis"), (0, u "(J)Ljava/time/Duration;"), (0, .methodref 17 27), (0, .nameAndType 28 29), (0, u "setNextMove"), (0, u "(Ljava/time/Duration;)V"), (0, .methodref 17 31), (0, .nameAndType 32 6), (0, u "advance"), (0, .methodref 17 34), (0, .nameAndType 35 36), (0, u "millis"), (0, u "()J"), (0, .class_ 38), (0, u "com/example/anole/anole/scenario/SimulatedClockAdvancePinLaw"), (2, u "law"), (0, u "(JJ)Z")] 6

def k1m0 : Method := { name := "<init>", desc := "()V", sig := { parameters := [], returnType := none }, accessFlags := 1, code := none }
def k1c1 : Code := { maxStack := 6, maxLocals := 12, code := code, exceptionTable := #[], attributes := #[] }
def k1m1 : Method := { name := "law", desc := "(JJ)Z", sig := { parameters := [.long, .long], returnType := some .boolean }, accessFlags := 9, code := some k1c1 }
/-- com/example/anole/anole/scenario/SimulatedClockAdvancePinLaw -/
def k1 : Class := { plain "com/example/anole/anole/scenario/SimulatedClockAdvancePinLaw" (some 0) with
  accessFlags := 49
  interfaces := #[]
  cf := some (fileOf pool1 37 #[] #[{ accessFlags := 1, nameIndex := 5, descriptorIndex := 6, attributes := #[] }, { accessFlags := 9, nameIndex := 41, descriptorIndex := 42, attributes := #[] }] 49 2 #[] #[])
  fields := #[]
  methods := #[k1m0, k1m1]
  instanceTypes := #[]
  staticTypes := #[]
  resolved := Array.replicate 49 none
  statics := none }

def pool2 : Array CpInfo := pool [(1, .class_ 2), (0, u "java/lang/Math"), (1, .class_ 6), (1, u "java/lang/Object"), (0, u "<init>"), (0, u "()V"), (89, .class_ 100), (1, u "java/lang/Math$RandomNumberGeneratorHolder"), (17, .methodref 1 119), (0, .nameAndType 120 121), (0, u "multiplyExact"), (0, u "(JJ)J"), (0, .methodref 1 123), (0, .nameAndType 124 125), (0, u "abs"), (0, u "(J)J"), (2, .long 9223372036854775808), (43, u "negativeZeroFloatBits"), (0, u "J"), (2, u "negativeZeroDoubleBits"), (24, u "min"), (43, u "$assertionsDisabled"), (0, u "Z"), (91, u "twoToTheDoubleScaleDown"), (0, u "D"), (4, u "twoToTheDoubleScaleUp"), (9, u "E"), (3, u "PI"), (2, u "TAU"), (2, u "DEGREES_TO_RADIANS"), (0, u "RADIANS_TO_DEGREES"), (27, u "addExact"), (1, u "(JI)J")] 64

def k2m0 : Method := { name := "<init>", desc := "()V", sig := { parameters := [], returnType := none }, accessFlags := 2, code := none }
def k2c1 : Code := { maxStack := 6, maxLocals := 6, code := jdk_29_method_25_code, exceptionTable := #[], attributes := #[] }
def k2m1 : Method := { name := "addExact", desc := "(JJ)J", sig := { parameters := [.long, .long], returnType := some .long }, accessFlags := 9, code := some k2c1 }
def k2c2 : Code := { maxStack := 4, maxLocals := 3, code := jdk_29_method_29_code, exceptionTable := #[], attributes := #[] }
def k2m2 : Method := { name := "multiplyExact", desc := "(JI)J", sig := { parameters := [.long, .int], returnType := some .long }, accessFlags := 9, code := some k2c2 }
def k2c3 : Code := { maxStack := 4, maxLocals := 10, code := jdk_29_method_30_code, exceptionTable := #[], attributes := #[] }
def k2m3 : Method := { name := "multiplyExact", desc := "(JJ)J", sig := { parameters := [.long, .long], returnType := some .long }, accessFlags := 9, code := some k2c3 }
def k2c4 : Code := { maxStack := 4, maxLocals := 2, code := jdk_29_method_61_code, exceptionTable := #[], attributes := #[] }
def k2m4 : Method := { name := "abs", desc := "(J)J", sig := { parameters := [.long], returnType := some .long }, accessFlags := 9, code := some k2c4 }
def k2c5 : Code := { maxStack := 4, maxLocals := 4, code := jdk_29_method_70_code, exceptionTable := #[], attributes := #[] }
def k2m5 : Method := { name := "min", desc := "(JJ)J", sig := { parameters := [.long, .long], returnType := some .long }, accessFlags := 9, code := some k2c5 }
/-- java/lang/Math -/
def k2 : Class := { plain "java/lang/Math" (some 0) with
  accessFlags := 49
  interfaces := #[]
  cf := some (fileOf pool2 1 #[.nestMembers #[98]] #[{ accessFlags := 2, nameIndex := 7, descriptorIndex := 8, attributes := #[] }, { accessFlags := 9, nameIndex := 393, descriptorIndex := 121, attributes := #[] }, { accessFlags := 9, nameIndex := 120, descriptorIndex := 395, attributes := #[] }, { accessFlags := 9, nameIndex := 120, descriptorIndex := 121, attributes := #[] }, { accessFlags := 9, nameIndex := 124, descriptorIndex := 125, attributes := #[] }, { accessFlags := 9, nameIndex := 201, descriptorIndex := 121, attributes := #[] }] 49 4 #[] #[{ accessFlags := 25, nameIndex := 354, descriptorIndex := 339, attributes := #[] }, { accessFlags := 25, nameIndex := 358, descriptorIndex := 339, attributes := #[] }, { accessFlags := 25, nameIndex := 361, descriptorIndex := 339, attributes := #[] }, { accessFlags := 26, nameIndex := 364, descriptorIndex := 339, attributes := #[] }, { accessFlags := 26, nameIndex := 365, descriptorIndex := 339, attributes := #[] }, { accessFlags := 26, nameIndex := 172, descriptorIndex := 173, attributes := #[] }, { accessFlags := 26, nameIndex := 176, descriptorIndex := 173, attributes := #[] }, { accessFlags := 8, nameIndex := 344, descriptorIndex := 339, attributes := #[] }, { accessFlags := 8, nameIndex := 338, descriptorIndex := 339, attributes := #[] }, { accessFlags := 4120, nameIndex := 245, descriptorIndex := 246, attributes := #[] }])
  fields := #[{ name := "E", type := .double, accessFlags := 25, slot := 0, constantValue := 0 }, { name := "PI", type := .double, accessFlags := 25, slot := 1, constantValue := 0 }, { name := "TAU", type := .double, accessFlags := 25, slot := 2, constantValue := 0 }, { name := "DEGREES_TO_RADIANS", type := .double, accessFlags := 26, slot := 3, constantValue := 0 }, { name := "RADIANS_TO_DEGREES", type := .double, accessFlags := 26, slot := 4, constantValue := 0 }, { name := "negativeZeroFloatBits", type := .long, accessFlags := 26, slot := 5, constantValue := 0 }, { name := "negativeZeroDoubleBits", type := .long, accessFlags := 26, slot := 6, constantValue := 0 }, { name := "twoToTheDoubleScaleUp", type := .double, accessFlags := 8, slot := 7, constantValue := 0 }, { name := "twoToTheDoubleScaleDown", type := .double, accessFlags := 8, slot := 8, constantValue := 0 }, { name := "$assertionsDisabled", type := .boolean, accessFlags := 4120, slot := 9, constantValue := 0 }]
  methods := #[k2m0, k2m1, k2m2, k2m3, k2m4, k2m5]
  instanceTypes := #[]
  staticTypes := #[.double, .double, .double, .double, .double, .long, .long, .double, .double, .boolean]
  resolved := Array.replicate 460 none
  statics := none }

def pool3 : Array CpInfo := pool [(13, .class_ 14), (0, u "com/example/anole/anole/device/Clock"), (0, .class_ 16), (0, u "java/lang/Object")] 12

/-- com/example/anole/anole/device/Clock -/
def k3 : Class := { plain "com/example/anole/anole/device/Clock" (some 0) with
  accessFlags := 1537
  interfaces := #[]
  cf := some (fileOf pool3 13 #[] #[] 1537 15 #[] #[])
  fields := #[]
  methods := #[]
  instanceTypes := #[]
  staticTypes := #[]
  resolved := Array.replicate 29 none
  statics := none }

def pool4 : Array CpInfo := pool [(1, .methodref 2 3), (0, .class_ 4), (0, .nameAndType 5 6), (0, u "java/lang/Object"), (0, u "<init>"), (0, u "()V"), (0, .fieldref 8 9), (0, .class_ 10), (0, .nameAndType 11 12), (0, u "com/example/anole/anole/scenario/SimulatedClock"), (0, u "millis"), (0, u "J"), (0, .fieldref 8 14), (0, .nameAndType 15 12), (0, u "nextMoveMs"), (6, .methodref 23 24), (0, .class_ 25), (0, .nameAndType 26 27), (0, u "java/time/Duration"), (0, u "toMillis"), (0, u "()J"), (2, .long 9223372036854775807), (8, .class_ 40), (0, u "com/example/anole/anole/device/Clock"), (3, u "setNextMove"), (0, u "(Ljava/time/Duration;)V"), (2, u "advance")] 2

def k4c0 : Code := { maxStack := 1, maxLocals := 1, code := prog_113_method_1_code, exceptionTable := #[], attributes := #[] }
def k4m0 : Method := { name := "<init>", desc := "()V", sig := { parameters := [], returnType := none }, accessFlags := 1, code := some k4c0 }
def k4c1 : Code := { maxStack := 2, maxLocals := 1, code := prog_113_method_2_code, exceptionTable := #[], attributes := #[] }
def k4m1 : Method := { name := "millis", desc := "()J", sig := { parameters := [], returnType := some .long }, accessFlags := 1, code := some k4c1 }
def k4c2 : Code := { maxStack := 6, maxLocals := 4, code := prog_113_method_4_code, exceptionTable := #[], attributes := #[] }
def k4m2 : Method := { name := "setNextMove", desc := "(Ljava/time/Duration;)V", sig := { parameters := [(.object "java/time/Duration")], returnType := none }, accessFlags := 0, code := some k4c2 }
def k4c3 : Code := { maxStack := 5, maxLocals := 1, code := prog_113_method_5_code, exceptionTable := #[], attributes := #[] }
def k4m3 : Method := { name := "advance", desc := "()V", sig := { parameters := [], returnType := none }, accessFlags := 0, code := some k4c3 }
/-- com/example/anole/anole/scenario/SimulatedClock -/
def k4 : Class := { plain "com/example/anole/anole/scenario/SimulatedClock" (some 0) with
  accessFlags := 49
  interfaces := #[3]
  cf := some (fileOf pool4 8 #[] #[{ accessFlags := 1, nameIndex := 5, descriptorIndex := 6, attributes := #[] }, { accessFlags := 1, nameIndex := 11, descriptorIndex := 27, attributes := #[] }, { accessFlags := 0, nameIndex := 44, descriptorIndex := 45, attributes := #[] }, { accessFlags := 0, nameIndex := 48, descriptorIndex := 6, attributes := #[] }] 49 2 #[39] #[{ accessFlags := 2, nameIndex := 11, descriptorIndex := 12, attributes := #[] }, { accessFlags := 2, nameIndex := 15, descriptorIndex := 12, attributes := #[] }])
  fields := #[{ name := "millis", type := .long, accessFlags := 2, slot := 0, constantValue := 0 }, { name := "nextMoveMs", type := .long, accessFlags := 2, slot := 1, constantValue := 0 }]
  methods := #[k4m0, k4m1, k4m2, k4m3]
  instanceTypes := #[.long, .long]
  staticTypes := #[]
  resolved := Array.replicate 51 none
  statics := none }

def pool5 : Array CpInfo := pool [(1, .class_ 2), (0, u "java/time/temporal/TemporalAmount"), (0, .class_ 4), (0, u "java/lang/Object")] 11

/-- java/time/temporal/TemporalAmount -/
def k5 : Class := { plain "java/time/temporal/TemporalAmount" (some 0) with
  accessFlags := 1537
  interfaces := #[]
  cf := some (fileOf pool5 1 #[] #[] 1537 3 #[] #[])
  fields := #[]
  methods := #[]
  instanceTypes := #[]
  staticTypes := #[]
  resolved := Array.replicate 16 none
  statics := none }

def pool6 : Array CpInfo := pool [(1, .class_ 2), (0, u "java/lang/Comparable"), (0, .class_ 4), (0, u "java/lang/Object")] 7

/-- java/lang/Comparable -/
def k6 : Class := { plain "java/lang/Comparable" (some 0) with
  accessFlags := 1537
  interfaces := #[]
  cf := some (fileOf pool6 1 #[] #[] 1537 3 #[] #[])
  fields := #[]
  methods := #[]
  instanceTypes := #[]
  staticTypes := #[]
  resolved := Array.replicate 12 none
  statics := none }

def pool7 : Array CpInfo := pool [(1, .class_ 2), (0, u "java/io/Serializable"), (0, .class_ 4), (0, u "java/lang/Object")] 2

/-- java/io/Serializable -/
def k7 : Class := { plain "java/io/Serializable" (some 0) with
  accessFlags := 1537
  interfaces := #[]
  cf := some (fileOf pool7 1 #[] #[] 1537 3 #[] #[])
  fields := #[]
  methods := #[]
  instanceTypes := #[]
  staticTypes := #[]
  resolved := Array.replicate 7 none
  statics := none }

def pool8 : Array CpInfo := pool [(4, .methodref 5 6), (0, .class_ 7), (0, .nameAndType 8 9), (0, u "java/lang/Math"), (0, u "multiplyExact"), (0, u "(JI)J"), (0, .methodref 11 12), (0, .class_ 13), (0, .nameAndType 14 15), (0, u "java/time/Duration"), (0, u "create"), (0, u "(JI)Ljava/time/Duration;"), (5, u "(JJ)J"), (0, .methodref 5 23), (0, .nameAndType 24 21), (0, u "addExact"), (3, .long 1000), (1, .integer 1000000), (1, .fieldref 11 33), (0, .nameAndType 34 35), (0, u "ZERO"), (0, u "Ljava/time/Duration;"), (13, .class_ 51), (1, u "java/time/temporal/TemporalAmount"), (27, .class_ 81), (1, u "java/time/Duration$Lazy"), (35, u "seconds"), (21, u "<init>"), (17, .nameAndType 139 158), (0, u "()V"), (40, u "(J)Ljava/time/Duration;"), (15, .methodref 11 216), (0, .nameAndType 139 217), (0, u "(JI)V"), (0, .methodref 219 157), (0, .class_ 220), (0, u "java/lang/Object"), (0, .fieldref 11 222), (0, .nameAndType 117 223), (0, u "J"), (0, .fieldref 11 225), (0, .nameAndType 226 227), (0, u "nanos"), (0, u "I"), (11, .class_ 241), (1, u "java/time/Duration$DurationUnits"), (9, u "()J"), (17, .class_ 271), (1, u "java/time/Duration$1"), (22, .long 1000000), (68, u "BI_NANOS_PER_SECOND"), (0, u "Ljava/math/BigInteger;"), (120, .class_ 486), (0, u "java/lang/Comparable"), (0, .class_ 488), (0, u "java/io/Serializable"), (0, u "serialVersionUID"), (12, u "ofMillis"), (98, u "toMillis")] 54

def k8c0 : Code := { maxStack := 4, maxLocals := 5, code := jdk_2316_method_6_code, exceptionTable := #[], attributes := #[] }
def k8m0 : Method := { name := "ofMillis", desc := "(J)Ljava/time/Duration;", sig := { parameters := [.long], returnType := some (.object "java/time/Duration") }, accessFlags := 9, code := some k8c0 }
def k8c1 : Code := { maxStack := 5, maxLocals := 3, code := jdk_2316_method_16_code, exceptionTable := #[], attributes := #[] }
def k8m1 : Method := { name := "create", desc := "(JI)Ljava/time/Duration;", sig := { parameters := [.long, .int], returnType := some (.object "java/time/Duration") }, accessFlags := 10, code := some k8c1 }
def k8c2 : Code := { maxStack := 3, maxLocals := 4, code := jdk_2316_method_17_code, exceptionTable := #[], attributes := #[] }
def k8m2 : Method := { name := "<init>", desc := "(JI)V", sig := { parameters := [.long, .int], returnType := none }, accessFlags := 2, code := some k8c2 }
def k8c3 : Code := { maxStack := 6, maxLocals := 7, code := jdk_2316_method_57_code, exceptionTable := #[], attributes := #[] }
def k8m3 : Method := { name := "toMillis", desc := "()J", sig := { parameters := [], returnType := some .long }, accessFlags := 1, code := some k8c3 }
/-- java/time/Duration -/
def k8 : Class := { plain "java/time/Duration" (some 0) with
  accessFlags := 49
  interfaces := #[5, 6, 7]
  cf := some (fileOf pool8 11 #[.nestMembers #[269, 239, 79]] #[{ accessFlags := 9, nameIndex := 502, descriptorIndex := 199, attributes := #[] }, { accessFlags := 10, nameIndex := 14, descriptorIndex := 15, attributes := #[] }, { accessFlags := 2, nameIndex := 139, descriptorIndex := 217, attributes := #[] }, { accessFlags := 1, nameIndex := 601, descriptorIndex := 251, attributes := #[] }] 49 219 #[49, 485, 487] #[{ accessFlags := 25, nameIndex := 34, descriptorIndex := 35, attributes := #[] }, { accessFlags := 26, nameIndex := 489, descriptorIndex := 223, attributes := #[] }, { accessFlags := 26, nameIndex := 363, descriptorIndex := 364, attributes := #[] }, { accessFlags := 18, nameIndex := 117, descriptorIndex := 223, attributes := #[] }, { accessFlags := 18, nameIndex := 226, descriptorIndex := 227, attributes := #[] }])
  fields := #[{ name := "ZERO", type := (.object "java/time/Duration"), accessFlags := 25, slot := 0, constantValue := 0 }, { name := "serialVersionUID", type := .long, accessFlags := 26, slot := 1, constantValue := 0 }, { name := "BI_NANOS_PER_SECOND", type := (.object "java/math/BigInteger"), accessFlags := 26, slot := 2, constantValue := 0 }, { name := "seconds", type := .long, accessFlags := 18, slot := 0, constantValue := 0 }, { name := "nanos", type := .int, accessFlags := 18, slot := 1, constantValue := 0 }]
  methods := #[k8m0, k8m1, k8m2, k8m3]
  instanceTypes := #[.long, .int]
  staticTypes := #[(.object "java/time/Duration"), .long, (.object "java/math/BigInteger")]
  resolved := Array.replicate 656 none
  statics := some 0 }

def pool9 : Array CpInfo := pool [(1, u "java/lang/Cloneable"), (0, .class_ 1), (0, u "java/lang/Object"), (0, .class_ 3)] 3

/-- java/lang/Cloneable -/
def k9 : Class := { plain "java/lang/Cloneable" (some 0) with
  accessFlags := 1537
  interfaces := #[]
  cf := some (fileOf pool9 2 #[] #[] 1537 4 #[] #[])
  fields := #[]
  methods := #[]
  instanceTypes := #[]
  staticTypes := #[]
  resolved := Array.replicate 8 none
  statics := none }

/-- the primitive byte -/
def k10 : Class := { plain "byte" none with kind := .primitive 'B', accessFlags := 0x411 }
/-- [B -/
def k11 : Class := { plain "[B" (some 0) with kind := .array 10 .byte, interfaces := #[9, 7], accessFlags := 1041 }

/-- the primitive int -/
def k12 : Class := { plain "int" none with kind := .primitive 'I', accessFlags := 0x411 }
/-- [I -/
def k13 : Class := { plain "[I" (some 0) with kind := .array 12 .int, interfaces := #[9, 7], accessFlags := 1041 }

def heap : Heap := #[{ cls := 8, slots := #[.ref 1, .long 0, .null], vm := .statics 8 },
  { cls := 8, slots := #[.long 0, .int 0], vm := .none }]
def classes : Array Class := #[k0, k1, k2, k3, k4, k5, k6, k7, k8, k9, k10, k11, k12, k13]
def interned : List (Array UInt16 × Addr) := []
def slotsUsed : Nat := 5
def theMethod : MethodId := ⟨1, 1⟩
def args0 : Array Value := #[.long 5, .long 3]
def aboutOver (below : List Frame) : State where
  vm := { classes := classes, interned := interned.toArray }
  heap := heap
  slotsUsed := slotsUsed
  threads := #[{ frames := .invoking theMethod args0 :: below }]
def below0 : List Frame := [.native { method := ⟨0, 0⟩, args := #[] }]
def about1 : State := aboutOver below0
def p0 : Program := .bare "" "" ""
def e0 : Env := launch0.env 0 0 0
theorem w_frames : about1.frames = Frame.invoking theMethod args0 :: below0 := rfl
set_option maxRecDepth 65536 in
theorem w_args : argsFit about1.vm theMethod args0 = true := by decide +kernel
set_option maxRecDepth 65536 in
theorem w_heap : heapFits about1 = true := by decide +kernel
set_option maxRecDepth 65536 in
theorem w_runnable : about1.curStatus? = some .runnable := by decide +kernel
set_option maxRecDepth 65536 in
theorem w_alone : about1.alone = true := by decide +kernel
set_option maxRecDepth 65536 in
theorem w_named : about1.methodNamed? x = some theMethod := by decide +kernel
set_option maxRecDepth 65536 in
theorem w_hears : about1.hears theMethod below0 = true := by decide +kernel
set_option maxRecDepth 65536 in
theorem w_ripe : about1.ripe theMethod args0 below0 = true := by decide +kernel
theorem w_running : about1.status = .running := rfl
set_option maxRecDepth 65536 in
theorem w_room : about1.hasRoom e0.platform room_1 = true :=
  launch0.hasRoom_least _ room_1 (by decide +kernel) (by decide +kernel) (by decide +kernel) (by decide +kernel) (by decide +kernel) (by decide +kernel)
theorem allAtoms_all (ts : List Jvm.Cond) (a : Array Jvm.Value) (st : Jvm.State) : (allAtoms ts).before a st = ts.all (fun c => c.before a st) := by
  induction ts with
  | nil => rfl
  | cons c t ih =>
    show (Jvm.Cond.and c (allAtoms t)).before a st = _
    rw [Jvm.Cond.before_and, ih, List.all_cons]
def words1 : List Jvm.Cond := Jvm.Cond.code x code maxLocals ret :: tables_1
/-- a 'code' word, met by the world's own term for the bytes: nothing is compared byte by byte -/
theorem code_word {y : MethodName} {bytes : ByteArray} {mx : Nat} {rt : Option FieldType} {a : Array Value} {s : State} {m : MethodId} {meth : Method} {c : Code} (h1 : s.methodNamed? y = some m) (h2 : s.vm.method? m = some meth) (h3 : meth.code = some c) (h4 : c.code = bytes)
    (h5 : (c.maxLocals == mx && c.exceptionTable.isEmpty && decide (c.maxStack ≤ mostOperands) && decide (meth.sig.returnType = rt) && !meth.locks && decide (parseMethodDescriptor y.desc = some meth.sig)) = true) : (Jvm.Cond.code y bytes mx rt).before a s = true := by
  simp only [Bool.and_eq_true, beq_iff_eq, Bool.not_eq_true', decide_eq_true_eq] at h5
  obtain ⟨⟨⟨⟨⟨g1, g2⟩, g3⟩, g4⟩, g5⟩, g6⟩ := h5
  simp [Cond.before, Cond.holds, Cond.value, h1, h2, h3, h4, g1, g2, g3, g4, g5, g6]
def isCode : Jvm.Cond → Bool
  | .code _ _ _ _ => true
  | _ => false
theorem all_split {L : List Jvm.Cond} {P : Jvm.Cond → Bool} (h1 : L.all (fun c => isCode c || P c) = true) (h2 : ∀ c ∈ L.filter isCode, P c = true) : L.all P = true := by
  refine List.all_eq_true.mpr fun c hc => ?_
  have h := List.all_eq_true.mp h1 c hc
  rcases Bool.eq_false_or_eq_true (isCode c) with hi | hi
  · exact h2 c (List.mem_filter.mpr ⟨hc, hi⟩)
  · simpa [hi] using h
set_option maxRecDepth 65536 in
theorem w_c0 : (Jvm.Cond.code x code maxLocals ret).before args0 about1 = true := code_word (m := ⟨1, 1⟩) (meth := k1m1) (c := k1c1) (by decide +kernel) rfl rfl rfl (by decide +kernel)
set_option maxRecDepth 65536 in
theorem w_c1 : (Jvm.Cond.code ({ cls := "java/lang/Math", name := "min", desc := "(JJ)J" } : Jvm.MethodName) jdk_29_method_70_code (4 : Nat) (Option.some Jvm.ClassFile.FieldType.long)).before args0 about1 = true := code_word (m := ⟨2, 5⟩) (meth := k2m5) (c := k2c5) (by decide +kernel) rfl rfl rfl (by decide +kernel)
set_option maxRecDepth 65536 in
theorem w_c2 : (Jvm.Cond.code ({ cls := "com/example/anole/anole/scenario/SimulatedClock", name := "<init>", desc := "()V" } : Jvm.MethodName) prog_113_method_1_code (1 : Nat) (Option.none : Option Jvm.ClassFile.FieldType)).before args0 about1 = true := code_word (m := ⟨4, 0⟩) (meth := k4m0) (c := k4c0) (by decide +kernel) rfl rfl rfl (by decide +kernel)
set_option maxRecDepth 65536 in
theorem w_c3 : (Jvm.Cond.code ({ cls := "java/lang/Object", name := "<init>", desc := "()V" } : Jvm.MethodName) object_method_1_code (1 : Nat) (Option.none : Option Jvm.ClassFile.FieldType)).before args0 about1 = true := code_word (m := ⟨0, 0⟩) (meth := k0m0) (c := k0c0) (by decide +kernel) rfl rfl rfl (by decide +kernel)
set_option maxRecDepth 65536 in
theorem w_c4 : (Jvm.Cond.code ({ cls := "java/time/Duration", name := "ofMillis", desc := "(J)Ljava/time/Duration;" } : Jvm.MethodName) jdk_2316_method_6_code (5 : Nat) (Option.some (Jvm.ClassFile.FieldType.object "java/time/Duration"))).before args0 about1 = true := code_word (m := ⟨8, 0⟩) (meth := k8m0) (c := k8c0) (by decide +kernel) rfl rfl rfl (by decide +kernel)
set_option maxRecDepth 65536 in
theorem w_c5 : (Jvm.Cond.code ({ cls := "java/time/Duration", name := "create", desc := "(JI)Ljava/time/Duration;" } : Jvm.MethodName) jdk_2316_method_16_code (3 : Nat) (Option.some (Jvm.ClassFile.FieldType.object "java/time/Duration"))).before args0 about1 = true := code_word (m := ⟨8, 1⟩) (meth := k8m1) (c := k8c1) (by decide +kernel) rfl rfl rfl (by decide +kernel)
set_option maxRecDepth 65536 in
theorem w_c6 : (Jvm.Cond.code ({ cls := "java/time/Duration", name := "<init>", desc := "(JI)V" } : Jvm.MethodName) jdk_2316_method_17_code (4 : Nat) (Option.none : Option Jvm.ClassFile.FieldType)).before args0 about1 = true := code_word (m := ⟨8, 2⟩) (meth := k8m2) (c := k8c2) (by decide +kernel) rfl rfl rfl (by decide +kernel)
set_option maxRecDepth 65536 in
theorem w_c7 : (Jvm.Cond.code ({ cls := "com/example/anole/anole/scenario/SimulatedClock", name := "setNextMove", desc := "(Ljava/time/Duration;)V" } : Jvm.MethodName) prog_113_method_4_code (4 : Nat) (Option.none : Option Jvm.ClassFile.FieldType)).before args0 about1 = true := code_word (m := ⟨4, 2⟩) (meth := k4m2) (c := k4c2) (by decide +kernel) rfl rfl rfl (by decide +kernel)
set_option maxRecDepth 65536 in
theorem w_c8 : (Jvm.Cond.code ({ cls := "java/time/Duration", name := "toMillis", desc := "()J" } : Jvm.MethodName) jdk_2316_method_57_code (7 : Nat) (Option.some Jvm.ClassFile.FieldType.long)).before args0 about1 = true := code_word (m := ⟨8, 3⟩) (meth := k8m3) (c := k8c3) (by decide +kernel) rfl rfl rfl (by decide +kernel)
set_option maxRecDepth 65536 in
theorem w_c9 : (Jvm.Cond.code ({ cls := "java/lang/Math", name := "multiplyExact", desc := "(JI)J" } : Jvm.MethodName) jdk_29_method_29_code (3 : Nat) (Option.some Jvm.ClassFile.FieldType.long)).before args0 about1 = true := code_word (m := ⟨2, 2⟩) (meth := k2m2) (c := k2c2) (by decide +kernel) rfl rfl rfl (by decide +kernel)
set_option maxRecDepth 65536 in
theorem w_c10 : (Jvm.Cond.code ({ cls := "java/lang/Math", name := "multiplyExact", desc := "(JJ)J" } : Jvm.MethodName) jdk_29_method_30_code (10 : Nat) (Option.some Jvm.ClassFile.FieldType.long)).before args0 about1 = true := code_word (m := ⟨2, 3⟩) (meth := k2m3) (c := k2c3) (by decide +kernel) rfl rfl rfl (by decide +kernel)
set_option maxRecDepth 65536 in
theorem w_c11 : (Jvm.Cond.code ({ cls := "java/lang/Math", name := "abs", desc := "(J)J" } : Jvm.MethodName) jdk_29_method_61_code (2 : Nat) (Option.some Jvm.ClassFile.FieldType.long)).before args0 about1 = true := code_word (m := ⟨2, 4⟩) (meth := k2m4) (c := k2c4) (by decide +kernel) rfl rfl rfl (by decide +kernel)
set_option maxRecDepth 65536 in
theorem w_c12 : (Jvm.Cond.code ({ cls := "java/lang/Math", name := "addExact", desc := "(JJ)J" } : Jvm.MethodName) jdk_29_method_25_code (6 : Nat) (Option.some Jvm.ClassFile.FieldType.long)).before args0 about1 = true := code_word (m := ⟨2, 1⟩) (meth := k2m1) (c := k2c1) (by decide +kernel) rfl rfl rfl (by decide +kernel)
set_option maxRecDepth 65536 in
theorem w_c13 : (Jvm.Cond.code ({ cls := "com/example/anole/anole/scenario/SimulatedClock", name := "advance", desc := "()V" } : Jvm.MethodName) prog_113_method_5_code (1 : Nat) (Option.none : Option Jvm.ClassFile.FieldType)).before args0 about1 = true := code_word (m := ⟨4, 3⟩) (meth := k4m3) (c := k4c3) (by decide +kernel) rfl rfl rfl (by decide +kernel)
set_option maxRecDepth 65536 in
theorem w_c14 : (Jvm.Cond.code ({ cls := "com/example/anole/anole/scenario/SimulatedClock", name := "millis", desc := "()J" } : Jvm.MethodName) prog_113_method_2_code (1 : Nat) (Option.some Jvm.ClassFile.FieldType.long)).before args0 about1 = true := code_word (m := ⟨4, 1⟩) (meth := k4m1) (c := k4c1) (by decide +kernel) rfl rfl rfl (by decide +kernel)
def codes1 : List Jvm.Cond := [Jvm.Cond.code x code maxLocals ret, Jvm.Cond.code ({ cls := "java/lang/Math", name := "min", desc := "(JJ)J" } : Jvm.MethodName) jdk_29_method_70_code (4 : Nat) (Option.some Jvm.ClassFile.FieldType.long), Jvm.Cond.code ({ cls := "com/example/anole/anole/scenario/SimulatedClock", name := "<init>", desc := "()V" } : Jvm.MethodName) prog_113_method_1_code (1 : Nat) (Option.none : Option Jvm.ClassFile.FieldType), Jvm.Cond.code ({ cls := "java/lang/Object", name := "<init>", desc := "()V" } : Jvm.MethodName) object_method_1_code (1 : Nat) (Option.none : Option Jvm.ClassFile.FieldType), Jvm.Cond.code ({ cls := "java/time/Duration", name := "ofMillis", desc := "(J)Ljava/time/Duration;" } : Jvm.MethodName) jdk_2316_method_6_code (5 : Nat) (Option.some (Jvm.ClassFile.FieldType.object "java/time/Duration")), Jvm.Cond.code ({ cls := "java/time/Duration", name := "create", desc := "(JI)Ljava/time/Duration;" } : Jvm.MethodName) jdk_2316_method_16_code (3 : Nat) (Option.some (Jvm.ClassFile.FieldType.object "java/time/Duration")), Jvm.Cond.code ({ cls := "java/time/Duration", name := "<init>", desc := "(JI)V" } : Jvm.MethodName) jdk_2316_method_17_code (4 : Nat) (Option.none : Option Jvm.ClassFile.FieldType), Jvm.Cond.code ({ cls := "com/example/anole/anole/scenario/SimulatedClock", name := "setNextMove", desc := "(Ljava/time/Duration;)V" } : Jvm.MethodName) prog_113_method_4_code (4 : Nat) (Option.none : Option Jvm.ClassFile.FieldType), Jvm.Cond.code ({ cls := "java/time/Duration", name := "toMillis", desc := "()J" } : Jvm.MethodName) jdk_2316_method_57_code (7 : Nat) (Option.some Jvm.ClassFile.FieldType.long), Jvm.Cond.code ({ cls := "java/lang/Math", name := "multiplyExact", desc := "(JI)J" } : Jvm.MethodName) jdk_29_method_29_code (3 : Nat) (Option.some Jvm.ClassFile.FieldType.long), Jvm.Cond.code ({ cls := "java/lang/Math", name := "multiplyExact", desc := "(JJ)J" } : Jvm.MethodName) jdk_29_method_30_code (10 : Nat) (Option.some Jvm.ClassFile.FieldType.long), Jvm.Cond.code ({ cls := "java/lang/Math", name := "abs", desc := "(J)J" } : Jvm.MethodName) jdk_29_method_61_code (2 : Nat) (Option.some Jvm.ClassFile.FieldType.long), Jvm.Cond.code ({ cls := "java/lang/Math", name := "addExact", desc := "(JJ)J" } : Jvm.MethodName) jdk_29_method_25_code (6 : Nat) (Option.some Jvm.ClassFile.FieldType.long), Jvm.Cond.code ({ cls := "com/example/anole/anole/scenario/SimulatedClock", name := "advance", desc := "()V" } : Jvm.MethodName) prog_113_method_5_code (1 : Nat) (Option.none : Option Jvm.ClassFile.FieldType), Jvm.Cond.code ({ cls := "com/example/anole/anole/scenario/SimulatedClock", name := "millis", desc := "()J" } : Jvm.MethodName) prog_113_method_2_code (1 : Nat) (Option.some Jvm.ClassFile.FieldType.long)]
set_option maxRecDepth 65536 in
theorem codes_eq : words1.filter isCode = codes1 := rfl
theorem w_codes : ∀ c ∈ words1.filter isCode, c.before args0 about1 = true := by
  rw [codes_eq]
  intro c hc
  simp only [codes1, List.mem_cons, List.not_mem_nil, or_false] at hc
  rcases hc with rfl | rfl | rfl | rfl | rfl | rfl | rfl | rfl | rfl | rfl | rfl | rfl | rfl | rfl | rfl
  · exact w_c0
  · exact w_c1
  · exact w_c2
  · exact w_c3
  · exact w_c4
  · exact w_c5
  · exact w_c6
  · exact w_c7
  · exact w_c8
  · exact w_c9
  · exact w_c10
  · exact w_c11
  · exact w_c12
  · exact w_c13
  · exact w_c14
set_option maxRecDepth 65536 in
theorem w_t1 : (words1.take 24).all (fun c => isCode c || c.before args0 about1) = true := by decide +kernel
set_option maxRecDepth 65536 in
theorem w_t2 : ((words1.drop 24).take 24).all (fun c => isCode c || c.before args0 about1) = true := by decide +kernel
set_option maxRecDepth 65536 in
theorem w_t3 : (((words1.drop 24).drop 24).take 24).all (fun c => isCode c || c.before args0 about1) = true := by decide +kernel
set_option maxRecDepth 65536 in
theorem w_t4 : (((words1.drop 24).drop 24).drop 24).all (fun c => isCode c || c.before args0 about1) = true := by decide +kernel
theorem w_tables : (allAtoms (Jvm.Cond.code x code maxLocals ret :: tables_1)).before args0 about1 = true := by
  rw [allAtoms_all]
  show words1.all (fun c => c.before args0 about1) = true
  refine all_split ?_ w_codes
  rw [← List.take_append_drop 24 words1, List.all_append, w_t1, ← List.take_append_drop 24 (words1.drop 24), List.all_append, w_t2, ← List.take_append_drop 24 ((words1.drop 24).drop 24), List.all_append, w_t3, w_t4]
  rfl
set_option maxRecDepth 65536 in
theorem w_rest : rest_1_c.before args0 about1 = true := by decide +kernel
set_option maxRecDepth 65536 in
theorem w_case : (Jvm.Cond.and given_1 narrow_1).before args0 about1 = true := by decide +kernel
theorem w_applies : (headSpec (Jvm.Cond.code x code maxLocals ret :: tables_1) room_1).applies x e0.platform about1 = true :=
  (Spec.applies_iff w_frames).mpr ⟨w_running, w_runnable, w_alone, w_named, w_hears, w_ripe, w_room, w_tables⟩
theorem atStart : AtStart classFile x code maxLocals ret World_1 tables_1 room_1 Calls_1 rest_1 Pre_1 launch0 p0 e0 about1 theMethod args0 below0 :=
  ⟨lists_1, trivial, launch0.admits_env _ _ _, launch0.least_env, fairChoices_fair.cas, fairChoices_fair.clock, w_frames, w_args, w_heap, w_applies, trivial, w_rest, w_case⟩
end start1
theorem witness_1 : WitnessClaimed_1 := ⟨start1.p0, start1.e0, start1.about1, start1.theMethod, start1.args0, start1.below0, start1.atStart⟩
end Jvm.Pilot.@@N@@
