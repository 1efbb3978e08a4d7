import JvmDerived
import JvmDerived.Pilot.@@N@@Statement
import JvmDerived.Pilot.@@N@@Code
set_option linter.unusedVariables false
set_option linter.unusedSimpArgs false
namespace Jvm.RoadKit
open Sem ClassFile Op Lib Jvm.Stand Jvm.Free Jvm.LawKit
section New
variable {p : Program} {l : Launch} {e : Env} {R : Room} {s : State} {m : MethodId} {args : Array Value} {below : List Frame} {meth : Method} {c : Code} {T : State} {locs : List Loc} {cells slots : Nat}
theorem retI (X : Stand p l e R s m args below meth c T locs cells slots) (hx : p.tables.exec = Jvm.exec) {pc : Nat} {Ls : Array Slot} {z : Int32} {rest : List Value} (hret : meth.sig.returnType = some .int) (hd : decode c.code pc = .ok (.ireturn, 1)) {fs : List Frame}
    (hl : ∀ (f : JFrame) (acts : List Action), f.method = m → f.locked = none → f.entered = [] → (doReturn e (T.setTop f) acts (some (.int z))).1 = T.setFrames fs) : Steps p.tables e below (T.setTop (mkF m pc Ls (.int z :: rest))) (T.setFrames fs) := by
  have hm' : T.vm.method? m = some meth := X.method'
  have hn : narrow .int (.int z) = .int z := rfl
  show Steps p.tables e below (T.setTop { method := m, pc := pc, locals := Ls, stack := _ :: rest, locked := none }) _
  jvm_step X.here [X.here.top, hx, hd, hm', hret, hn]
  first | (intro acts; rw [hl _ acts rfl rfl rfl]) | rw [hl _ _ rfl rfl rfl]
  exact Steps.refl _
abbrev Sq (p : Program) (e : Env) (below : List Frame) (m : MethodId) (T : State) (pc : Nat) (L : Array Slot) (S : List Value) (t : State) : Prop := Steps p.tables e below (T.setTop (mkF m pc L S)) t
abbrev Ctr (l : Launch) (Z : State) (y : MethodName) (b : ByteArray) (ml : Nat) (rt : Option FieldType) (ws : List Cond) (rm : Room) (as' : Array Value) (h0 : Heap) (Q : Option Value → Heap → List Loc → Prop) : Prop :=
  MetFree l y (head1 (Cond.code y b ml rt :: ws) rm) (fun a U => a = as' ∧ Z.Warmed39 U.vm ∧ U.heap = h0) (fun _ _ _ _ _ => True) (fun _ U o U' => ∃ v L, o = .returned v ∧ Q v U'.heap L ∧ FrameEnd U o U' L rm.cells rm.slots)
theorem own_sz {Z : State} {n0 : Nat} {h : Heap} (O : Old Z n0 h) : n0 ≤ h.size := O.1 ▸ O.2.1
theorem own_selpriv {Z s : State} {a0 args : Array Value} {y : MethodName} {n : Nat} (hZ : Z.Warmed39 s.vm) (wi : (Cond.instantiable y.cls n).before a0 Z = true) (wm : (Cond.instanceMethod y).before a0 Z = true) (wp : (Cond.privateMethod y).before a0 Z = true) (hy : y.cls ≠ "java/lang/invoke/MethodHandle" ∧ y.cls ≠ "java/lang/invoke/VarHandle") : (Cond.selects y.cls y y).before args s = true := by
  obtain ⟨c, k, h1, h2, -, h4, -⟩ := Cond.instantiable_spec (mv (args := args) hZ wi)
  have hk : k.isInterface = false := by cases h : k.isInterface <;> simp_all
  exact selects_self_of_private h1 h2 hk (Cond.privateMethod_at (mvP hZ wp (args := args))) (mv hZ wm) hy
theorem own_fldinj {Z : State} {h : Heap} {a : Addr} {C n d : String} {v w : Value} (F : Fld Z h a C n d v) (G : Fld Z h a C n d w) : v = w := by
  obtain ⟨c1, cf, k, i, f, h1, h2, -, -, -, -, h3⟩ := F
  obtain ⟨c2, cf2, k2, i2, f2, g1, g2, -, -, -, -, g3⟩ := G
  cases h1.symm.trans g1
  cases h2.symm.trans g2
  exact Option.some.inj (h3.symm.trans g3)
theorem own_ne {Z : State} {h : Heap} {a b : Addr} {C n d : String} {v w : Value} (F : Fld Z h a C n d v) (G : Fld Z h b C n d w) (q : v ≠ w) : a ≠ b := fun e => by
  subst e; exact q (own_fldinj F G)
theorem own_static {s : State} {args : Array Value} {C f d K : String} (h : (Cond.exactly (Term.static C f d) K).value args s none s [] = some true) (hi : (Cond.initializedFor C f d).before args s = true ∨ ((Cond.initialized C).before args s = true ∧ (Cond.laysStatic C f d).before args s = true)) :
    ∃ w, Sta s s.heap C f d (.ref w) ∧ Exa s s.heap w K ∧ (Term.static C f d).eval args s none [] s = some (.ref w) := by
  obtain ⟨w, ev⟩ := exa_v h
  exact ⟨w, Sta.start ev hi, Exa.start ev h, ev⟩
theorem own_field {s : State} {args : Array Value} {t : Term} {w : Addr} {O f d : String} {n : Int32} (ev : t.eval args s none [] s = some (.ref w)) (h : (Cond.eq (Term.field t O f d) (Term.int n)).value args s none s [] = some true) : Fld s s.heap w O f d (.int n) := by
  have q := eqv_i (Term.int_eval n) h
  rw [fld_at ev] at q
  exact Fld.start q
theorem own_fldR {s : State} {args : Array Value} {t : Term} {w : Addr} {O f d : String} {v : Value} (ev : t.eval args s none [] s = some (.ref w)) (h : (Term.field t O f d).eval args s none [] s = some v) : Fld s s.heap w O f d v := Fld.start ((fld_at ev).symm.trans h)
theorem own_eqR {s : State} {args : Array Value} {a b : Term} {y : Addr} (hb : b.eval args s none [] s = some (.ref y)) (h : (Cond.eq a b).value args s none s [] = some true) : a.eval args s none [] s = some (.ref y) :=
  Cond.eq_refs (by simp [Cond.holds, h]) hb rfl
theorem own_len {s : State} {args : Array Value} {t : Term} {a : Addr} {c : Cell} {ty : FieldType} {n : Int32} (ev : t.eval args s none [] s = some (.ref a)) (A : Arr s s.heap a c ty) (h : (Cond.eq (Term.length t) (Term.int n)).value args s none s [] = some true) :
    c.slots.size < 2 ^ 31 ∧ c.slots.size.toInt32 = n := by
  have q := eqv_i (Term.int_eval n) h
  have f := A.fin (Vm.Alike.refl _)
  simp [Term.eval, ev, f] at q
  exact ⟨by simpa using q.1, q.2⟩
theorem own_ne0 {s : State} {args : Array Value} {t : Term} {x : Int32} (ev : t.eval args s none [] s = some (.int x)) (h : (Cond.not (Cond.eq t (Term.int (0 : Int32)))).value args s none s [] = some true) : ¬ (x = (0 : Int32)) := by
  have q := not_v h
  exact gotF (Cond.eq_ints ev (Term.int_eval (0 : Int32))) (by simpa using q)
theorem own_ch (x : Int32) : ¬ ((255 : Int32) < ((x &&& (255 : Int32)).toUInt32.toUInt16.toUInt32.toInt32)) := by
  have a := c_mask x 255 8 (by decide) (by decide)
  have b := c_i2c (x &&& 255)
  have c : (255 : Int32).toInt = 255 := by decide
  rw [Int32.lt_iff_toInt_lt]
  omega
theorem own_nch (x : Int32) : ¬ ((255 : Int32) < (nar .char ((x &&& (255 : Int32)).toUInt32.toUInt16.toUInt32.toInt32))) := by
  have a := c_mask x 255 8 (by decide) (by decide)
  have b := c_i2c (x &&& 255)
  have d := c_i2c ((x &&& (255 : Int32)).toUInt32.toUInt16.toUInt32.toInt32)
  have c : (255 : Int32).toInt = 255 := by decide
  show ¬ ((255 : Int32) < ((x &&& (255 : Int32)).toUInt32.toUInt16.toUInt32.toInt32).toUInt32.toUInt16.toUInt32.toInt32)
  rw [Int32.lt_iff_toInt_lt]
  omega
end New
end Jvm.RoadKit
namespace Jvm.Pilot.@@N@@
open Jvm Jvm.ClassFile Sem Op Lib Jvm.Free Jvm.Stand Jvm.LawKit Jvm.RoadKit Bundle Jvm.Pilot.@@N@@.Jvm.D
theorem d2_0 : decode jdk_43_method_3_code 0 = .ok (.iload_n 0, 1) := by decide +kernel
theorem d2_1 : decode jdk_43_method_3_code 1 = .ok (.sipush 255, 3) := by decide +kernel
theorem d2_4 : decode jdk_43_method_3_code 4 = .ok (.if_icmp .gt 7, 3) := by decide +kernel
theorem d2_7 : decode jdk_43_method_3_code 7 = .ok (.iconst 1, 1) := by decide +kernel
theorem d2_8 : decode jdk_43_method_3_code 8 = .ok (.goto 4, 3) := by decide +kernel
theorem d2_12 : decode jdk_43_method_3_code 12 = .ok (.ireturn, 1) := by decide +kernel
def Q_canenc (Z : State) (x1 : Int32) (h0 : Heap) (n0 : Nat) (v : Option Value) (h : Heap) (L : List Loc) : Prop := v = some (.int (1 : Int32)) ∧ Fr n0 L ∧ h = h0
theorem ef_0 (m : MethodId) (x0 : Int32) : entryFrame m #[(.int x0)] 1 = mkF m 0 #[.val (.int x0)] [] := by first | (simp [entryFrame, mkF, argsToLocals, Value.category]; done) | rfl
theorem pn_0 : plainName "java/lang/StringLatin1" = true := by first | (simp [plainName, overriddenIn]; done) | decide +kernel
abbrev y_0 : MethodName := ⟨"java/lang/StringLatin1", "canEncode", "(C)Z"⟩
set_option maxRecDepth 65536 in
set_option maxHeartbeats 40000000 in
theorem canenc (l : Launch) (Z : State) (a0 : Array Value) (hw : ∀ d ∈ tables_1, d.before a0 Z = true) (ws : List Jvm.Cond) (x1 : Int32) (h0 : Heap) (n0 : Nat) (O : Old Z n0 h0) (hx1 : ¬ ((255 : Int32) < x1)) :
    Ctr l Z y_0 jdk_43_method_3_code 1 (some .boolean) ws ({ frames := 0, cells := 0, slots := 0, locals := 0 } : Room) #[(.int x1)] h0 (Q_canenc Z x1 h0 n0) := by
  refine MetFree.of_bodySF (plainFor_of_name pn_0) hisR ?_
  intro p e s m args below meth c s₁ Bd hml0 hP hK
  obtain ⟨rfl, hZ, hh⟩ := hP
  have W := fun (i : Nat) {d : Jvm.Cond} (h : tables_1[i]? = some d) => hw d (List.mem_of_getElem? h)
  have hx := Bd.exec
  have hby := Bd.bytes
  have hml : c.maxLocals = 1 := hml0
  have hown : s.vm.findClass "java/lang/StringLatin1" = some m.cls := findClass_of_methodNamed Bd.named
  have hnm := (name_of_methodNamed Bd.named Bd.method).1
  have X0 : Stand p l e ({ frames := 0, cells := 0, slots := 0, locals := 0 } : Room) s m #[(.int x1)] below meth c s₁ [] 0 0 := Stand.of_body Bd
  have e0 : s₁.heap = h0 := by rw [← hh, Bd.state]; rfl
  have N0 := Fr.nil n0
  have pre0 : ∀ t, Steps p.tables e below (s₁.setTop (mkF m 0 #[.val (.int x1)] [])) t → Steps p.tables e below (s₁.setTop (entryFrame m #[(.int x1)] 1)) t := fun t kk_ => castTop (ef_0 m x1) kk_
  obtain ⟨fs, hr, hrun, hended, hW, hsame⟩ := X0.leave (v := some (.int (1 : Int32))) (fun h => by rw [Bd.returns] at h; cases h)
  refine ⟨_, _, pre0 _ ?_, hrun, hended, _, _, rfl, ?_, ⟨_, rfl⟩, hW, hsame.mono (by decide) (by decide)⟩
  · show Sq p e below m s₁ 0 #[iv x1] [] _
    refine XS.iloadN X0.here hx rfl (hb hby d2_0) rfl ?_
    refine XS.sipush X0.here hx rfl (hb hby d2_1) ?_
    show Sq p e below m s₁ 4 #[iv x1] [.int 255, .int x1] _
    refine XS.icmpNo X0.here hx rfl (hb hby d2_4) rfl (flt (hx1 : ¬ ((255 : Int32) < x1))).2.2.1 ?_
    refine XS.iconst X0.here hx rfl (hb hby d2_7) ?_
    show Sq p e below m s₁ 8 #[iv x1] [.int 1] _
    refine XS.goto X0.here hx rfl (pc0 := 8) (pc' := 12) rfl (hb hby d2_8) (by decide) (by decide) ?_
    show Sq p e below m s₁ 12 #[iv x1] [.int 1] _
    exact retN X0 hx (t := .boolean) Bd.returns (by simp) (hb hby d2_12) hr
  · show Q_canenc Z x1 h0 n0 _ s₁.heap _
    rw [e0]
    exact ⟨rfl, N0, rfl⟩
theorem d3_0 : decode jdk_43_method_46_code 0 = .ok (.iconst 1, 1) := by decide +kernel
theorem d3_1 : decode jdk_43_method_46_code 1 = .ok (.newarray .byte, 2) := by decide +kernel
theorem d3_3 : decode jdk_43_method_46_code 3 = .ok (.dup, 1) := by decide +kernel
theorem d3_4 : decode jdk_43_method_46_code 4 = .ok (.iconst 0, 1) := by decide +kernel
theorem d3_5 : decode jdk_43_method_46_code 5 = .ok (.iload_n 0, 1) := by decide +kernel
theorem d3_6 : decode jdk_43_method_46_code 6 = .ok (.i2b, 1) := by decide +kernel
theorem d3_7 : decode jdk_43_method_46_code 7 = .ok (.bastore, 1) := by decide +kernel
theorem d3_8 : decode jdk_43_method_46_code 8 = .ok (.areturn, 1) := by decide +kernel
def Q_tobyt (Z : State) (x1 : Int32) (h0 : Heap) (n0 : Nat) (v : Option Value) (h : Heap) (L : List Loc) : Prop := ∃ b : Addr, ∃ kb : ClassId, v = some (.ref b) ∧ Fr n0 L ∧ Keep h0 h [] ∧ h0.size ≤ b ∧ Exa Z h b "[B" ∧ Arv Z h b kb .byte (1 : Int32) [(.int (nar .byte (x1.toInt8.toInt32)))] (.int (0 : Int32))
theorem ef_1 (m : MethodId) (x0 : Int32) : entryFrame m #[(.int x0)] 1 = mkF m 0 #[.val (.int x0)] [] := by first | (simp [entryFrame, mkF, argsToLocals, Value.category]; done) | rfl
abbrev y_1 : MethodName := ⟨"java/lang/StringLatin1", "toBytes", "(C)[B"⟩
set_option maxRecDepth 65536 in
set_option maxHeartbeats 40000000 in
theorem tobyt (l : Launch) (Z : State) (a0 : Array Value) (hw : ∀ d ∈ tables_1, d.before a0 Z = true) (ws : List Jvm.Cond) (x1 : Int32) (h0 : Heap) (n0 : Nat) (O : Old Z n0 h0) :
    Ctr l Z y_1 jdk_43_method_46_code 1 (some (.array .byte)) ws ({ frames := 0, cells := 1, slots := 1, locals := 0 } : Room) #[(.int x1)] h0 (Q_tobyt Z x1 h0 n0) := by
  refine MetFree.of_bodySF (plainFor_of_name pn_0) hisR ?_
  intro p e s m args below meth c s₁ Bd hml0 hP hK
  obtain ⟨rfl, hZ, hh⟩ := hP
  have W := fun (i : Nat) {d : Jvm.Cond} (h : tables_1[i]? = some d) => hw d (List.mem_of_getElem? h)
  have hx := Bd.exec
  have hby := Bd.bytes
  have hml : c.maxLocals = 1 := hml0
  have hown : s.vm.findClass "java/lang/StringLatin1" = some m.cls := findClass_of_methodNamed Bd.named
  have hnm := (name_of_methodNamed Bd.named Bd.method).1
  have X0 : Stand p l e ({ frames := 0, cells := 1, slots := 1, locals := 0 } : Room) s m #[(.int x1)] below meth c s₁ [] 0 0 := Stand.of_body Bd
  have e0 : s₁.heap = h0 := by rw [← hh, Bd.state]; rfl
  have N0 := Fr.nil n0
  have pre0 : ∀ t, Steps p.tables e below (s₁.setTop (mkF m 0 #[.val (.int x1)] [])) t → Steps p.tables e below (s₁.setTop (entryFrame m #[(.int x1)] 1)) t := fun t kk_ => castTop (ef_1 m x1) kk_
  have K0 := Keep.refl h0 []
  obtain ⟨T1, h1, k1, X1, e1, E1, A1, A1x, st1⟩ := newPE X0 hx hZ (W 15 rfl) e0 (g := (mkF m 1 #[iv x1] [.int 1])) rfl (hb hby d3_1) rfl (by decide) (cap := 1) (by decide) (by decide) (by decide) (by decide) (ad := "[B") (by decide)
  obtain ⟨b1, g1⟩ : ∃ z, z = h0.size := ⟨_, rfl⟩
  rw [← g1] at A1 A1x st1
  have g_b1 : n0 ≤ b1 := Nat.le_trans (own_sz O) (Nat.le_of_eq g1.symm)
  have sz_b1 : h0.size ≤ b1 := Nat.le_trans K0.1 (Nat.le_of_eq g1.symm)
  have K3 := K0.ext E1
  have V1 : Arv Z h1 b1 k1 .byte (1 : Int32) [(.int (0 : Int32))] (.int (0 : Int32)) := (Arv.new A1 (by decide)).pad (pad_rep [] (.int (0 : Int32)) 1)
  obtain ⟨cl4, Ar4, q4, S4, Ng4, Hh4, Gg4⟩ := id V1
  obtain ⟨T4, h4, X4, e4, W4, st4⟩ := stB X1 hx hZ e1 Ar4 (j := (0 : Int32)) (inb_of S4 (by decide)) (g := (mkF m 7 #[iv x1] [.int (x1.toInt8.toInt32), .int 0, .ref b1, .ref b1])) rfl rfl (hb hby d3_7)
  have V4 : Arv Z h4 b1 k1 .byte (1 : Int32) [(.int (nar .byte (x1.toInt8.toInt32)))] (.int (0 : Int32)) := Arv.set Ar4 q4 S4 Ng4 Hh4 Gg4 (fits_nar_byte _) W4 0 rfl (Nat.le_of_ble_eq_true rfl)
  have A1x := A1x.wr W4
  have K6 := K3.wr W4 (Or.inr sz_b1)
  have N7 := Fr.snoc X4 N0 g_b1
  obtain ⟨fs, hr, hrun, hended, hW, hsame⟩ := X4.leave (v := some (.ref b1)) (fun h => by rw [Bd.returns] at h; cases h)
  refine ⟨_, _, pre0 _ ?_, hrun, hended, _, _, rfl, ?_, ⟨_, rfl⟩, hW, hsame.mono (by decide) (by decide)⟩
  · show Sq p e below m s₁ 0 #[iv x1] [] _
    refine XS.iconst X0.here hx rfl (hb hby d3_0) ?_
    show Sq p e below m s₁ 1 #[iv x1] [.int 1] _
    refine st1 _ ?_
    show Sq p e below m T1 3 #[iv x1] [.ref b1] _
    refine XS.dup X1.here hx rfl (hb hby d3_3) rfl rfl ?_
    refine XS.iconst X1.here hx rfl (hb hby d3_4) ?_
    show Sq p e below m T1 5 #[iv x1] [.int 0, .ref b1, .ref b1] _
    refine XS.iloadN X1.here hx rfl (hb hby d3_5) rfl ?_
    refine XS.i2b X1.here hx rfl (hb hby d3_6) rfl ?_
    show Sq p e below m T1 7 #[iv x1] [.int (x1.toInt8.toInt32), .int 0, .ref b1, .ref b1] _
    refine st4 _ ?_
    show Sq p e below m T4 8 #[iv x1] [.ref b1] _
    jvm_step X4.here [X4.here.top, hx, (hb hby d3_8), X4.method', Bd.returns, Value.isRef, FieldType.isReference]
    first | (intro acts; rw [hr _ acts rfl rfl rfl]) | rw [hr _ _ rfl rfl rfl]
    exact Steps.refl _
  · show Q_tobyt Z x1 h0 n0 _ T4.heap _
    rw [e4]
    exact ⟨b1, k1, rfl, N7, K6, sz_b1, A1x, V4⟩
theorem d4_0 : decode jdk_42_method_151_code 0 = .ok (.aload_n 0, 1) := by decide +kernel
theorem d4_1 : decode jdk_42_method_151_code 1 = .ok (.invokespecial 1, 3) := by decide +kernel
theorem d4_4 : decode jdk_42_method_151_code 4 = .ok (.aload_n 0, 1) := by decide +kernel
theorem d4_5 : decode jdk_42_method_151_code 5 = .ok (.aload_n 1, 1) := by decide +kernel
theorem d4_6 : decode jdk_42_method_151_code 6 = .ok (.putfield 9, 3) := by decide +kernel
theorem d4_9 : decode jdk_42_method_151_code 9 = .ok (.aload_n 0, 1) := by decide +kernel
theorem d4_10 : decode jdk_42_method_151_code 10 = .ok (.iload_n 2, 1) := by decide +kernel
theorem d4_11 : decode jdk_42_method_151_code 11 = .ok (.putfield 15, 3) := by decide +kernel
theorem d4_14 : decode jdk_42_method_151_code 14 = .ok (.return_, 1) := by decide +kernel
def Q_strinit (Z : State) (a : Addr) (y1 : Addr) (h0 : Heap) (n0 : Nat) (v : Option Value) (h : Heap) (L : List Loc) : Prop := v = none ∧ Fr n0 L ∧ Keep h0 h [a] ∧ Fld Z h a "java/lang/String" "value" "[B" (.ref y1) ∧ Fld Z h a "java/lang/String" "coder" "B" (.int (0 : Int32))
theorem ef_2 (m : MethodId) (x0 : Addr) (x1 : Addr) (x2 : Int32) : entryFrame m #[(.ref x0), (.ref x1), (.int x2)] 3 = mkF m 0 #[.val (.ref x0), .val (.ref x1), .val (.int x2)] [] := by first | (simp [entryFrame, mkF, argsToLocals, Value.category]; done) | rfl
theorem pn_1 : plainName "java/lang/String" = true := by first | (simp [plainName, overriddenIn]; done) | decide +kernel
abbrev y_2 : MethodName := ⟨"java/lang/String", "<init>", "([BB)V"⟩
set_option maxRecDepth 65536 in
set_option maxHeartbeats 40000000 in
theorem strinit (l : Launch) (Z : State) (a0 : Array Value) (hw : ∀ d ∈ tables_1, d.before a0 Z = true) (ws : List Jvm.Cond) (a : Addr) (y1 : Addr) (h0 : Heap) (n0 : Nat) (O : Old Z n0 h0) (Ea : Exa Z h0 a "java/lang/String") (Fvalue : Fld Z h0 a "java/lang/String" "value" "[B" .null) (Fcoder : Fld Z h0 a "java/lang/String" "coder" "B" (.int (0 : Int32))) (ga : n0 ≤ a) :
    Ctr l Z y_2 jdk_42_method_151_code 3 none ws ({ frames := 1, cells := 0, slots := 0, locals := 12 } : Room) #[(.ref a), (.ref y1), (.int (0 : Int32))] h0 (Q_strinit Z a y1 h0 n0) := by
  refine MetFree.of_bodySF (plainFor_of_name pn_1) hisR ?_
  intro p e s m args below meth c s₁ Bd hml0 hP hK
  obtain ⟨rfl, hZ, hh⟩ := hP
  have W := fun (i : Nat) {d : Jvm.Cond} (h : tables_1[i]? = some d) => hw d (List.mem_of_getElem? h)
  have hx := Bd.exec
  have hby := Bd.bytes
  have hml : c.maxLocals = 3 := hml0
  have hown : s.vm.findClass "java/lang/String" = some m.cls := findClass_of_methodNamed Bd.named
  have hnm := (name_of_methodNamed Bd.named Bd.method).1
  have X0 : Stand p l e ({ frames := 1, cells := 0, slots := 0, locals := 12 } : Room) s m #[(.ref a), (.ref y1), (.int (0 : Int32))] below meth c s₁ [] 0 0 := Stand.of_body Bd
  have e0 : s₁.heap = h0 := by rw [← hh, Bd.state]; rfl
  have N0 := Fr.nil n0
  have pre0 : ∀ t, Steps p.tables e below (s₁.setTop (mkF m 0 #[.val (.ref a), .val (.ref y1), .val (.int (0 : Int32))] [])) t → Steps p.tables e below (s₁.setTop (entryFrame m #[(.ref a), (.ref y1), (.int (0 : Int32))] 3)) t := fun t kk_ => castTop (ef_2 m a y1 (0 : Int32)) kk_
  have K0 := Keep.refl h0 [a]
  obtain ⟨T1, X1, e1, st1⟩ := initO X0 hx hZ hown (W 20 rfl) (W 21 rfl) (W 22 rfl) e0 (g := (mkF m 1 #[rv a, rv y1, iv 0] [.ref a])) rfl (by rw [hml]; rfl) rfl (hb hby d4_1) (by decide) (W := 0) (by show 2 * 0 + _ ≤ _; exact Nat.le_of_eq rfl) (by decide)
  obtain ⟨T2, h2, X2, e2, W2, st2⟩ := putF X1 hx hZ hown (host := "") (Or.inl (W 23 rfl)) Via.refl e1 Fvalue Ea (Or.inr ⟨(W 24 rfl), rfl, hnm⟩) (W 11 rfl) (ty := (.array .byte)) (by decide) rfl rfl (g := (mkF m 6 #[rv a, rv y1, iv 0] [.ref y1, .ref a])) rfl rfl (hb hby d4_6)
  have Fz2 := Fvalue.same W2
  have Ea := Ea.wr W2
  have Fcoder := Fcoder.other W2 (Or.inr (slot_ne (Or.inr (W 26 rfl)) (Or.inr (W 24 rfl)) (by decide) (t := .byte) (t' := (.array .byte)) (by decide) (by decide)))
  have K4 := K0.wr W2 (Or.inl (List.mem_of_getElem? (i := 0) rfl))
  have N5 := Fr.snoc X2 N0 ga
  obtain ⟨T6, h6, X6, e6, W6, st6⟩ := putFN X2 hx hZ hown (W 25 rfl) Via.refl e2 Fcoder Ea (Or.inr ⟨(W 26 rfl), rfl, hnm⟩) (W 11 rfl) (ty := .byte) (v' := (.int (0 : Int32))) (by decide) rfl (by decide) (g := (mkF m 11 #[rv a, rv y1, iv 0] [.int 0, .ref a])) rfl rfl (hb hby d4_11)
  have Fz6 := Fcoder.same W6
  have Fz2 := Fz2.other W6 (Or.inr (slot_ne (Or.inr (W 24 rfl)) (Or.inr (W 26 rfl)) (by decide) (t := (.array .byte)) (t' := .byte) (by decide) (by decide)))
  have K8 := K4.wr W6 (Or.inl (List.mem_of_getElem? (i := 0) rfl))
  have N9 := Fr.snoc X6 N5 ga
  obtain ⟨fs, hr, hrun, hended, hW, hsame⟩ := X6.leave (v := none) (fun _ => rfl)
  refine ⟨_, _, pre0 _ ?_, hrun, hended, _, _, rfl, ?_, ⟨_, rfl⟩, hW, hsame.mono (by decide) (by decide)⟩
  · show Sq p e below m s₁ 0 #[rv a, rv y1, iv 0] [] _
    refine XS.aloadN X0.here hx rfl (hb hby d4_0) rfl rfl ?_
    show Sq p e below m s₁ 1 #[rv a, rv y1, iv 0] [.ref a] _
    refine st1 _ ?_
    show Sq p e below m T1 4 #[rv a, rv y1, iv 0] [] _
    refine XS.aloadN X1.here hx rfl (hb hby d4_4) rfl rfl ?_
    refine XS.aloadN X1.here hx rfl (hb hby d4_5) rfl rfl ?_
    show Sq p e below m T1 6 #[rv a, rv y1, iv 0] [.ref y1, .ref a] _
    refine st2 _ ?_
    show Sq p e below m T2 9 #[rv a, rv y1, iv 0] [] _
    refine XS.aloadN X2.here hx rfl (hb hby d4_9) rfl rfl ?_
    refine XS.iloadN X2.here hx rfl (hb hby d4_10) rfl ?_
    show Sq p e below m T2 11 #[rv a, rv y1, iv 0] [.int 0, .ref a] _
    refine st6 _ ?_
    show Sq p e below m T6 14 #[rv a, rv y1, iv 0] [] _
    exact X6.returnOut hx Bd.returns (hb hby d4_14) hr
  · show Q_strinit Z a y1 h0 n0 _ T6.heap _
    rw [e6]
    exact ⟨rfl, N9, K8, Fz2, Fz6⟩
theorem d1_0 : decode jdk_42_method_139_code 0 = .ok (.getstatic 38, 3) := by decide +kernel
theorem d1_3 : decode jdk_42_method_139_code 3 = .ok (.ifCond .eq 23, 3) := by decide +kernel
theorem d1_6 : decode jdk_42_method_139_code 6 = .ok (.iload_n 0, 1) := by decide +kernel
theorem d1_7 : decode jdk_42_method_139_code 7 = .ok (.invokestatic 1015, 3) := by decide +kernel
theorem pd_0 : parseMethodDescriptor "(C)Z" = some ⟨[.char], some .boolean⟩ := by decide +kernel
theorem d1_10 : decode jdk_42_method_139_code 10 = .ok (.ifCond .eq 16, 3) := by decide +kernel
theorem d1_13 : decode jdk_42_method_139_code 13 = .ok (.new 10, 3) := by decide +kernel
theorem d1_16 : decode jdk_42_method_139_code 16 = .ok (.dup, 1) := by decide +kernel
theorem d1_17 : decode jdk_42_method_139_code 17 = .ok (.iload_n 0, 1) := by decide +kernel
theorem d1_18 : decode jdk_42_method_139_code 18 = .ok (.invokestatic 1018, 3) := by decide +kernel
theorem pd_1 : parseMethodDescriptor "(C)[B" = some ⟨[.char], some (.array .byte)⟩ := by decide +kernel
theorem d1_21 : decode jdk_42_method_139_code 21 = .ok (.iconst 0, 1) := by decide +kernel
theorem d1_22 : decode jdk_42_method_139_code 22 = .ok (.invokespecial 209, 3) := by decide +kernel
theorem pd_2 : parseMethodDescriptor "([BB)V" = some ⟨[(.array .byte), .byte], none⟩ := by decide +kernel
theorem d1_25 : decode jdk_42_method_139_code 25 = .ok (.areturn, 1) := by decide +kernel
def Q_valof (Z : State) (x1 : Int32) (cs : Int32) (h0 : Heap) (n0 : Nat) (v : Option Value) (h : Heap) (L : List Loc) : Prop := ∃ b : Addr, v = some (.ref b) ∧ Fr n0 L ∧ Keep h0 h [] ∧ h0.size ≤ b ∧ Exa Z h b "java/lang/String"
theorem ef_3 (m : MethodId) (x0 : Int32) : entryFrame m #[(.int x0)] 1 = mkF m 0 #[.val (.int x0)] [] := by first | (simp [entryFrame, mkF, argsToLocals, Value.category]; done) | rfl
abbrev y_3 : MethodName := ⟨"java/lang/String", "valueOf", "(C)Ljava/lang/String;"⟩
set_option maxRecDepth 65536 in
set_option maxHeartbeats 40000000 in
theorem valof (l : Launch) (Z : State) (a0 : Array Value) (hw : ∀ d ∈ tables_1, d.before a0 Z = true) (ws : List Jvm.Cond) (x1 : Int32) (cs : Int32) (h0 : Heap) (n0 : Nat) (O : Old Z n0 h0) (Scs : Sta Z Z.heap "java/lang/String" "COMPACT_STRINGS" "Z" (.int cs)) (hcs : ¬ (cs = (0 : Int32))) (hx1 : ¬ ((255 : Int32) < x1)) :
    Ctr l Z y_3 jdk_42_method_139_code 1 (some (.object "java/lang/String")) ws ({ frames := 2, cells := 2, slots := 5, locals := 27 } : Room) #[(.int x1)] h0 (Q_valof Z x1 cs h0 n0) := by
  refine MetFree.of_bodySF (plainFor_of_name pn_1) hisR ?_
  intro p e s m args below meth c s₁ Bd hml0 hP hK
  obtain ⟨rfl, hZ, hh⟩ := hP
  have W := fun (i : Nat) {d : Jvm.Cond} (h : tables_1[i]? = some d) => hw d (List.mem_of_getElem? h)
  have hx := Bd.exec
  have hby := Bd.bytes
  have hml : c.maxLocals = 1 := hml0
  have hown : s.vm.findClass "java/lang/String" = some m.cls := findClass_of_methodNamed Bd.named
  have hnm := (name_of_methodNamed Bd.named Bd.method).1
  have X0 : Stand p l e ({ frames := 2, cells := 2, slots := 5, locals := 27 } : Room) s m #[(.int x1)] below meth c s₁ [] 0 0 := Stand.of_body Bd
  have e0 : s₁.heap = h0 := by rw [← hh, Bd.state]; rfl
  have N0 := Fr.nil n0
  have pre0 : ∀ t, Steps p.tables e below (s₁.setTop (mkF m 0 #[.val (.int x1)] [])) t → Steps p.tables e below (s₁.setTop (entryFrame m #[(.int x1)] 1)) t := fun t kk_ => castTop (ef_3 m x1) kk_
  have K0 := Keep.refl h0 []
  obtain ⟨T1, X1, e1, st1⟩ := getS2 X0 hx hZ hown (host := "") (Or.inl (W 5 rfl)) Via.refl e0 (Scs.ext O.2) (g := (mkF m 0 #[iv x1] [])) rfl (hb hby d1_0)
  obtain ⟨_, _, ⟨T2, L2, k2, n2⟩, -, X2, ⟨Lc2, hQ2, l2, y2, z2⟩, st2⟩ := Jvm.LawKit.callS X1 hx (y := y_0) hown (mvT hZ (W 6 rfl)) (mvT hZ (W 7 rfl)) (mvT hZ (W 8 rfl)) (mvT hZ (W 9 rfl)) (by decide) (backOf (W := 0) (canenc l Z a0 hw [] x1 h0 n0 O hx1) hZ (W 9 rfl) (W 8 rfl) (by decide) (by decide)) (g := (mkF m 7 #[iv x1] [.int x1])) rfl (by rw [hml]; rfl) (argsL := [.int x1]) (rest := []) (lenOf pd_0 rfl) rfl (by show 2 * 0 + _ ≤ _; exact Nat.le_of_eq rfl) (hb hby d1_7) (fun _ _ => ⟨rfl, e1, (by decide : 0 + 0 ≤ _), (by decide : 0 + 0 ≤ _)⟩)
  dsimp only [Pt.U, Pt.locs, Pt.cells, Pt.slots] at X2 l2 y2 z2 st2 hQ2
  subst l2 y2 z2
  obtain ⟨h2, e2⟩ : ∃ z, T2.heap = z := ⟨_, rfl⟩
  rw [e2] at hQ2
  obtain ⟨rfl, N2q, p2_0⟩ := hQ2
  have N2 := Fr.app N0 N2q
  rw [p2_0] at e2
  obtain ⟨T3, h3, X3, e3, E3, A3, D3, -, st3⟩ := newO X2 hx hZ hown (W 10 rfl) (W 11 rfl) (W 3 rfl) e2 (g := (mkF m 13 #[iv x1] [])) rfl (hb hby d1_13) (by decide) (by decide)
  obtain ⟨b3, g3⟩ : ∃ z, z = h0.size := ⟨_, rfl⟩
  rw [← g3] at A3 D3 st3
  have g_b3 : n0 ≤ b3 := Nat.le_trans (own_sz O) (Nat.le_of_eq g3.symm)
  have sz_b3 : h0.size ≤ b3 := Nat.le_trans K0.1 (Nat.le_of_eq g3.symm)
  have O4 := O.ext E3
  have K5 := K0.ext E3
  have Fz6 : Fld Z h3 b3 "java/lang/String" "value" "[B" .null := D3 (Or.inr (W 24 rfl)) (ty := (.array .byte)) (by decide)
  have Fz7 : Fld Z h3 b3 "java/lang/String" "coder" "B" (.int (0 : Int32)) := D3 (Or.inr (W 26 rfl)) (ty := .byte) (by decide)
  obtain ⟨_, _, ⟨T8, L8, k8, n8⟩, -, X8, ⟨Lc8, hQ8, l8, y8, z8⟩, st8⟩ := Jvm.LawKit.callS X3 hx (y := y_1) hown (mvT hZ (W 12 rfl)) (mvT hZ (W 13 rfl)) (mvT hZ (W 8 rfl)) (mvT hZ (W 14 rfl)) (by decide) (backOf (W := 2) (tobyt l Z a0 hw [] x1 h3 n0 O4 ) hZ (W 14 rfl) (W 8 rfl) (by decide) (by decide)) (g := (mkF m 18 #[iv x1] [.int x1, .ref b3, .ref b3])) rfl (by rw [hml]; rfl) (argsL := [.int x1]) (rest := [.ref b3, .ref b3]) (lenOf pd_1 rfl) rfl (by show 2 * 0 + _ ≤ _; exact Nat.le_of_eq rfl) (hb hby d1_18) (fun _ _ => ⟨rfl, e3, (by decide : 1 + 1 ≤ _), (by decide : 4 + 1 ≤ _)⟩)
  dsimp only [Pt.U, Pt.locs, Pt.cells, Pt.slots] at X8 l8 y8 z8 st8 hQ8
  subst l8 y8 z8
  obtain ⟨h8, e8⟩ : ∃ z, T8.heap = z := ⟨_, rfl⟩
  rw [e8] at hQ8
  obtain ⟨b8b, b8kb, rfl, N8q, p8_0, p8_1, p8_2, p8_3⟩ := hQ8
  have N8 := Fr.app N2 N8q
  have A3 := A3.keep p8_0
  have Fz6 := Fz6.keep p8_0 nin0
  have Fz7 := Fz7.keep p8_0 nin0
  have O9 := O4.keep p8_0 all0
  have K10 := K5.trans p8_0 all0
  obtain ⟨_, _, ⟨T11, L11, k11, n11⟩, -, X11, ⟨Lc11, hQ11, l11, y11, z11⟩, st11⟩ := X8.specialBack hx (y := y_2) rfl hown (mvT hZ (W 16 rfl)) (mvT hZ (W 17 rfl)) (mvT hZ (W 19 rfl)) (by decide) (backOf (W := 1) (strinit l Z a0 hw [] b3 b8b h8 n0 O9 A3 Fz6 Fz7 g_b3) hZ (W 19 rfl) (W 3 rfl) (by decide) (by decide)) (g := (mkF m 22 #[iv x1] [.int 0, .ref b8b, .ref b3, .ref b3])) rfl (by rw [hml]; rfl) (Steps.refl _) (a := b3) (argsL := [.ref b8b, .int 0]) (rest := [.ref b3]) (lenOf pd_2 rfl) rfl (by show 2 * 0 + _ ≤ _; exact Nat.le_of_eq rfl) (hb hby d1_22) (fun _ _ => ⟨rfl, e8, (by decide : 2 + 0 ≤ _), (by decide : 5 + 0 ≤ _)⟩)
  dsimp only [Pt.U, Pt.locs, Pt.cells, Pt.slots] at X11 l11 y11 z11 st11 hQ11
  subst l11 y11 z11
  obtain ⟨h11, e11⟩ : ∃ z, T11.heap = z := ⟨_, rfl⟩
  rw [e11] at hQ11
  obtain ⟨rfl, N11q, p11_0, p11_1, p11_2⟩ := hQ11
  have N11 := Fr.app N8 N11q
  have A3 := A3.keep p11_0
  have K13 := K10.trans p11_0 (allS (Or.inr sz_b3) all0)
  obtain ⟨fs, hr, hrun, hended, hW, hsame⟩ := X11.leave (v := some (.ref b3)) (fun h => by rw [Bd.returns] at h; cases h)
  refine ⟨_, _, pre0 _ ?_, hrun, hended, _, _, rfl, ?_, ⟨_, rfl⟩, hW, hsame.mono (by decide) (by decide)⟩
  · show Sq p e below m s₁ 0 #[iv x1] [] _
    refine st1 _ ?_
    show Sq p e below m T1 3 #[iv x1] [.int cs] _
    refine XS.ifNo X1.here hx rfl (hb hby d1_3) rfl ((if0 _ _).trans (feq (hcs : ¬ (cs = (0 : Int32)))).1) ?_
    refine XS.iloadN X1.here hx rfl (hb hby d1_6) rfl ?_
    show Sq p e below m T1 7 #[iv x1] [.int x1] _
    refine st2 _ ?_
    show Sq p e below m T2 10 #[iv x1] [.int 1] _
    refine XS.ifNo X2.here hx rfl (hb hby d1_10) rfl ((if0 _ _).trans (feq (by decide)).1) ?_
    show Sq p e below m T2 13 #[iv x1] [] _
    refine st3 _ ?_
    show Sq p e below m T3 16 #[iv x1] [.ref b3] _
    refine XS.dup X3.here hx rfl (hb hby d1_16) rfl rfl ?_
    refine XS.iloadN X3.here hx rfl (hb hby d1_17) rfl ?_
    show Sq p e below m T3 18 #[iv x1] [.int x1, .ref b3, .ref b3] _
    refine st8 _ ?_
    show Sq p e below m T8 21 #[iv x1] [.ref b8b, .ref b3, .ref b3] _
    refine XS.iconst X8.here hx rfl (hb hby d1_21) ?_
    show Sq p e below m T8 22 #[iv x1] [.int 0, .ref b8b, .ref b3, .ref b3] _
    refine st11.trans ?_
    show Sq p e below m T11 25 #[iv x1] [.ref b3] _
    jvm_step X11.here [X11.here.top, hx, (hb hby d1_25), X11.method', Bd.returns, Value.isRef, FieldType.isReference]
    first | (intro acts; rw [hr _ acts rfl rfl rfl]) | rw [hr _ _ rfl rfl rfl]
    exact Steps.refl _
  · show Q_valof Z x1 cs h0 n0 _ T11.heap _
    rw [e11]
    exact ⟨b3, rfl, N11, K13, sz_b3, A3⟩
theorem d7_0 : decode jdk_30_method_1_code 0 = .ok (.aload_n 0, 1) := by decide +kernel
theorem d7_1 : decode jdk_30_method_1_code 1 = .ok (.invokespecial 1, 3) := by decide +kernel
theorem d7_4 : decode jdk_30_method_1_code 4 = .ok (.return_, 1) := by decide +kernel
def Q_recinit (Z : State) (a : Addr) (h0 : Heap) (n0 : Nat) (v : Option Value) (h : Heap) (L : List Loc) : Prop := v = none ∧ Fr n0 L ∧ h = h0
theorem ef_4 (m : MethodId) (x0 : Addr) : entryFrame m #[(.ref x0)] 1 = mkF m 0 #[.val (.ref x0)] [] := by first | (simp [entryFrame, mkF, argsToLocals, Value.category]; done) | rfl
theorem pn_2 : plainName "java/lang/Record" = true := by first | (simp [plainName, overriddenIn]; done) | decide +kernel
abbrev y_4 : MethodName := ⟨"java/lang/Record", "<init>", "()V"⟩
set_option maxRecDepth 65536 in
set_option maxHeartbeats 40000000 in
theorem recinit (l : Launch) (Z : State) (a0 : Array Value) (hw : ∀ d ∈ tables_1, d.before a0 Z = true) (ws : List Jvm.Cond) (a : Addr) (h0 : Heap) (n0 : Nat) (O : Old Z n0 h0) :
    Ctr l Z y_4 jdk_30_method_1_code 1 none ws ({ frames := 1, cells := 0, slots := 0, locals := 12 } : Room) #[(.ref a)] h0 (Q_recinit Z a h0 n0) := by
  refine MetFree.of_bodySF (plainFor_of_name pn_2) hisR ?_
  intro p e s m args below meth c s₁ Bd hml0 hP hK
  obtain ⟨rfl, hZ, hh⟩ := hP
  have W := fun (i : Nat) {d : Jvm.Cond} (h : tables_1[i]? = some d) => hw d (List.mem_of_getElem? h)
  have hx := Bd.exec
  have hby := Bd.bytes
  have hml : c.maxLocals = 1 := hml0
  have hown : s.vm.findClass "java/lang/Record" = some m.cls := findClass_of_methodNamed Bd.named
  have hnm := (name_of_methodNamed Bd.named Bd.method).1
  have X0 : Stand p l e ({ frames := 1, cells := 0, slots := 0, locals := 12 } : Room) s m #[(.ref a)] below meth c s₁ [] 0 0 := Stand.of_body Bd
  have e0 : s₁.heap = h0 := by rw [← hh, Bd.state]; rfl
  have N0 := Fr.nil n0
  have pre0 : ∀ t, Steps p.tables e below (s₁.setTop (mkF m 0 #[.val (.ref a)] [])) t → Steps p.tables e below (s₁.setTop (entryFrame m #[(.ref a)] 1)) t := fun t kk_ => castTop (ef_4 m a) kk_
  obtain ⟨T1, X1, e1, st1⟩ := initO X0 hx hZ hown (W 38 rfl) (W 21 rfl) (W 22 rfl) e0 (g := (mkF m 1 #[rv a] [.ref a])) rfl (by rw [hml]; rfl) rfl (hb hby d7_1) (by decide) (W := 0) (by show 2 * 0 + _ ≤ _; exact Nat.le_of_eq rfl) (by decide)
  obtain ⟨fs, hr, hrun, hended, hW, hsame⟩ := X1.leave (v := none) (fun _ => rfl)
  refine ⟨_, _, pre0 _ ?_, hrun, hended, _, _, rfl, ?_, ⟨_, rfl⟩, hW, hsame.mono (by decide) (by decide)⟩
  · show Sq p e below m s₁ 0 #[rv a] [] _
    refine XS.aloadN X0.here hx rfl (hb hby d7_0) rfl rfl ?_
    show Sq p e below m s₁ 1 #[rv a] [.ref a] _
    refine st1 _ ?_
    show Sq p e below m T1 4 #[rv a] [] _
    exact X1.returnOut hx Bd.returns (hb hby d7_4) hr
  · show Q_recinit Z a h0 n0 _ T1.heap _
    rw [e1]
    exact ⟨rfl, N0, rfl⟩
theorem d15_0 : decode jdk_52_method_21_code 0 = .ok (.iconst 0, 1) := by decide +kernel
theorem d15_1 : decode jdk_52_method_21_code 1 = .ok (.istore 5, 2) := by decide +kernel
theorem d15_3 : decode jdk_52_method_21_code 3 = .ok (.iload 5, 2) := by decide +kernel
theorem d15_5 : decode jdk_52_method_21_code 5 = .ok (.iload 4, 2) := by decide +kernel
theorem d15_7 : decode jdk_52_method_21_code 7 = .ok (.if_icmp .ge 37, 3) := by decide +kernel
theorem d15_10 : decode jdk_52_method_21_code 10 = .ok (.aload_n 0, 1) := by decide +kernel
theorem d15_11 : decode jdk_52_method_21_code 11 = .ok (.iload_n 1, 1) := by decide +kernel
theorem d15_12 : decode jdk_52_method_21_code 12 = .ok (.caload, 1) := by decide +kernel
theorem d15_13 : decode jdk_52_method_21_code 13 = .ok (.istore 6, 2) := by decide +kernel
theorem d15_15 : decode jdk_52_method_21_code 15 = .ok (.iload 6, 2) := by decide +kernel
theorem d15_17 : decode jdk_52_method_21_code 17 = .ok (.sipush 255, 3) := by decide +kernel
theorem d15_20 : decode jdk_52_method_21_code 20 = .ok (.if_icmp .le 6, 3) := by decide +kernel
theorem d15_26 : decode jdk_52_method_21_code 26 = .ok (.aload_n 2, 1) := by decide +kernel
theorem d15_27 : decode jdk_52_method_21_code 27 = .ok (.iload_n 3, 1) := by decide +kernel
theorem d15_28 : decode jdk_52_method_21_code 28 = .ok (.iload 6, 2) := by decide +kernel
theorem d15_30 : decode jdk_52_method_21_code 30 = .ok (.i2b, 1) := by decide +kernel
theorem d15_31 : decode jdk_52_method_21_code 31 = .ok (.bastore, 1) := by decide +kernel
theorem d15_32 : decode jdk_52_method_21_code 32 = .ok (.iinc 1 1, 3) := by decide +kernel
theorem d15_35 : decode jdk_52_method_21_code 35 = .ok (.iinc 3 1, 3) := by decide +kernel
theorem d15_38 : decode jdk_52_method_21_code 38 = .ok (.iinc 5 1, 3) := by decide +kernel
theorem d15_41 : decode jdk_52_method_21_code 41 = .ok (.goto (-38), 3) := by decide +kernel
theorem d15_44 : decode jdk_52_method_21_code 44 = .ok (.iload 4, 2) := by decide +kernel
theorem d15_46 : decode jdk_52_method_21_code 46 = .ok (.ireturn, 1) := by decide +kernel
def Q_comp5 (Z : State) (y1 : Addr) (ks : ClassId) (b : Addr) (kb : ClassId) (c0 : Int32) (c1 : Int32) (c2 : Int32) (h0 : Heap) (n0 : Nat) (v : Option Value) (h : Heap) (L : List Loc) : Prop := v = some (.int (3 : Int32)) ∧ Fr n0 L ∧ Keep h0 h [b] ∧ Arv Z h b kb .byte (3 : Int32) [(.int (nar .byte (c0.toInt8.toInt32))), (.int (nar .byte (c1.toInt8.toInt32))), (.int (nar .byte (c2.toInt8.toInt32)))] (.int (0 : Int32))
theorem ef_5 (m : MethodId) (x0 : Addr) (x1 : Int32) (x2 : Addr) (x3 : Int32) (x4 : Int32) : entryFrame m #[(.ref x0), (.int x1), (.ref x2), (.int x3), (.int x4)] 7 = mkF m 0 #[.val (.ref x0), .val (.int x1), .val (.ref x2), .val (.int x3), .val (.int x4), .unset, .unset] [] := by first | (simp [entryFrame, mkF, argsToLocals, Value.category]; done) | rfl
theorem pn_3 : plainName "java/lang/StringUTF16" = true := by first | (simp [plainName, overriddenIn]; done) | decide +kernel
abbrev y_5 : MethodName := ⟨"java/lang/StringUTF16", "compress", "([CI[BII)I"⟩
set_option maxRecDepth 65536 in
set_option maxHeartbeats 40000000 in
theorem comp5 (l : Launch) (Z : State) (a0 : Array Value) (hw : ∀ d ∈ tables_1, d.before a0 Z = true) (ws : List Jvm.Cond) (y1 : Addr) (ks : ClassId) (b : Addr) (kb : ClassId) (c0 : Int32) (c1 : Int32) (c2 : Int32) (h0 : Heap) (n0 : Nat) (O : Old Z n0 h0) (Vs : Arv Z h0 y1 ks .char (3 : Int32) [(.int c0), (.int c1), (.int c2)] (.int (0 : Int32))) (Vb : Arv Z h0 b kb .byte (3 : Int32) [(.int (0 : Int32)), (.int (0 : Int32)), (.int (0 : Int32))] (.int (0 : Int32))) (gb : n0 ≤ b) (nyb : y1 ≠ b) (hc_0 : ¬ ((255 : Int32) < c0)) (hc_1 : ¬ ((255 : Int32) < c1)) (hc_2 : ¬ ((255 : Int32) < c2)) :
    Ctr l Z y_5 jdk_52_method_21_code 7 (some .int) ws ({ frames := 0, cells := 0, slots := 0, locals := 0 } : Room) #[(.ref y1), (.int (0 : Int32)), (.ref b), (.int (0 : Int32)), (.int (3 : Int32))] h0 (Q_comp5 Z y1 ks b kb c0 c1 c2 h0 n0) := by
  refine MetFree.of_bodySF (plainFor_of_name pn_3) hisR ?_
  intro p e s m args below meth c s₁ Bd hml0 hP hK
  obtain ⟨rfl, hZ, hh⟩ := hP
  have W := fun (i : Nat) {d : Jvm.Cond} (h : tables_1[i]? = some d) => hw d (List.mem_of_getElem? h)
  have hx := Bd.exec
  have hby := Bd.bytes
  have hml : c.maxLocals = 7 := hml0
  have hown : s.vm.findClass "java/lang/StringUTF16" = some m.cls := findClass_of_methodNamed Bd.named
  have hnm := (name_of_methodNamed Bd.named Bd.method).1
  have X0 : Stand p l e ({ frames := 0, cells := 0, slots := 0, locals := 0 } : Room) s m #[(.ref y1), (.int (0 : Int32)), (.ref b), (.int (0 : Int32)), (.int (3 : Int32))] below meth c s₁ [] 0 0 := Stand.of_body Bd
  have e0 : s₁.heap = h0 := by rw [← hh, Bd.state]; rfl
  have N0 := Fr.nil n0
  have pre0 : ∀ t, Steps p.tables e below (s₁.setTop (mkF m 0 #[.val (.ref y1), .val (.int (0 : Int32)), .val (.ref b), .val (.int (0 : Int32)), .val (.int (3 : Int32)), .unset, .unset] [])) t → Steps p.tables e below (s₁.setTop (entryFrame m #[(.ref y1), (.int (0 : Int32)), (.ref b), (.int (0 : Int32)), (.int (3 : Int32))] 7)) t := fun t kk_ => castTop (ef_5 m y1 (0 : Int32) b (0 : Int32) (3 : Int32)) kk_
  have K0 := Keep.refl h0 [b]
  obtain ⟨cl1, Ar1, q1, S1, Ng1, Hh1, Gg1⟩ := id Vs
  have st1 := X0.caload hx (j := (0 : Int32)) (v := (.int c0)) (by rw [e0]; exact Ar1.1) (State.isArrayOf_alike hZ.alike Ar1.2.1) Ar1.2.2 (inb_of S1 (by decide)) (Hh1.at (inb_of S1 (by decide)) rfl) (g := (mkF m 12 #[rv y1, iv 0, rv b, iv 0, iv 3, iv 0, .unset] [.int 0, .ref y1])) rfl rfl (hb hby d15_12)
  obtain ⟨cl2, Ar2, q2, S2, Ng2, Hh2, Gg2⟩ := id Vb
  obtain ⟨T2, h2, X2, e2, W2, st2⟩ := stB X0 hx hZ e0 Ar2 (j := (0 : Int32)) (inb_of S2 (by decide)) (g := (mkF m 31 #[rv y1, iv 0, rv b, iv 0, iv 3, iv 0, iv c0] [.int (c0.toInt8.toInt32), .int 0, .ref b])) rfl rfl (hb hby d15_31)
  have V2 : Arv Z h2 b kb .byte (3 : Int32) [(.int (nar .byte (c0.toInt8.toInt32))), (.int (0 : Int32)), (.int (0 : Int32))] (.int (0 : Int32)) := Arv.set Ar2 q2 S2 Ng2 Hh2 Gg2 (fits_nar_byte _) W2 0 rfl (Nat.le_of_ble_eq_true rfl)
  have Vs := Vs.other W2 nyb
  have K4 := K0.wr W2 (Or.inl (List.mem_of_getElem? (i := 0) rfl))
  have N5 := Fr.snoc X2 N0 gb
  obtain ⟨cl6, Ar6, q6, S6, Ng6, Hh6, Gg6⟩ := id Vs
  have st6 := X2.caload hx (j := (1 : Int32)) (v := (.int c1)) (by rw [e2]; exact Ar6.1) (State.isArrayOf_alike hZ.alike Ar6.2.1) Ar6.2.2 (inb_of S6 (by decide)) (Hh6.at (inb_of S6 (by decide)) rfl) (g := (mkF m 12 #[rv y1, iv 1, rv b, iv 1, iv 3, iv 1, iv c0] [.int 1, .ref y1])) rfl rfl (hb hby d15_12)
  obtain ⟨cl7, Ar7, q7, S7, Ng7, Hh7, Gg7⟩ := id V2
  obtain ⟨T7, h7, X7, e7, W7, st7⟩ := stB X2 hx hZ e2 Ar7 (j := (1 : Int32)) (inb_of S7 (by decide)) (g := (mkF m 31 #[rv y1, iv 1, rv b, iv 1, iv 3, iv 1, iv c1] [.int (c1.toInt8.toInt32), .int 1, .ref b])) rfl rfl (hb hby d15_31)
  have V7 : Arv Z h7 b kb .byte (3 : Int32) [(.int (nar .byte (c0.toInt8.toInt32))), (.int (nar .byte (c1.toInt8.toInt32))), (.int (0 : Int32))] (.int (0 : Int32)) := Arv.set Ar7 q7 S7 Ng7 Hh7 Gg7 (fits_nar_byte _) W7 1 rfl (Nat.le_of_ble_eq_true rfl)
  have Vs := Vs.other W7 nyb
  have K9 := K4.wr W7 (Or.inl (List.mem_of_getElem? (i := 0) rfl))
  have N10 := Fr.snoc X7 N5 gb
  obtain ⟨cl11, Ar11, q11, S11, Ng11, Hh11, Gg11⟩ := id Vs
  have st11 := X7.caload hx (j := (2 : Int32)) (v := (.int c2)) (by rw [e7]; exact Ar11.1) (State.isArrayOf_alike hZ.alike Ar11.2.1) Ar11.2.2 (inb_of S11 (by decide)) (Hh11.at (inb_of S11 (by decide)) rfl) (g := (mkF m 12 #[rv y1, iv 2, rv b, iv 2, iv 3, iv 2, iv c1] [.int 2, .ref y1])) rfl rfl (hb hby d15_12)
  obtain ⟨cl12, Ar12, q12, S12, Ng12, Hh12, Gg12⟩ := id V7
  obtain ⟨T12, h12, X12, e12, W12, st12⟩ := stB X7 hx hZ e7 Ar12 (j := (2 : Int32)) (inb_of S12 (by decide)) (g := (mkF m 31 #[rv y1, iv 2, rv b, iv 2, iv 3, iv 2, iv c2] [.int (c2.toInt8.toInt32), .int 2, .ref b])) rfl rfl (hb hby d15_31)
  have V12 : Arv Z h12 b kb .byte (3 : Int32) [(.int (nar .byte (c0.toInt8.toInt32))), (.int (nar .byte (c1.toInt8.toInt32))), (.int (nar .byte (c2.toInt8.toInt32)))] (.int (0 : Int32)) := Arv.set Ar12 q12 S12 Ng12 Hh12 Gg12 (fits_nar_byte _) W12 2 rfl (Nat.le_of_ble_eq_true rfl)
  have K14 := K9.wr W12 (Or.inl (List.mem_of_getElem? (i := 0) rfl))
  have N15 := Fr.snoc X12 N10 gb
  obtain ⟨fs, hr, hrun, hended, hW, hsame⟩ := X12.leave (v := some (.int (3 : Int32))) (fun h => by rw [Bd.returns] at h; cases h)
  refine ⟨_, _, pre0 _ ?_, hrun, hended, _, _, rfl, ?_, ⟨_, rfl⟩, hW, hsame.mono (by decide) (by decide)⟩
  · show Sq p e below m s₁ 0 #[rv y1, iv 0, rv b, iv 0, iv 3, .unset, .unset] [] _
    refine XS.iconst X0.here hx rfl (hb hby d15_0) ?_
    refine XS.istore X0.here hx rfl (hb hby d15_1) rfl rfl ?_
    show Sq p e below m s₁ 3 #[rv y1, iv 0, rv b, iv 0, iv 3, iv 0, .unset] [] _
    refine XS.iload X0.here hx rfl (hb hby d15_3) rfl ?_
    refine XS.iload X0.here hx rfl (hb hby d15_5) rfl ?_
    show Sq p e below m s₁ 7 #[rv y1, iv 0, rv b, iv 0, iv 3, iv 0, .unset] [.int 3, .int 0] _
    refine XS.icmpNo X0.here hx rfl (hb hby d15_7) rfl (tlt (by decide)).2.1 ?_
    refine XS.aloadN X0.here hx rfl (hb hby d15_10) rfl rfl ?_
    show Sq p e below m s₁ 11 #[rv y1, iv 0, rv b, iv 0, iv 3, iv 0, .unset] [.ref y1] _
    refine XS.iloadN X0.here hx rfl (hb hby d15_11) rfl ?_
    show Sq p e below m s₁ 12 #[rv y1, iv 0, rv b, iv 0, iv 3, iv 0, .unset] [.int 0, .ref y1] _
    refine st1 _ ?_
    show Sq p e below m s₁ 13 #[rv y1, iv 0, rv b, iv 0, iv 3, iv 0, .unset] [.int c0] _
    refine XS.istore X0.here hx rfl (hb hby d15_13) rfl rfl ?_
    refine XS.iload X0.here hx rfl (hb hby d15_15) rfl ?_
    show Sq p e below m s₁ 17 #[rv y1, iv 0, rv b, iv 0, iv 3, iv 0, iv c0] [.int c0] _
    refine XS.sipush X0.here hx rfl (hb hby d15_17) ?_
    refine XS.icmpYes X0.here hx rfl (pc0 := 20) (pc' := 26) rfl (hb hby d15_20) rfl (flt hc_0).2.2.2 (by decide) (by decide) ?_
    show Sq p e below m s₁ 26 #[rv y1, iv 0, rv b, iv 0, iv 3, iv 0, iv c0] [] _
    refine XS.aloadN X0.here hx rfl (hb hby d15_26) rfl rfl ?_
    refine XS.iloadN X0.here hx rfl (hb hby d15_27) rfl ?_
    show Sq p e below m s₁ 28 #[rv y1, iv 0, rv b, iv 0, iv 3, iv 0, iv c0] [.int 0, .ref b] _
    refine XS.iload X0.here hx rfl (hb hby d15_28) rfl ?_
    refine XS.i2b X0.here hx rfl (hb hby d15_30) rfl ?_
    show Sq p e below m s₁ 31 #[rv y1, iv 0, rv b, iv 0, iv 3, iv 0, iv c0] [.int (c0.toInt8.toInt32), .int 0, .ref b] _
    refine st2 _ ?_
    show Sq p e below m T2 32 #[rv y1, iv 0, rv b, iv 0, iv 3, iv 0, iv c0] [] _
    refine XS.iinc X2.here hx rfl (hb hby d15_32) rfl rfl ?_
    show Sq p e below m T2 35 #[rv y1, iv ((0 : Int32) + (1 : Int32)), rv b, iv 0, iv 3, iv 0, iv c0] [] _
    rw [show ((0 : Int32) + (1 : Int32)) = (1 : Int32) from by decide]
    show Sq p e below m T2 35 #[rv y1, iv 1, rv b, iv 0, iv 3, iv 0, iv c0] [] _
    refine XS.iinc X2.here hx rfl (hb hby d15_35) rfl rfl ?_
    show Sq p e below m T2 38 #[rv y1, iv 1, rv b, iv ((0 : Int32) + (1 : Int32)), iv 3, iv 0, iv c0] [] _
    rw [show ((0 : Int32) + (1 : Int32)) = (1 : Int32) from by decide]
    show Sq p e below m T2 38 #[rv y1, iv 1, rv b, iv 1, iv 3, iv 0, iv c0] [] _
    refine XS.iinc X2.here hx rfl (hb hby d15_38) rfl rfl ?_
    show Sq p e below m T2 41 #[rv y1, iv 1, rv b, iv 1, iv 3, iv ((0 : Int32) + (1 : Int32)), iv c0] [] _
    rw [show ((0 : Int32) + (1 : Int32)) = (1 : Int32) from by decide]
    show Sq p e below m T2 41 #[rv y1, iv 1, rv b, iv 1, iv 3, iv 1, iv c0] [] _
    refine XS.goto X2.here hx rfl (pc0 := 41) (pc' := 3) rfl (hb hby d15_41) (by decide) (by decide) ?_
    refine XS.iload X2.here hx rfl (hb hby d15_3) rfl ?_
    show Sq p e below m T2 5 #[rv y1, iv 1, rv b, iv 1, iv 3, iv 1, iv c0] [.int 1] _
    refine XS.iload X2.here hx rfl (hb hby d15_5) rfl ?_
    refine XS.icmpNo X2.here hx rfl (hb hby d15_7) rfl (tlt (by decide)).2.1 ?_
    show Sq p e below m T2 10 #[rv y1, iv 1, rv b, iv 1, iv 3, iv 1, iv c0] [] _
    refine XS.aloadN X2.here hx rfl (hb hby d15_10) rfl rfl ?_
    refine XS.iloadN X2.here hx rfl (hb hby d15_11) rfl ?_
    show Sq p e below m T2 12 #[rv y1, iv 1, rv b, iv 1, iv 3, iv 1, iv c0] [.int 1, .ref y1] _
    refine st6 _ ?_
    show Sq p e below m T2 13 #[rv y1, iv 1, rv b, iv 1, iv 3, iv 1, iv c0] [.int c1] _
    refine XS.istore X2.here hx rfl (hb hby d15_13) rfl rfl ?_
    refine XS.iload X2.here hx rfl (hb hby d15_15) rfl ?_
    show Sq p e below m T2 17 #[rv y1, iv 1, rv b, iv 1, iv 3, iv 1, iv c1] [.int c1] _
    refine XS.sipush X2.here hx rfl (hb hby d15_17) ?_
    refine XS.icmpYes X2.here hx rfl (pc0 := 20) (pc' := 26) rfl (hb hby d15_20) rfl (flt hc_1).2.2.2 (by decide) (by decide) ?_
    show Sq p e below m T2 26 #[rv y1, iv 1, rv b, iv 1, iv 3, iv 1, iv c1] [] _
    refine XS.aloadN X2.here hx rfl (hb hby d15_26) rfl rfl ?_
    refine XS.iloadN X2.here hx rfl (hb hby d15_27) rfl ?_
    show Sq p e below m T2 28 #[rv y1, iv 1, rv b, iv 1, iv 3, iv 1, iv c1] [.int 1, .ref b] _
    refine XS.iload X2.here hx rfl (hb hby d15_28) rfl ?_
    refine XS.i2b X2.here hx rfl (hb hby d15_30) rfl ?_
    show Sq p e below m T2 31 #[rv y1, iv 1, rv b, iv 1, iv 3, iv 1, iv c1] [.int (c1.toInt8.toInt32), .int 1, .ref b] _
    refine st7 _ ?_
    show Sq p e below m T7 32 #[rv y1, iv 1, rv b, iv 1, iv 3, iv 1, iv c1] [] _
    refine XS.iinc X7.here hx rfl (hb hby d15_32) rfl rfl ?_
    show Sq p e below m T7 35 #[rv y1, iv ((1 : Int32) + (1 : Int32)), rv b, iv 1, iv 3, iv 1, iv c1] [] _
    rw [show ((1 : Int32) + (1 : Int32)) = (2 : Int32) from by decide]
    show Sq p e below m T7 35 #[rv y1, iv 2, rv b, iv 1, iv 3, iv 1, iv c1] [] _
    refine XS.iinc X7.here hx rfl (hb hby d15_35) rfl rfl ?_
    show Sq p e below m T7 38 #[rv y1, iv 2, rv b, iv ((1 : Int32) + (1 : Int32)), iv 3, iv 1, iv c1] [] _
    rw [show ((1 : Int32) + (1 : Int32)) = (2 : Int32) from by decide]
    show Sq p e below m T7 38 #[rv y1, iv 2, rv b, iv 2, iv 3, iv 1, iv c1] [] _
    refine XS.iinc X7.here hx rfl (hb hby d15_38) rfl rfl ?_
    show Sq p e below m T7 41 #[rv y1, iv 2, rv b, iv 2, iv 3, iv ((1 : Int32) + (1 : Int32)), iv c1] [] _
    rw [show ((1 : Int32) + (1 : Int32)) = (2 : Int32) from by decide]
    show Sq p e below m T7 41 #[rv y1, iv 2, rv b, iv 2, iv 3, iv 2, iv c1] [] _
    refine XS.goto X7.here hx rfl (pc0 := 41) (pc' := 3) rfl (hb hby d15_41) (by decide) (by decide) ?_
    refine XS.iload X7.here hx rfl (hb hby d15_3) rfl ?_
    show Sq p e below m T7 5 #[rv y1, iv 2, rv b, iv 2, iv 3, iv 2, iv c1] [.int 2] _
    refine XS.iload X7.here hx rfl (hb hby d15_5) rfl ?_
    refine XS.icmpNo X7.here hx rfl (hb hby d15_7) rfl (tlt (by decide)).2.1 ?_
    show Sq p e below m T7 10 #[rv y1, iv 2, rv b, iv 2, iv 3, iv 2, iv c1] [] _
    refine XS.aloadN X7.here hx rfl (hb hby d15_10) rfl rfl ?_
    refine XS.iloadN X7.here hx rfl (hb hby d15_11) rfl ?_
    show Sq p e below m T7 12 #[rv y1, iv 2, rv b, iv 2, iv 3, iv 2, iv c1] [.int 2, .ref y1] _
    refine st11 _ ?_
    show Sq p e below m T7 13 #[rv y1, iv 2, rv b, iv 2, iv 3, iv 2, iv c1] [.int c2] _
    refine XS.istore X7.here hx rfl (hb hby d15_13) rfl rfl ?_
    refine XS.iload X7.here hx rfl (hb hby d15_15) rfl ?_
    show Sq p e below m T7 17 #[rv y1, iv 2, rv b, iv 2, iv 3, iv 2, iv c2] [.int c2] _
    refine XS.sipush X7.here hx rfl (hb hby d15_17) ?_
    refine XS.icmpYes X7.here hx rfl (pc0 := 20) (pc' := 26) rfl (hb hby d15_20) rfl (flt hc_2).2.2.2 (by decide) (by decide) ?_
    show Sq p e below m T7 26 #[rv y1, iv 2, rv b, iv 2, iv 3, iv 2, iv c2] [] _
    refine XS.aloadN X7.here hx rfl (hb hby d15_26) rfl rfl ?_
    refine XS.iloadN X7.here hx rfl (hb hby d15_27) rfl ?_
    show Sq p e below m T7 28 #[rv y1, iv 2, rv b, iv 2, iv 3, iv 2, iv c2] [.int 2, .ref b] _
    refine XS.iload X7.here hx rfl (hb hby d15_28) rfl ?_
    refine XS.i2b X7.here hx rfl (hb hby d15_30) rfl ?_
    show Sq p e below m T7 31 #[rv y1, iv 2, rv b, iv 2, iv 3, iv 2, iv c2] [.int (c2.toInt8.toInt32), .int 2, .ref b] _
    refine st12 _ ?_
    show Sq p e below m T12 32 #[rv y1, iv 2, rv b, iv 2, iv 3, iv 2, iv c2] [] _
    refine XS.iinc X12.here hx rfl (hb hby d15_32) rfl rfl ?_
    show Sq p e below m T12 35 #[rv y1, iv ((2 : Int32) + (1 : Int32)), rv b, iv 2, iv 3, iv 2, iv c2] [] _
    rw [show ((2 : Int32) + (1 : Int32)) = (3 : Int32) from by decide]
    show Sq p e below m T12 35 #[rv y1, iv 3, rv b, iv 2, iv 3, iv 2, iv c2] [] _
    refine XS.iinc X12.here hx rfl (hb hby d15_35) rfl rfl ?_
    show Sq p e below m T12 38 #[rv y1, iv 3, rv b, iv ((2 : Int32) + (1 : Int32)), iv 3, iv 2, iv c2] [] _
    rw [show ((2 : Int32) + (1 : Int32)) = (3 : Int32) from by decide]
    show Sq p e below m T12 38 #[rv y1, iv 3, rv b, iv 3, iv 3, iv 2, iv c2] [] _
    refine XS.iinc X12.here hx rfl (hb hby d15_38) rfl rfl ?_
    show Sq p e below m T12 41 #[rv y1, iv 3, rv b, iv 3, iv 3, iv ((2 : Int32) + (1 : Int32)), iv c2] [] _
    rw [show ((2 : Int32) + (1 : Int32)) = (3 : Int32) from by decide]
    show Sq p e below m T12 41 #[rv y1, iv 3, rv b, iv 3, iv 3, iv 3, iv c2] [] _
    refine XS.goto X12.here hx rfl (pc0 := 41) (pc' := 3) rfl (hb hby d15_41) (by decide) (by decide) ?_
    refine XS.iload X12.here hx rfl (hb hby d15_3) rfl ?_
    show Sq p e below m T12 5 #[rv y1, iv 3, rv b, iv 3, iv 3, iv 3, iv c2] [.int 3] _
    refine XS.iload X12.here hx rfl (hb hby d15_5) rfl ?_
    refine XS.icmpYes X12.here hx rfl (pc0 := 7) (pc' := 44) rfl (hb hby d15_7) rfl (flt (by decide)).2.1 (by decide) (by decide) ?_
    show Sq p e below m T12 44 #[rv y1, iv 3, rv b, iv 3, iv 3, iv 3, iv c2] [] _
    refine XS.iload X12.here hx rfl (hb hby d15_44) rfl ?_
    show Sq p e below m T12 46 #[rv y1, iv 3, rv b, iv 3, iv 3, iv 3, iv c2] [.int 3] _
    exact retI X12 hx Bd.returns (hb hby d15_46) hr
  · show Q_comp5 Z y1 ks b kb c0 c1 c2 h0 n0 _ T12.heap _
    rw [e12]
    exact ⟨rfl, N15, K14, V12⟩
theorem d14_0 : decode jdk_52_method_16_code 0 = .ok (.iload_n 2, 1) := by decide +kernel
theorem d14_1 : decode jdk_52_method_16_code 1 = .ok (.newarray .byte, 2) := by decide +kernel
theorem d14_3 : decode jdk_52_method_16_code 3 = .ok (.astore_n 3, 1) := by decide +kernel
theorem d14_4 : decode jdk_52_method_16_code 4 = .ok (.aload_n 0, 1) := by decide +kernel
theorem d14_5 : decode jdk_52_method_16_code 5 = .ok (.iload_n 1, 1) := by decide +kernel
theorem d14_6 : decode jdk_52_method_16_code 6 = .ok (.aload_n 3, 1) := by decide +kernel
theorem d14_7 : decode jdk_52_method_16_code 7 = .ok (.iconst 0, 1) := by decide +kernel
theorem d14_8 : decode jdk_52_method_16_code 8 = .ok (.iload_n 2, 1) := by decide +kernel
theorem d14_9 : decode jdk_52_method_16_code 9 = .ok (.invokestatic 115, 3) := by decide +kernel
theorem pd_3 : parseMethodDescriptor "([CI[BII)I" = some ⟨[(.array .char), .int, (.array .byte), .int, .int], some .int⟩ := by decide +kernel
theorem d14_12 : decode jdk_52_method_16_code 12 = .ok (.istore 4, 2) := by decide +kernel
theorem d14_14 : decode jdk_52_method_16_code 14 = .ok (.iload 4, 2) := by decide +kernel
theorem d14_16 : decode jdk_52_method_16_code 16 = .ok (.iload_n 2, 1) := by decide +kernel
theorem d14_17 : decode jdk_52_method_16_code 17 = .ok (.if_icmp .eq 40, 3) := by decide +kernel
theorem d14_57 : decode jdk_52_method_16_code 57 = .ok (.aload_n 3, 1) := by decide +kernel
theorem d14_58 : decode jdk_52_method_16_code 58 = .ok (.areturn, 1) := by decide +kernel
def Q_comp3 (Z : State) (y1 : Addr) (ks : ClassId) (c0 : Int32) (c1 : Int32) (c2 : Int32) (h0 : Heap) (n0 : Nat) (v : Option Value) (h : Heap) (L : List Loc) : Prop := ∃ b : Addr, ∃ kb : ClassId, v = some (.ref b) ∧ Fr n0 L ∧ Keep h0 h [] ∧ h0.size ≤ b ∧ Exa Z h b "[B" ∧ Arv Z h b kb .byte (3 : Int32) [(.int (nar .byte (c0.toInt8.toInt32))), (.int (nar .byte (c1.toInt8.toInt32))), (.int (nar .byte (c2.toInt8.toInt32)))] (.int (0 : Int32))
theorem ef_6 (m : MethodId) (x0 : Addr) (x1 : Int32) (x2 : Int32) : entryFrame m #[(.ref x0), (.int x1), (.int x2)] 6 = mkF m 0 #[.val (.ref x0), .val (.int x1), .val (.int x2), .unset, .unset, .unset] [] := by first | (simp [entryFrame, mkF, argsToLocals, Value.category]; done) | rfl
abbrev y_6 : MethodName := ⟨"java/lang/StringUTF16", "compress", "([CII)[B"⟩
set_option maxRecDepth 65536 in
set_option maxHeartbeats 40000000 in
theorem comp3 (l : Launch) (Z : State) (a0 : Array Value) (hw : ∀ d ∈ tables_1, d.before a0 Z = true) (ws : List Jvm.Cond) (y1 : Addr) (ks : ClassId) (c0 : Int32) (c1 : Int32) (c2 : Int32) (h0 : Heap) (n0 : Nat) (O : Old Z n0 h0) (Vs : Arv Z h0 y1 ks .char (3 : Int32) [(.int c0), (.int c1), (.int c2)] (.int (0 : Int32))) (hc_0 : ¬ ((255 : Int32) < c0)) (hc_1 : ¬ ((255 : Int32) < c1)) (hc_2 : ¬ ((255 : Int32) < c2)) :
    Ctr l Z y_6 jdk_52_method_16_code 6 (some (.array .byte)) ws ({ frames := 1, cells := 1, slots := 3, locals := 18 } : Room) #[(.ref y1), (.int (0 : Int32)), (.int (3 : Int32))] h0 (Q_comp3 Z y1 ks c0 c1 c2 h0 n0) := by
  refine MetFree.of_bodySF (plainFor_of_name pn_3) hisR ?_
  intro p e s m args below meth c s₁ Bd hml0 hP hK
  obtain ⟨rfl, hZ, hh⟩ := hP
  have W := fun (i : Nat) {d : Jvm.Cond} (h : tables_1[i]? = some d) => hw d (List.mem_of_getElem? h)
  have hx := Bd.exec
  have hby := Bd.bytes
  have hml : c.maxLocals = 6 := hml0
  have hown : s.vm.findClass "java/lang/StringUTF16" = some m.cls := findClass_of_methodNamed Bd.named
  have hnm := (name_of_methodNamed Bd.named Bd.method).1
  have X0 : Stand p l e ({ frames := 1, cells := 1, slots := 3, locals := 18 } : Room) s m #[(.ref y1), (.int (0 : Int32)), (.int (3 : Int32))] below meth c s₁ [] 0 0 := Stand.of_body Bd
  have e0 : s₁.heap = h0 := by rw [← hh, Bd.state]; rfl
  have N0 := Fr.nil n0
  have pre0 : ∀ t, Steps p.tables e below (s₁.setTop (mkF m 0 #[.val (.ref y1), .val (.int (0 : Int32)), .val (.int (3 : Int32)), .unset, .unset, .unset] [])) t → Steps p.tables e below (s₁.setTop (entryFrame m #[(.ref y1), (.int (0 : Int32)), (.int (3 : Int32))] 6)) t := fun t kk_ => castTop (ef_6 m y1 (0 : Int32) (3 : Int32)) kk_
  have K0 := Keep.refl h0 []
  obtain ⟨T1, h1, k1, X1, e1, E1, A1, A1x, st1⟩ := newPE X0 hx hZ (W 15 rfl) e0 (g := (mkF m 1 #[rv y1, iv 0, iv 3, .unset, .unset, .unset] [.int 3])) rfl (hb hby d14_1) rfl (by decide) (cap := 3) (by decide) (by decide) (by decide) (by decide) (ad := "[B") (by decide)
  obtain ⟨b1, g1⟩ : ∃ z, z = h0.size := ⟨_, rfl⟩
  rw [← g1] at A1 A1x st1
  have g_b1 : n0 ≤ b1 := Nat.le_trans (own_sz O) (Nat.le_of_eq g1.symm)
  have sz_b1 : h0.size ≤ b1 := Nat.le_trans K0.1 (Nat.le_of_eq g1.symm)
  have ne_y1_b1 : y1 ≠ b1 := Nat.ne_of_lt (Nat.lt_of_lt_of_le Vs.lt (Nat.le_of_eq g1.symm))
  have Vs := Vs.ext E1
  have O2 := O.ext E1
  have K3 := K0.ext E1
  have V1 : Arv Z h1 b1 k1 .byte (3 : Int32) [(.int (0 : Int32)), (.int (0 : Int32)), (.int (0 : Int32))] (.int (0 : Int32)) := (Arv.new A1 (by decide)).pad (pad_rep [] (.int (0 : Int32)) 3)
  obtain ⟨_, _, ⟨T4, L4, k4, n4⟩, -, X4, ⟨Lc4, hQ4, l4, y4, z4⟩, st4⟩ := Jvm.LawKit.callS X1 hx (y := y_5) hown (mvT hZ (W 76 rfl)) (mvT hZ (W 77 rfl)) (mvT hZ (W 74 rfl)) (mvT hZ (W 78 rfl)) (by decide) (backOf (W := 0) (comp5 l Z a0 hw [] y1 ks b1 k1 c0 c1 c2 h1 n0 O2 Vs V1 g_b1 ne_y1_b1 hc_0 hc_1 hc_2) hZ (W 78 rfl) (W 74 rfl) (by decide) (by decide)) (g := (mkF m 9 #[rv y1, iv 0, iv 3, rv b1, .unset, .unset] [.int 3, .int 0, .ref b1, .int 0, .ref y1])) rfl (by rw [hml]; rfl) (argsL := [.ref y1, .int 0, .ref b1, .int 0, .int 3]) (rest := []) (lenOf pd_3 rfl) rfl (by show 2 * 0 + _ ≤ _; exact Nat.le_of_eq rfl) (hb hby d14_9) (fun _ _ => ⟨rfl, e1, (by decide : 1 + 0 ≤ _), (by decide : 3 + 0 ≤ _)⟩)
  dsimp only [Pt.U, Pt.locs, Pt.cells, Pt.slots] at X4 l4 y4 z4 st4 hQ4
  subst l4 y4 z4
  obtain ⟨h4, e4⟩ : ∃ z, T4.heap = z := ⟨_, rfl⟩
  rw [e4] at hQ4
  obtain ⟨rfl, N4q, p4_0, p4_1⟩ := hQ4
  have N4 := Fr.app N0 N4q
  have A1x := A1x.keep p4_0
  have K6 := K3.trans p4_0 (allS (Or.inr sz_b1) all0)
  obtain ⟨fs, hr, hrun, hended, hW, hsame⟩ := X4.leave (v := some (.ref b1)) (fun h => by rw [Bd.returns] at h; cases h)
  refine ⟨_, _, pre0 _ ?_, hrun, hended, _, _, rfl, ?_, ⟨_, rfl⟩, hW, hsame.mono (by decide) (by decide)⟩
  · show Sq p e below m s₁ 0 #[rv y1, iv 0, iv 3, .unset, .unset, .unset] [] _
    refine XS.iloadN X0.here hx rfl (hb hby d14_0) rfl ?_
    show Sq p e below m s₁ 1 #[rv y1, iv 0, iv 3, .unset, .unset, .unset] [.int 3] _
    refine st1 _ ?_
    show Sq p e below m T1 3 #[rv y1, iv 0, iv 3, .unset, .unset, .unset] [.ref b1] _
    refine XS.astoreN X1.here hx rfl (hb hby d14_3) rfl rfl rfl ?_
    refine XS.aloadN X1.here hx rfl (hb hby d14_4) rfl rfl ?_
    show Sq p e below m T1 5 #[rv y1, iv 0, iv 3, rv b1, .unset, .unset] [.ref y1] _
    refine XS.iloadN X1.here hx rfl (hb hby d14_5) rfl ?_
    refine XS.aloadN X1.here hx rfl (hb hby d14_6) rfl rfl ?_
    show Sq p e below m T1 7 #[rv y1, iv 0, iv 3, rv b1, .unset, .unset] [.ref b1, .int 0, .ref y1] _
    refine XS.iconst X1.here hx rfl (hb hby d14_7) ?_
    refine XS.iloadN X1.here hx rfl (hb hby d14_8) rfl ?_
    show Sq p e below m T1 9 #[rv y1, iv 0, iv 3, rv b1, .unset, .unset] [.int 3, .int 0, .ref b1, .int 0, .ref y1] _
    refine st4 _ ?_
    show Sq p e below m T4 12 #[rv y1, iv 0, iv 3, rv b1, .unset, .unset] [.int 3] _
    refine XS.istore X4.here hx rfl (hb hby d14_12) rfl rfl ?_
    refine XS.iload X4.here hx rfl (hb hby d14_14) rfl ?_
    show Sq p e below m T4 16 #[rv y1, iv 0, iv 3, rv b1, iv 3, .unset] [.int 3] _
    refine XS.iloadN X4.here hx rfl (hb hby d14_16) rfl ?_
    refine XS.icmpYes X4.here hx rfl (pc0 := 17) (pc' := 57) rfl (hb hby d14_17) rfl (teq (rfl : (3 : Int32) = (3 : Int32))).1 (by decide) (by decide) ?_
    show Sq p e below m T4 57 #[rv y1, iv 0, iv 3, rv b1, iv 3, .unset] [] _
    refine XS.aloadN X4.here hx rfl (hb hby d14_57) rfl rfl ?_
    show Sq p e below m T4 58 #[rv y1, iv 0, iv 3, rv b1, iv 3, .unset] [.ref b1] _
    jvm_step X4.here [X4.here.top, hx, (hb hby d14_58), X4.method', Bd.returns, Value.isRef, FieldType.isReference]
    first | (intro acts; rw [hr _ acts rfl rfl rfl]) | rw [hr _ _ rfl rfl rfl]
    exact Steps.refl _
  · show Q_comp3 Z y1 ks c0 c1 c2 h0 n0 _ T4.heap _
    rw [e4]
    exact ⟨b1, k1, rfl, N4, K6, sz_b1, A1x, p4_1⟩
theorem d16_0 : decode jdk_52_method_15_code 0 = .ok (.iload_n 1, 1) := by decide +kernel
theorem d16_1 : decode jdk_52_method_15_code 1 = .ok (.aload_n 0, 1) := by decide +kernel
theorem d16_2 : decode jdk_52_method_15_code 2 = .ok (.arraylength, 1) := by decide +kernel
theorem d16_3 : decode jdk_52_method_15_code 3 = .ok (.isub, 1) := by decide +kernel
theorem d16_4 : decode jdk_52_method_15_code 4 = .ok (.bipush 31, 2) := by decide +kernel
theorem d16_6 : decode jdk_52_method_15_code 6 = .ok (.iushr, 1) := by decide +kernel
theorem d16_7 : decode jdk_52_method_15_code 7 = .ok (.i2b, 1) := by decide +kernel
theorem d16_8 : decode jdk_52_method_15_code 8 = .ok (.ireturn, 1) := by decide +kernel
def Q_coder (Z : State) (b : Addr) (kb : ClassId) (vs : List Value) (h0 : Heap) (n0 : Nat) (v : Option Value) (h : Heap) (L : List Loc) : Prop := v = some (.int (0 : Int32)) ∧ Fr n0 L ∧ h = h0
theorem ef_7 (m : MethodId) (x0 : Addr) (x1 : Int32) : entryFrame m #[(.ref x0), (.int x1)] 2 = mkF m 0 #[.val (.ref x0), .val (.int x1)] [] := by first | (simp [entryFrame, mkF, argsToLocals, Value.category]; done) | rfl
abbrev y_7 : MethodName := ⟨"java/lang/StringUTF16", "coderFromArrayLen", "([BI)B"⟩
set_option maxRecDepth 65536 in
set_option maxHeartbeats 40000000 in
theorem coder (l : Launch) (Z : State) (a0 : Array Value) (hw : ∀ d ∈ tables_1, d.before a0 Z = true) (ws : List Jvm.Cond) (b : Addr) (kb : ClassId) (vs : List Value) (h0 : Heap) (n0 : Nat) (O : Old Z n0 h0) (Vb : Arv Z h0 b kb .byte (3 : Int32) vs (.int (0 : Int32))) :
    Ctr l Z y_7 jdk_52_method_15_code 2 (some .byte) ws ({ frames := 0, cells := 0, slots := 0, locals := 0 } : Room) #[(.ref b), (.int (3 : Int32))] h0 (Q_coder Z b kb vs h0 n0) := by
  refine MetFree.of_bodySF (plainFor_of_name pn_3) hisR ?_
  intro p e s m args below meth c s₁ Bd hml0 hP hK
  obtain ⟨rfl, hZ, hh⟩ := hP
  have W := fun (i : Nat) {d : Jvm.Cond} (h : tables_1[i]? = some d) => hw d (List.mem_of_getElem? h)
  have hx := Bd.exec
  have hby := Bd.bytes
  have hml : c.maxLocals = 2 := hml0
  have hown : s.vm.findClass "java/lang/StringUTF16" = some m.cls := findClass_of_methodNamed Bd.named
  have hnm := (name_of_methodNamed Bd.named Bd.method).1
  have X0 : Stand p l e ({ frames := 0, cells := 0, slots := 0, locals := 0 } : Room) s m #[(.ref b), (.int (3 : Int32))] below meth c s₁ [] 0 0 := Stand.of_body Bd
  have e0 : s₁.heap = h0 := by rw [← hh, Bd.state]; rfl
  have N0 := Fr.nil n0
  have pre0 : ∀ t, Steps p.tables e below (s₁.setTop (mkF m 0 #[.val (.ref b), .val (.int (3 : Int32))] [])) t → Steps p.tables e below (s₁.setTop (entryFrame m #[(.ref b), (.int (3 : Int32))] 2)) t := fun t kk_ => castTop (ef_7 m b (3 : Int32)) kk_
  obtain ⟨cl1, Ar1, -, S1, Ng1, -, -⟩ := id Vb
  have st1 := X0.arraylength hx (by rw [e0]; exact Ar1.1) (State.isArrayOf_alike hZ.alike Ar1.2.1) (g := (mkF m 2 #[rv b, iv 3] [.ref b, .int 3])) rfl rfl (hb hby d16_2)
  rw [len_of S1 Ng1] at st1
  obtain ⟨fs, hr, hrun, hended, hW, hsame⟩ := X0.leave (v := some (.int (0 : Int32))) (fun h => by rw [Bd.returns] at h; cases h)
  refine ⟨_, _, pre0 _ ?_, hrun, hended, _, _, rfl, ?_, ⟨_, rfl⟩, hW, hsame.mono (by decide) (by decide)⟩
  · show Sq p e below m s₁ 0 #[rv b, iv 3] [] _
    refine XS.iloadN X0.here hx rfl (hb hby d16_0) rfl ?_
    refine XS.aloadN X0.here hx rfl (hb hby d16_1) rfl rfl ?_
    show Sq p e below m s₁ 2 #[rv b, iv 3] [.ref b, .int 3] _
    refine st1 _ ?_
    show Sq p e below m s₁ 3 #[rv b, iv 3] [.int 3, .int 3] _
    refine XS.isub X0.here hx rfl (hb hby d16_3) rfl ?_
    show Sq p e below m s₁ 4 #[rv b, iv 3] [.int ((3 : Int32) - (3 : Int32))] _
    rw [show ((3 : Int32) - (3 : Int32)) = (0 : Int32) from by decide]
    show Sq p e below m s₁ 4 #[rv b, iv 3] [.int 0] _
    refine XS.bipush X0.here hx rfl (hb hby d16_4) ?_
    refine XS.iushr X0.here hx rfl (hb hby d16_6) rfl ?_
    show Sq p e below m s₁ 7 #[rv b, iv 3] [.int (((0 : Int32).toUInt32 >>> ((31 : Int32) &&& 31).toUInt32).toInt32)] _
    rw [show (((0 : Int32).toUInt32 >>> ((31 : Int32) &&& 31).toUInt32).toInt32) = (0 : Int32) from by decide]
    show Sq p e below m s₁ 7 #[rv b, iv 3] [.int 0] _
    refine XS.i2b X0.here hx rfl (hb hby d16_7) rfl ?_
    show Sq p e below m s₁ 8 #[rv b, iv 3] [.int ((0 : Int32).toInt8.toInt32)] _
    rw [show ((0 : Int32).toInt8.toInt32) = (0 : Int32) from by decide]
    show Sq p e below m s₁ 8 #[rv b, iv 3] [.int 0] _
    exact retN X0 hx (t := .byte) Bd.returns (by simp) (hb hby d16_8) hr
  · show Q_coder Z b kb vs h0 n0 _ s₁.heap _
    rw [e0]
    exact ⟨rfl, N0, rfl⟩
theorem d13_0 : decode jdk_42_method_149_code 0 = .ok (.aload_n 0, 1) := by decide +kernel
theorem d13_1 : decode jdk_42_method_149_code 1 = .ok (.invokespecial 1, 3) := by decide +kernel
theorem d13_4 : decode jdk_42_method_149_code 4 = .ok (.iload_n 3, 1) := by decide +kernel
theorem d13_5 : decode jdk_42_method_149_code 5 = .ok (.ifCond .ne 22, 3) := by decide +kernel
theorem d13_27 : decode jdk_42_method_149_code 27 = .ok (.getstatic 38, 3) := by decide +kernel
theorem d13_30 : decode jdk_42_method_149_code 30 = .ok (.ifCond .eq 28, 3) := by decide +kernel
theorem d13_33 : decode jdk_42_method_149_code 33 = .ok (.aload_n 1, 1) := by decide +kernel
theorem d13_34 : decode jdk_42_method_149_code 34 = .ok (.iload_n 2, 1) := by decide +kernel
theorem d13_35 : decode jdk_42_method_149_code 35 = .ok (.iload_n 3, 1) := by decide +kernel
theorem d13_36 : decode jdk_42_method_149_code 36 = .ok (.invokestatic 177, 3) := by decide +kernel
theorem pd_4 : parseMethodDescriptor "([CII)[B" = some ⟨[(.array .char), .int, .int], some (.array .byte)⟩ := by decide +kernel
theorem d13_39 : decode jdk_42_method_149_code 39 = .ok (.astore 5, 2) := by decide +kernel
theorem d13_41 : decode jdk_42_method_149_code 41 = .ok (.aload_n 0, 1) := by decide +kernel
theorem d13_42 : decode jdk_42_method_149_code 42 = .ok (.aload 5, 2) := by decide +kernel
theorem d13_44 : decode jdk_42_method_149_code 44 = .ok (.iload_n 3, 1) := by decide +kernel
theorem d13_45 : decode jdk_42_method_149_code 45 = .ok (.invokestatic 47, 3) := by decide +kernel
theorem pd_5 : parseMethodDescriptor "([BI)B" = some ⟨[(.array .byte), .int], some .byte⟩ := by decide +kernel
theorem d13_48 : decode jdk_42_method_149_code 48 = .ok (.putfield 15, 3) := by decide +kernel
theorem d13_51 : decode jdk_42_method_149_code 51 = .ok (.aload_n 0, 1) := by decide +kernel
theorem d13_52 : decode jdk_42_method_149_code 52 = .ok (.aload 5, 2) := by decide +kernel
theorem d13_54 : decode jdk_42_method_149_code 54 = .ok (.putfield 9, 3) := by decide +kernel
theorem d13_57 : decode jdk_42_method_149_code 57 = .ok (.return_, 1) := by decide +kernel
def Q_strI4 (Z : State) (a : Addr) (y1 : Addr) (ks : ClassId) (c0 : Int32) (c1 : Int32) (c2 : Int32) (cs : Int32) (h0 : Heap) (n0 : Nat) (v : Option Value) (h : Heap) (L : List Loc) : Prop := v = none ∧ Fr n0 L ∧ Keep h0 h [a]
theorem ef_8 (m : MethodId) (x0 : Addr) (x1 : Addr) (x2 : Int32) (x3 : Int32) : entryFrame m #[(.ref x0), (.ref x1), (.int x2), (.int x3), .null] 6 = mkF m 0 #[.val (.ref x0), .val (.ref x1), .val (.int x2), .val (.int x3), .val .null, .unset] [] := by first | (simp [entryFrame, mkF, argsToLocals, Value.category]; done) | rfl
abbrev y_8 : MethodName := ⟨"java/lang/String", "<init>", "([CIILjava/lang/Void;)V"⟩
set_option maxRecDepth 65536 in
set_option maxHeartbeats 40000000 in
theorem strI4 (l : Launch) (Z : State) (a0 : Array Value) (hw : ∀ d ∈ tables_1, d.before a0 Z = true) (ws : List Jvm.Cond) (a : Addr) (y1 : Addr) (ks : ClassId) (c0 : Int32) (c1 : Int32) (c2 : Int32) (cs : Int32) (h0 : Heap) (n0 : Nat) (O : Old Z n0 h0) (Ea : Exa Z h0 a "java/lang/String") (Fvalue : Fld Z h0 a "java/lang/String" "value" "[B" .null) (Fcoder : Fld Z h0 a "java/lang/String" "coder" "B" (.int (0 : Int32))) (ga : n0 ≤ a) (Vs : Arv Z h0 y1 ks .char (3 : Int32) [(.int c0), (.int c1), (.int c2)] (.int (0 : Int32))) (hc_0 : ¬ ((255 : Int32) < c0)) (hc_1 : ¬ ((255 : Int32) < c1)) (hc_2 : ¬ ((255 : Int32) < c2)) (Scs : Sta Z Z.heap "java/lang/String" "COMPACT_STRINGS" "Z" (.int cs)) (hcs : ¬ (cs = (0 : Int32))) (nya : y1 ≠ a) :
    Ctr l Z y_8 jdk_42_method_149_code 6 none ws ({ frames := 2, cells := 1, slots := 3, locals := 35 } : Room) #[(.ref a), (.ref y1), (.int (0 : Int32)), (.int (3 : Int32)), .null] h0 (Q_strI4 Z a y1 ks c0 c1 c2 cs h0 n0) := by
  refine MetFree.of_bodySF (plainFor_of_name pn_1) hisR ?_
  intro p e s m args below meth c s₁ Bd hml0 hP hK
  obtain ⟨rfl, hZ, hh⟩ := hP
  have W := fun (i : Nat) {d : Jvm.Cond} (h : tables_1[i]? = some d) => hw d (List.mem_of_getElem? h)
  have hx := Bd.exec
  have hby := Bd.bytes
  have hml : c.maxLocals = 6 := hml0
  have hown : s.vm.findClass "java/lang/String" = some m.cls := findClass_of_methodNamed Bd.named
  have hnm := (name_of_methodNamed Bd.named Bd.method).1
  have X0 : Stand p l e ({ frames := 2, cells := 1, slots := 3, locals := 35 } : Room) s m #[(.ref a), (.ref y1), (.int (0 : Int32)), (.int (3 : Int32)), .null] below meth c s₁ [] 0 0 := Stand.of_body Bd
  have e0 : s₁.heap = h0 := by rw [← hh, Bd.state]; rfl
  have N0 := Fr.nil n0
  have pre0 : ∀ t, Steps p.tables e below (s₁.setTop (mkF m 0 #[.val (.ref a), .val (.ref y1), .val (.int (0 : Int32)), .val (.int (3 : Int32)), .val .null, .unset] [])) t → Steps p.tables e below (s₁.setTop (entryFrame m #[(.ref a), (.ref y1), (.int (0 : Int32)), (.int (3 : Int32)), .null] 6)) t := fun t kk_ => castTop (ef_8 m a y1 (0 : Int32) (3 : Int32)) kk_
  have K0 := Keep.refl h0 [a]
  obtain ⟨T1, X1, e1, st1⟩ := initO X0 hx hZ hown (W 20 rfl) (W 21 rfl) (W 22 rfl) e0 (g := (mkF m 1 #[rv a, rv y1, iv 0, iv 3, .val .null, .unset] [.ref a])) rfl (by rw [hml]; rfl) rfl (hb hby d13_1) (by decide) (W := 0) (by show 2 * 0 + _ ≤ _; exact Nat.le_of_eq rfl) (by decide)
  obtain ⟨T2, X2, e2, st2⟩ := getS2 X1 hx hZ hown (host := "") (Or.inl (W 5 rfl)) Via.refl e1 (Scs.ext O.2) (g := (mkF m 27 #[rv a, rv y1, iv 0, iv 3, .val .null, .unset] [])) rfl (hb hby d13_27)
  obtain ⟨_, _, ⟨T3, L3, k3, n3⟩, -, X3, ⟨Lc3, hQ3, l3, y3, z3⟩, st3⟩ := Jvm.LawKit.callS X2 hx (y := y_6) hown (mvT hZ (W 72 rfl)) (mvT hZ (W 73 rfl)) (mvT hZ (W 74 rfl)) (mvT hZ (W 75 rfl)) (by decide) (backOf (W := 0) (comp3 l Z a0 hw [] y1 ks c0 c1 c2 h0 n0 O Vs hc_0 hc_1 hc_2) hZ (W 75 rfl) (W 74 rfl) (by decide) (by decide)) (g := (mkF m 36 #[rv a, rv y1, iv 0, iv 3, .val .null, .unset] [.int 3, .int 0, .ref y1])) rfl (by rw [hml]; rfl) (argsL := [.ref y1, .int 0, .int 3]) (rest := []) (lenOf pd_4 rfl) rfl (by show 2 * 0 + _ ≤ _; exact Nat.le_of_eq rfl) (hb hby d13_36) (fun _ _ => ⟨rfl, e2, (by decide : 0 + 1 ≤ _), (by decide : 0 + 3 ≤ _)⟩)
  dsimp only [Pt.U, Pt.locs, Pt.cells, Pt.slots] at X3 l3 y3 z3 st3 hQ3
  subst l3 y3 z3
  obtain ⟨h3, e3⟩ : ∃ z, T3.heap = z := ⟨_, rfl⟩
  rw [e3] at hQ3
  obtain ⟨b3b, b3kb, rfl, N3q, p3_0, p3_1, p3_2, p3_3⟩ := hQ3
  have N3 := Fr.app N0 N3q
  have Ea := Ea.keep p3_0
  have Fvalue := Fvalue.keep p3_0 nin0
  have Fcoder := Fcoder.keep p3_0 nin0
  have O4 := O.keep p3_0 all0
  have K5 := K0.trans p3_0 all0
  obtain ⟨_, _, ⟨T6, L6, k6, n6⟩, -, X6, ⟨Lc6, hQ6, l6, y6, z6⟩, st6⟩ := Jvm.LawKit.callS X3 hx (y := y_7) hown (mvT hZ (W 79 rfl)) (mvT hZ (W 80 rfl)) (mvT hZ (W 74 rfl)) (mvT hZ (W 81 rfl)) (by decide) (backOf (W := 1) (coder l Z a0 hw [] b3b b3kb [(.int (nar .byte (c0.toInt8.toInt32))), (.int (nar .byte (c1.toInt8.toInt32))), (.int (nar .byte (c2.toInt8.toInt32)))] h3 n0 O4 p3_3) hZ (W 81 rfl) (W 74 rfl) (by decide) (by decide)) (g := (mkF m 45 #[rv a, rv y1, iv 0, iv 3, .val .null, rv b3b] [.int 3, .ref b3b, .ref a])) rfl (by rw [hml]; rfl) (argsL := [.ref b3b, .int 3]) (rest := [.ref a]) (lenOf pd_5 rfl) rfl (by show 2 * 0 + _ ≤ _; exact Nat.le_of_eq rfl) (hb hby d13_45) (fun _ _ => ⟨rfl, e3, (by decide : 1 + 0 ≤ _), (by decide : 3 + 0 ≤ _)⟩)
  dsimp only [Pt.U, Pt.locs, Pt.cells, Pt.slots] at X6 l6 y6 z6 st6 hQ6
  subst l6 y6 z6
  obtain ⟨h6, e6⟩ : ∃ z, T6.heap = z := ⟨_, rfl⟩
  rw [e6] at hQ6
  obtain ⟨rfl, N6q, p6_0⟩ := hQ6
  have N6 := Fr.app N3 N6q
  rw [p6_0] at e6
  obtain ⟨T7, h7, X7, e7, W7, st7⟩ := putFN X6 hx hZ hown (W 25 rfl) Via.refl e6 Fcoder Ea (Or.inr ⟨(W 26 rfl), rfl, hnm⟩) (W 11 rfl) (ty := .byte) (v' := (.int (0 : Int32))) (by decide) rfl (by decide) (g := (mkF m 48 #[rv a, rv y1, iv 0, iv 3, .val .null, rv b3b] [.int 0, .ref a])) rfl rfl (hb hby d13_48)
  have Ea := Ea.wr W7
  have Fvalue := Fvalue.other W7 (Or.inr (slot_ne (Or.inr (W 24 rfl)) (Or.inr (W 26 rfl)) (by decide) (t := (.array .byte)) (t' := .byte) (by decide) (by decide)))
  have K9 := K5.wr W7 (Or.inl (List.mem_of_getElem? (i := 0) rfl))
  have N10 := Fr.snoc X7 N6 ga
  obtain ⟨T11, h11, X11, e11, W11, st11⟩ := putF X7 hx hZ hown (host := "") (Or.inl (W 23 rfl)) Via.refl e7 Fvalue Ea (Or.inr ⟨(W 24 rfl), rfl, hnm⟩) (W 11 rfl) (ty := (.array .byte)) (by decide) rfl rfl (g := (mkF m 54 #[rv a, rv y1, iv 0, iv 3, .val .null, rv b3b] [.ref b3b, .ref a])) rfl rfl (hb hby d13_54)
  have K13 := K9.wr W11 (Or.inl (List.mem_of_getElem? (i := 0) rfl))
  have N14 := Fr.snoc X11 N10 ga
  obtain ⟨fs, hr, hrun, hended, hW, hsame⟩ := X11.leave (v := none) (fun _ => rfl)
  refine ⟨_, _, pre0 _ ?_, hrun, hended, _, _, rfl, ?_, ⟨_, rfl⟩, hW, hsame.mono (by decide) (by decide)⟩
  · show Sq p e below m s₁ 0 #[rv a, rv y1, iv 0, iv 3, .val .null, .unset] [] _
    refine XS.aloadN X0.here hx rfl (hb hby d13_0) rfl rfl ?_
    show Sq p e below m s₁ 1 #[rv a, rv y1, iv 0, iv 3, .val .null, .unset] [.ref a] _
    refine st1 _ ?_
    show Sq p e below m T1 4 #[rv a, rv y1, iv 0, iv 3, .val .null, .unset] [] _
    refine XS.iloadN X1.here hx rfl (hb hby d13_4) rfl ?_
    refine XS.ifYes X1.here hx rfl (pc0 := 5) (pc' := 27) rfl (hb hby d13_5) rfl ((if0 _ _).trans (feq (by decide)).2) (by decide) (by decide) ?_
    show Sq p e below m T1 27 #[rv a, rv y1, iv 0, iv 3, .val .null, .unset] [] _
    refine st2 _ ?_
    show Sq p e below m T2 30 #[rv a, rv y1, iv 0, iv 3, .val .null, .unset] [.int cs] _
    refine XS.ifNo X2.here hx rfl (hb hby d13_30) rfl ((if0 _ _).trans (feq (hcs : ¬ (cs = (0 : Int32)))).1) ?_
    refine XS.aloadN X2.here hx rfl (hb hby d13_33) rfl rfl ?_
    show Sq p e below m T2 34 #[rv a, rv y1, iv 0, iv 3, .val .null, .unset] [.ref y1] _
    refine XS.iloadN X2.here hx rfl (hb hby d13_34) rfl ?_
    refine XS.iloadN X2.here hx rfl (hb hby d13_35) rfl ?_
    show Sq p e below m T2 36 #[rv a, rv y1, iv 0, iv 3, .val .null, .unset] [.int 3, .int 0, .ref y1] _
    refine st3 _ ?_
    show Sq p e below m T3 39 #[rv a, rv y1, iv 0, iv 3, .val .null, .unset] [.ref b3b] _
    refine XS.astore X3.here hx rfl (hb hby d13_39) rfl rfl rfl ?_
    refine XS.aloadN X3.here hx rfl (hb hby d13_41) rfl rfl ?_
    show Sq p e below m T3 42 #[rv a, rv y1, iv 0, iv 3, .val .null, rv b3b] [.ref a] _
    refine XS.aload X3.here hx rfl (hb hby d13_42) rfl rfl ?_
    refine XS.iloadN X3.here hx rfl (hb hby d13_44) rfl ?_
    show Sq p e below m T3 45 #[rv a, rv y1, iv 0, iv 3, .val .null, rv b3b] [.int 3, .ref b3b, .ref a] _
    refine st6 _ ?_
    show Sq p e below m T6 48 #[rv a, rv y1, iv 0, iv 3, .val .null, rv b3b] [.int 0, .ref a] _
    refine st7 _ ?_
    show Sq p e below m T7 51 #[rv a, rv y1, iv 0, iv 3, .val .null, rv b3b] [] _
    refine XS.aloadN X7.here hx rfl (hb hby d13_51) rfl rfl ?_
    refine XS.aload X7.here hx rfl (hb hby d13_52) rfl rfl ?_
    show Sq p e below m T7 54 #[rv a, rv y1, iv 0, iv 3, .val .null, rv b3b] [.ref b3b, .ref a] _
    refine st11 _ ?_
    show Sq p e below m T11 57 #[rv a, rv y1, iv 0, iv 3, .val .null, rv b3b] [] _
    exact X11.returnOut hx Bd.returns (hb hby d13_57) hr
  · show Q_strI4 Z a y1 ks c0 c1 c2 cs h0 n0 _ T11.heap _
    rw [e11]
    exact ⟨rfl, N14, K13⟩
theorem d12_0 : decode jdk_42_method_3_code 0 = .ok (.aload_n 0, 1) := by decide +kernel
theorem d12_1 : decode jdk_42_method_3_code 1 = .ok (.aload_n 1, 1) := by decide +kernel
theorem d12_2 : decode jdk_42_method_3_code 2 = .ok (.iconst 0, 1) := by decide +kernel
theorem d12_3 : decode jdk_42_method_3_code 3 = .ok (.aload_n 1, 1) := by decide +kernel
theorem d12_4 : decode jdk_42_method_3_code 4 = .ok (.arraylength, 1) := by decide +kernel
theorem d12_5 : decode jdk_42_method_3_code 5 = .ok (.aconst_null, 1) := by decide +kernel
theorem d12_6 : decode jdk_42_method_3_code 6 = .ok (.invokespecial 27, 3) := by decide +kernel
theorem pd_6 : parseMethodDescriptor "([CIILjava/lang/Void;)V" = some ⟨[(.array .char), .int, .int, (.object "java/lang/Void")], none⟩ := by decide +kernel
theorem d12_9 : decode jdk_42_method_3_code 9 = .ok (.return_, 1) := by decide +kernel
def Q_strI1 (Z : State) (a : Addr) (y1 : Addr) (ks : ClassId) (c0 : Int32) (c1 : Int32) (c2 : Int32) (cs : Int32) (h0 : Heap) (n0 : Nat) (v : Option Value) (h : Heap) (L : List Loc) : Prop := v = none ∧ Fr n0 L ∧ Keep h0 h [a]
theorem ef_9 (m : MethodId) (x0 : Addr) (x1 : Addr) : entryFrame m #[(.ref x0), (.ref x1)] 2 = mkF m 0 #[.val (.ref x0), .val (.ref x1)] [] := by first | (simp [entryFrame, mkF, argsToLocals, Value.category]; done) | rfl
abbrev y_9 : MethodName := ⟨"java/lang/String", "<init>", "([C)V"⟩
set_option maxRecDepth 65536 in
set_option maxHeartbeats 40000000 in
theorem strI1 (l : Launch) (Z : State) (a0 : Array Value) (hw : ∀ d ∈ tables_1, d.before a0 Z = true) (ws : List Jvm.Cond) (a : Addr) (y1 : Addr) (ks : ClassId) (c0 : Int32) (c1 : Int32) (c2 : Int32) (cs : Int32) (h0 : Heap) (n0 : Nat) (O : Old Z n0 h0) (Ea : Exa Z h0 a "java/lang/String") (Fvalue : Fld Z h0 a "java/lang/String" "value" "[B" .null) (Fcoder : Fld Z h0 a "java/lang/String" "coder" "B" (.int (0 : Int32))) (ga : n0 ≤ a) (Vs : Arv Z h0 y1 ks .char (3 : Int32) [(.int c0), (.int c1), (.int c2)] (.int (0 : Int32))) (hc_0 : ¬ ((255 : Int32) < c0)) (hc_1 : ¬ ((255 : Int32) < c1)) (hc_2 : ¬ ((255 : Int32) < c2)) (Scs : Sta Z Z.heap "java/lang/String" "COMPACT_STRINGS" "Z" (.int cs)) (hcs : ¬ (cs = (0 : Int32))) (nya : y1 ≠ a) :
    Ctr l Z y_9 jdk_42_method_3_code 2 none ws ({ frames := 3, cells := 1, slots := 3, locals := 52 } : Room) #[(.ref a), (.ref y1)] h0 (Q_strI1 Z a y1 ks c0 c1 c2 cs h0 n0) := by
  refine MetFree.of_bodySF (plainFor_of_name pn_1) hisR ?_
  intro p e s m args below meth c s₁ Bd hml0 hP hK
  obtain ⟨rfl, hZ, hh⟩ := hP
  have W := fun (i : Nat) {d : Jvm.Cond} (h : tables_1[i]? = some d) => hw d (List.mem_of_getElem? h)
  have hx := Bd.exec
  have hby := Bd.bytes
  have hml : c.maxLocals = 2 := hml0
  have hown : s.vm.findClass "java/lang/String" = some m.cls := findClass_of_methodNamed Bd.named
  have hnm := (name_of_methodNamed Bd.named Bd.method).1
  have X0 : Stand p l e ({ frames := 3, cells := 1, slots := 3, locals := 52 } : Room) s m #[(.ref a), (.ref y1)] below meth c s₁ [] 0 0 := Stand.of_body Bd
  have e0 : s₁.heap = h0 := by rw [← hh, Bd.state]; rfl
  have N0 := Fr.nil n0
  have pre0 : ∀ t, Steps p.tables e below (s₁.setTop (mkF m 0 #[.val (.ref a), .val (.ref y1)] [])) t → Steps p.tables e below (s₁.setTop (entryFrame m #[(.ref a), (.ref y1)] 2)) t := fun t kk_ => castTop (ef_9 m a y1) kk_
  have K0 := Keep.refl h0 [a]
  obtain ⟨cl1, Ar1, -, S1, Ng1, -, -⟩ := id Vs
  have st1 := X0.arraylength hx (by rw [e0]; exact Ar1.1) (State.isArrayOf_alike hZ.alike Ar1.2.1) (g := (mkF m 4 #[rv a, rv y1] [.ref y1, .int 0, .ref y1, .ref a])) rfl rfl (hb hby d12_4)
  rw [len_of S1 Ng1] at st1
  obtain ⟨_, _, ⟨T2, L2, k2, n2⟩, -, X2, ⟨Lc2, hQ2, l2, y2, z2⟩, st2⟩ := X0.specialBack hx (y := y_8) rfl hown (mvT hZ (W 69 rfl)) (mvT hZ (W 70 rfl)) (mvT hZ (W 71 rfl)) (by decide) (backOf (W := 0) (strI4 l Z a0 hw [] a y1 ks c0 c1 c2 cs h0 n0 O Ea Fvalue Fcoder ga Vs hc_0 hc_1 hc_2 Scs hcs nya) hZ (W 71 rfl) (W 3 rfl) (by decide) (by decide)) (g := (mkF m 6 #[rv a, rv y1] [.null, .int 3, .int 0, .ref y1, .ref a])) rfl (by rw [hml]; rfl) (Steps.refl _) (a := a) (argsL := [.ref y1, .int 0, .int 3, .null]) (rest := []) (lenOf pd_6 rfl) rfl (by show 2 * 0 + _ ≤ _; exact Nat.le_of_eq rfl) (hb hby d12_6) (fun _ _ => ⟨rfl, e0, (by decide : 0 + 1 ≤ _), (by decide : 0 + 3 ≤ _)⟩)
  dsimp only [Pt.U, Pt.locs, Pt.cells, Pt.slots] at X2 l2 y2 z2 st2 hQ2
  subst l2 y2 z2
  obtain ⟨h2, e2⟩ : ∃ z, T2.heap = z := ⟨_, rfl⟩
  rw [e2] at hQ2
  obtain ⟨rfl, N2q, p2_0⟩ := hQ2
  have N2 := Fr.app N0 N2q
  have K4 := K0.trans p2_0 (allS (Or.inl (List.mem_of_getElem? (i := 0) rfl)) all0)
  obtain ⟨fs, hr, hrun, hended, hW, hsame⟩ := X2.leave (v := none) (fun _ => rfl)
  refine ⟨_, _, pre0 _ ?_, hrun, hended, _, _, rfl, ?_, ⟨_, rfl⟩, hW, hsame.mono (by decide) (by decide)⟩
  · show Sq p e below m s₁ 0 #[rv a, rv y1] [] _
    refine XS.aloadN X0.here hx rfl (hb hby d12_0) rfl rfl ?_
    refine XS.aloadN X0.here hx rfl (hb hby d12_1) rfl rfl ?_
    show Sq p e below m s₁ 2 #[rv a, rv y1] [.ref y1, .ref a] _
    refine XS.iconst X0.here hx rfl (hb hby d12_2) ?_
    refine XS.aloadN X0.here hx rfl (hb hby d12_3) rfl rfl ?_
    show Sq p e below m s₁ 4 #[rv a, rv y1] [.ref y1, .int 0, .ref y1, .ref a] _
    refine st1 _ ?_
    show Sq p e below m s₁ 5 #[rv a, rv y1] [.int 3, .int 0, .ref y1, .ref a] _
    refine XS.aconstNull X0.here hx rfl (hb hby d12_5) ?_
    show Sq p e below m s₁ 6 #[rv a, rv y1] [.null, .int 3, .int 0, .ref y1, .ref a] _
    refine st2.trans ?_
    show Sq p e below m T2 9 #[rv a, rv y1] [] _
    exact X2.returnOut hx Bd.returns (hb hby d12_9) hr
  · show Q_strI1 Z a y1 ks c0 c1 c2 cs h0 n0 _ T2.heap _
    rw [e2]
    exact ⟨rfl, N2, K4⟩
theorem d6_0 : decode prog_15_method_1_code 0 = .ok (.aload_n 0, 1) := by decide +kernel
theorem d6_1 : decode prog_15_method_1_code 1 = .ok (.invokespecial 1, 3) := by decide +kernel
theorem pd_7 : parseMethodDescriptor "()V" = some ⟨[], none⟩ := by decide +kernel
theorem d6_4 : decode prog_15_method_1_code 4 = .ok (.aload_n 0, 1) := by decide +kernel
theorem d6_5 : decode prog_15_method_1_code 5 = .ok (.aload_n 1, 1) := by decide +kernel
theorem d6_6 : decode prog_15_method_1_code 6 = .ok (.putfield 7, 3) := by decide +kernel
theorem d6_9 : decode prog_15_method_1_code 9 = .ok (.aload_n 0, 1) := by decide +kernel
theorem d6_10 : decode prog_15_method_1_code 10 = .ok (.iload_n 2, 1) := by decide +kernel
theorem d6_11 : decode prog_15_method_1_code 11 = .ok (.putfield 13, 3) := by decide +kernel
theorem d6_14 : decode prog_15_method_1_code 14 = .ok (.return_, 1) := by decide +kernel
def Q_hpinit (Z : State) (a : Addr) (r : Addr) (q : Int32) (h0 : Heap) (n0 : Nat) (v : Option Value) (h : Heap) (L : List Loc) : Prop := v = none ∧ Fr n0 L ∧ Keep h0 h [a] ∧ Fld Z h a "com/example/latchkey/latchkey/HostPort" "host" "Ljava/lang/String;" (.ref r) ∧ Fld Z h a "com/example/latchkey/latchkey/HostPort" "port" "I" (.int q)
theorem ef_10 (m : MethodId) (x0 : Addr) (x1 : Addr) (x2 : Int32) : entryFrame m #[(.ref x0), (.ref x1), (.int x2)] 3 = mkF m 0 #[.val (.ref x0), .val (.ref x1), .val (.int x2)] [] := by first | (simp [entryFrame, mkF, argsToLocals, Value.category]; done) | rfl
theorem pn_4 : plainName "com/example/latchkey/latchkey/HostPort" = true := by first | (simp [plainName, overriddenIn]; done) | decide +kernel
abbrev y_10 : MethodName := ⟨"com/example/latchkey/latchkey/HostPort", "<init>", "(Ljava/lang/String;I)V"⟩
set_option maxRecDepth 65536 in
set_option maxHeartbeats 40000000 in
theorem hpinit (l : Launch) (Z : State) (a0 : Array Value) (hw : ∀ d ∈ tables_1, d.before a0 Z = true) (ws : List Jvm.Cond) (a : Addr) (r : Addr) (q : Int32) (h0 : Heap) (n0 : Nat) (O : Old Z n0 h0) (Ea : Exa Z h0 a "com/example/latchkey/latchkey/HostPort") (Fhost : Fld Z h0 a "com/example/latchkey/latchkey/HostPort" "host" "Ljava/lang/String;" .null) (Fport : Fld Z h0 a "com/example/latchkey/latchkey/HostPort" "port" "I" (.int (0 : Int32))) (ga : n0 ≤ a) :
    Ctr l Z y_10 prog_15_method_1_code 3 none ws ({ frames := 2, cells := 0, slots := 0, locals := 24 } : Room) #[(.ref a), (.ref r), (.int q)] h0 (Q_hpinit Z a r q h0 n0) := by
  refine MetFree.of_bodySF (plainFor_of_name pn_4) hisR ?_
  intro p e s m args below meth c s₁ Bd hml0 hP hK
  obtain ⟨rfl, hZ, hh⟩ := hP
  have W := fun (i : Nat) {d : Jvm.Cond} (h : tables_1[i]? = some d) => hw d (List.mem_of_getElem? h)
  have hx := Bd.exec
  have hby := Bd.bytes
  have hml : c.maxLocals = 3 := hml0
  have hown : s.vm.findClass "com/example/latchkey/latchkey/HostPort" = some m.cls := findClass_of_methodNamed Bd.named
  have hnm := (name_of_methodNamed Bd.named Bd.method).1
  have X0 : Stand p l e ({ frames := 2, cells := 0, slots := 0, locals := 24 } : Room) s m #[(.ref a), (.ref r), (.int q)] below meth c s₁ [] 0 0 := Stand.of_body Bd
  have e0 : s₁.heap = h0 := by rw [← hh, Bd.state]; rfl
  have N0 := Fr.nil n0
  have pre0 : ∀ t, Steps p.tables e below (s₁.setTop (mkF m 0 #[.val (.ref a), .val (.ref r), .val (.int q)] [])) t → Steps p.tables e below (s₁.setTop (entryFrame m #[(.ref a), (.ref r), (.int q)] 3)) t := fun t kk_ => castTop (ef_10 m a r q) kk_
  have K0 := Keep.refl h0 [a]
  obtain ⟨_, _, ⟨T1, L1, k1, n1⟩, -, X1, ⟨Lc1, hQ1, l1, y1, z1⟩, st1⟩ := X0.specialBack hx (y := y_4) rfl hown (mvT hZ (W 33 rfl)) (mvT hZ (W 34 rfl)) (mvT hZ (W 37 rfl)) (by decide) (backOf (W := 0) (recinit l Z a0 hw [] a h0 n0 O ) hZ (W 37 rfl) (W 36 rfl) (by decide) (by decide)) (g := (mkF m 1 #[rv a, rv r, iv q] [.ref a])) rfl (by rw [hml]; rfl) (Steps.refl _) (a := a) (argsL := []) (rest := []) (lenOf pd_7 rfl) rfl (by show 2 * 0 + _ ≤ _; exact Nat.le_of_eq rfl) (hb hby d6_1) (fun _ _ => ⟨rfl, e0, (by decide : 0 + 0 ≤ _), (by decide : 0 + 0 ≤ _)⟩)
  dsimp only [Pt.U, Pt.locs, Pt.cells, Pt.slots] at X1 l1 y1 z1 st1 hQ1
  subst l1 y1 z1
  obtain ⟨h1, e1⟩ : ∃ z, T1.heap = z := ⟨_, rfl⟩
  rw [e1] at hQ1
  obtain ⟨rfl, N1q, p1_0⟩ := hQ1
  have N1 := Fr.app N0 N1q
  rw [p1_0] at e1
  obtain ⟨T2, h2, X2, e2, W2, st2⟩ := putF X1 hx hZ hown (host := "") (Or.inl (W 39 rfl)) Via.refl e1 Fhost Ea (Or.inr ⟨(W 40 rfl), rfl, hnm⟩) (W 28 rfl) (ty := (.object "java/lang/String")) (by decide) rfl rfl (g := (mkF m 6 #[rv a, rv r, iv q] [.ref r, .ref a])) rfl rfl (hb hby d6_6)
  have Fz2 := Fhost.same W2
  have Ea := Ea.wr W2
  have Fport := Fport.other W2 (Or.inr (slot_ne (Or.inr (W 42 rfl)) (Or.inr (W 40 rfl)) (by decide) (t := .int) (t' := (.object "java/lang/String")) (by decide) (by decide)))
  have K4 := K0.wr W2 (Or.inl (List.mem_of_getElem? (i := 0) rfl))
  have N5 := Fr.snoc X2 N1 ga
  obtain ⟨T6, h6, X6, e6, W6, st6⟩ := putF X2 hx hZ hown (host := "") (Or.inl (W 41 rfl)) Via.refl e2 Fport Ea (Or.inr ⟨(W 42 rfl), rfl, hnm⟩) (W 28 rfl) (ty := .int) (by decide) rfl rfl (g := (mkF m 11 #[rv a, rv r, iv q] [.int q, .ref a])) rfl rfl (hb hby d6_11)
  have Fz6 := Fport.same W6
  have Fz2 := Fz2.other W6 (Or.inr (slot_ne (Or.inr (W 40 rfl)) (Or.inr (W 42 rfl)) (by decide) (t := (.object "java/lang/String")) (t' := .int) (by decide) (by decide)))
  have K8 := K4.wr W6 (Or.inl (List.mem_of_getElem? (i := 0) rfl))
  have N9 := Fr.snoc X6 N5 ga
  obtain ⟨fs, hr, hrun, hended, hW, hsame⟩ := X6.leave (v := none) (fun _ => rfl)
  refine ⟨_, _, pre0 _ ?_, hrun, hended, _, _, rfl, ?_, ⟨_, rfl⟩, hW, hsame.mono (by decide) (by decide)⟩
  · show Sq p e below m s₁ 0 #[rv a, rv r, iv q] [] _
    refine XS.aloadN X0.here hx rfl (hb hby d6_0) rfl rfl ?_
    show Sq p e below m s₁ 1 #[rv a, rv r, iv q] [.ref a] _
    refine st1.trans ?_
    show Sq p e below m T1 4 #[rv a, rv r, iv q] [] _
    refine XS.aloadN X1.here hx rfl (hb hby d6_4) rfl rfl ?_
    refine XS.aloadN X1.here hx rfl (hb hby d6_5) rfl rfl ?_
    show Sq p e below m T1 6 #[rv a, rv r, iv q] [.ref r, .ref a] _
    refine st2 _ ?_
    show Sq p e below m T2 9 #[rv a, rv r, iv q] [] _
    refine XS.aloadN X2.here hx rfl (hb hby d6_9) rfl rfl ?_
    refine XS.iloadN X2.here hx rfl (hb hby d6_10) rfl ?_
    show Sq p e below m T2 11 #[rv a, rv r, iv q] [.int q, .ref a] _
    refine st6 _ ?_
    show Sq p e below m T6 14 #[rv a, rv r, iv q] [] _
    exact X6.returnOut hx Bd.returns (hb hby d6_14) hr
  · show Q_hpinit Z a r q h0 n0 _ T6.heap _
    rw [e6]
    exact ⟨rfl, N9, K8, Fz2, Fz6⟩
theorem d8_0 : decode prog_15_method_4_code 0 = .ok (.new 8, 3) := by decide +kernel
theorem d8_3 : decode prog_15_method_4_code 3 = .ok (.dup, 1) := by decide +kernel
theorem d8_4 : decode prog_15_method_4_code 4 = .ok (.aload_n 0, 1) := by decide +kernel
theorem d8_5 : decode prog_15_method_4_code 5 = .ok (.getfield 7, 3) := by decide +kernel
theorem d8_8 : decode prog_15_method_4_code 8 = .ok (.iload_n 1, 1) := by decide +kernel
theorem d8_9 : decode prog_15_method_4_code 9 = .ok (.invokespecial 79, 3) := by decide +kernel
theorem pd_8 : parseMethodDescriptor "(Ljava/lang/String;I)V" = some ⟨[(.object "java/lang/String"), .int], none⟩ := by decide +kernel
theorem d8_12 : decode prog_15_method_4_code 12 = .ok (.areturn, 1) := by decide +kernel
def Q_withp (Z : State) (a : Addr) (r : Addr) (q : Int32) (h0 : Heap) (n0 : Nat) (v : Option Value) (h : Heap) (L : List Loc) : Prop := ∃ b : Addr, v = some (.ref b) ∧ Fr n0 L ∧ Keep h0 h [] ∧ h0.size ≤ b ∧ Exa Z h b "com/example/latchkey/latchkey/HostPort" ∧ Fld Z h b "com/example/latchkey/latchkey/HostPort" "host" "Ljava/lang/String;" (.ref r) ∧ Fld Z h b "com/example/latchkey/latchkey/HostPort" "port" "I" (.int q)
theorem ef_11 (m : MethodId) (x0 : Addr) (x1 : Int32) : entryFrame m #[(.ref x0), (.int x1)] 2 = mkF m 0 #[.val (.ref x0), .val (.int x1)] [] := by first | (simp [entryFrame, mkF, argsToLocals, Value.category]; done) | rfl
abbrev y_11 : MethodName := ⟨"com/example/latchkey/latchkey/HostPort", "withPort", "(I)Lcom/example/latchkey/latchkey/HostPort;"⟩
set_option maxRecDepth 65536 in
set_option maxHeartbeats 40000000 in
theorem withp (l : Launch) (Z : State) (a0 : Array Value) (hw : ∀ d ∈ tables_1, d.before a0 Z = true) (ws : List Jvm.Cond) (a : Addr) (r : Addr) (q : Int32) (h0 : Heap) (n0 : Nat) (O : Old Z n0 h0) (Fh : Fld Z h0 a "com/example/latchkey/latchkey/HostPort" "host" "Ljava/lang/String;" (.ref r)) :
    Ctr l Z y_11 prog_15_method_4_code 2 (some (.object "com/example/latchkey/latchkey/HostPort")) ws ({ frames := 3, cells := 1, slots := 2, locals := 39 } : Room) #[(.ref a), (.int q)] h0 (Q_withp Z a r q h0 n0) := by
  refine MetFree.of_bodySF (plainFor_of_name pn_4) hisR ?_
  intro p e s m args below meth c s₁ Bd hml0 hP hK
  obtain ⟨rfl, hZ, hh⟩ := hP
  have W := fun (i : Nat) {d : Jvm.Cond} (h : tables_1[i]? = some d) => hw d (List.mem_of_getElem? h)
  have hx := Bd.exec
  have hby := Bd.bytes
  have hml : c.maxLocals = 2 := hml0
  have hown : s.vm.findClass "com/example/latchkey/latchkey/HostPort" = some m.cls := findClass_of_methodNamed Bd.named
  have hnm := (name_of_methodNamed Bd.named Bd.method).1
  have X0 : Stand p l e ({ frames := 3, cells := 1, slots := 2, locals := 39 } : Room) s m #[(.ref a), (.int q)] below meth c s₁ [] 0 0 := Stand.of_body Bd
  have e0 : s₁.heap = h0 := by rw [← hh, Bd.state]; rfl
  have N0 := Fr.nil n0
  have pre0 : ∀ t, Steps p.tables e below (s₁.setTop (mkF m 0 #[.val (.ref a), .val (.int q)] [])) t → Steps p.tables e below (s₁.setTop (entryFrame m #[(.ref a), (.int q)] 2)) t := fun t kk_ => castTop (ef_11 m a q) kk_
  have K0 := Keep.refl h0 []
  obtain ⟨T1, h1, X1, e1, E1, A1, D1, -, st1⟩ := newO X0 hx hZ hown (W 48 rfl) (W 28 rfl) (W 29 rfl) e0 (g := (mkF m 0 #[rv a, iv q] [])) rfl (hb hby d8_0) (by decide) (by decide)
  obtain ⟨b1, g1⟩ : ∃ z, z = h0.size := ⟨_, rfl⟩
  rw [← g1] at A1 D1 st1
  have g_b1 : n0 ≤ b1 := Nat.le_trans (own_sz O) (Nat.le_of_eq g1.symm)
  have sz_b1 : h0.size ≤ b1 := Nat.le_trans K0.1 (Nat.le_of_eq g1.symm)
  have Fh := Fh.ext E1
  have O2 := O.ext E1
  have K3 := K0.ext E1
  have Fz4 : Fld Z h1 b1 "com/example/latchkey/latchkey/HostPort" "host" "Ljava/lang/String;" .null := D1 (Or.inr (W 40 rfl)) (ty := (.object "java/lang/String")) (by decide)
  have Fz5 : Fld Z h1 b1 "com/example/latchkey/latchkey/HostPort" "port" "I" (.int (0 : Int32)) := D1 (Or.inr (W 42 rfl)) (ty := .int) (by decide)
  obtain ⟨T6, X6, e6, st6⟩ := getF X1 hx hZ hown (host := "") (Or.inl (W 39 rfl)) Via.refl e1 Fh (g := (mkF m 5 #[rv a, iv q] [.ref a, .ref b1, .ref b1])) rfl rfl (hb hby d8_5)
  obtain ⟨_, _, ⟨T7, L7, k7, n7⟩, -, X7, ⟨Lc7, hQ7, l7, y7, z7⟩, st7⟩ := X6.specialBack hx (y := y_10) rfl hown (mvT hZ (W 49 rfl)) (mvT hZ (W 31 rfl)) (mvT hZ (W 32 rfl)) (by decide) (backOf (W := 1) (hpinit l Z a0 hw [] b1 r q h1 n0 O2 A1 Fz4 Fz5 g_b1) hZ (W 32 rfl) (W 29 rfl) (by decide) (by decide)) (g := (mkF m 9 #[rv a, iv q] [.int q, .ref r, .ref b1, .ref b1])) rfl (by rw [hml]; rfl) (Steps.refl _) (a := b1) (argsL := [.ref r, .int q]) (rest := [.ref b1]) (lenOf pd_8 rfl) rfl (by show 2 * 0 + _ ≤ _; exact Nat.le_of_eq rfl) (hb hby d8_9) (fun _ _ => ⟨rfl, e6, (by decide : 1 + 0 ≤ _), (by decide : 2 + 0 ≤ _)⟩)
  dsimp only [Pt.U, Pt.locs, Pt.cells, Pt.slots] at X7 l7 y7 z7 st7 hQ7
  subst l7 y7 z7
  obtain ⟨h7, e7⟩ : ∃ z, T7.heap = z := ⟨_, rfl⟩
  rw [e7] at hQ7
  obtain ⟨rfl, N7q, p7_0, p7_1, p7_2⟩ := hQ7
  have N7 := Fr.app N0 N7q
  have A1 := A1.keep p7_0
  have K9 := K3.trans p7_0 (allS (Or.inr sz_b1) all0)
  obtain ⟨fs, hr, hrun, hended, hW, hsame⟩ := X7.leave (v := some (.ref b1)) (fun h => by rw [Bd.returns] at h; cases h)
  refine ⟨_, _, pre0 _ ?_, hrun, hended, _, _, rfl, ?_, ⟨_, rfl⟩, hW, hsame.mono (by decide) (by decide)⟩
  · show Sq p e below m s₁ 0 #[rv a, iv q] [] _
    refine st1 _ ?_
    show Sq p e below m T1 3 #[rv a, iv q] [.ref b1] _
    refine XS.dup X1.here hx rfl (hb hby d8_3) rfl rfl ?_
    refine XS.aloadN X1.here hx rfl (hb hby d8_4) rfl rfl ?_
    show Sq p e below m T1 5 #[rv a, iv q] [.ref a, .ref b1, .ref b1] _
    refine st6 _ ?_
    show Sq p e below m T6 8 #[rv a, iv q] [.ref r, .ref b1, .ref b1] _
    refine XS.iloadN X6.here hx rfl (hb hby d8_8) rfl ?_
    show Sq p e below m T6 9 #[rv a, iv q] [.int q, .ref r, .ref b1, .ref b1] _
    refine st7.trans ?_
    show Sq p e below m T7 12 #[rv a, iv q] [.ref b1] _
    jvm_step X7.here [X7.here.top, hx, (hb hby d8_12), X7.method', Bd.returns, Value.isRef, FieldType.isReference]
    first | (intro acts; rw [hr _ acts rfl rfl rfl]) | rw [hr _ _ rfl rfl rfl]
    exact Steps.refl _
  · show Q_withp Z a r q h0 n0 _ T7.heap _
    rw [e7]
    exact ⟨b1, rfl, N7, K9, sz_b1, A1, p7_1, p7_2⟩
theorem d9_0 : decode prog_15_method_10_code 0 = .ok (.aload_n 0, 1) := by decide +kernel
theorem d9_1 : decode prog_15_method_10_code 1 = .ok (.getfield 13, 3) := by decide +kernel
theorem d9_4 : decode prog_15_method_10_code 4 = .ok (.ireturn, 1) := by decide +kernel
def Q_port (Z : State) (a : Addr) (q : Int32) (h0 : Heap) (n0 : Nat) (v : Option Value) (h : Heap) (L : List Loc) : Prop := v = some (.int q) ∧ Fr n0 L ∧ h = h0
theorem ef_12 (m : MethodId) (x0 : Addr) : entryFrame m #[(.ref x0)] 1 = mkF m 0 #[.val (.ref x0)] [] := by first | (simp [entryFrame, mkF, argsToLocals, Value.category]; done) | rfl
abbrev y_12 : MethodName := ⟨"com/example/latchkey/latchkey/HostPort", "port", "()I"⟩
set_option maxRecDepth 65536 in
set_option maxHeartbeats 40000000 in
theorem port (l : Launch) (Z : State) (a0 : Array Value) (hw : ∀ d ∈ tables_1, d.before a0 Z = true) (ws : List Jvm.Cond) (a : Addr) (q : Int32) (h0 : Heap) (n0 : Nat) (O : Old Z n0 h0) (Fp : Fld Z h0 a "com/example/latchkey/latchkey/HostPort" "port" "I" (.int q)) :
    Ctr l Z y_12 prog_15_method_10_code 1 (some .int) ws ({ frames := 0, cells := 0, slots := 0, locals := 0 } : Room) #[(.ref a)] h0 (Q_port Z a q h0 n0) := by
  refine MetFree.of_bodySF (plainFor_of_name pn_4) hisR ?_
  intro p e s m args below meth c s₁ Bd hml0 hP hK
  obtain ⟨rfl, hZ, hh⟩ := hP
  have W := fun (i : Nat) {d : Jvm.Cond} (h : tables_1[i]? = some d) => hw d (List.mem_of_getElem? h)
  have hx := Bd.exec
  have hby := Bd.bytes
  have hml : c.maxLocals = 1 := hml0
  have hown : s.vm.findClass "com/example/latchkey/latchkey/HostPort" = some m.cls := findClass_of_methodNamed Bd.named
  have hnm := (name_of_methodNamed Bd.named Bd.method).1
  have X0 : Stand p l e ({ frames := 0, cells := 0, slots := 0, locals := 0 } : Room) s m #[(.ref a)] below meth c s₁ [] 0 0 := Stand.of_body Bd
  have e0 : s₁.heap = h0 := by rw [← hh, Bd.state]; rfl
  have N0 := Fr.nil n0
  have pre0 : ∀ t, Steps p.tables e below (s₁.setTop (mkF m 0 #[.val (.ref a)] [])) t → Steps p.tables e below (s₁.setTop (entryFrame m #[(.ref a)] 1)) t := fun t kk_ => castTop (ef_12 m a) kk_
  obtain ⟨T1, X1, e1, st1⟩ := getF X0 hx hZ hown (host := "") (Or.inl (W 41 rfl)) Via.refl e0 Fp (g := (mkF m 1 #[rv a] [.ref a])) rfl rfl (hb hby d9_1)
  obtain ⟨fs, hr, hrun, hended, hW, hsame⟩ := X1.leave (v := some (.int q)) (fun h => by rw [Bd.returns] at h; cases h)
  refine ⟨_, _, pre0 _ ?_, hrun, hended, _, _, rfl, ?_, ⟨_, rfl⟩, hW, hsame.mono (by decide) (by decide)⟩
  · show Sq p e below m s₁ 0 #[rv a] [] _
    refine XS.aloadN X0.here hx rfl (hb hby d9_0) rfl rfl ?_
    show Sq p e below m s₁ 1 #[rv a] [.ref a] _
    refine st1 _ ?_
    show Sq p e below m T1 4 #[rv a] [.int q] _
    exact retI X1 hx Bd.returns (hb hby d9_4) hr
  · show Q_port Z a q h0 n0 _ T1.heap _
    rw [e1]
    exact ⟨rfl, N0, rfl⟩
theorem d10_0 : decode prog_15_method_9_code 0 = .ok (.aload_n 0, 1) := by decide +kernel
theorem d10_1 : decode prog_15_method_9_code 1 = .ok (.getfield 7, 3) := by decide +kernel
theorem d10_4 : decode prog_15_method_9_code 4 = .ok (.areturn, 1) := by decide +kernel
def Q_host (Z : State) (a : Addr) (r : Addr) (h0 : Heap) (n0 : Nat) (v : Option Value) (h : Heap) (L : List Loc) : Prop := v = some (.ref r) ∧ Fr n0 L ∧ h = h0
theorem ef_13 (m : MethodId) (x0 : Addr) : entryFrame m #[(.ref x0)] 1 = mkF m 0 #[.val (.ref x0)] [] := by first | (simp [entryFrame, mkF, argsToLocals, Value.category]; done) | rfl
abbrev y_13 : MethodName := ⟨"com/example/latchkey/latchkey/HostPort", "host", "()Ljava/lang/String;"⟩
set_option maxRecDepth 65536 in
set_option maxHeartbeats 40000000 in
theorem host (l : Launch) (Z : State) (a0 : Array Value) (hw : ∀ d ∈ tables_1, d.before a0 Z = true) (ws : List Jvm.Cond) (a : Addr) (r : Addr) (h0 : Heap) (n0 : Nat) (O : Old Z n0 h0) (Fh : Fld Z h0 a "com/example/latchkey/latchkey/HostPort" "host" "Ljava/lang/String;" (.ref r)) :
    Ctr l Z y_13 prog_15_method_9_code 1 (some (.object "java/lang/String")) ws ({ frames := 0, cells := 0, slots := 0, locals := 0 } : Room) #[(.ref a)] h0 (Q_host Z a r h0 n0) := by
  refine MetFree.of_bodySF (plainFor_of_name pn_4) hisR ?_
  intro p e s m args below meth c s₁ Bd hml0 hP hK
  obtain ⟨rfl, hZ, hh⟩ := hP
  have W := fun (i : Nat) {d : Jvm.Cond} (h : tables_1[i]? = some d) => hw d (List.mem_of_getElem? h)
  have hx := Bd.exec
  have hby := Bd.bytes
  have hml : c.maxLocals = 1 := hml0
  have hown : s.vm.findClass "com/example/latchkey/latchkey/HostPort" = some m.cls := findClass_of_methodNamed Bd.named
  have hnm := (name_of_methodNamed Bd.named Bd.method).1
  have X0 : Stand p l e ({ frames := 0, cells := 0, slots := 0, locals := 0 } : Room) s m #[(.ref a)] below meth c s₁ [] 0 0 := Stand.of_body Bd
  have e0 : s₁.heap = h0 := by rw [← hh, Bd.state]; rfl
  have N0 := Fr.nil n0
  have pre0 : ∀ t, Steps p.tables e below (s₁.setTop (mkF m 0 #[.val (.ref a)] [])) t → Steps p.tables e below (s₁.setTop (entryFrame m #[(.ref a)] 1)) t := fun t kk_ => castTop (ef_13 m a) kk_
  obtain ⟨T1, X1, e1, st1⟩ := getF X0 hx hZ hown (host := "") (Or.inl (W 39 rfl)) Via.refl e0 Fh (g := (mkF m 1 #[rv a] [.ref a])) rfl rfl (hb hby d10_1)
  obtain ⟨fs, hr, hrun, hended, hW, hsame⟩ := X1.leave (v := some (.ref r)) (fun h => by rw [Bd.returns] at h; cases h)
  refine ⟨_, _, pre0 _ ?_, hrun, hended, _, _, rfl, ?_, ⟨_, rfl⟩, hW, hsame.mono (by decide) (by decide)⟩
  · show Sq p e below m s₁ 0 #[rv a] [] _
    refine XS.aloadN X0.here hx rfl (hb hby d10_0) rfl rfl ?_
    show Sq p e below m s₁ 1 #[rv a] [.ref a] _
    refine st1 _ ?_
    show Sq p e below m T1 4 #[rv a] [.ref r] _
    jvm_step X1.here [X1.here.top, hx, (hb hby d10_4), X1.method', Bd.returns, Value.isRef, FieldType.isReference]
    first | (intro acts; rw [hr _ acts rfl rfl rfl]) | rw [hr _ _ rfl rfl rfl]
    exact Steps.refl _
  · show Q_host Z a r h0 n0 _ T1.heap _
    rw [e1]
    exact ⟨rfl, N0, rfl⟩
theorem d11_0 : decode jdk_42_method_66_code 0 = .ok (.aload_n 0, 1) := by decide +kernel
theorem d11_1 : decode jdk_42_method_66_code 1 = .ok (.aload_n 1, 1) := by decide +kernel
theorem d11_2 : decode jdk_42_method_66_code 2 = .ok (.if_acmp .ne 5, 3) := by decide +kernel
theorem d11_5 : decode jdk_42_method_66_code 5 = .ok (.iconst 1, 1) := by decide +kernel
theorem d11_6 : decode jdk_42_method_66_code 6 = .ok (.ireturn, 1) := by decide +kernel
def Q_eqself (Z : State) (a : Addr) (h0 : Heap) (n0 : Nat) (v : Option Value) (h : Heap) (L : List Loc) : Prop := v = some (.int (1 : Int32)) ∧ Fr n0 L ∧ h = h0
theorem ef_14 (m : MethodId) (x0 : Addr) (x1 : Addr) : entryFrame m #[(.ref x0), (.ref x1)] 3 = mkF m 0 #[.val (.ref x0), .val (.ref x1), .unset] [] := by first | (simp [entryFrame, mkF, argsToLocals, Value.category]; done) | rfl
abbrev y_14 : MethodName := ⟨"java/lang/String", "equals", "(Ljava/lang/Object;)Z"⟩
set_option maxRecDepth 65536 in
set_option maxHeartbeats 40000000 in
theorem eqself (l : Launch) (Z : State) (a0 : Array Value) (hw : ∀ d ∈ tables_1, d.before a0 Z = true) (ws : List Jvm.Cond) (a : Addr) (h0 : Heap) (n0 : Nat) (O : Old Z n0 h0) :
    Ctr l Z y_14 jdk_42_method_66_code 3 (some .boolean) ws ({ frames := 0, cells := 0, slots := 0, locals := 0 } : Room) #[(.ref a), (.ref a)] h0 (Q_eqself Z a h0 n0) := by
  refine MetFree.of_bodySF (plainFor_of_name pn_1) hisR ?_
  intro p e s m args below meth c s₁ Bd hml0 hP hK
  obtain ⟨rfl, hZ, hh⟩ := hP
  have W := fun (i : Nat) {d : Jvm.Cond} (h : tables_1[i]? = some d) => hw d (List.mem_of_getElem? h)
  have hx := Bd.exec
  have hby := Bd.bytes
  have hml : c.maxLocals = 3 := hml0
  have hown : s.vm.findClass "java/lang/String" = some m.cls := findClass_of_methodNamed Bd.named
  have hnm := (name_of_methodNamed Bd.named Bd.method).1
  have X0 : Stand p l e ({ frames := 0, cells := 0, slots := 0, locals := 0 } : Room) s m #[(.ref a), (.ref a)] below meth c s₁ [] 0 0 := Stand.of_body Bd
  have e0 : s₁.heap = h0 := by rw [← hh, Bd.state]; rfl
  have N0 := Fr.nil n0
  have pre0 : ∀ t, Steps p.tables e below (s₁.setTop (mkF m 0 #[.val (.ref a), .val (.ref a), .unset] [])) t → Steps p.tables e below (s₁.setTop (entryFrame m #[(.ref a), (.ref a)] 3)) t := fun t kk_ => castTop (ef_14 m a a) kk_
  obtain ⟨fs, hr, hrun, hended, hW, hsame⟩ := X0.leave (v := some (.int (1 : Int32))) (fun h => by rw [Bd.returns] at h; cases h)
  refine ⟨_, _, pre0 _ ?_, hrun, hended, _, _, rfl, ?_, ⟨_, rfl⟩, hW, hsame.mono (by decide) (by decide)⟩
  · show Sq p e below m s₁ 0 #[rv a, rv a, .unset] [] _
    refine XS.aloadN X0.here hx rfl (hb hby d11_0) rfl rfl ?_
    refine XS.aloadN X0.here hx rfl (hb hby d11_1) rfl rfl ?_
    show Sq p e below m s₁ 2 #[rv a, rv a, .unset] [.ref a, .ref a] _
    refine Jvm.RoadKit.acmp (g := (mkF m 2 #[rv a, rv a, .unset] [.ref a, .ref a])) X0 hx rfl rfl rfl (pc0 := 2) (pc' := 5) (same := true) rfl (hb hby d11_2) rfl (decide_eq_true rfl) (by decide) (by decide) ?_
    show Sq p e below m s₁ 5 #[rv a, rv a, .unset] [] _
    refine XS.iconst X0.here hx rfl (hb hby d11_5) ?_
    show Sq p e below m s₁ 6 #[rv a, rv a, .unset] [.int 1] _
    exact retN X0 hx (t := .boolean) Bd.returns (by simp) (hb hby d11_6) hr
  · show Q_eqself Z a h0 n0 _ s₁.heap _
    rw [e0]
    exact ⟨rfl, N0, rfl⟩
theorem pd_9 : parseMethodDescriptor "([C)V" = some ⟨[(.array .char)], none⟩ := by decide +kernel
theorem pd_10 : parseMethodDescriptor "(I)Lcom/example/latchkey/latchkey/HostPort;" = some ⟨[.int], some (.object "com/example/latchkey/latchkey/HostPort")⟩ := by decide +kernel
theorem pd_11 : parseMethodDescriptor "()I" = some ⟨[], some .int⟩ := by decide +kernel
theorem pd_12 : parseMethodDescriptor "()Ljava/lang/String;" = some ⟨[], some (.object "java/lang/String")⟩ := by decide +kernel
theorem pd_13 : parseMethodDescriptor "(Ljava/lang/Object;)Z" = some ⟨[(.object "java/lang/Object")], some .boolean⟩ := by decide +kernel
theorem pd_14 : parseMethodDescriptor "(C)Ljava/lang/String;" = some ⟨[.char], some (.object "java/lang/String")⟩ := by decide +kernel
def Q_rm0 (Z : State) (p1 : Int32) (p2 : Int32) (p3 : Int32) (p4 : Int32) (cs : Int32) (h0 : Heap) (n0 : Nat) (v : Option Value) (h : Heap) (L : List Loc) : Prop := v = some (.int (1 : Int32)) ∧ Fr n0 L
theorem ef_15 (m : MethodId) (x0 : Int32) (x1 : Int32) (x2 : Int32) (x3 : Int32) : entryFrame m #[(.int x0), (.int x1), (.int x2), (.int x3)] maxLocals = mkF m 0 #[.val (.int x0), .val (.int x1), .val (.int x2), .val (.int x3), .unset, .unset, .unset, .unset, .unset, .unset] [] := by first | (simp [entryFrame, mkF, argsToLocals, Value.category, maxLocals]; done) | rfl
theorem pn_5 : plainName "com/example/latchkey/latchkey/HostPortWithPortPinLaw" = true := by first | (simp [plainName, overriddenIn]; done) | decide +kernel
set_option maxRecDepth 65536 in
set_option maxHeartbeats 40000000 in
theorem rm0 (l : Launch) (Z : State) (a0 : Array Value) (hw : ∀ d ∈ tables_1, d.before a0 Z = true) (ws : List Jvm.Cond) (p1 : Int32) (p2 : Int32) (p3 : Int32) (p4 : Int32) (cs : Int32) (h0 : Heap) (n0 : Nat) (O : Old Z n0 h0) (Scs : Sta Z Z.heap "java/lang/String" "COMPACT_STRINGS" "Z" (.int cs)) (hcs : ¬ (cs = (0 : Int32))) :
    Ctr l Z x code maxLocals ret ws room_1 #[(.int p1), (.int p2), (.int p3), (.int p4)] h0 (Q_rm0 Z p1 p2 p3 p4 cs h0 n0) := by
  refine MetFree.of_bodySF (plainFor_of_name pn_5) hisR ?_
  intro p e s m args below meth c s₁ Bd hml0 hP hK
  obtain ⟨rfl, hZ, hh⟩ := hP
  have W := fun (i : Nat) {d : Jvm.Cond} (h : tables_1[i]? = some d) => hw d (List.mem_of_getElem? h)
  have hx := Bd.exec
  have hby := Bd.bytes
  have hml : c.maxLocals = 10 := hml0
  have hown : s.vm.findClass "com/example/latchkey/latchkey/HostPortWithPortPinLaw" = some m.cls := findClass_of_methodNamed Bd.named
  have hnm := (name_of_methodNamed Bd.named Bd.method).1
  have X0 : Stand p l e room_1 s m #[(.int p1), (.int p2), (.int p3), (.int p4)] below meth c s₁ [] 0 0 := Stand.of_body Bd
  have e0 : s₁.heap = h0 := by rw [← hh, Bd.state]; rfl
  have N0 := Fr.nil n0
  have pre0 : ∀ t, Steps p.tables e below (s₁.setTop (mkF m 0 #[.val (.int p1), .val (.int p2), .val (.int p3), .val (.int p4), .unset, .unset, .unset, .unset, .unset, .unset] [])) t → Steps p.tables e below (s₁.setTop (entryFrame m #[(.int p1), (.int p2), (.int p3), (.int p4)] maxLocals)) t := fun t kk_ => castTop (ef_15 m p1 p2 p3 p4) kk_
  obtain ⟨T1, h1, k1, X1, e1, E1, A1, A1x, st1⟩ := newPE X0 hx hZ (W 0 rfl) e0 (g := (mkF m 1 #[iv p1, iv p2, iv p3, iv p4, .unset, .unset, .unset, .unset, .unset, .unset] [.int 3])) rfl (hb hby at_1) rfl (by decide) (cap := 3) (by decide) (by decide) (by decide) (by decide) (ad := "[C") (by decide)
  obtain ⟨b1, g1⟩ : ∃ z, z = h0.size := ⟨_, rfl⟩
  rw [← g1] at A1 A1x st1
  have g_b1 : n0 ≤ b1 := Nat.le_trans (own_sz O) (Nat.le_of_eq g1.symm)
  have O2 := O.ext E1
  have V1 : Arv Z h1 b1 k1 .char (3 : Int32) [(.int (0 : Int32)), (.int (0 : Int32)), (.int (0 : Int32))] (.int (0 : Int32)) := (Arv.new A1 (by decide)).pad (pad_rep [] (.int (0 : Int32)) 3)
  obtain ⟨cl4, Ar4, q4, S4, Ng4, Hh4, Gg4⟩ := id V1
  obtain ⟨T4, h4, X4, e4, W4, st4⟩ := stC X1 hx hZ e1 Ar4 (j := (0 : Int32)) (inb_of S4 (by decide)) (g := (mkF m 14 #[iv p1, iv p2, iv p3, iv p4, rv b1, .unset, .unset, .unset, .unset, .unset] [.int ((p1 &&& (255 : Int32)).toUInt32.toUInt16.toUInt32.toInt32), .int 0, .ref b1])) rfl rfl (hb hby at_14)
  have V4 : Arv Z h4 b1 k1 .char (3 : Int32) [(.int (nar .char ((p1 &&& (255 : Int32)).toUInt32.toUInt16.toUInt32.toInt32))), (.int (0 : Int32)), (.int (0 : Int32))] (.int (0 : Int32)) := Arv.set Ar4 q4 S4 Ng4 Hh4 Gg4 (fits_nar_char _) W4 0 rfl (Nat.le_of_ble_eq_true rfl)
  have A1x := A1x.wr W4
  have O5 := O2.wr W4 g_b1
  have N7 := Fr.snoc X4 N0 g_b1
  obtain ⟨cl8, Ar8, q8, S8, Ng8, Hh8, Gg8⟩ := id V4
  obtain ⟨T8, h8, X8, e8, W8, st8⟩ := stC X4 hx hZ e4 Ar8 (j := (1 : Int32)) (inb_of S8 (by decide)) (g := (mkF m 27 #[iv p1, iv p2, iv p3, iv p4, rv b1, .unset, .unset, .unset, .unset, .unset] [.int ((((p1.toUInt32 >>> ((8 : Int32) &&& 31).toUInt32).toInt32) &&& (255 : Int32)).toUInt32.toUInt16.toUInt32.toInt32), .int 1, .ref b1])) rfl rfl (hb hby at_27)
  have V8 : Arv Z h8 b1 k1 .char (3 : Int32) [(.int (nar .char ((p1 &&& (255 : Int32)).toUInt32.toUInt16.toUInt32.toInt32))), (.int (nar .char ((((p1.toUInt32 >>> ((8 : Int32) &&& 31).toUInt32).toInt32) &&& (255 : Int32)).toUInt32.toUInt16.toUInt32.toInt32))), (.int (0 : Int32))] (.int (0 : Int32)) := Arv.set Ar8 q8 S8 Ng8 Hh8 Gg8 (fits_nar_char _) W8 1 rfl (Nat.le_of_ble_eq_true rfl)
  have A1x := A1x.wr W8
  have O9 := O5.wr W8 g_b1
  have N11 := Fr.snoc X8 N7 g_b1
  obtain ⟨cl12, Ar12, q12, S12, Ng12, Hh12, Gg12⟩ := id V8
  obtain ⟨T12, h12, X12, e12, W12, st12⟩ := stC X8 hx hZ e8 Ar12 (j := (2 : Int32)) (inb_of S12 (by decide)) (g := (mkF m 40 #[iv p1, iv p2, iv p3, iv p4, rv b1, .unset, .unset, .unset, .unset, .unset] [.int ((((p1.toUInt32 >>> ((16 : Int32) &&& 31).toUInt32).toInt32) &&& (255 : Int32)).toUInt32.toUInt16.toUInt32.toInt32), .int 2, .ref b1])) rfl rfl (hb hby at_40)
  have V12 : Arv Z h12 b1 k1 .char (3 : Int32) [(.int (nar .char ((p1 &&& (255 : Int32)).toUInt32.toUInt16.toUInt32.toInt32))), (.int (nar .char ((((p1.toUInt32 >>> ((8 : Int32) &&& 31).toUInt32).toInt32) &&& (255 : Int32)).toUInt32.toUInt16.toUInt32.toInt32))), (.int (nar .char ((((p1.toUInt32 >>> ((16 : Int32) &&& 31).toUInt32).toInt32) &&& (255 : Int32)).toUInt32.toUInt16.toUInt32.toInt32)))] (.int (0 : Int32)) := Arv.set Ar12 q12 S12 Ng12 Hh12 Gg12 (fits_nar_char _) W12 2 rfl (Nat.le_of_ble_eq_true rfl)
  have A1x := A1x.wr W12
  have O13 := O9.wr W12 g_b1
  have N15 := Fr.snoc X12 N11 g_b1
  have pre16 : ∀ t, Steps p.tables e below (T12.setTop (mkF m 44 #[iv p1, iv p2, iv p3, iv p4, rv b1, .unset, .unset, .unset, .unset, .unset] [.int (p4 &&& (1 : Int32))])) t → Steps p.tables e below (s₁.setTop (entryFrame m #[(.int p1), (.int p2), (.int p3), (.int p4)] maxLocals)) t := by
    intro t kt
    refine pre0 _ ?_
    show Sq p e below m s₁ 0 #[iv p1, iv p2, iv p3, iv p4, .unset, .unset, .unset, .unset, .unset, .unset] [] _
    refine XS.iconst X0.here hx rfl (hb hby at_0) ?_
    show Sq p e below m s₁ 1 #[iv p1, iv p2, iv p3, iv p4, .unset, .unset, .unset, .unset, .unset, .unset] [.int 3] _
    refine st1 _ ?_
    show Sq p e below m T1 3 #[iv p1, iv p2, iv p3, iv p4, .unset, .unset, .unset, .unset, .unset, .unset] [.ref b1] _
    refine XS.astore X1.here hx rfl (hb hby at_3) rfl rfl rfl ?_
    refine XS.aload X1.here hx rfl (hb hby at_5) rfl rfl ?_
    show Sq p e below m T1 7 #[iv p1, iv p2, iv p3, iv p4, rv b1, .unset, .unset, .unset, .unset, .unset] [.ref b1] _
    refine XS.iconst X1.here hx rfl (hb hby at_7) ?_
    refine XS.iloadN X1.here hx rfl (hb hby at_8) rfl ?_
    show Sq p e below m T1 9 #[iv p1, iv p2, iv p3, iv p4, rv b1, .unset, .unset, .unset, .unset, .unset] [.int p1, .int 0, .ref b1] _
    refine XS.sipush X1.here hx rfl (hb hby at_9) ?_
    refine XS.iand X1.here hx rfl (hb hby at_12) rfl ?_
    show Sq p e below m T1 13 #[iv p1, iv p2, iv p3, iv p4, rv b1, .unset, .unset, .unset, .unset, .unset] [.int (p1 &&& (255 : Int32)), .int 0, .ref b1] _
    refine XS.i2c X1.here hx rfl (hb hby at_13) rfl ?_
    show Sq p e below m T1 14 #[iv p1, iv p2, iv p3, iv p4, rv b1, .unset, .unset, .unset, .unset, .unset] [.int ((p1 &&& (255 : Int32)).toUInt32.toUInt16.toUInt32.toInt32), .int 0, .ref b1] _
    refine st4 _ ?_
    show Sq p e below m T4 15 #[iv p1, iv p2, iv p3, iv p4, rv b1, .unset, .unset, .unset, .unset, .unset] [] _
    refine XS.aload X4.here hx rfl (hb hby at_15) rfl rfl ?_
    refine XS.iconst X4.here hx rfl (hb hby at_17) ?_
    show Sq p e below m T4 18 #[iv p1, iv p2, iv p3, iv p4, rv b1, .unset, .unset, .unset, .unset, .unset] [.int 1, .ref b1] _
    refine XS.iloadN X4.here hx rfl (hb hby at_18) rfl ?_
    refine XS.bipush X4.here hx rfl (hb hby at_19) ?_
    show Sq p e below m T4 21 #[iv p1, iv p2, iv p3, iv p4, rv b1, .unset, .unset, .unset, .unset, .unset] [.int 8, .int p1, .int 1, .ref b1] _
    refine XS.iushr X4.here hx rfl (hb hby at_21) rfl ?_
    refine XS.sipush X4.here hx rfl (hb hby at_22) ?_
    show Sq p e below m T4 25 #[iv p1, iv p2, iv p3, iv p4, rv b1, .unset, .unset, .unset, .unset, .unset] [.int 255, .int ((p1.toUInt32 >>> ((8 : Int32) &&& 31).toUInt32).toInt32), .int 1, .ref b1] _
    refine XS.iand X4.here hx rfl (hb hby at_25) rfl ?_
    refine XS.i2c X4.here hx rfl (hb hby at_26) rfl ?_
    show Sq p e below m T4 27 #[iv p1, iv p2, iv p3, iv p4, rv b1, .unset, .unset, .unset, .unset, .unset] [.int ((((p1.toUInt32 >>> ((8 : Int32) &&& 31).toUInt32).toInt32) &&& (255 : Int32)).toUInt32.toUInt16.toUInt32.toInt32), .int 1, .ref b1] _
    refine st8 _ ?_
    show Sq p e below m T8 28 #[iv p1, iv p2, iv p3, iv p4, rv b1, .unset, .unset, .unset, .unset, .unset] [] _
    refine XS.aload X8.here hx rfl (hb hby at_28) rfl rfl ?_
    refine XS.iconst X8.here hx rfl (hb hby at_30) ?_
    show Sq p e below m T8 31 #[iv p1, iv p2, iv p3, iv p4, rv b1, .unset, .unset, .unset, .unset, .unset] [.int 2, .ref b1] _
    refine XS.iloadN X8.here hx rfl (hb hby at_31) rfl ?_
    refine XS.bipush X8.here hx rfl (hb hby at_32) ?_
    show Sq p e below m T8 34 #[iv p1, iv p2, iv p3, iv p4, rv b1, .unset, .unset, .unset, .unset, .unset] [.int 16, .int p1, .int 2, .ref b1] _
    refine XS.iushr X8.here hx rfl (hb hby at_34) rfl ?_
    refine XS.sipush X8.here hx rfl (hb hby at_35) ?_
    show Sq p e below m T8 38 #[iv p1, iv p2, iv p3, iv p4, rv b1, .unset, .unset, .unset, .unset, .unset] [.int 255, .int ((p1.toUInt32 >>> ((16 : Int32) &&& 31).toUInt32).toInt32), .int 2, .ref b1] _
    refine XS.iand X8.here hx rfl (hb hby at_38) rfl ?_
    refine XS.i2c X8.here hx rfl (hb hby at_39) rfl ?_
    show Sq p e below m T8 40 #[iv p1, iv p2, iv p3, iv p4, rv b1, .unset, .unset, .unset, .unset, .unset] [.int ((((p1.toUInt32 >>> ((16 : Int32) &&& 31).toUInt32).toInt32) &&& (255 : Int32)).toUInt32.toUInt16.toUInt32.toInt32), .int 2, .ref b1] _
    refine st12 _ ?_
    show Sq p e below m T12 41 #[iv p1, iv p2, iv p3, iv p4, rv b1, .unset, .unset, .unset, .unset, .unset] [] _
    refine XS.iloadN X12.here hx rfl (hb hby at_41) rfl ?_
    refine XS.iconst X12.here hx rfl (hb hby at_42) ?_
    show Sq p e below m T12 43 #[iv p1, iv p2, iv p3, iv p4, rv b1, .unset, .unset, .unset, .unset, .unset] [.int 1, .int p4] _
    refine XS.iand X12.here hx rfl (hb hby at_43) rfl ?_
    exact kt
  by_cases hc44 : (p4 &&& (1 : Int32)) = (0 : Int32)
  · obtain ⟨T17, h17, X17, e17, E17, A17, D17, -, st17⟩ := newO X12 hx hZ hown (W 65 rfl) (W 11 rfl) (W 3 rfl) e12 (g := (mkF m 62 #[iv p1, iv p2, iv p3, iv p4, rv b1, .unset, .unset, .unset, .unset, .unset] [])) rfl (hb hby at_62) (by decide) (by decide)
    obtain ⟨b17, g17⟩ : ∃ z, z = h12.size := ⟨_, rfl⟩
    rw [← g17] at A17 D17 st17
    have g_b17 : n0 ≤ b17 := Nat.le_trans (own_sz O13) (Nat.le_of_eq g17.symm)
    have ne_b1_b17 : b1 ≠ b17 := Nat.ne_of_lt (Nat.lt_of_lt_of_le A1x.lt (Nat.le_of_eq g17.symm))
    have V12 := V12.ext E17
    have O18 := O13.ext E17
    have Fz20 : Fld Z h17 b17 "java/lang/String" "value" "[B" .null := D17 (Or.inr (W 24 rfl)) (ty := (.array .byte)) (by decide)
    have Fz21 : Fld Z h17 b17 "java/lang/String" "coder" "B" (.int (0 : Int32)) := D17 (Or.inr (W 26 rfl)) (ty := .byte) (by decide)
    obtain ⟨_, _, ⟨T22, L22, k22, n22⟩, -, X22, ⟨Lc22, hQ22, l22, y22, z22⟩, st22⟩ := X17.specialBack hx (y := y_9) rfl hown (mvT hZ (W 66 rfl)) (mvT hZ (W 67 rfl)) (mvT hZ (W 68 rfl)) (by decide) (backOf (W := 1) (strI1 l Z a0 hw [] b17 b1 k1 (nar .char ((p1 &&& (255 : Int32)).toUInt32.toUInt16.toUInt32.toInt32)) (nar .char ((((p1.toUInt32 >>> ((8 : Int32) &&& 31).toUInt32).toInt32) &&& (255 : Int32)).toUInt32.toUInt16.toUInt32.toInt32)) (nar .char ((((p1.toUInt32 >>> ((16 : Int32) &&& 31).toUInt32).toInt32) &&& (255 : Int32)).toUInt32.toUInt16.toUInt32.toInt32)) cs h17 n0 O18 A17 Fz20 Fz21 g_b17 V12 (own_nch _) (own_nch _) (own_nch _) Scs hcs ne_b1_b17) hZ (W 68 rfl) (W 3 rfl) (by decide) (by decide)) (g := (mkF m 68 #[iv p1, iv p2, iv p3, iv p4, rv b1, .unset, .unset, .unset, .unset, .unset] [.ref b1, .ref b17, .ref b17])) rfl (by rw [hml]; rfl) (Steps.refl _) (a := b17) (argsL := [.ref b1]) (rest := [.ref b17]) (lenOf pd_9 rfl) rfl (by show 2 * 0 + _ ≤ _; exact Nat.le_of_eq rfl) (hb hby at_68) (fun _ _ => ⟨rfl, e17, (by decide : 2 + 1 ≤ _), (by decide : 7 + 3 ≤ _)⟩)
    dsimp only [Pt.U, Pt.locs, Pt.cells, Pt.slots] at X22 l22 y22 z22 st22 hQ22
    subst l22 y22 z22
    obtain ⟨h22, e22⟩ : ∃ z, T22.heap = z := ⟨_, rfl⟩
    rw [e22] at hQ22
    obtain ⟨rfl, N22q, p22_0⟩ := hQ22
    have N22 := Fr.app N15 N22q
    have A17 := A17.keep p22_0
    have O23 := O18.keep p22_0 (allS g_b17 all0)
    obtain ⟨T25, h25, X25, e25, E25, A25, D25, -, st25⟩ := newO X22 hx hZ hown (W 27 rfl) (W 28 rfl) (W 29 rfl) e22 (g := (mkF m 73 #[iv p1, iv p2, iv p3, iv p4, rv b1, rv b17, .unset, .unset, .unset, .unset] [])) rfl (hb hby at_73) (by decide) (by decide)
    obtain ⟨b25, g25⟩ : ∃ z, z = h22.size := ⟨_, rfl⟩
    rw [← g25] at A25 D25 st25
    have g_b25 : n0 ≤ b25 := Nat.le_trans (own_sz O23) (Nat.le_of_eq g25.symm)
    have A17 := A17.ext E25
    have O26 := O23.ext E25
    have Fz28 : Fld Z h25 b25 "com/example/latchkey/latchkey/HostPort" "host" "Ljava/lang/String;" .null := D25 (Or.inr (W 40 rfl)) (ty := (.object "java/lang/String")) (by decide)
    have Fz29 : Fld Z h25 b25 "com/example/latchkey/latchkey/HostPort" "port" "I" (.int (0 : Int32)) := D25 (Or.inr (W 42 rfl)) (ty := .int) (by decide)
    obtain ⟨_, _, ⟨T30, L30, k30, n30⟩, -, X30, ⟨Lc30, hQ30, l30, y30, z30⟩, st30⟩ := X25.specialBack hx (y := y_10) rfl hown (mvT hZ (W 30 rfl)) (mvT hZ (W 31 rfl)) (mvT hZ (W 32 rfl)) (by decide) (backOf (W := 1) (hpinit l Z a0 hw [] b25 b17 p2 h25 n0 O26 A25 Fz28 Fz29 g_b25) hZ (W 32 rfl) (W 29 rfl) (by decide) (by decide)) (g := (mkF m 80 #[iv p1, iv p2, iv p3, iv p4, rv b1, rv b17, .unset, .unset, .unset, .unset] [.int p2, .ref b17, .ref b25, .ref b25])) rfl (by rw [hml]; rfl) (Steps.refl _) (a := b25) (argsL := [.ref b17, .int p2]) (rest := [.ref b25]) (lenOf pd_8 rfl) rfl (by show 2 * 0 + _ ≤ _; exact Nat.le_of_eq rfl) (hb hby at_80) (fun _ _ => ⟨rfl, e25, (by decide : 4 + 0 ≤ _), (by decide : 12 + 0 ≤ _)⟩)
    dsimp only [Pt.U, Pt.locs, Pt.cells, Pt.slots] at X30 l30 y30 z30 st30 hQ30
    subst l30 y30 z30
    obtain ⟨h30, e30⟩ : ∃ z, T30.heap = z := ⟨_, rfl⟩
    rw [e30] at hQ30
    obtain ⟨rfl, N30q, p30_0, p30_1, p30_2⟩ := hQ30
    have N30 := Fr.app N22 N30q
    have A17 := A17.keep p30_0
    have A25 := A25.keep p30_0
    have O31 := O26.keep p30_0 (allS g_b25 all0)
    obtain ⟨cq33, kq33, q33a, q33b, q33c⟩ := isOf hZ e30 A25
    obtain ⟨_, _, ⟨T33, L33, k33, n33⟩, -, X33, ⟨Lc33, hQ33, l33, y33, z33⟩, st33⟩ := X30.virtualBack hx (y := y_11) (z := y_11) hown (mvT hZ (W 43 rfl)) (mvT hZ (W 44 rfl)) (notFace_of_selects (args := #[]) (mvT hZ (W 46 rfl))) (mvT hZ (W 46 rfl)) (mvT hZ (W 45 rfl)) (by decide) (backOf (W := 0) (withp l Z a0 hw [] b25 b17 p3 h30 n0 O31 p30_1) hZ (W 47 rfl) (W 29 rfl) (by decide) (by decide)) q33a q33c (g := (mkF m 88 #[iv p1, iv p2, iv p3, iv p4, rv b1, rv b17, rv b25, .unset, .unset, .unset] [.int p3, .ref b25])) rfl (by rw [hml]; rfl) (Steps.refl _) (argsL := [.int p3]) (rest := []) (lenOf pd_10 rfl) rfl (by show 2 * 0 + _ ≤ _; exact Nat.le_of_eq rfl) (hb hby at_88) (fun _ _ => ⟨rfl, e30, (by decide : 4 + 1 ≤ _), (by decide : 12 + 2 ≤ _)⟩)
    dsimp only [Pt.U, Pt.locs, Pt.cells, Pt.slots] at X33 l33 y33 z33 st33 hQ33
    subst l33 y33 z33
    obtain ⟨h33, e33⟩ : ∃ z, T33.heap = z := ⟨_, rfl⟩
    rw [e33] at hQ33
    obtain ⟨b33b, rfl, N33q, p33_0, p33_1, p33_2, p33_3, p33_4⟩ := hQ33
    have N33 := Fr.app N30 N33q
    have A17 := A17.keep p33_0
    have A25 := A25.keep p33_0
    have p30_1 := p30_1.keep p33_0 nin0
    have p30_2 := p30_2.keep p33_0 nin0
    have O34 := O31.keep p33_0 all0
    obtain ⟨cq36, kq36, q36a, q36b, q36c⟩ := isOf hZ e33 p33_2
    obtain ⟨_, _, ⟨T36, L36, k36, n36⟩, -, X36, ⟨Lc36, hQ36, l36, y36, z36⟩, st36⟩ := X33.virtualBack hx (y := y_12) (z := y_12) hown (mvT hZ (W 50 rfl)) (mvT hZ (W 51 rfl)) (notFace_of_selects (args := #[]) (mvT hZ (W 53 rfl))) (mvT hZ (W 53 rfl)) (mvT hZ (W 52 rfl)) (by decide) (backOf (W := 0) (port l Z a0 hw [] b33b p3 h33 n0 O34 p33_4) hZ (W 54 rfl) (W 29 rfl) (by decide) (by decide)) q36a q36c (g := (mkF m 95 #[iv p1, iv p2, iv p3, iv p4, rv b1, rv b17, rv b25, rv b33b, .unset, .unset] [.ref b33b])) rfl (by rw [hml]; rfl) (Steps.refl _) (argsL := []) (rest := []) (lenOf pd_11 rfl) rfl (by show 2 * 0 + _ ≤ _; exact Nat.le_of_eq rfl) (hb hby at_95) (fun _ _ => ⟨rfl, e33, (by decide : 5 + 0 ≤ _), (by decide : 14 + 0 ≤ _)⟩)
    dsimp only [Pt.U, Pt.locs, Pt.cells, Pt.slots] at X36 l36 y36 z36 st36 hQ36
    subst l36 y36 z36
    obtain ⟨h36, e36⟩ : ∃ z, T36.heap = z := ⟨_, rfl⟩
    rw [e36] at hQ36
    obtain ⟨rfl, N36q, p36_0⟩ := hQ36
    have N36 := Fr.app N33 N36q
    rw [p36_0] at e36
    obtain ⟨cq37, kq37, q37a, q37b, q37c⟩ := isOf hZ e36 p33_2
    obtain ⟨_, _, ⟨T37, L37, k37, n37⟩, -, X37, ⟨Lc37, hQ37, l37, y37, z37⟩, st37⟩ := X36.virtualBack hx (y := y_13) (z := y_13) hown (mvT hZ (W 55 rfl)) (mvT hZ (W 56 rfl)) (notFace_of_selects (args := #[]) (mvT hZ (W 58 rfl))) (mvT hZ (W 58 rfl)) (mvT hZ (W 57 rfl)) (by decide) (backOf (W := 0) (host l Z a0 hw [] b33b b17 h33 n0 O34 p33_3) hZ (W 59 rfl) (W 29 rfl) (by decide) (by decide)) q37a q37c (g := (mkF m 104 #[iv p1, iv p2, iv p3, iv p4, rv b1, rv b17, rv b25, rv b33b, .unset, .unset] [.ref b33b])) rfl (by rw [hml]; rfl) (Steps.refl _) (argsL := []) (rest := []) (lenOf pd_12 rfl) rfl (by show 2 * 0 + _ ≤ _; exact Nat.le_of_eq rfl) (hb hby at_104) (fun _ _ => ⟨rfl, e36, (by decide : 5 + 0 ≤ _), (by decide : 14 + 0 ≤ _)⟩)
    dsimp only [Pt.U, Pt.locs, Pt.cells, Pt.slots] at X37 l37 y37 z37 st37 hQ37
    subst l37 y37 z37
    obtain ⟨h37, e37⟩ : ∃ z, T37.heap = z := ⟨_, rfl⟩
    rw [e37] at hQ37
    obtain ⟨rfl, N37q, p37_0⟩ := hQ37
    have N37 := Fr.app N36 N37q
    rw [p37_0] at e37
    obtain ⟨cq38, kq38, q38a, q38b, q38c⟩ := isOf hZ e37 A17
    obtain ⟨_, _, ⟨T38, L38, k38, n38⟩, -, X38, ⟨Lc38, hQ38, l38, y38, z38⟩, st38⟩ := X37.virtualBack hx (y := y_14) (z := y_14) hown (mvT hZ (W 60 rfl)) (mvT hZ (W 61 rfl)) (notFace_of_selects (args := #[]) (mvT hZ (W 63 rfl))) (mvT hZ (W 63 rfl)) (mvT hZ (W 62 rfl)) (by decide) (backOf (W := 0) (eqself l Z a0 hw [] b17 h33 n0 O34 ) hZ (W 64 rfl) (W 3 rfl) (by decide) (by decide)) q38a q38c (g := (mkF m 109 #[iv p1, iv p2, iv p3, iv p4, rv b1, rv b17, rv b25, rv b33b, .unset, .unset] [.ref b17, .ref b17])) rfl (by rw [hml]; rfl) (Steps.refl _) (argsL := [.ref b17]) (rest := []) (lenOf pd_13 rfl) rfl (by show 2 * 0 + _ ≤ _; exact Nat.le_of_eq rfl) (hb hby at_109) (fun _ _ => ⟨rfl, e37, (by decide : 5 + 0 ≤ _), (by decide : 14 + 0 ≤ _)⟩)
    dsimp only [Pt.U, Pt.locs, Pt.cells, Pt.slots] at X38 l38 y38 z38 st38 hQ38
    subst l38 y38 z38
    obtain ⟨h38, e38⟩ : ∃ z, T38.heap = z := ⟨_, rfl⟩
    rw [e38] at hQ38
    obtain ⟨rfl, N38q, p38_0⟩ := hQ38
    have N38 := Fr.app N37 N38q
    rw [p38_0] at e38
    obtain ⟨cq39, kq39, q39a, q39b, q39c⟩ := isOf hZ e38 A25
    obtain ⟨_, _, ⟨T39, L39, k39, n39⟩, -, X39, ⟨Lc39, hQ39, l39, y39, z39⟩, st39⟩ := X38.virtualBack hx (y := y_12) (z := y_12) hown (mvT hZ (W 50 rfl)) (mvT hZ (W 51 rfl)) (notFace_of_selects (args := #[]) (mvT hZ (W 53 rfl))) (mvT hZ (W 53 rfl)) (mvT hZ (W 52 rfl)) (by decide) (backOf (W := 0) (port l Z a0 hw [] b25 p2 h33 n0 O34 p30_2) hZ (W 54 rfl) (W 29 rfl) (by decide) (by decide)) q39a q39c (g := (mkF m 124 #[iv p1, iv p2, iv p3, iv p4, rv b1, rv b17, rv b25, rv b33b, iv 1, .unset] [.ref b25])) rfl (by rw [hml]; rfl) (Steps.refl _) (argsL := []) (rest := []) (lenOf pd_11 rfl) rfl (by show 2 * 0 + _ ≤ _; exact Nat.le_of_eq rfl) (hb hby at_124) (fun _ _ => ⟨rfl, e38, (by decide : 5 + 0 ≤ _), (by decide : 14 + 0 ≤ _)⟩)
    dsimp only [Pt.U, Pt.locs, Pt.cells, Pt.slots] at X39 l39 y39 z39 st39 hQ39
    subst l39 y39 z39
    obtain ⟨h39, e39⟩ : ∃ z, T39.heap = z := ⟨_, rfl⟩
    rw [e39] at hQ39
    obtain ⟨rfl, N39q, p39_0⟩ := hQ39
    have N39 := Fr.app N38 N39q
    rw [p39_0] at e39
    obtain ⟨cq40, kq40, q40a, q40b, q40c⟩ := isOf hZ e39 A25
    obtain ⟨_, _, ⟨T40, L40, k40, n40⟩, -, X40, ⟨Lc40, hQ40, l40, y40, z40⟩, st40⟩ := X39.virtualBack hx (y := y_13) (z := y_13) hown (mvT hZ (W 55 rfl)) (mvT hZ (W 56 rfl)) (notFace_of_selects (args := #[]) (mvT hZ (W 58 rfl))) (mvT hZ (W 58 rfl)) (mvT hZ (W 57 rfl)) (by decide) (backOf (W := 0) (host l Z a0 hw [] b25 b17 h33 n0 O34 p30_1) hZ (W 59 rfl) (W 29 rfl) (by decide) (by decide)) q40a q40c (g := (mkF m 133 #[iv p1, iv p2, iv p3, iv p4, rv b1, rv b17, rv b25, rv b33b, iv 1, .unset] [.ref b25])) rfl (by rw [hml]; rfl) (Steps.refl _) (argsL := []) (rest := []) (lenOf pd_12 rfl) rfl (by show 2 * 0 + _ ≤ _; exact Nat.le_of_eq rfl) (hb hby at_133) (fun _ _ => ⟨rfl, e39, (by decide : 5 + 0 ≤ _), (by decide : 14 + 0 ≤ _)⟩)
    dsimp only [Pt.U, Pt.locs, Pt.cells, Pt.slots] at X40 l40 y40 z40 st40 hQ40
    subst l40 y40 z40
    obtain ⟨h40, e40⟩ : ∃ z, T40.heap = z := ⟨_, rfl⟩
    rw [e40] at hQ40
    obtain ⟨rfl, N40q, p40_0⟩ := hQ40
    have N40 := Fr.app N39 N40q
    rw [p40_0] at e40
    obtain ⟨cq41, kq41, q41a, q41b, q41c⟩ := isOf hZ e40 A17
    obtain ⟨_, _, ⟨T41, L41, k41, n41⟩, -, X41, ⟨Lc41, hQ41, l41, y41, z41⟩, st41⟩ := X40.virtualBack hx (y := y_14) (z := y_14) hown (mvT hZ (W 60 rfl)) (mvT hZ (W 61 rfl)) (notFace_of_selects (args := #[]) (mvT hZ (W 63 rfl))) (mvT hZ (W 63 rfl)) (mvT hZ (W 62 rfl)) (by decide) (backOf (W := 0) (eqself l Z a0 hw [] b17 h33 n0 O34 ) hZ (W 64 rfl) (W 3 rfl) (by decide) (by decide)) q41a q41c (g := (mkF m 138 #[iv p1, iv p2, iv p3, iv p4, rv b1, rv b17, rv b25, rv b33b, iv 1, .unset] [.ref b17, .ref b17])) rfl (by rw [hml]; rfl) (Steps.refl _) (argsL := [.ref b17]) (rest := []) (lenOf pd_13 rfl) rfl (by show 2 * 0 + _ ≤ _; exact Nat.le_of_eq rfl) (hb hby at_138) (fun _ _ => ⟨rfl, e40, (by decide : 5 + 0 ≤ _), (by decide : 14 + 0 ≤ _)⟩)
    dsimp only [Pt.U, Pt.locs, Pt.cells, Pt.slots] at X41 l41 y41 z41 st41 hQ41
    subst l41 y41 z41
    obtain ⟨h41, e41⟩ : ∃ z, T41.heap = z := ⟨_, rfl⟩
    rw [e41] at hQ41
    obtain ⟨rfl, N41q, p41_0⟩ := hQ41
    have N41 := Fr.app N40 N41q
    rw [p41_0] at e41
    obtain ⟨fs, hr, hrun, hended, hW, hsame⟩ := X41.leave (v := some (.int (1 : Int32))) (fun h => by rw [Bd.returns] at h; cases h)
    refine ⟨_, _, pre16 _ ?_, hrun, hended, _, _, rfl, ?_, ⟨_, rfl⟩, hW, hsame.mono (by decide) (by decide)⟩
    · show Sq p e below m T12 44 #[iv p1, iv p2, iv p3, iv p4, rv b1, .unset, .unset, .unset, .unset, .unset] [.int (p4 &&& (1 : Int32))] _
      refine XS.ifYes X12.here hx rfl (pc0 := 44) (pc' := 62) rfl (hb hby at_44) rfl ((if0 _ _).trans (teq hc44).1) (by decide) (by decide) ?_
      show Sq p e below m T12 62 #[iv p1, iv p2, iv p3, iv p4, rv b1, .unset, .unset, .unset, .unset, .unset] [] _
      refine st17 _ ?_
      show Sq p e below m T17 65 #[iv p1, iv p2, iv p3, iv p4, rv b1, .unset, .unset, .unset, .unset, .unset] [.ref b17] _
      refine XS.dup X17.here hx rfl (hb hby at_65) rfl rfl ?_
      refine XS.aload X17.here hx rfl (hb hby at_66) rfl rfl ?_
      show Sq p e below m T17 68 #[iv p1, iv p2, iv p3, iv p4, rv b1, .unset, .unset, .unset, .unset, .unset] [.ref b1, .ref b17, .ref b17] _
      refine st22.trans ?_
      show Sq p e below m T22 71 #[iv p1, iv p2, iv p3, iv p4, rv b1, .unset, .unset, .unset, .unset, .unset] [.ref b17] _
      refine XS.astore X22.here hx rfl (hb hby at_71) rfl rfl rfl ?_
      show Sq p e below m T22 73 #[iv p1, iv p2, iv p3, iv p4, rv b1, rv b17, .unset, .unset, .unset, .unset] [] _
      refine st25 _ ?_
      show Sq p e below m T25 76 #[iv p1, iv p2, iv p3, iv p4, rv b1, rv b17, .unset, .unset, .unset, .unset] [.ref b25] _
      refine XS.dup X25.here hx rfl (hb hby at_76) rfl rfl ?_
      refine XS.aload X25.here hx rfl (hb hby at_77) rfl rfl ?_
      show Sq p e below m T25 79 #[iv p1, iv p2, iv p3, iv p4, rv b1, rv b17, .unset, .unset, .unset, .unset] [.ref b17, .ref b25, .ref b25] _
      refine XS.iloadN X25.here hx rfl (hb hby at_79) rfl ?_
      show Sq p e below m T25 80 #[iv p1, iv p2, iv p3, iv p4, rv b1, rv b17, .unset, .unset, .unset, .unset] [.int p2, .ref b17, .ref b25, .ref b25] _
      refine st30.trans ?_
      show Sq p e below m T30 83 #[iv p1, iv p2, iv p3, iv p4, rv b1, rv b17, .unset, .unset, .unset, .unset] [.ref b25] _
      refine XS.astore X30.here hx rfl (hb hby at_83) rfl rfl rfl ?_
      refine XS.aload X30.here hx rfl (hb hby at_85) rfl rfl ?_
      show Sq p e below m T30 87 #[iv p1, iv p2, iv p3, iv p4, rv b1, rv b17, rv b25, .unset, .unset, .unset] [.ref b25] _
      refine XS.iloadN X30.here hx rfl (hb hby at_87) rfl ?_
      show Sq p e below m T30 88 #[iv p1, iv p2, iv p3, iv p4, rv b1, rv b17, rv b25, .unset, .unset, .unset] [.int p3, .ref b25] _
      refine st33.trans ?_
      show Sq p e below m T33 91 #[iv p1, iv p2, iv p3, iv p4, rv b1, rv b17, rv b25, .unset, .unset, .unset] [.ref b33b] _
      refine XS.astore X33.here hx rfl (hb hby at_91) rfl rfl rfl ?_
      refine XS.aload X33.here hx rfl (hb hby at_93) rfl rfl ?_
      show Sq p e below m T33 95 #[iv p1, iv p2, iv p3, iv p4, rv b1, rv b17, rv b25, rv b33b, .unset, .unset] [.ref b33b] _
      refine st36.trans ?_
      show Sq p e below m T36 98 #[iv p1, iv p2, iv p3, iv p4, rv b1, rv b17, rv b25, rv b33b, .unset, .unset] [.int p3] _
      refine XS.iloadN X36.here hx rfl (hb hby at_98) rfl ?_
      refine XS.icmpNo X36.here hx rfl (hb hby at_99) rfl (teq (rfl : p3 = p3)).2 ?_
      show Sq p e below m T36 102 #[iv p1, iv p2, iv p3, iv p4, rv b1, rv b17, rv b25, rv b33b, .unset, .unset] [] _
      refine XS.aload X36.here hx rfl (hb hby at_102) rfl rfl ?_
      show Sq p e below m T36 104 #[iv p1, iv p2, iv p3, iv p4, rv b1, rv b17, rv b25, rv b33b, .unset, .unset] [.ref b33b] _
      refine st37.trans ?_
      show Sq p e below m T37 107 #[iv p1, iv p2, iv p3, iv p4, rv b1, rv b17, rv b25, rv b33b, .unset, .unset] [.ref b17] _
      refine XS.aload X37.here hx rfl (hb hby at_107) rfl rfl ?_
      show Sq p e below m T37 109 #[iv p1, iv p2, iv p3, iv p4, rv b1, rv b17, rv b25, rv b33b, .unset, .unset] [.ref b17, .ref b17] _
      refine st38.trans ?_
      show Sq p e below m T38 112 #[iv p1, iv p2, iv p3, iv p4, rv b1, rv b17, rv b25, rv b33b, .unset, .unset] [.int 1] _
      refine XS.ifNo X38.here hx rfl (hb hby at_112) rfl ((if0 _ _).trans (feq (by decide)).1) ?_
      refine XS.iconst X38.here hx rfl (hb hby at_115) ?_
      show Sq p e below m T38 116 #[iv p1, iv p2, iv p3, iv p4, rv b1, rv b17, rv b25, rv b33b, .unset, .unset] [.int 1] _
      refine XS.goto X38.here hx rfl (pc0 := 116) (pc' := 120) rfl (hb hby at_116) (by decide) (by decide) ?_
      refine XS.istore X38.here hx rfl (hb hby at_120) rfl rfl ?_
      show Sq p e below m T38 122 #[iv p1, iv p2, iv p3, iv p4, rv b1, rv b17, rv b25, rv b33b, iv 1, .unset] [] _
      refine XS.aload X38.here hx rfl (hb hby at_122) rfl rfl ?_
      show Sq p e below m T38 124 #[iv p1, iv p2, iv p3, iv p4, rv b1, rv b17, rv b25, rv b33b, iv 1, .unset] [.ref b25] _
      refine st39.trans ?_
      show Sq p e below m T39 127 #[iv p1, iv p2, iv p3, iv p4, rv b1, rv b17, rv b25, rv b33b, iv 1, .unset] [.int p2] _
      refine XS.iloadN X39.here hx rfl (hb hby at_127) rfl ?_
      refine XS.icmpNo X39.here hx rfl (hb hby at_128) rfl (teq (rfl : p2 = p2)).2 ?_
      show Sq p e below m T39 131 #[iv p1, iv p2, iv p3, iv p4, rv b1, rv b17, rv b25, rv b33b, iv 1, .unset] [] _
      refine XS.aload X39.here hx rfl (hb hby at_131) rfl rfl ?_
      show Sq p e below m T39 133 #[iv p1, iv p2, iv p3, iv p4, rv b1, rv b17, rv b25, rv b33b, iv 1, .unset] [.ref b25] _
      refine st40.trans ?_
      show Sq p e below m T40 136 #[iv p1, iv p2, iv p3, iv p4, rv b1, rv b17, rv b25, rv b33b, iv 1, .unset] [.ref b17] _
      refine XS.aload X40.here hx rfl (hb hby at_136) rfl rfl ?_
      show Sq p e below m T40 138 #[iv p1, iv p2, iv p3, iv p4, rv b1, rv b17, rv b25, rv b33b, iv 1, .unset] [.ref b17, .ref b17] _
      refine st41.trans ?_
      show Sq p e below m T41 141 #[iv p1, iv p2, iv p3, iv p4, rv b1, rv b17, rv b25, rv b33b, iv 1, .unset] [.int 1] _
      refine XS.ifNo X41.here hx rfl (hb hby at_141) rfl ((if0 _ _).trans (feq (by decide)).1) ?_
      refine XS.iconst X41.here hx rfl (hb hby at_144) ?_
      show Sq p e below m T41 145 #[iv p1, iv p2, iv p3, iv p4, rv b1, rv b17, rv b25, rv b33b, iv 1, .unset] [.int 1] _
      refine XS.goto X41.here hx rfl (pc0 := 145) (pc' := 149) rfl (hb hby at_145) (by decide) (by decide) ?_
      refine XS.istore X41.here hx rfl (hb hby at_149) rfl rfl ?_
      show Sq p e below m T41 151 #[iv p1, iv p2, iv p3, iv p4, rv b1, rv b17, rv b25, rv b33b, iv 1, iv 1] [] _
      refine XS.iload X41.here hx rfl (hb hby at_151) rfl ?_
      refine XS.ifNo X41.here hx rfl (hb hby at_153) rfl ((if0 _ _).trans (feq (by decide)).1) ?_
      show Sq p e below m T41 156 #[iv p1, iv p2, iv p3, iv p4, rv b1, rv b17, rv b25, rv b33b, iv 1, iv 1] [] _
      refine XS.iload X41.here hx rfl (hb hby at_156) rfl ?_
      refine XS.ifNo X41.here hx rfl (hb hby at_158) rfl ((if0 _ _).trans (feq (by decide)).1) ?_
      show Sq p e below m T41 161 #[iv p1, iv p2, iv p3, iv p4, rv b1, rv b17, rv b25, rv b33b, iv 1, iv 1] [] _
      refine XS.iconst X41.here hx rfl (hb hby at_161) ?_
      refine XS.goto X41.here hx rfl (pc0 := 162) (pc' := 166) rfl (hb hby at_162) (by decide) (by decide) ?_
      show Sq p e below m T41 166 #[iv p1, iv p2, iv p3, iv p4, rv b1, rv b17, rv b25, rv b33b, iv 1, iv 1] [.int 1] _
      exact retN X41 hx (t := .boolean) Bd.returns (by simp) (hb hby at_166) hr
    · show Q_rm0 Z p1 p2 p3 p4 cs h0 n0 _ T41.heap _
      rw [e41]
      exact ⟨rfl, N41⟩
  · obtain ⟨_, _, ⟨T17, L17, k17, n17⟩, -, X17, ⟨Lc17, hQ17, l17, y17, z17⟩, st17⟩ := Jvm.LawKit.callS X12 hx (y := y_3) hown (mvT hZ (W 1 rfl)) (mvT hZ (W 2 rfl)) (mvT hZ (W 3 rfl)) (mvT hZ (W 4 rfl)) (by decide) (backOf (W := 0) (valof l Z a0 hw [] ((((p1.toUInt32 >>> ((24 : Int32) &&& 31).toUInt32).toInt32) &&& (255 : Int32)).toUInt32.toUInt16.toUInt32.toInt32) cs h12 n0 O13 Scs hcs (own_ch _)) hZ (W 4 rfl) (W 3 rfl) (by decide) (by decide)) (g := (mkF m 56 #[iv p1, iv p2, iv p3, iv p4, rv b1, .unset, .unset, .unset, .unset, .unset] [.int ((((p1.toUInt32 >>> ((24 : Int32) &&& 31).toUInt32).toInt32) &&& (255 : Int32)).toUInt32.toUInt16.toUInt32.toInt32)])) rfl (by rw [hml]; rfl) (argsL := [.int ((((p1.toUInt32 >>> ((24 : Int32) &&& 31).toUInt32).toInt32) &&& (255 : Int32)).toUInt32.toUInt16.toUInt32.toInt32)]) (rest := []) (lenOf pd_14 rfl) rfl (by show 2 * 0 + _ ≤ _; exact Nat.le_of_eq rfl) (hb hby at_56) (fun _ _ => ⟨rfl, e12, (by decide : 1 + 2 ≤ _), (by decide : 3 + 5 ≤ _)⟩)
    dsimp only [Pt.U, Pt.locs, Pt.cells, Pt.slots] at X17 l17 y17 z17 st17 hQ17
    subst l17 y17 z17
    obtain ⟨h17, e17⟩ : ∃ z, T17.heap = z := ⟨_, rfl⟩
    rw [e17] at hQ17
    obtain ⟨b17b, rfl, N17q, p17_0, p17_1, p17_2⟩ := hQ17
    have N17 := Fr.app N15 N17q
    have O18 := O13.keep p17_0 all0
    obtain ⟨T20, h20, X20, e20, E20, A20, D20, -, st20⟩ := newO X17 hx hZ hown (W 27 rfl) (W 28 rfl) (W 29 rfl) e17 (g := (mkF m 73 #[iv p1, iv p2, iv p3, iv p4, rv b1, rv b17b, .unset, .unset, .unset, .unset] [])) rfl (hb hby at_73) (by decide) (by decide)
    obtain ⟨b20, g20⟩ : ∃ z, z = h17.size := ⟨_, rfl⟩
    rw [← g20] at A20 D20 st20
    have g_b20 : n0 ≤ b20 := Nat.le_trans (own_sz O18) (Nat.le_of_eq g20.symm)
    have p17_2 := p17_2.ext E20
    have O21 := O18.ext E20
    have Fz23 : Fld Z h20 b20 "com/example/latchkey/latchkey/HostPort" "host" "Ljava/lang/String;" .null := D20 (Or.inr (W 40 rfl)) (ty := (.object "java/lang/String")) (by decide)
    have Fz24 : Fld Z h20 b20 "com/example/latchkey/latchkey/HostPort" "port" "I" (.int (0 : Int32)) := D20 (Or.inr (W 42 rfl)) (ty := .int) (by decide)
    obtain ⟨_, _, ⟨T25, L25, k25, n25⟩, -, X25, ⟨Lc25, hQ25, l25, y25, z25⟩, st25⟩ := X20.specialBack hx (y := y_10) rfl hown (mvT hZ (W 30 rfl)) (mvT hZ (W 31 rfl)) (mvT hZ (W 32 rfl)) (by decide) (backOf (W := 1) (hpinit l Z a0 hw [] b20 b17b p2 h20 n0 O21 A20 Fz23 Fz24 g_b20) hZ (W 32 rfl) (W 29 rfl) (by decide) (by decide)) (g := (mkF m 80 #[iv p1, iv p2, iv p3, iv p4, rv b1, rv b17b, .unset, .unset, .unset, .unset] [.int p2, .ref b17b, .ref b20, .ref b20])) rfl (by rw [hml]; rfl) (Steps.refl _) (a := b20) (argsL := [.ref b17b, .int p2]) (rest := [.ref b20]) (lenOf pd_8 rfl) rfl (by show 2 * 0 + _ ≤ _; exact Nat.le_of_eq rfl) (hb hby at_80) (fun _ _ => ⟨rfl, e20, (by decide : 4 + 0 ≤ _), (by decide : 10 + 0 ≤ _)⟩)
    dsimp only [Pt.U, Pt.locs, Pt.cells, Pt.slots] at X25 l25 y25 z25 st25 hQ25
    subst l25 y25 z25
    obtain ⟨h25, e25⟩ : ∃ z, T25.heap = z := ⟨_, rfl⟩
    rw [e25] at hQ25
    obtain ⟨rfl, N25q, p25_0, p25_1, p25_2⟩ := hQ25
    have N25 := Fr.app N17 N25q
    have p17_2 := p17_2.keep p25_0
    have A20 := A20.keep p25_0
    have O26 := O21.keep p25_0 (allS g_b20 all0)
    obtain ⟨cq28, kq28, q28a, q28b, q28c⟩ := isOf hZ e25 A20
    obtain ⟨_, _, ⟨T28, L28, k28, n28⟩, -, X28, ⟨Lc28, hQ28, l28, y28, z28⟩, st28⟩ := X25.virtualBack hx (y := y_11) (z := y_11) hown (mvT hZ (W 43 rfl)) (mvT hZ (W 44 rfl)) (notFace_of_selects (args := #[]) (mvT hZ (W 46 rfl))) (mvT hZ (W 46 rfl)) (mvT hZ (W 45 rfl)) (by decide) (backOf (W := 0) (withp l Z a0 hw [] b20 b17b p3 h25 n0 O26 p25_1) hZ (W 47 rfl) (W 29 rfl) (by decide) (by decide)) q28a q28c (g := (mkF m 88 #[iv p1, iv p2, iv p3, iv p4, rv b1, rv b17b, rv b20, .unset, .unset, .unset] [.int p3, .ref b20])) rfl (by rw [hml]; rfl) (Steps.refl _) (argsL := [.int p3]) (rest := []) (lenOf pd_10 rfl) rfl (by show 2 * 0 + _ ≤ _; exact Nat.le_of_eq rfl) (hb hby at_88) (fun _ _ => ⟨rfl, e25, (by decide : 4 + 1 ≤ _), (by decide : 10 + 2 ≤ _)⟩)
    dsimp only [Pt.U, Pt.locs, Pt.cells, Pt.slots] at X28 l28 y28 z28 st28 hQ28
    subst l28 y28 z28
    obtain ⟨h28, e28⟩ : ∃ z, T28.heap = z := ⟨_, rfl⟩
    rw [e28] at hQ28
    obtain ⟨b28b, rfl, N28q, p28_0, p28_1, p28_2, p28_3, p28_4⟩ := hQ28
    have N28 := Fr.app N25 N28q
    have p17_2 := p17_2.keep p28_0
    have A20 := A20.keep p28_0
    have p25_1 := p25_1.keep p28_0 nin0
    have p25_2 := p25_2.keep p28_0 nin0
    have O29 := O26.keep p28_0 all0
    obtain ⟨cq31, kq31, q31a, q31b, q31c⟩ := isOf hZ e28 p28_2
    obtain ⟨_, _, ⟨T31, L31, k31, n31⟩, -, X31, ⟨Lc31, hQ31, l31, y31, z31⟩, st31⟩ := X28.virtualBack hx (y := y_12) (z := y_12) hown (mvT hZ (W 50 rfl)) (mvT hZ (W 51 rfl)) (notFace_of_selects (args := #[]) (mvT hZ (W 53 rfl))) (mvT hZ (W 53 rfl)) (mvT hZ (W 52 rfl)) (by decide) (backOf (W := 0) (port l Z a0 hw [] b28b p3 h28 n0 O29 p28_4) hZ (W 54 rfl) (W 29 rfl) (by decide) (by decide)) q31a q31c (g := (mkF m 95 #[iv p1, iv p2, iv p3, iv p4, rv b1, rv b17b, rv b20, rv b28b, .unset, .unset] [.ref b28b])) rfl (by rw [hml]; rfl) (Steps.refl _) (argsL := []) (rest := []) (lenOf pd_11 rfl) rfl (by show 2 * 0 + _ ≤ _; exact Nat.le_of_eq rfl) (hb hby at_95) (fun _ _ => ⟨rfl, e28, (by decide : 5 + 0 ≤ _), (by decide : 12 + 0 ≤ _)⟩)
    dsimp only [Pt.U, Pt.locs, Pt.cells, Pt.slots] at X31 l31 y31 z31 st31 hQ31
    subst l31 y31 z31
    obtain ⟨h31, e31⟩ : ∃ z, T31.heap = z := ⟨_, rfl⟩
    rw [e31] at hQ31
    obtain ⟨rfl, N31q, p31_0⟩ := hQ31
    have N31 := Fr.app N28 N31q
    rw [p31_0] at e31
    obtain ⟨cq32, kq32, q32a, q32b, q32c⟩ := isOf hZ e31 p28_2
    obtain ⟨_, _, ⟨T32, L32, k32, n32⟩, -, X32, ⟨Lc32, hQ32, l32, y32, z32⟩, st32⟩ := X31.virtualBack hx (y := y_13) (z := y_13) hown (mvT hZ (W 55 rfl)) (mvT hZ (W 56 rfl)) (notFace_of_selects (args := #[]) (mvT hZ (W 58 rfl))) (mvT hZ (W 58 rfl)) (mvT hZ (W 57 rfl)) (by decide) (backOf (W := 0) (host l Z a0 hw [] b28b b17b h28 n0 O29 p28_3) hZ (W 59 rfl) (W 29 rfl) (by decide) (by decide)) q32a q32c (g := (mkF m 104 #[iv p1, iv p2, iv p3, iv p4, rv b1, rv b17b, rv b20, rv b28b, .unset, .unset] [.ref b28b])) rfl (by rw [hml]; rfl) (Steps.refl _) (argsL := []) (rest := []) (lenOf pd_12 rfl) rfl (by show 2 * 0 + _ ≤ _; exact Nat.le_of_eq rfl) (hb hby at_104) (fun _ _ => ⟨rfl, e31, (by decide : 5 + 0 ≤ _), (by decide : 12 + 0 ≤ _)⟩)
    dsimp only [Pt.U, Pt.locs, Pt.cells, Pt.slots] at X32 l32 y32 z32 st32 hQ32
    subst l32 y32 z32
    obtain ⟨h32, e32⟩ : ∃ z, T32.heap = z := ⟨_, rfl⟩
    rw [e32] at hQ32
    obtain ⟨rfl, N32q, p32_0⟩ := hQ32
    have N32 := Fr.app N31 N32q
    rw [p32_0] at e32
    obtain ⟨cq33, kq33, q33a, q33b, q33c⟩ := isOf hZ e32 p17_2
    obtain ⟨_, _, ⟨T33, L33, k33, n33⟩, -, X33, ⟨Lc33, hQ33, l33, y33, z33⟩, st33⟩ := X32.virtualBack hx (y := y_14) (z := y_14) hown (mvT hZ (W 60 rfl)) (mvT hZ (W 61 rfl)) (notFace_of_selects (args := #[]) (mvT hZ (W 63 rfl))) (mvT hZ (W 63 rfl)) (mvT hZ (W 62 rfl)) (by decide) (backOf (W := 0) (eqself l Z a0 hw [] b17b h28 n0 O29 ) hZ (W 64 rfl) (W 3 rfl) (by decide) (by decide)) q33a q33c (g := (mkF m 109 #[iv p1, iv p2, iv p3, iv p4, rv b1, rv b17b, rv b20, rv b28b, .unset, .unset] [.ref b17b, .ref b17b])) rfl (by rw [hml]; rfl) (Steps.refl _) (argsL := [.ref b17b]) (rest := []) (lenOf pd_13 rfl) rfl (by show 2 * 0 + _ ≤ _; exact Nat.le_of_eq rfl) (hb hby at_109) (fun _ _ => ⟨rfl, e32, (by decide : 5 + 0 ≤ _), (by decide : 12 + 0 ≤ _)⟩)
    dsimp only [Pt.U, Pt.locs, Pt.cells, Pt.slots] at X33 l33 y33 z33 st33 hQ33
    subst l33 y33 z33
    obtain ⟨h33, e33⟩ : ∃ z, T33.heap = z := ⟨_, rfl⟩
    rw [e33] at hQ33
    obtain ⟨rfl, N33q, p33_0⟩ := hQ33
    have N33 := Fr.app N32 N33q
    rw [p33_0] at e33
    obtain ⟨cq34, kq34, q34a, q34b, q34c⟩ := isOf hZ e33 A20
    obtain ⟨_, _, ⟨T34, L34, k34, n34⟩, -, X34, ⟨Lc34, hQ34, l34, y34, z34⟩, st34⟩ := X33.virtualBack hx (y := y_12) (z := y_12) hown (mvT hZ (W 50 rfl)) (mvT hZ (W 51 rfl)) (notFace_of_selects (args := #[]) (mvT hZ (W 53 rfl))) (mvT hZ (W 53 rfl)) (mvT hZ (W 52 rfl)) (by decide) (backOf (W := 0) (port l Z a0 hw [] b20 p2 h28 n0 O29 p25_2) hZ (W 54 rfl) (W 29 rfl) (by decide) (by decide)) q34a q34c (g := (mkF m 124 #[iv p1, iv p2, iv p3, iv p4, rv b1, rv b17b, rv b20, rv b28b, iv 1, .unset] [.ref b20])) rfl (by rw [hml]; rfl) (Steps.refl _) (argsL := []) (rest := []) (lenOf pd_11 rfl) rfl (by show 2 * 0 + _ ≤ _; exact Nat.le_of_eq rfl) (hb hby at_124) (fun _ _ => ⟨rfl, e33, (by decide : 5 + 0 ≤ _), (by decide : 12 + 0 ≤ _)⟩)
    dsimp only [Pt.U, Pt.locs, Pt.cells, Pt.slots] at X34 l34 y34 z34 st34 hQ34
    subst l34 y34 z34
    obtain ⟨h34, e34⟩ : ∃ z, T34.heap = z := ⟨_, rfl⟩
    rw [e34] at hQ34
    obtain ⟨rfl, N34q, p34_0⟩ := hQ34
    have N34 := Fr.app N33 N34q
    rw [p34_0] at e34
    obtain ⟨cq35, kq35, q35a, q35b, q35c⟩ := isOf hZ e34 A20
    obtain ⟨_, _, ⟨T35, L35, k35, n35⟩, -, X35, ⟨Lc35, hQ35, l35, y35, z35⟩, st35⟩ := X34.virtualBack hx (y := y_13) (z := y_13) hown (mvT hZ (W 55 rfl)) (mvT hZ (W 56 rfl)) (notFace_of_selects (args := #[]) (mvT hZ (W 58 rfl))) (mvT hZ (W 58 rfl)) (mvT hZ (W 57 rfl)) (by decide) (backOf (W := 0) (host l Z a0 hw [] b20 b17b h28 n0 O29 p25_1) hZ (W 59 rfl) (W 29 rfl) (by decide) (by decide)) q35a q35c (g := (mkF m 133 #[iv p1, iv p2, iv p3, iv p4, rv b1, rv b17b, rv b20, rv b28b, iv 1, .unset] [.ref b20])) rfl (by rw [hml]; rfl) (Steps.refl _) (argsL := []) (rest := []) (lenOf pd_12 rfl) rfl (by show 2 * 0 + _ ≤ _; exact Nat.le_of_eq rfl) (hb hby at_133) (fun _ _ => ⟨rfl, e34, (by decide : 5 + 0 ≤ _), (by decide : 12 + 0 ≤ _)⟩)
    dsimp only [Pt.U, Pt.locs, Pt.cells, Pt.slots] at X35 l35 y35 z35 st35 hQ35
    subst l35 y35 z35
    obtain ⟨h35, e35⟩ : ∃ z, T35.heap = z := ⟨_, rfl⟩
    rw [e35] at hQ35
    obtain ⟨rfl, N35q, p35_0⟩ := hQ35
    have N35 := Fr.app N34 N35q
    rw [p35_0] at e35
    obtain ⟨cq36, kq36, q36a, q36b, q36c⟩ := isOf hZ e35 p17_2
    obtain ⟨_, _, ⟨T36, L36, k36, n36⟩, -, X36, ⟨Lc36, hQ36, l36, y36, z36⟩, st36⟩ := X35.virtualBack hx (y := y_14) (z := y_14) hown (mvT hZ (W 60 rfl)) (mvT hZ (W 61 rfl)) (notFace_of_selects (args := #[]) (mvT hZ (W 63 rfl))) (mvT hZ (W 63 rfl)) (mvT hZ (W 62 rfl)) (by decide) (backOf (W := 0) (eqself l Z a0 hw [] b17b h28 n0 O29 ) hZ (W 64 rfl) (W 3 rfl) (by decide) (by decide)) q36a q36c (g := (mkF m 138 #[iv p1, iv p2, iv p3, iv p4, rv b1, rv b17b, rv b20, rv b28b, iv 1, .unset] [.ref b17b, .ref b17b])) rfl (by rw [hml]; rfl) (Steps.refl _) (argsL := [.ref b17b]) (rest := []) (lenOf pd_13 rfl) rfl (by show 2 * 0 + _ ≤ _; exact Nat.le_of_eq rfl) (hb hby at_138) (fun _ _ => ⟨rfl, e35, (by decide : 5 + 0 ≤ _), (by decide : 12 + 0 ≤ _)⟩)
    dsimp only [Pt.U, Pt.locs, Pt.cells, Pt.slots] at X36 l36 y36 z36 st36 hQ36
    subst l36 y36 z36
    obtain ⟨h36, e36⟩ : ∃ z, T36.heap = z := ⟨_, rfl⟩
    rw [e36] at hQ36
    obtain ⟨rfl, N36q, p36_0⟩ := hQ36
    have N36 := Fr.app N35 N36q
    rw [p36_0] at e36
    obtain ⟨fs, hr, hrun, hended, hW, hsame⟩ := X36.leave (v := some (.int (1 : Int32))) (fun h => by rw [Bd.returns] at h; cases h)
    refine ⟨_, _, pre16 _ ?_, hrun, hended, _, _, rfl, ?_, ⟨_, rfl⟩, hW, hsame.mono (by decide) (by decide)⟩
    · show Sq p e below m T12 44 #[iv p1, iv p2, iv p3, iv p4, rv b1, .unset, .unset, .unset, .unset, .unset] [.int (p4 &&& (1 : Int32))] _
      refine XS.ifNo X12.here hx rfl (hb hby at_44) rfl ((if0 _ _).trans (feq hc44).1) ?_
      refine XS.iloadN X12.here hx rfl (hb hby at_47) rfl ?_
      show Sq p e below m T12 48 #[iv p1, iv p2, iv p3, iv p4, rv b1, .unset, .unset, .unset, .unset, .unset] [.int p1] _
      refine XS.bipush X12.here hx rfl (hb hby at_48) ?_
      refine XS.iushr X12.here hx rfl (hb hby at_50) rfl ?_
      show Sq p e below m T12 51 #[iv p1, iv p2, iv p3, iv p4, rv b1, .unset, .unset, .unset, .unset, .unset] [.int ((p1.toUInt32 >>> ((24 : Int32) &&& 31).toUInt32).toInt32)] _
      refine XS.sipush X12.here hx rfl (hb hby at_51) ?_
      refine XS.iand X12.here hx rfl (hb hby at_54) rfl ?_
      show Sq p e below m T12 55 #[iv p1, iv p2, iv p3, iv p4, rv b1, .unset, .unset, .unset, .unset, .unset] [.int (((p1.toUInt32 >>> ((24 : Int32) &&& 31).toUInt32).toInt32) &&& (255 : Int32))] _
      refine XS.i2c X12.here hx rfl (hb hby at_55) rfl ?_
      show Sq p e below m T12 56 #[iv p1, iv p2, iv p3, iv p4, rv b1, .unset, .unset, .unset, .unset, .unset] [.int ((((p1.toUInt32 >>> ((24 : Int32) &&& 31).toUInt32).toInt32) &&& (255 : Int32)).toUInt32.toUInt16.toUInt32.toInt32)] _
      refine st17 _ ?_
      show Sq p e below m T17 59 #[iv p1, iv p2, iv p3, iv p4, rv b1, .unset, .unset, .unset, .unset, .unset] [.ref b17b] _
      refine XS.goto X17.here hx rfl (pc0 := 59) (pc' := 71) rfl (hb hby at_59) (by decide) (by decide) ?_
      refine XS.astore X17.here hx rfl (hb hby at_71) rfl rfl rfl ?_
      show Sq p e below m T17 73 #[iv p1, iv p2, iv p3, iv p4, rv b1, rv b17b, .unset, .unset, .unset, .unset] [] _
      refine st20 _ ?_
      show Sq p e below m T20 76 #[iv p1, iv p2, iv p3, iv p4, rv b1, rv b17b, .unset, .unset, .unset, .unset] [.ref b20] _
      refine XS.dup X20.here hx rfl (hb hby at_76) rfl rfl ?_
      refine XS.aload X20.here hx rfl (hb hby at_77) rfl rfl ?_
      show Sq p e below m T20 79 #[iv p1, iv p2, iv p3, iv p4, rv b1, rv b17b, .unset, .unset, .unset, .unset] [.ref b17b, .ref b20, .ref b20] _
      refine XS.iloadN X20.here hx rfl (hb hby at_79) rfl ?_
      show Sq p e below m T20 80 #[iv p1, iv p2, iv p3, iv p4, rv b1, rv b17b, .unset, .unset, .unset, .unset] [.int p2, .ref b17b, .ref b20, .ref b20] _
      refine st25.trans ?_
      show Sq p e below m T25 83 #[iv p1, iv p2, iv p3, iv p4, rv b1, rv b17b, .unset, .unset, .unset, .unset] [.ref b20] _
      refine XS.astore X25.here hx rfl (hb hby at_83) rfl rfl rfl ?_
      refine XS.aload X25.here hx rfl (hb hby at_85) rfl rfl ?_
      show Sq p e below m T25 87 #[iv p1, iv p2, iv p3, iv p4, rv b1, rv b17b, rv b20, .unset, .unset, .unset] [.ref b20] _
      refine XS.iloadN X25.here hx rfl (hb hby at_87) rfl ?_
      show Sq p e below m T25 88 #[iv p1, iv p2, iv p3, iv p4, rv b1, rv b17b, rv b20, .unset, .unset, .unset] [.int p3, .ref b20] _
      refine st28.trans ?_
      show Sq p e below m T28 91 #[iv p1, iv p2, iv p3, iv p4, rv b1, rv b17b, rv b20, .unset, .unset, .unset] [.ref b28b] _
      refine XS.astore X28.here hx rfl (hb hby at_91) rfl rfl rfl ?_
      refine XS.aload X28.here hx rfl (hb hby at_93) rfl rfl ?_
      show Sq p e below m T28 95 #[iv p1, iv p2, iv p3, iv p4, rv b1, rv b17b, rv b20, rv b28b, .unset, .unset] [.ref b28b] _
      refine st31.trans ?_
      show Sq p e below m T31 98 #[iv p1, iv p2, iv p3, iv p4, rv b1, rv b17b, rv b20, rv b28b, .unset, .unset] [.int p3] _
      refine XS.iloadN X31.here hx rfl (hb hby at_98) rfl ?_
      refine XS.icmpNo X31.here hx rfl (hb hby at_99) rfl (teq (rfl : p3 = p3)).2 ?_
      show Sq p e below m T31 102 #[iv p1, iv p2, iv p3, iv p4, rv b1, rv b17b, rv b20, rv b28b, .unset, .unset] [] _
      refine XS.aload X31.here hx rfl (hb hby at_102) rfl rfl ?_
      show Sq p e below m T31 104 #[iv p1, iv p2, iv p3, iv p4, rv b1, rv b17b, rv b20, rv b28b, .unset, .unset] [.ref b28b] _
      refine st32.trans ?_
      show Sq p e below m T32 107 #[iv p1, iv p2, iv p3, iv p4, rv b1, rv b17b, rv b20, rv b28b, .unset, .unset] [.ref b17b] _
      refine XS.aload X32.here hx rfl (hb hby at_107) rfl rfl ?_
      show Sq p e below m T32 109 #[iv p1, iv p2, iv p3, iv p4, rv b1, rv b17b, rv b20, rv b28b, .unset, .unset] [.ref b17b, .ref b17b] _
      refine st33.trans ?_
      show Sq p e below m T33 112 #[iv p1, iv p2, iv p3, iv p4, rv b1, rv b17b, rv b20, rv b28b, .unset, .unset] [.int 1] _
      refine XS.ifNo X33.here hx rfl (hb hby at_112) rfl ((if0 _ _).trans (feq (by decide)).1) ?_
      refine XS.iconst X33.here hx rfl (hb hby at_115) ?_
      show Sq p e below m T33 116 #[iv p1, iv p2, iv p3, iv p4, rv b1, rv b17b, rv b20, rv b28b, .unset, .unset] [.int 1] _
      refine XS.goto X33.here hx rfl (pc0 := 116) (pc' := 120) rfl (hb hby at_116) (by decide) (by decide) ?_
      refine XS.istore X33.here hx rfl (hb hby at_120) rfl rfl ?_
      show Sq p e below m T33 122 #[iv p1, iv p2, iv p3, iv p4, rv b1, rv b17b, rv b20, rv b28b, iv 1, .unset] [] _
      refine XS.aload X33.here hx rfl (hb hby at_122) rfl rfl ?_
      show Sq p e below m T33 124 #[iv p1, iv p2, iv p3, iv p4, rv b1, rv b17b, rv b20, rv b28b, iv 1, .unset] [.ref b20] _
      refine st34.trans ?_
      show Sq p e below m T34 127 #[iv p1, iv p2, iv p3, iv p4, rv b1, rv b17b, rv b20, rv b28b, iv 1, .unset] [.int p2] _
      refine XS.iloadN X34.here hx rfl (hb hby at_127) rfl ?_
      refine XS.icmpNo X34.here hx rfl (hb hby at_128) rfl (teq (rfl : p2 = p2)).2 ?_
      show Sq p e below m T34 131 #[iv p1, iv p2, iv p3, iv p4, rv b1, rv b17b, rv b20, rv b28b, iv 1, .unset] [] _
      refine XS.aload X34.here hx rfl (hb hby at_131) rfl rfl ?_
      show Sq p e below m T34 133 #[iv p1, iv p2, iv p3, iv p4, rv b1, rv b17b, rv b20, rv b28b, iv 1, .unset] [.ref b20] _
      refine st35.trans ?_
      show Sq p e below m T35 136 #[iv p1, iv p2, iv p3, iv p4, rv b1, rv b17b, rv b20, rv b28b, iv 1, .unset] [.ref b17b] _
      refine XS.aload X35.here hx rfl (hb hby at_136) rfl rfl ?_
      show Sq p e below m T35 138 #[iv p1, iv p2, iv p3, iv p4, rv b1, rv b17b, rv b20, rv b28b, iv 1, .unset] [.ref b17b, .ref b17b] _
      refine st36.trans ?_
      show Sq p e below m T36 141 #[iv p1, iv p2, iv p3, iv p4, rv b1, rv b17b, rv b20, rv b28b, iv 1, .unset] [.int 1] _
      refine XS.ifNo X36.here hx rfl (hb hby at_141) rfl ((if0 _ _).trans (feq (by decide)).1) ?_
      refine XS.iconst X36.here hx rfl (hb hby at_144) ?_
      show Sq p e below m T36 145 #[iv p1, iv p2, iv p3, iv p4, rv b1, rv b17b, rv b20, rv b28b, iv 1, .unset] [.int 1] _
      refine XS.goto X36.here hx rfl (pc0 := 145) (pc' := 149) rfl (hb hby at_145) (by decide) (by decide) ?_
      refine XS.istore X36.here hx rfl (hb hby at_149) rfl rfl ?_
      show Sq p e below m T36 151 #[iv p1, iv p2, iv p3, iv p4, rv b1, rv b17b, rv b20, rv b28b, iv 1, iv 1] [] _
      refine XS.iload X36.here hx rfl (hb hby at_151) rfl ?_
      refine XS.ifNo X36.here hx rfl (hb hby at_153) rfl ((if0 _ _).trans (feq (by decide)).1) ?_
      show Sq p e below m T36 156 #[iv p1, iv p2, iv p3, iv p4, rv b1, rv b17b, rv b20, rv b28b, iv 1, iv 1] [] _
      refine XS.iload X36.here hx rfl (hb hby at_156) rfl ?_
      refine XS.ifNo X36.here hx rfl (hb hby at_158) rfl ((if0 _ _).trans (feq (by decide)).1) ?_
      show Sq p e below m T36 161 #[iv p1, iv p2, iv p3, iv p4, rv b1, rv b17b, rv b20, rv b28b, iv 1, iv 1] [] _
      refine XS.iconst X36.here hx rfl (hb hby at_161) ?_
      refine XS.goto X36.here hx rfl (pc0 := 162) (pc' := 166) rfl (hb hby at_162) (by decide) (by decide) ?_
      show Sq p e below m T36 166 #[iv p1, iv p2, iv p3, iv p4, rv b1, rv b17b, rv b20, rv b28b, iv 1, iv 1] [.int 1] _
      exact retN X36 hx (t := .boolean) Bd.returns (by simp) (hb hby at_166) hr
    · show Q_rm0 Z p1 p2 p3 p4 cs h0 n0 _ T36.heap _
      rw [e36]
      exact ⟨rfl, N36⟩
set_option maxRecDepth 65536 in
set_option maxHeartbeats 40000000 in
theorem comes_1 {Post : Tables → Env → Array Value → State → Outcome → State → Prop} (hpost : ∀ tb e args s v u, (limb_1_1.after args s (.returned v) u = true ∧ limb_1_2.after args s (.returned v) u = true ∧ True) → FrameEnd s (.returned v) u (Jvm.fieldLocs frame_1_writes args s ++ Jvm.arrayLocs frame_1_arrays args s ++ Jvm.staticLocs frame_1_statics s) 24 128 → Post tb e args s (.returned v) u) :
    ArmFor flags0 classFile x code maxLocals ret World_1 tables_1 room_1 Calls_1 rest_1 Pre_1 Post := by
  intro l hfl _ _ p e ha hc hk s m args below hf hA hF happ hP
  obtain ⟨hcalls, hrest, hpre⟩ := hP
  obtain ⟨-, -, -, hnamed, -, -, -, hat⟩ := (Spec.applies_iff hf).mp happ
  obtain ⟨hg, hn⟩ := and_e (Cond.before_iff.mp (show (Jvm.Cond.and given_1 narrow_1).before args s = true from hpre))
  obtain ⟨gc, gr0⟩ := and_e hg
  obtain ⟨ga0, gr1⟩ := and_e gr0
  obtain ⟨ga1, gr2⟩ := and_e gr1
  obtain ⟨ga2, gr3⟩ := and_e gr2
  obtain ⟨w0, w1, w2, w3, rfl⟩ : ∃ w0 w1 w2 w3 : Value, args = #[w0, w1, w2, w3] := by
    have hs : args.size = 4 := by simpa [Cond.value, given_1] using gc
    obtain ⟨L⟩ := args
    match L, hs with
    | [w0, w1, w2, w3], _ => exact ⟨w0, w1, w2, w3, rfl⟩
  have hw := fun d (hd : d ∈ tables_1) => atoms_spec (ws := Jvm.Cond.code x code maxLocals ret :: tables_1) hat d (List.mem_cons_of_mem _ hd)
  have W := fun (i : Nat) {d : Jvm.Cond} (h : tables_1[i]? = some d) => hw d (List.mem_of_getElem? h)
  obtain ⟨hsets, hown0⟩ := atoms_of _ (rest_1_c_eq ▸ (show rest_1_c.before _ s = true from hrest))
  obtain ⟨i0, ei0⟩ := is_v ga0
  obtain rfl : w0 = (.int i0) := Option.some.inj ei0
  obtain ⟨i1, ei1⟩ := is_v ga1
  obtain rfl : w1 = (.int i1) := Option.some.inj ei1
  obtain ⟨i2, ei2⟩ := is_v ga2
  obtain rfl : w2 = (.int i2) := Option.some.inj ei2
  obtain ⟨i3, ei3⟩ := is_v gr3
  obtain rfl : w3 = (.int i3) := Option.some.inj ei3
  obtain ⟨cs, evcs⟩ := is_v (Cond.before_iff.mp (hsets _ (List.mem_of_getElem? (i := 1) rfl)))
  have Scs := Sta.start evcs (Or.inl (hsets _ (List.mem_of_getElem? (i := 0) rfl)))
  have hcs := own_ne0 evcs (Cond.before_iff.mp (hsets _ (List.mem_of_getElem? (i := 2) rfl)))
  obtain ⟨n, o, h1, h2, h3, _, L, rfl, ⟨rfl, N⟩, hq⟩ := rm0 l s _ hw tables_1 i0 i1 i2 i3 cs s.heap s.heap.size (Old.start s) Scs hcs p e ha hc hk s m _ below hf ((Spec.applies_iff_loose hf).mp happ).1 ⟨rfl, State.Warmed39.refl s, rfl⟩ trivial
  refine ⟨n, _, h1, h2, h3, hpost _ _ _ _ _ _ ⟨Cond.after_iff.mpr rfl, Cond.after_iff.mpr (eq_i res_at (Term.int_eval (1)) rfl), trivial⟩ ⟨hq.1, hq.2.1, (hq.2.2.sift fun y hy => Or.inr (N y hy)).mono (by decide) (by decide)⟩⟩
theorem main_1_1 : Claimed_1_1 := comes_1 fun _ _ _ _ _ _ h hF => ⟨h.1, hF⟩
theorem main_1_2 : Claimed_1_2 := comes_1 fun _ _ _ _ _ _ h hF => ⟨h.2.1, hF⟩
end Jvm.Pilot.@@N@@
namespace Jvm.Pilot.@@N@@
open Jvm Jvm.ClassFile Sem Op Lib Jvm.Free Jvm.Stand Jvm.Pilot.@@N@@.Jvm.D
/-! MADE BY PROGRAM (witnessworld.py) out of the Statement's table words and the real class files: 21 classes; the members and pool entries that the words name. The judged class is class 1, her method 1. -/
namespace start1
open Jvm.ClassFile
def u (s : String) : CpInfo := .utf8 (stringToUtf16 s)
/-- a pool by its gaps: so many unusable entries, then the entry; so many at the end -/
def gap : Nat → List CpInfo → List CpInfo
  | 0, r => r
  | n + 1, r => .unusable :: gap n r
def poolList (es : List (Nat × CpInfo)) (last : Nat) : List CpInfo := es.foldr (fun e r => gap e.1 (e.2 :: r)) (gap last [])
def pool (es : List (Nat × CpInfo)) (last : Nat) : Array CpInfo := ⟨poolList es last⟩
def fileOf (pool : Array CpInfo) (this : Nat) (attrs : Array Attribute := #[]) (ms : Array MethodInfo := #[]) (fl : Nat := 33) (sup : Nat := 0) (ifs : Array Nat := #[]) (fds : Array FieldInfo := #[]) : ClassFile where
  minorVersion := 0
  majorVersion := 65
  constantPool := pool
  accessFlags := fl
  thisClass := this
  superClass := sup
  interfaces := ifs
  fields := fds
  methods := ms
  attributes := attrs
def plain (name : String) (sup : Option ClassId) : Class where
  name := name
  kind := .ordinary
  loader := none
  accessFlags := 33
  super := sup
  interfaces := #[]
  cf := none
  fields := #[]
  methods := #[]
  instanceTypes := #[]
  staticTypes := #[]
  resolved := #[]
  callSites := []
  init := .initialized
  statics := none
  mirror := none

def pool0 : Array CpInfo := pool [(5, u "<init>"), (0, u "()V"), (1, .class_ 10), (1, u "java/lang/Object")] 113

def k0c0 : Code := { maxStack := 0, maxLocals := 1, code := object_method_1_code, exceptionTable := #[], attributes := #[] }
def k0m0 : Method := { name := "<init>", desc := "()V", sig := { parameters := [], returnType := none }, accessFlags := 1, code := some k0c0 }
/-- java/lang/Object -/
def k0 : Class := { plain "java/lang/Object" none with
  accessFlags := 33
  interfaces := #[]
  cf := some (fileOf pool0 8 #[] #[{ accessFlags := 1, nameIndex := 5, descriptorIndex := 6, attributes := #[] }] 33 0 #[] #[])
  fields := #[]
  methods := #[k0m0]
  instanceTypes := #[]
  staticTypes := #[]
  resolved := Array.replicate 124 none
  statics := none }

def pool1 : Array CpInfo := pool [(2, .class_ 4), (1, u "java/lang/Object"), (0, u "<init>"), (0, u "()V"), (0, .methodref 8 9), (0, .class_ 10), (0, .nameAndType 11 12), (0, u "java/lang/String"), (0, u "valueOf"), (0, u "(C)Ljava/lang/String;"), (0, .methodref 8 14), (0, .nameAndType 5 15), (0, u "([C)V"), (0, .class_ 17), (0, u "com/example/latchkey/latchkey/HostPort"), (0, .methodref 16 19), (0, .nameAndType 5 20), (0, u "(Ljava/lang/String;I)V"), (0, .methodref 16 22), (0, .nameAndType 23 24), (0, u "withPort"), (0, u "(I)Lcom/example/latchkey/latchkey/HostPort;"), (0, .methodref 16 26), (0, .nameAndType 27 28), (0, u "port"), (0, u "()I"), (0, .methodref 16 30), (0, .nameAndType 31 32), (0, u "host"), (0, u "()Ljava/lang/String;"), (0, .methodref 8 34), (0, .nameAndType 35 36), (0, u "equals"), (0, u "(Ljava/lang/Object;)Z"), (0, .class_ 38), (0, u "com/example/latchkey/latchkey/HostPortWithPortPinLaw"), (2, u "law"), (0, u "(IIII)Z")] 5

def k1m0 : Method := { name := "<init>", desc := "()V", sig := { parameters := [], returnType := none }, accessFlags := 1, code := none }
def k1c1 : Code := { maxStack := 4, maxLocals := 10, code := code, exceptionTable := #[], attributes := #[] }
def k1m1 : Method := { name := "law", desc := "(IIII)Z", sig := { parameters := [.int, .int, .int, .int], returnType := some .boolean }, accessFlags := 9, code := some k1c1 }
/-- com/example/latchkey/latchkey/HostPortWithPortPinLaw -/
def k1 : Class := { plain "com/example/latchkey/latchkey/HostPortWithPortPinLaw" (some 0) with
  accessFlags := 49
  interfaces := #[]
  cf := some (fileOf pool1 37 #[] #[{ accessFlags := 1, nameIndex := 5, descriptorIndex := 6, attributes := #[] }, { accessFlags := 9, nameIndex := 41, descriptorIndex := 42, attributes := #[] }] 49 2 #[] #[])
  fields := #[]
  methods := #[k1m0, k1m1]
  instanceTypes := #[]
  staticTypes := #[]
  resolved := Array.replicate 48 none
  statics := none }

def pool2 : Array CpInfo := pool [(1, .class_ 2), (0, u "java/io/Serializable"), (0, .class_ 4), (0, u "java/lang/Object")] 2

/-- java/io/Serializable -/
def k2 : Class := { plain "java/io/Serializable" (some 0) with
  accessFlags := 1537
  interfaces := #[]
  cf := some (fileOf pool2 1 #[] #[] 1537 3 #[] #[])
  fields := #[]
  methods := #[]
  instanceTypes := #[]
  staticTypes := #[]
  resolved := Array.replicate 7 none
  statics := none }

def pool3 : Array CpInfo := pool [(1, .class_ 2), (0, u "java/lang/Comparable"), (0, .class_ 4), (0, u "java/lang/Object")] 7

/-- java/lang/Comparable -/
def k3 : Class := { plain "java/lang/Comparable" (some 0) with
  accessFlags := 1537
  interfaces := #[]
  cf := some (fileOf pool3 1 #[] #[] 1537 3 #[] #[])
  fields := #[]
  methods := #[]
  instanceTypes := #[]
  staticTypes := #[]
  resolved := Array.replicate 12 none
  statics := none }

def pool4 : Array CpInfo := pool [(2, .class_ 4), (1, u "java/lang/CharSequence"), (42, .class_ 48), (0, u "java/lang/CharSequence$1CodePointIterator"), (10, .class_ 60), (0, u "java/lang/CharSequence$1CharIterator"), (5, .class_ 67), (0, u "java/lang/Object")] 63

/-- java/lang/CharSequence -/
def k4 : Class := { plain "java/lang/CharSequence" (some 0) with
  accessFlags := 1537
  interfaces := #[]
  cf := some (fileOf pool4 2 #[.nestMembers #[47, 59]] #[] 1537 66 #[] #[])
  fields := #[]
  methods := #[]
  instanceTypes := #[]
  staticTypes := #[]
  resolved := Array.replicate 131 none
  statics := none }

def pool5 : Array CpInfo := pool [(1, .class_ 2), (0, u "java/lang/constant/Constable"), (0, .class_ 4), (0, u "java/lang/Object")] 6

/-- java/lang/constant/Constable -/
def k5 : Class := { plain "java/lang/constant/Constable" (some 0) with
  accessFlags := 1537
  interfaces := #[]
  cf := some (fileOf pool5 1 #[] #[] 1537 3 #[] #[])
  fields := #[]
  methods := #[]
  instanceTypes := #[]
  staticTypes := #[]
  resolved := Array.replicate 11 none
  statics := none }

def pool6 : Array CpInfo := pool [(1, .class_ 2), (0, u "java/lang/constant/ConstantDesc"), (0, .class_ 4), (0, u "java/lang/Object")] 32

/-- java/lang/constant/ConstantDesc -/
def k6 : Class := { plain "java/lang/constant/ConstantDesc" (some 0) with
  accessFlags := 1537
  interfaces := #[]
  cf := some (fileOf pool6 1 #[] #[] 1537 3 #[] #[])
  fields := #[]
  methods := #[]
  instanceTypes := #[]
  staticTypes := #[]
  resolved := Array.replicate 37 none
  statics := none }

def pool7 : Array CpInfo := pool [(1, .methodref 2 3), (0, .class_ 4), (0, .nameAndType 5 6), (0, u "java/lang/Object"), (0, u "<init>"), (0, u "()V"), (2, .fieldref 10 11), (0, .class_ 12), (0, .nameAndType 13 14), (0, u "java/lang/String"), (0, u "value"), (0, u "[B"), (0, .fieldref 10 16), (0, .nameAndType 17 18), (0, u "coder"), (0, u "B"), (2, u "hash"), (0, u "I"), (2, u "hashIsZero"), (0, u "Z"), (0, .methodref 10 28), (0, .nameAndType 5 29), (0, u "([CIILjava/lang/Void;)V"), (8, .fieldref 10 39), (0, .nameAndType 40 26), (0, u "COMPACT_STRINGS"), (1, .class_ 44), (1, u "java/lang/StringUTF16"), (0, u "compress"), (1, .methodref 42 48), (0, .nameAndType 49 50), (0, u "coderFromArrayLen"), (0, u "([BI)B"), (2, u "toBytes"), (53, .class_ 109), (1, u "java/lang/StringLatin1"), (67, .methodref 42 178), (0, .nameAndType 45 179), (0, u "([CII)[B"), (29, .methodref 10 210), (0, .nameAndType 5 211), (0, u "([BB)V"), (157, u "(C)Z"), (173, u "equals"), (29, u "(Ljava/lang/Object;)Z"), (1, .class_ 576), (0, u "java/lang/CharSequence"), (22, u "CASE_INSENSITIVE_ORDER"), (0, u "Ljava/util/Comparator;"), (181, u "valueOf"), (0, u "(C)Ljava/lang/String;"), (226, u "([C)V"), (4, .methodref 107 1016), (0, .nameAndType 1017 369), (0, u "canEncode"), (0, .methodref 107 1019), (0, .nameAndType 53 1020), (0, u "(C)[B"), (80, u "serialPersistentFields"), (0, u "[Ljava/io/ObjectStreamField;"), (0, .class_ 1104), (0, u "java/lang/String$CaseInsensitiveComparator"), (1, .class_ 1107), (0, u "java/io/Serializable"), (0, .class_ 1109), (0, u "java/lang/Comparable"), (0, .class_ 1111), (0, u "java/lang/constant/Constable"), (0, .class_ 1113), (0, u "java/lang/constant/ConstantDesc"), (2, u "serialVersionUID"), (0, u "J"), (3, u "REPL"), (0, u "C"), (2, u "LATIN1"), (1, u "UTF16")] 323

def k7m0 : Method := { name := "<init>", desc := "()V", sig := { parameters := [], returnType := none }, accessFlags := 1, code := none }
def k7c1 : Code := { maxStack := 5, maxLocals := 2, code := jdk_42_method_3_code, exceptionTable := #[], attributes := #[] }
def k7m1 : Method := { name := "<init>", desc := "([C)V", sig := { parameters := [(.array .char)], returnType := none }, accessFlags := 1, code := some k7c1 }
def k7c2 : Code := { maxStack := 2, maxLocals := 3, code := jdk_42_method_66_code, exceptionTable := #[], attributes := #[] }
def k7m2 : Method := { name := "equals", desc := "(Ljava/lang/Object;)Z", sig := { parameters := [(.object "java/lang/Object")], returnType := some .boolean }, accessFlags := 1, code := some k7c2 }
def k7c3 : Code := { maxStack := 4, maxLocals := 1, code := jdk_42_method_139_code, exceptionTable := #[], attributes := #[] }
def k7m3 : Method := { name := "valueOf", desc := "(C)Ljava/lang/String;", sig := { parameters := [.char], returnType := some (.object "java/lang/String") }, accessFlags := 9, code := some k7c3 }
def k7c4 : Code := { maxStack := 4, maxLocals := 6, code := jdk_42_method_149_code, exceptionTable := #[], attributes := #[] }
def k7m4 : Method := { name := "<init>", desc := "([CIILjava/lang/Void;)V", sig := { parameters := [(.array .char), .int, .int, (.object "java/lang/Void")], returnType := none }, accessFlags := 2, code := some k7c4 }
def k7c5 : Code := { maxStack := 2, maxLocals := 3, code := jdk_42_method_151_code, exceptionTable := #[], attributes := #[] }
def k7m5 : Method := { name := "<init>", desc := "([BB)V", sig := { parameters := [(.array .byte), .byte], returnType := none }, accessFlags := 0, code := some k7c5 }
/-- java/lang/String -/
def k7 : Class := { plain "java/lang/String" (some 0) with
  accessFlags := 49
  interfaces := #[2, 3, 4, 5, 6]
  cf := some (fileOf pool7 10 #[.nestMembers #[1103]] #[{ accessFlags := 1, nameIndex := 5, descriptorIndex := 6, attributes := #[] }, { accessFlags := 1, nameIndex := 5, descriptorIndex := 1010, attributes := #[] }, { accessFlags := 1, nameIndex := 543, descriptorIndex := 573, attributes := #[] }, { accessFlags := 9, nameIndex := 782, descriptorIndex := 783, attributes := #[] }, { accessFlags := 2, nameIndex := 5, descriptorIndex := 29, attributes := #[] }, { accessFlags := 0, nameIndex := 5, descriptorIndex := 211, attributes := #[] }] 49 2 #[1106, 1108, 575, 1110, 1112] #[{ accessFlags := 18, nameIndex := 13, descriptorIndex := 14, attributes := #[] }, { accessFlags := 18, nameIndex := 17, descriptorIndex := 18, attributes := #[] }, { accessFlags := 2, nameIndex := 21, descriptorIndex := 22, attributes := #[] }, { accessFlags := 2, nameIndex := 25, descriptorIndex := 26, attributes := #[] }, { accessFlags := 26, nameIndex := 1116, descriptorIndex := 1117, attributes := #[] }, { accessFlags := 24, nameIndex := 40, descriptorIndex := 26, attributes := #[] }, { accessFlags := 26, nameIndex := 1101, descriptorIndex := 1102, attributes := #[] }, { accessFlags := 26, nameIndex := 1121, descriptorIndex := 1122, attributes := #[] }, { accessFlags := 25, nameIndex := 599, descriptorIndex := 600, attributes := #[] }, { accessFlags := 24, nameIndex := 1125, descriptorIndex := 18, attributes := #[] }, { accessFlags := 24, nameIndex := 1127, descriptorIndex := 18, attributes := #[] }])
  fields := #[{ name := "value", type := (.array .byte), accessFlags := 18, slot := 0, constantValue := 0 }, { name := "coder", type := .byte, accessFlags := 18, slot := 1, constantValue := 0 }, { name := "hash", type := .int, accessFlags := 2, slot := 2, constantValue := 0 }, { name := "hashIsZero", type := .boolean, accessFlags := 2, slot := 3, constantValue := 0 }, { name := "serialVersionUID", type := .long, accessFlags := 26, slot := 0, constantValue := 0 }, { name := "COMPACT_STRINGS", type := .boolean, accessFlags := 24, slot := 1, constantValue := 0 }, { name := "serialPersistentFields", type := (.array (.object "java/io/ObjectStreamField")), accessFlags := 26, slot := 2, constantValue := 0 }, { name := "REPL", type := .char, accessFlags := 26, slot := 3, constantValue := 0 }, { name := "CASE_INSENSITIVE_ORDER", type := (.object "java/util/Comparator"), accessFlags := 25, slot := 4, constantValue := 0 }, { name := "LATIN1", type := .byte, accessFlags := 24, slot := 5, constantValue := 0 }, { name := "UTF16", type := .byte, accessFlags := 24, slot := 6, constantValue := 0 }]
  methods := #[k7m0, k7m1, k7m2, k7m3, k7m4, k7m5]
  instanceTypes := #[(.array .byte), .byte, .int, .boolean]
  staticTypes := #[.long, .boolean, (.array (.object "java/io/ObjectStreamField")), .char, (.object "java/util/Comparator"), .byte, .byte]
  resolved := Array.replicate 1451 none
  statics := some 0 }

def pool8 : Array CpInfo := pool [(4, .class_ 6), (1, u "java/lang/Object"), (0, u "<init>"), (0, u "()V"), (5, .class_ 16), (1, u "java/lang/StringLatin1"), (73, u "canEncode"), (14, u "(C)Z"), (15, u "$assertionsDisabled"), (0, u "Z"), (98, .class_ 223), (1, u "java/lang/StringLatin1$LinesSpliterator"), (156, u "toBytes"), (1, u "(C)[B"), (7, .class_ 391), (0, u "java/lang/StringLatin1$CharsSpliterator")] 3

def k8m0 : Method := { name := "<init>", desc := "()V", sig := { parameters := [], returnType := none }, accessFlags := 0, code := none }
def k8c1 : Code := { maxStack := 2, maxLocals := 1, code := jdk_43_method_3_code, exceptionTable := #[], attributes := #[] }
def k8m1 : Method := { name := "canEncode", desc := "(C)Z", sig := { parameters := [.char], returnType := some .boolean }, accessFlags := 9, code := some k8c1 }
def k8c2 : Code := { maxStack := 4, maxLocals := 1, code := jdk_43_method_46_code, exceptionTable := #[], attributes := #[] }
def k8m2 : Method := { name := "toBytes", desc := "(C)[B", sig := { parameters := [.char], returnType := some (.array .byte) }, accessFlags := 9, code := some k8c2 }
/-- java/lang/StringLatin1 -/
def k8 : Class := { plain "java/lang/StringLatin1" (some 0) with
  accessFlags := 48
  interfaces := #[]
  cf := some (fileOf pool8 14 #[.nestMembers #[390, 221]] #[{ accessFlags := 0, nameIndex := 7, descriptorIndex := 8, attributes := #[] }, { accessFlags := 9, nameIndex := 90, descriptorIndex := 105, attributes := #[] }, { accessFlags := 9, nameIndex := 380, descriptorIndex := 382, attributes := #[] }] 48 4 #[] #[{ accessFlags := 4120, nameIndex := 121, descriptorIndex := 122, attributes := #[] }])
  fields := #[{ name := "$assertionsDisabled", type := .boolean, accessFlags := 4120, slot := 0, constantValue := 0 }]
  methods := #[k8m0, k8m1, k8m2]
  instanceTypes := #[]
  staticTypes := #[.boolean]
  resolved := Array.replicate 395 none
  statics := none }

def pool9 : Array CpInfo := pool [(1, .methodref 2 3), (0, .class_ 4), (0, .nameAndType 5 6), (0, u "java/lang/Object"), (0, u "<init>"), (0, u "()V"), (0, .class_ 8), (0, u "java/lang/Record")] 13

def k9c0 : Code := { maxStack := 1, maxLocals := 1, code := jdk_30_method_1_code, exceptionTable := #[], attributes := #[] }
def k9m0 : Method := { name := "<init>", desc := "()V", sig := { parameters := [], returnType := none }, accessFlags := 4, code := some k9c0 }
/-- java/lang/Record -/
def k9 : Class := { plain "java/lang/Record" (some 0) with
  accessFlags := 1057
  interfaces := #[]
  cf := some (fileOf pool9 7 #[] #[{ accessFlags := 4, nameIndex := 5, descriptorIndex := 6, attributes := #[] }] 1057 2 #[] #[])
  fields := #[]
  methods := #[k9m0]
  instanceTypes := #[]
  staticTypes := #[]
  resolved := Array.replicate 22 none
  statics := none }

def pool10 : Array CpInfo := pool [(1, .methodref 2 3), (0, .class_ 4), (0, .nameAndType 5 6), (0, u "java/lang/Record"), (0, u "<init>"), (0, u "()V"), (0, .fieldref 8 9), (0, .class_ 10), (0, .nameAndType 11 12), (0, u "com/example/latchkey/latchkey/HostPort"), (0, u "host"), (0, u "Ljava/lang/String;"), (0, .fieldref 8 14), (0, .nameAndType 15 16), (0, u "port"), (0, u "I"), (2, u "FORM"), (0, u "Ljava/util/regex/Pattern;"), (58, .methodref 8 80), (0, .nameAndType 5 81), (0, u "(Ljava/lang/String;I)V"), (9, u "()I"), (18, u "MAX_PORT"), (8, u "withPort"), (0, u "(I)Lcom/example/latchkey/latchkey/HostPort;"), (1, u "()Ljava/lang/String;")] 33

def k10c0 : Code := { maxStack := 2, maxLocals := 3, code := prog_15_method_1_code, exceptionTable := #[], attributes := #[] }
def k10m0 : Method := { name := "<init>", desc := "(Ljava/lang/String;I)V", sig := { parameters := [(.object "java/lang/String"), .int], returnType := none }, accessFlags := 0, code := some k10c0 }
def k10c1 : Code := { maxStack := 4, maxLocals := 2, code := prog_15_method_4_code, exceptionTable := #[], attributes := #[] }
def k10m1 : Method := { name := "withPort", desc := "(I)Lcom/example/latchkey/latchkey/HostPort;", sig := { parameters := [.int], returnType := some (.object "com/example/latchkey/latchkey/HostPort") }, accessFlags := 0, code := some k10c1 }
def k10c2 : Code := { maxStack := 1, maxLocals := 1, code := prog_15_method_9_code, exceptionTable := #[], attributes := #[] }
def k10m2 : Method := { name := "host", desc := "()Ljava/lang/String;", sig := { parameters := [], returnType := some (.object "java/lang/String") }, accessFlags := 1, code := some k10c2 }
def k10c3 : Code := { maxStack := 1, maxLocals := 1, code := prog_15_method_10_code, exceptionTable := #[], attributes := #[] }
def k10m3 : Method := { name := "port", desc := "()I", sig := { parameters := [], returnType := some .int }, accessFlags := 1, code := some k10c3 }
/-- com/example/latchkey/latchkey/HostPort -/
def k10 : Class := { plain "com/example/latchkey/latchkey/HostPort" (some 9) with
  accessFlags := 48
  interfaces := #[]
  cf := some (fileOf pool10 8 #[] #[{ accessFlags := 0, nameIndex := 5, descriptorIndex := 81, attributes := #[] }, { accessFlags := 0, nameIndex := 119, descriptorIndex := 120, attributes := #[] }, { accessFlags := 1, nameIndex := 11, descriptorIndex := 122, attributes := #[] }, { accessFlags := 1, nameIndex := 15, descriptorIndex := 91, attributes := #[] }] 48 2 #[] #[{ accessFlags := 18, nameIndex := 11, descriptorIndex := 12, attributes := #[] }, { accessFlags := 18, nameIndex := 15, descriptorIndex := 16, attributes := #[] }, { accessFlags := 26, nameIndex := 19, descriptorIndex := 20, attributes := #[] }, { accessFlags := 24, nameIndex := 110, descriptorIndex := 16, attributes := #[] }])
  fields := #[{ name := "host", type := (.object "java/lang/String"), accessFlags := 18, slot := 0, constantValue := 0 }, { name := "port", type := .int, accessFlags := 18, slot := 1, constantValue := 0 }, { name := "FORM", type := (.object "java/util/regex/Pattern"), accessFlags := 26, slot := 0, constantValue := 0 }, { name := "MAX_PORT", type := .int, accessFlags := 24, slot := 1, constantValue := 0 }]
  methods := #[k10m0, k10m1, k10m2, k10m3]
  instanceTypes := #[(.object "java/lang/String"), .int]
  staticTypes := #[(.object "java/util/regex/Pattern"), .int]
  resolved := Array.replicate 156 none
  statics := none }

def pool11 : Array CpInfo := pool [(6, .class_ 8), (1, u "java/lang/Object"), (0, u "<init>"), (0, u "()V"), (1, .class_ 14), (1, u "java/lang/StringUTF16"), (31, u "$assertionsDisabled"), (0, u "Z"), (13, u "HI_BYTE_SHIFT"), (0, u "I"), (2, u "LO_BYTE_SHIFT"), (49, .methodref 12 116), (0, .nameAndType 117 118), (0, u "compress"), (0, u "([CI[BII)I"), (3, u "([CII)[B"), (138, u "coderFromArrayLen"), (0, u "([BI)B"), (106, .class_ 371), (1, u "java/lang/StringUTF16$LinesSpliterator"), (58, u "MAX_LENGTH"), (196, .class_ 628), (0, u "java/lang/StringUTF16$CodePointsSpliterator"), (0, .class_ 630), (0, u "java/lang/StringUTF16$CharsSpliterator")] 4

def k11m0 : Method := { name := "<init>", desc := "()V", sig := { parameters := [], returnType := none }, accessFlags := 0, code := none }
def k11c1 : Code := { maxStack := 2, maxLocals := 2, code := jdk_52_method_15_code, exceptionTable := #[], attributes := #[] }
def k11m1 : Method := { name := "coderFromArrayLen", desc := "([BI)B", sig := { parameters := [(.array .byte), .int], returnType := some .byte }, accessFlags := 8, code := some k11c1 }
def k11c2 : Code := { maxStack := 5, maxLocals := 6, code := jdk_52_method_16_code, exceptionTable := #[], attributes := #[] }
def k11m2 : Method := { name := "compress", desc := "([CII)[B", sig := { parameters := [(.array .char), .int, .int], returnType := some (.array .byte) }, accessFlags := 9, code := some k11c2 }
def k11c3 : Code := { maxStack := 3, maxLocals := 7, code := jdk_52_method_21_code, exceptionTable := #[], attributes := #[] }
def k11m3 : Method := { name := "compress", desc := "([CI[BII)I", sig := { parameters := [(.array .char), .int, (.array .byte), .int, .int], returnType := some .int }, accessFlags := 9, code := some k11c3 }
/-- java/lang/StringUTF16 -/
def k11 : Class := { plain "java/lang/StringUTF16" (some 0) with
  accessFlags := 48
  interfaces := #[]
  cf := some (fileOf pool11 12 #[.nestMembers #[627, 629, 369]] #[{ accessFlags := 0, nameIndex := 9, descriptorIndex := 10, attributes := #[] }, { accessFlags := 8, nameIndex := 261, descriptorIndex := 262, attributes := #[] }, { accessFlags := 9, nameIndex := 117, descriptorIndex := 122, attributes := #[] }, { accessFlags := 9, nameIndex := 117, descriptorIndex := 118, attributes := #[] }] 48 6 #[] #[{ accessFlags := 26, nameIndex := 61, descriptorIndex := 62, attributes := #[] }, { accessFlags := 26, nameIndex := 65, descriptorIndex := 62, attributes := #[] }, { accessFlags := 24, nameIndex := 430, descriptorIndex := 62, attributes := #[] }, { accessFlags := 4120, nameIndex := 46, descriptorIndex := 47, attributes := #[] }])
  fields := #[{ name := "HI_BYTE_SHIFT", type := .int, accessFlags := 26, slot := 0, constantValue := 0 }, { name := "LO_BYTE_SHIFT", type := .int, accessFlags := 26, slot := 1, constantValue := 0 }, { name := "MAX_LENGTH", type := .int, accessFlags := 24, slot := 2, constantValue := 0 }, { name := "$assertionsDisabled", type := .boolean, accessFlags := 4120, slot := 3, constantValue := 0 }]
  methods := #[k11m0, k11m1, k11m2, k11m3]
  instanceTypes := #[]
  staticTypes := #[.int, .int, .int, .boolean]
  resolved := Array.replicate 635 none
  statics := none }

def pool12 : Array CpInfo := pool [(2, .class_ 4), (1, u "java/lang/Object"), (0, u "<init>"), (0, u "()V"), (17, .class_ 26), (1, u "jdk/internal/util/Preconditions"), (28, .class_ 56), (0, u "jdk/internal/util/Preconditions$4"), (57, .class_ 115), (0, u "jdk/internal/util/Preconditions$1"), (7, u "SIOOBE_FORMATTER"), (0, u "Ljava/util/function/BiFunction;"), (0, .class_ 126), (0, u "jdk/internal/util/Preconditions$2"), (3, u "AIOOBE_FORMATTER"), (0, .class_ 132), (0, u "jdk/internal/util/Preconditions$3"), (3, u "IOOBE_FORMATTER")] 57

def k12m0 : Method := { name := "<init>", desc := "()V", sig := { parameters := [], returnType := none }, accessFlags := 1, code := none }
/-- jdk/internal/util/Preconditions -/
def k12 : Class := { plain "jdk/internal/util/Preconditions" (some 0) with
  accessFlags := 33
  interfaces := #[]
  cf := some (fileOf pool12 24 #[.nestMembers #[55, 131, 125, 114]] #[{ accessFlags := 1, nameIndex := 5, descriptorIndex := 6, attributes := #[] }] 33 2 #[] #[{ accessFlags := 25, nameIndex := 123, descriptorIndex := 124, attributes := #[] }, { accessFlags := 25, nameIndex := 130, descriptorIndex := 124, attributes := #[] }, { accessFlags := 25, nameIndex := 136, descriptorIndex := 124, attributes := #[] }])
  fields := #[{ name := "SIOOBE_FORMATTER", type := (.object "java/util/function/BiFunction"), accessFlags := 25, slot := 0, constantValue := 0 }, { name := "AIOOBE_FORMATTER", type := (.object "java/util/function/BiFunction"), accessFlags := 25, slot := 1, constantValue := 0 }, { name := "IOOBE_FORMATTER", type := (.object "java/util/function/BiFunction"), accessFlags := 25, slot := 2, constantValue := 0 }]
  methods := #[k12m0]
  instanceTypes := #[]
  staticTypes := #[(.object "java/util/function/BiFunction"), (.object "java/util/function/BiFunction"), (.object "java/util/function/BiFunction")]
  resolved := Array.replicate 194 none
  statics := some 1 }

def pool13 : Array CpInfo := pool [(9, u "<init>"), (6, .class_ 18), (1, u "java/lang/Object"), (0, u "()V"), (1, .class_ 23), (1, u "jdk/internal/util/ArraysSupport"), (0, u "LOG2_ARRAY_LONG_INDEX_SCALE"), (0, u "I"), (2, u "U"), (0, u "Ljdk/internal/misc/Unsafe;"), (8, u "BIG_ENDIAN"), (0, u "Z"), (8, u "LOG2_BYTE_BIT_SIZE"), (4, u "LOG2_ARRAY_INT_INDEX_SCALE"), (54, u "JLA"), (0, u "Ljdk/internal/access/JavaLangAccess;"), (11, u "LOG2_ARRAY_BOOLEAN_INDEX_SCALE"), (9, u "LOG2_ARRAY_BYTE_INDEX_SCALE"), (5, u "LOG2_ARRAY_CHAR_INDEX_SCALE"), (5, u "LOG2_ARRAY_SHORT_INDEX_SCALE"), (18, u "LOG2_ARRAY_FLOAT_INDEX_SCALE"), (24, u "LOG2_ARRAY_DOUBLE_INDEX_SCALE"), (89, u "T_BOOLEAN"), (2, u "T_CHAR"), (1, u "T_FLOAT"), (1, u "T_DOUBLE"), (1, u "T_BYTE"), (1, u "T_SHORT"), (1, u "T_INT"), (1, u "T_LONG"), (1, u "SOFT_MAX_ARRAY_LENGTH")] 83

def k13m0 : Method := { name := "<init>", desc := "()V", sig := { parameters := [], returnType := none }, accessFlags := 2, code := none }
/-- jdk/internal/util/ArraysSupport -/
def k13 : Class := { plain "jdk/internal/util/ArraysSupport" (some 0) with
  accessFlags := 33
  interfaces := #[]
  cf := some (fileOf pool13 21 #[] #[{ accessFlags := 2, nameIndex := 9, descriptorIndex := 19, attributes := #[] }] 33 16 #[] #[{ accessFlags := 24, nameIndex := 28, descriptorIndex := 29, attributes := #[] }, { accessFlags := 26, nameIndex := 38, descriptorIndex := 39, attributes := #[] }, { accessFlags := 25, nameIndex := 121, descriptorIndex := 25, attributes := #[] }, { accessFlags := 25, nameIndex := 131, descriptorIndex := 25, attributes := #[] }, { accessFlags := 25, nameIndex := 137, descriptorIndex := 25, attributes := #[] }, { accessFlags := 25, nameIndex := 143, descriptorIndex := 25, attributes := #[] }, { accessFlags := 25, nameIndex := 53, descriptorIndex := 25, attributes := #[] }, { accessFlags := 25, nameIndex := 24, descriptorIndex := 25, attributes := #[] }, { accessFlags := 25, nameIndex := 162, descriptorIndex := 25, attributes := #[] }, { accessFlags := 25, nameIndex := 187, descriptorIndex := 25, attributes := #[] }, { accessFlags := 26, nameIndex := 48, descriptorIndex := 25, attributes := #[] }, { accessFlags := 25, nameIndex := 277, descriptorIndex := 25, attributes := #[] }, { accessFlags := 25, nameIndex := 280, descriptorIndex := 25, attributes := #[] }, { accessFlags := 25, nameIndex := 282, descriptorIndex := 25, attributes := #[] }, { accessFlags := 25, nameIndex := 284, descriptorIndex := 25, attributes := #[] }, { accessFlags := 25, nameIndex := 286, descriptorIndex := 25, attributes := #[] }, { accessFlags := 25, nameIndex := 288, descriptorIndex := 25, attributes := #[] }, { accessFlags := 25, nameIndex := 290, descriptorIndex := 25, attributes := #[] }, { accessFlags := 25, nameIndex := 292, descriptorIndex := 25, attributes := #[] }, { accessFlags := 26, nameIndex := 108, descriptorIndex := 109, attributes := #[] }, { accessFlags := 25, nameIndex := 294, descriptorIndex := 25, attributes := #[] }])
  fields := #[{ name := "U", type := (.object "jdk/internal/misc/Unsafe"), accessFlags := 24, slot := 0, constantValue := 0 }, { name := "BIG_ENDIAN", type := .boolean, accessFlags := 26, slot := 1, constantValue := 0 }, { name := "LOG2_ARRAY_BOOLEAN_INDEX_SCALE", type := .int, accessFlags := 25, slot := 2, constantValue := 0 }, { name := "LOG2_ARRAY_BYTE_INDEX_SCALE", type := .int, accessFlags := 25, slot := 3, constantValue := 0 }, { name := "LOG2_ARRAY_CHAR_INDEX_SCALE", type := .int, accessFlags := 25, slot := 4, constantValue := 0 }, { name := "LOG2_ARRAY_SHORT_INDEX_SCALE", type := .int, accessFlags := 25, slot := 5, constantValue := 0 }, { name := "LOG2_ARRAY_INT_INDEX_SCALE", type := .int, accessFlags := 25, slot := 6, constantValue := 0 }, { name := "LOG2_ARRAY_LONG_INDEX_SCALE", type := .int, accessFlags := 25, slot := 7, constantValue := 0 }, { name := "LOG2_ARRAY_FLOAT_INDEX_SCALE", type := .int, accessFlags := 25, slot := 8, constantValue := 0 }, { name := "LOG2_ARRAY_DOUBLE_INDEX_SCALE", type := .int, accessFlags := 25, slot := 9, constantValue := 0 }, { name := "LOG2_BYTE_BIT_SIZE", type := .int, accessFlags := 26, slot := 10, constantValue := 0 }, { name := "T_BOOLEAN", type := .int, accessFlags := 25, slot := 11, constantValue := 0 }, { name := "T_CHAR", type := .int, accessFlags := 25, slot := 12, constantValue := 0 }, { name := "T_FLOAT", type := .int, accessFlags := 25, slot := 13, constantValue := 0 }, { name := "T_DOUBLE", type := .int, accessFlags := 25, slot := 14, constantValue := 0 }, { name := "T_BYTE", type := .int, accessFlags := 25, slot := 15, constantValue := 0 }, { name := "T_SHORT", type := .int, accessFlags := 25, slot := 16, constantValue := 0 }, { name := "T_INT", type := .int, accessFlags := 25, slot := 17, constantValue := 0 }, { name := "T_LONG", type := .int, accessFlags := 25, slot := 18, constantValue := 0 }, { name := "JLA", type := (.object "jdk/internal/access/JavaLangAccess"), accessFlags := 26, slot := 19, constantValue := 0 }, { name := "SOFT_MAX_ARRAY_LENGTH", type := .int, accessFlags := 25, slot := 20, constantValue := 0 }]
  methods := #[k13m0]
  instanceTypes := #[]
  staticTypes := #[(.object "jdk/internal/misc/Unsafe"), .boolean, .int, .int, .int, .int, .int, .int, .int, .int, .int, .int, .int, .int, .int, .int, .int, .int, .int, (.object "jdk/internal/access/JavaLangAccess"), .int]
  resolved := Array.replicate 378 none
  statics := none }

def pool14 : Array CpInfo := pool [(1, u "java/lang/Cloneable"), (0, .class_ 1), (0, u "java/lang/Object"), (0, .class_ 3)] 3

/-- java/lang/Cloneable -/
def k14 : Class := { plain "java/lang/Cloneable" (some 0) with
  accessFlags := 1537
  interfaces := #[]
  cf := some (fileOf pool14 2 #[] #[] 1537 4 #[] #[])
  fields := #[]
  methods := #[]
  instanceTypes := #[]
  staticTypes := #[]
  resolved := Array.replicate 8 none
  statics := none }

/-- the primitive byte -/
def k15 : Class := { plain "byte" none with kind := .primitive 'B', accessFlags := 0x411 }
/-- [B -/
def k16 : Class := { plain "[B" (some 0) with kind := .array 15 .byte, interfaces := #[14, 2], accessFlags := 1041 }

/-- the primitive char -/
def k17 : Class := { plain "char" none with kind := .primitive 'C', accessFlags := 0x411 }
/-- [C -/
def k18 : Class := { plain "[C" (some 0) with kind := .array 17 .char, interfaces := #[14, 2], accessFlags := 1041 }

/-- the primitive int -/
def k19 : Class := { plain "int" none with kind := .primitive 'I', accessFlags := 0x411 }
/-- [I -/
def k20 : Class := { plain "[I" (some 0) with kind := .array 19 .int, interfaces := #[14, 2], accessFlags := 1041 }

def heap : Heap := #[{ cls := 7, slots := #[.long 0, .int 1, .null, .int 0, .null, .int 0, .int 0], vm := .statics 7 },
  { cls := 12, slots := #[.null, .null, .null], vm := .statics 12 }]
def classes : Array Class := #[k0, k1, k2, k3, k4, k5, k6, k7, k8, k9, k10, k11, k12, k13, k14, k15, k16, k17, k18, k19, k20]
def interned : List (Array UInt16 × Addr) := []
def slotsUsed : Nat := 10
def theMethod : MethodId := ⟨1, 1⟩
def args0 : Array Value := #[.int 5, .int 80, .int 443, .int 0]
def aboutOver (below : List Frame) : State where
  vm := { classes := classes, interned := interned.toArray }
  heap := heap
  slotsUsed := slotsUsed
  threads := #[{ frames := .invoking theMethod args0 :: below }]
def below0 : List Frame := [.native { method := ⟨0, 0⟩, args := #[] }]
def about1 : State := aboutOver below0
def p0 : Program := .bare "" "" ""
def e0 : Env := launch0.env 0 0 0
theorem w_frames : about1.frames = Frame.invoking theMethod args0 :: below0 := rfl
set_option maxRecDepth 65536 in
theorem w_args : argsFit about1.vm theMethod args0 = true := by decide +kernel
set_option maxRecDepth 65536 in
theorem w_heap : heapFits about1 = true := by decide +kernel
set_option maxRecDepth 65536 in
theorem w_runnable : about1.curStatus? = some .runnable := by decide +kernel
set_option maxRecDepth 65536 in
theorem w_alone : about1.alone = true := by decide +kernel
set_option maxRecDepth 65536 in
theorem w_named : about1.methodNamed? x = some theMethod := by decide +kernel
set_option maxRecDepth 65536 in
theorem w_hears : about1.hears theMethod below0 = true := by decide +kernel
set_option maxRecDepth 65536 in
theorem w_ripe : about1.ripe theMethod args0 below0 = true := by decide +kernel
theorem w_running : about1.status = .running := rfl
set_option maxRecDepth 65536 in
theorem w_room : about1.hasRoom e0.platform room_1 = true :=
  launch0.hasRoom_least _ room_1 (by decide +kernel) (by decide +kernel) (by decide +kernel) (by decide +kernel) (by decide +kernel) (by decide +kernel)
theorem allAtoms_all (ts : List Jvm.Cond) (a : Array Jvm.Value) (st : Jvm.State) : (allAtoms ts).before a st = ts.all (fun c => c.before a st) := by
  induction ts with
  | nil => rfl
  | cons c t ih =>
    show (Jvm.Cond.and c (allAtoms t)).before a st = _
    rw [Jvm.Cond.before_and, ih, List.all_cons]
def words1 : List Jvm.Cond := Jvm.Cond.code x code maxLocals ret :: tables_1
/-- a 'code' word, met by the world's own term for the bytes: nothing is compared byte by byte -/
theorem code_word {y : MethodName} {bytes : ByteArray} {mx : Nat} {rt : Option FieldType} {a : Array Value} {s : State} {m : MethodId} {meth : Method} {c : Code} (h1 : s.methodNamed? y = some m) (h2 : s.vm.method? m = some meth) (h3 : meth.code = some c) (h4 : c.code = bytes)
    (h5 : (c.maxLocals == mx && c.exceptionTable.isEmpty && decide (c.maxStack ≤ mostOperands) && decide (meth.sig.returnType = rt) && !meth.locks && decide (parseMethodDescriptor y.desc = some meth.sig)) = true) : (Jvm.Cond.code y bytes mx rt).before a s = true := by
  simp only [Bool.and_eq_true, beq_iff_eq, Bool.not_eq_true', decide_eq_true_eq] at h5
  obtain ⟨⟨⟨⟨⟨g1, g2⟩, g3⟩, g4⟩, g5⟩, g6⟩ := h5
  simp [Cond.before, Cond.holds, Cond.value, h1, h2, h3, h4, g1, g2, g3, g4, g5, g6]
def isCode : Jvm.Cond → Bool
  | .code _ _ _ _ => true
  | _ => false
theorem all_split {L : List Jvm.Cond} {P : Jvm.Cond → Bool} (h1 : L.all (fun c => isCode c || P c) = true) (h2 : ∀ c ∈ L.filter isCode, P c = true) : L.all P = true := by
  refine List.all_eq_true.mpr fun c hc => ?_
  have h := List.all_eq_true.mp h1 c hc
  rcases Bool.eq_false_or_eq_true (isCode c) with hi | hi
  · exact h2 c (List.mem_filter.mpr ⟨hc, hi⟩)
  · simpa [hi] using h
set_option maxRecDepth 65536 in
theorem w_c0 : (Jvm.Cond.code x code maxLocals ret).before args0 about1 = true := code_word (m := ⟨1, 1⟩) (meth := k1m1) (c := k1c1) (by decide +kernel) rfl rfl rfl (by decide +kernel)
set_option maxRecDepth 65536 in
theorem w_c1 : (Jvm.Cond.code ({ cls := "java/lang/String", name := "valueOf", desc := "(C)Ljava/lang/String;" } : Jvm.MethodName) jdk_42_method_139_code (1 : Nat) (Option.some (Jvm.ClassFile.FieldType.object "java/lang/String"))).before args0 about1 = true := code_word (m := ⟨7, 3⟩) (meth := k7m3) (c := k7c3) (by decide +kernel) rfl rfl rfl (by decide +kernel)
set_option maxRecDepth 65536 in
theorem w_c2 : (Jvm.Cond.code ({ cls := "java/lang/StringLatin1", name := "canEncode", desc := "(C)Z" } : Jvm.MethodName) jdk_43_method_3_code (1 : Nat) (Option.some Jvm.ClassFile.FieldType.boolean)).before args0 about1 = true := code_word (m := ⟨8, 1⟩) (meth := k8m1) (c := k8c1) (by decide +kernel) rfl rfl rfl (by decide +kernel)
set_option maxRecDepth 65536 in
theorem w_c3 : (Jvm.Cond.code ({ cls := "java/lang/StringLatin1", name := "toBytes", desc := "(C)[B" } : Jvm.MethodName) jdk_43_method_46_code (1 : Nat) (Option.some (Jvm.ClassFile.FieldType.array Jvm.ClassFile.FieldType.byte))).before args0 about1 = true := code_word (m := ⟨8, 2⟩) (meth := k8m2) (c := k8c2) (by decide +kernel) rfl rfl rfl (by decide +kernel)
set_option maxRecDepth 65536 in
theorem w_c4 : (Jvm.Cond.code ({ cls := "java/lang/String", name := "<init>", desc := "([BB)V" } : Jvm.MethodName) jdk_42_method_151_code (3 : Nat) (Option.none : Option Jvm.ClassFile.FieldType)).before args0 about1 = true := code_word (m := ⟨7, 5⟩) (meth := k7m5) (c := k7c5) (by decide +kernel) rfl rfl rfl (by decide +kernel)
set_option maxRecDepth 65536 in
theorem w_c5 : (Jvm.Cond.code ({ cls := "java/lang/Object", name := "<init>", desc := "()V" } : Jvm.MethodName) object_method_1_code (1 : Nat) (Option.none : Option Jvm.ClassFile.FieldType)).before args0 about1 = true := code_word (m := ⟨0, 0⟩) (meth := k0m0) (c := k0c0) (by decide +kernel) rfl rfl rfl (by decide +kernel)
set_option maxRecDepth 65536 in
theorem w_c6 : (Jvm.Cond.code ({ cls := "com/example/latchkey/latchkey/HostPort", name := "<init>", desc := "(Ljava/lang/String;I)V" } : Jvm.MethodName) prog_15_method_1_code (3 : Nat) (Option.none : Option Jvm.ClassFile.FieldType)).before args0 about1 = true := code_word (m := ⟨10, 0⟩) (meth := k10m0) (c := k10c0) (by decide +kernel) rfl rfl rfl (by decide +kernel)
set_option maxRecDepth 65536 in
theorem w_c7 : (Jvm.Cond.code ({ cls := "java/lang/Record", name := "<init>", desc := "()V" } : Jvm.MethodName) jdk_30_method_1_code (1 : Nat) (Option.none : Option Jvm.ClassFile.FieldType)).before args0 about1 = true := code_word (m := ⟨9, 0⟩) (meth := k9m0) (c := k9c0) (by decide +kernel) rfl rfl rfl (by decide +kernel)
set_option maxRecDepth 65536 in
theorem w_c8 : (Jvm.Cond.code ({ cls := "com/example/latchkey/latchkey/HostPort", name := "withPort", desc := "(I)Lcom/example/latchkey/latchkey/HostPort;" } : Jvm.MethodName) prog_15_method_4_code (2 : Nat) (Option.some (Jvm.ClassFile.FieldType.object "com/example/latchkey/latchkey/HostPort"))).before args0 about1 = true := code_word (m := ⟨10, 1⟩) (meth := k10m1) (c := k10c1) (by decide +kernel) rfl rfl rfl (by decide +kernel)
set_option maxRecDepth 65536 in
theorem w_c9 : (Jvm.Cond.code ({ cls := "com/example/latchkey/latchkey/HostPort", name := "port", desc := "()I" } : Jvm.MethodName) prog_15_method_10_code (1 : Nat) (Option.some Jvm.ClassFile.FieldType.int)).before args0 about1 = true := code_word (m := ⟨10, 3⟩) (meth := k10m3) (c := k10c3) (by decide +kernel) rfl rfl rfl (by decide +kernel)
set_option maxRecDepth 65536 in
theorem w_c10 : (Jvm.Cond.code ({ cls := "com/example/latchkey/latchkey/HostPort", name := "host", desc := "()Ljava/lang/String;" } : Jvm.MethodName) prog_15_method_9_code (1 : Nat) (Option.some (Jvm.ClassFile.FieldType.object "java/lang/String"))).before args0 about1 = true := code_word (m := ⟨10, 2⟩) (meth := k10m2) (c := k10c2) (by decide +kernel) rfl rfl rfl (by decide +kernel)
set_option maxRecDepth 65536 in
theorem w_c11 : (Jvm.Cond.code ({ cls := "java/lang/String", name := "equals", desc := "(Ljava/lang/Object;)Z" } : Jvm.MethodName) jdk_42_method_66_code (3 : Nat) (Option.some Jvm.ClassFile.FieldType.boolean)).before args0 about1 = true := code_word (m := ⟨7, 2⟩) (meth := k7m2) (c := k7c2) (by decide +kernel) rfl rfl rfl (by decide +kernel)
set_option maxRecDepth 65536 in
theorem w_c12 : (Jvm.Cond.code ({ cls := "java/lang/String", name := "<init>", desc := "([C)V" } : Jvm.MethodName) jdk_42_method_3_code (2 : Nat) (Option.none : Option Jvm.ClassFile.FieldType)).before args0 about1 = true := code_word (m := ⟨7, 1⟩) (meth := k7m1) (c := k7c1) (by decide +kernel) rfl rfl rfl (by decide +kernel)
set_option maxRecDepth 65536 in
theorem w_c13 : (Jvm.Cond.code ({ cls := "java/lang/String", name := "<init>", desc := "([CIILjava/lang/Void;)V" } : Jvm.MethodName) jdk_42_method_149_code (6 : Nat) (Option.none : Option Jvm.ClassFile.FieldType)).before args0 about1 = true := code_word (m := ⟨7, 4⟩) (meth := k7m4) (c := k7c4) (by decide +kernel) rfl rfl rfl (by decide +kernel)
set_option maxRecDepth 65536 in
theorem w_c14 : (Jvm.Cond.code ({ cls := "java/lang/StringUTF16", name := "compress", desc := "([CII)[B" } : Jvm.MethodName) jdk_52_method_16_code (6 : Nat) (Option.some (Jvm.ClassFile.FieldType.array Jvm.ClassFile.FieldType.byte))).before args0 about1 = true := code_word (m := ⟨11, 2⟩) (meth := k11m2) (c := k11c2) (by decide +kernel) rfl rfl rfl (by decide +kernel)
set_option maxRecDepth 65536 in
theorem w_c15 : (Jvm.Cond.code ({ cls := "java/lang/StringUTF16", name := "compress", desc := "([CI[BII)I" } : Jvm.MethodName) jdk_52_method_21_code (7 : Nat) (Option.some Jvm.ClassFile.FieldType.int)).before args0 about1 = true := code_word (m := ⟨11, 3⟩) (meth := k11m3) (c := k11c3) (by decide +kernel) rfl rfl rfl (by decide +kernel)
set_option maxRecDepth 65536 in
theorem w_c16 : (Jvm.Cond.code ({ cls := "java/lang/StringUTF16", name := "coderFromArrayLen", desc := "([BI)B" } : Jvm.MethodName) jdk_52_method_15_code (2 : Nat) (Option.some Jvm.ClassFile.FieldType.byte)).before args0 about1 = true := code_word (m := ⟨11, 1⟩) (meth := k11m1) (c := k11c1) (by decide +kernel) rfl rfl rfl (by decide +kernel)
def codes1 : List Jvm.Cond := [Jvm.Cond.code x code maxLocals ret, Jvm.Cond.code ({ cls := "java/lang/String", name := "valueOf", desc := "(C)Ljava/lang/String;" } : Jvm.MethodName) jdk_42_method_139_code (1 : Nat) (Option.some (Jvm.ClassFile.FieldType.object "java/lang/String")), Jvm.Cond.code ({ cls := "java/lang/StringLatin1", name := "canEncode", desc := "(C)Z" } : Jvm.MethodName) jdk_43_method_3_code (1 : Nat) (Option.some Jvm.ClassFile.FieldType.boolean), Jvm.Cond.code ({ cls := "java/lang/StringLatin1", name := "toBytes", desc := "(C)[B" } : Jvm.MethodName) jdk_43_method_46_code (1 : Nat) (Option.some (Jvm.ClassFile.FieldType.array Jvm.ClassFile.FieldType.byte)), Jvm.Cond.code ({ cls := "java/lang/String", name := "<init>", desc := "([BB)V" } : Jvm.MethodName) jdk_42_method_151_code (3 : Nat) (Option.none : Option Jvm.ClassFile.FieldType), Jvm.Cond.code ({ cls := "java/lang/Object", name := "<init>", desc := "()V" } : Jvm.MethodName) object_method_1_code (1 : Nat) (Option.none : Option Jvm.ClassFile.FieldType), Jvm.Cond.code ({ cls := "com/example/latchkey/latchkey/HostPort", name := "<init>", desc := "(Ljava/lang/String;I)V" } : Jvm.MethodName) prog_15_method_1_code (3 : Nat) (Option.none : Option Jvm.ClassFile.FieldType), Jvm.Cond.code ({ cls := "java/lang/Record", name := "<init>", desc := "()V" } : Jvm.MethodName) jdk_30_method_1_code (1 : Nat) (Option.none : Option Jvm.ClassFile.FieldType), Jvm.Cond.code ({ cls := "com/example/latchkey/latchkey/HostPort", name := "withPort", desc := "(I)Lcom/example/latchkey/latchkey/HostPort;" } : Jvm.MethodName) prog_15_method_4_code (2 : Nat) (Option.some (Jvm.ClassFile.FieldType.object "com/example/latchkey/latchkey/HostPort")), Jvm.Cond.code ({ cls := "com/example/latchkey/latchkey/HostPort", name := "port", desc := "()I" } : Jvm.MethodName) prog_15_method_10_code (1 : Nat) (Option.some Jvm.ClassFile.FieldType.int), Jvm.Cond.code ({ cls := "com/example/latchkey/latchkey/HostPort", name := "host", desc := "()Ljava/lang/String;" } : Jvm.MethodName) prog_15_method_9_code (1 : Nat) (Option.some (Jvm.ClassFile.FieldType.object "java/lang/String")), Jvm.Cond.code ({ cls := "java/lang/String", name := "equals", desc := "(Ljava/lang/Object;)Z" } : Jvm.MethodName) jdk_42_method_66_code (3 : Nat) (Option.some Jvm.ClassFile.FieldType.boolean), Jvm.Cond.code ({ cls := "java/lang/String", name := "<init>", desc := "([C)V" } : Jvm.MethodName) jdk_42_method_3_code (2 : Nat) (Option.none : Option Jvm.ClassFile.FieldType), Jvm.Cond.code ({ cls := "java/lang/String", name := "<init>", desc := "([CIILjava/lang/Void;)V" } : Jvm.MethodName) jdk_42_method_149_code (6 : Nat) (Option.none : Option Jvm.ClassFile.FieldType), Jvm.Cond.code ({ cls := "java/lang/StringUTF16", name := "compress", desc := "([CII)[B" } : Jvm.MethodName) jdk_52_method_16_code (6 : Nat) (Option.some (Jvm.ClassFile.FieldType.array Jvm.ClassFile.FieldType.byte)), Jvm.Cond.code ({ cls := "java/lang/StringUTF16", name := "compress", desc := "([CI[BII)I" } : Jvm.MethodName) jdk_52_method_21_code (7 : Nat) (Option.some Jvm.ClassFile.FieldType.int), Jvm.Cond.code ({ cls := "java/lang/StringUTF16", name := "coderFromArrayLen", desc := "([BI)B" } : Jvm.MethodName) jdk_52_method_15_code (2 : Nat) (Option.some Jvm.ClassFile.FieldType.byte)]
set_option maxRecDepth 65536 in
theorem codes_eq : words1.filter isCode = codes1 := rfl
theorem w_codes : ∀ c ∈ words1.filter isCode, c.before args0 about1 = true := by
  rw [codes_eq]
  intro c hc
  simp only [codes1, List.mem_cons, List.not_mem_nil, or_false] at hc
  rcases hc with rfl | rfl | rfl | rfl | rfl | rfl | rfl | rfl | rfl | rfl | rfl | rfl | rfl | rfl | rfl | rfl | rfl
  · exact w_c0
  · exact w_c1
  · exact w_c2
  · exact w_c3
  · exact w_c4
  · exact w_c5
  · exact w_c6
  · exact w_c7
  · exact w_c8
  · exact w_c9
  · exact w_c10
  · exact w_c11
  · exact w_c12
  · exact w_c13
  · exact w_c14
  · exact w_c15
  · exact w_c16
set_option maxRecDepth 65536 in
theorem w_t1 : (words1.take 24).all (fun c => isCode c || c.before args0 about1) = true := by decide +kernel
set_option maxRecDepth 65536 in
theorem w_t2 : ((words1.drop 24).take 24).all (fun c => isCode c || c.before args0 about1) = true := by decide +kernel
set_option maxRecDepth 65536 in
theorem w_t3 : (((words1.drop 24).drop 24).take 24).all (fun c => isCode c || c.before args0 about1) = true := by decide +kernel
set_option maxRecDepth 65536 in
theorem w_t4 : (((words1.drop 24).drop 24).drop 24).all (fun c => isCode c || c.before args0 about1) = true := by decide +kernel
theorem w_tables : (allAtoms (Jvm.Cond.code x code maxLocals ret :: tables_1)).before args0 about1 = true := by
  rw [allAtoms_all]
  show words1.all (fun c => c.before args0 about1) = true
  refine all_split ?_ w_codes
  rw [← List.take_append_drop 24 words1, List.all_append, w_t1, ← List.take_append_drop 24 (words1.drop 24), List.all_append, w_t2, ← List.take_append_drop 24 ((words1.drop 24).drop 24), List.all_append, w_t3, w_t4]
  rfl
set_option maxRecDepth 65536 in
theorem w_rest : rest_1_c.before args0 about1 = true := by decide +kernel
set_option maxRecDepth 65536 in
theorem w_case : (Jvm.Cond.and given_1 narrow_1).before args0 about1 = true := by decide +kernel
theorem w_applies : (headSpec (Jvm.Cond.code x code maxLocals ret :: tables_1) room_1).applies x e0.platform about1 = true :=
  (Spec.applies_iff w_frames).mpr ⟨w_running, w_runnable, w_alone, w_named, w_hears, w_ripe, w_room, w_tables⟩
theorem atStart : AtStart classFile x code maxLocals ret World_1 tables_1 room_1 Calls_1 rest_1 Pre_1 launch0 p0 e0 about1 theMethod args0 below0 :=
  ⟨lists_1, trivial, launch0.admits_env _ _ _, launch0.least_env, fairChoices_fair.cas, fairChoices_fair.clock, w_frames, w_args, w_heap, w_applies, trivial, w_rest, w_case⟩
end start1
theorem witness_1 : WitnessClaimed_1 := ⟨start1.p0, start1.e0, start1.about1, start1.theMethod, start1.args0, start1.below0, start1.atStart⟩
end Jvm.Pilot.@@N@@
