import JvmDerived
import JvmDerived.Pilot.@@N@@Statement
import JvmDerived.Pilot.@@N@@Code
set_option linter.unusedVariables false
set_option linter.unusedSimpArgs false
namespace Jvm.RoadKit
open Sem ClassFile Op Lib Jvm.Stand Jvm.Free Jvm.LawKit
section New
variable {p : Program} {l : Launch} {e : Env} {R : Room} {s : State} {m : MethodId} {args : Array Value} {below : List Frame} {meth : Method} {c : Code} {T : State} {locs : List Loc} {cells slots : Nat}
theorem retI (X : Stand p l e R s m args below meth c T locs cells slots) (hx : p.tables.exec = Jvm.exec) {pc : Nat} {Ls : Array Slot} {z : Int32} {rest : List Value} (hret : meth.sig.returnType = some .int) (hd : decode c.code pc = .ok (.ireturn, 1)) {fs : List Frame}
    (hl : ∀ (f : JFrame) (acts : List Action), f.method = m → f.locked = none → f.entered = [] → (doReturn e (T.setTop f) acts (some (.int z))).1 = T.setFrames fs) : Steps p.tables e below (T.setTop (mkF m pc Ls (.int z :: rest))) (T.setFrames fs) := by
  have hm' : T.vm.method? m = some meth := X.method'
  have hn : narrow .int (.int z) = .int z := rfl
  show Steps p.tables e below (T.setTop { method := m, pc := pc, locals := Ls, stack := _ :: rest, locked := none }) _
  jvm_step X.here [X.here.top, hx, hd, hm', hret, hn]
  first | (intro acts; rw [hl _ acts rfl rfl rfl]) | rw [hl _ _ rfl rfl rfl]
  exact Steps.refl _
end New
end Jvm.RoadKit
namespace Jvm.Pilot.@@N@@
open Jvm Jvm.ClassFile Sem Op Lib Jvm.Free Jvm.Stand Jvm.LawKit Jvm.RoadKit Bundle Jvm.Pilot.@@N@@.Jvm.D
/-! the contracts' end: what is returned; nothing old is written; the heap stands as it stood -/
def QP (h0 : Heap) (n0 : Nat) (r : Option Value) (v : Option Value) (h : Heap) (L : List Loc) : Prop := v = r ∧ Fr n0 L ∧ h = h0
theorem own_fi {Z : State} {args : Array Value} {t : Term} {C n d : String} {k : Int32} {w : Addr} (ev : t.eval args Z none [] Z = some (.ref w)) (h : (Jvm.Cond.eq (.field t C n d) (.int k)).value args Z none Z [] = some true) : Fld Z Z.heap w C n d (.int k) :=
  Fld.start ((fld_at ev).symm.trans (eqv_i (Term.int_eval k) h))
theorem own_fr {Z : State} {args : Array Value} {t u : Term} {C n d : String} {w y : Addr} (ev : t.eval args Z none [] Z = some (.ref w)) (eu : u.eval args Z none [] Z = some (.ref y)) (h : (Jvm.Cond.eq (.field t C n d) u).value args Z none Z [] = some true) : Fld Z Z.heap w C n d (.ref y) := by
  obtain ⟨a, b, h1, h2, k1, k2⟩ := cmp_v (Or.inl h)
  cases eu.symm.trans h2
  have ra : a.isRef = true := k2.2
  have q : a = .ref y := gotT (eq_R h1 h2 ra rfl) h
  subst q
  exact Fld.start ((fld_at ev).symm.trans h1)
theorem own_nb {x : Int32} (h : x = (0 : Int32) ∨ x = (1 : Int32)) : narrow .boolean (.int x) = .int x ∧ fits .boolean (.int x) = true := by rcases h with rfl | rfl <;> decide
theorem own_nsr {Z : State} {a0 : Array Value} {O K : String} {n : Nat} (w : (Jvm.Cond.noSuperclass O).before a0 Z = true) (wk : (Jvm.Cond.instantiable K n).before a0 Z = true) (hn : O ≠ K) : NS Z O K := by
  obtain ⟨c, k, h1, h2, h3, -, -⟩ := Cond.noSuperclass_spec w
  obtain ⟨t, kt, g1, -⟩ := Cond.instantiable_spec wk
  have ne := ids_ne h1 g1 hn
  refine ⟨c, t, h1, g1, fun fuel => ?_⟩
  cases fuel with
  | zero => rfl
  | succ f => simp [Vm.isSubclassAux, ne, h2, h3]
theorem own_nsno {Z : State} {a0 : Array Value} {C S K : String} {n : Nat} (w : (Jvm.Cond.superclass C S).before a0 Z = true) (wk : (Jvm.Cond.instantiable K n).before a0 Z = true) (ns : NS Z C K) (hn : C ≠ K) : ∃ c t, Z.vm.findClass C = some c ∧ Z.vm.findClass K = some t ∧ Z.vm.assignable c t = false := by
  obtain ⟨c, t, h0, g0, n3⟩ := ns
  obtain ⟨p, k, kp, h1, h2, h3, h4, h5, -, h7⟩ := Cond.superclass_spec h0 w
  obtain ⟨t', k', g1, g2, g3, g4⟩ := Cond.instantiable_spec wk
  cases g0.symm.trans g1
  have ne := ids_ne h0 g0 hn
  refine ⟨c, t, h0, g0, ?_⟩
  show Z.vm.assignableAux (255 + 1) c t = false
  have g5 : k'.isInterface = false := by
    have := g4.1
    simp only [Bool.or_eq_false_iff] at this
    exact this.1
  simp [Vm.assignableAux, ne, h2, g2, h5, g3, g5, Vm.isSubclass, n3]
theorem own_len {Z : State} {args : Array Value} {t : Term} {w : Addr} {cl : Cell} {ty : FieldType} {k : Int32} {n : Nat} (ev : t.eval args Z none [] Z = some (.ref w)) (A : Arr Z Z.heap w cl ty) (h : (Jvm.Cond.eq (.length t) (.int k)).value args Z none Z [] = some true) (hk : k.toInt = n) : cl.slots.size = n := by
  have e := eqv_i (Term.int_eval k) h
  have ha := A.fin (Vm.Alike.refl Z.vm)
  by_cases hl : cl.slots.size < 2 ^ 31
  · rw [len_f ev ha hl] at e
    have h5 : cl.slots.size.toInt32 = k := Value.int.inj (Option.some.inj e)
    have h6 := len_toInt hl
    rw [h5] at h6
    omega
  · simp [Term.eval, ev, ha, hl] at e
theorem own_cache {Z : State} {args : Array Value} {t : Term} {F : Jvm.Cond} {a : Addr} {c : Cell} {K : String} (et : ∀ idx, t.eval args Z none idx Z = some (.ref a)) (A : Arr Z Z.heap a c (.object K)) (q : c.slots.size = 256) (h : (Jvm.Cond.all t (.and (.exactly (.elem t (.index 0)) K) F)).value args Z none Z [] = some true) :
    ∀ j : Int32, ¬ (j < (-128 : Int32)) → ¬ ((127 : Int32) < j) → ∃ w : Addr, c.slots[(j + (128 : Int32)).toNatClampNeg]? = some (.ref w) ∧ Exa Z Z.heap w K ∧ ¬ ((j + (128 : Int32)) < 0 ∨ c.slots.size ≤ (j + (128 : Int32)).toNatClampNeg) := by
  intro j h1 h2
  rw [Int32.lt_iff_toInt_lt] at h1 h2
  have k1 : (-128 : Int32).toInt = -128 := by decide
  have k2 : (127 : Int32).toInt = 127 := by decide
  have k3 : (128 : Int32).toInt = 128 := by decide
  have k0 : (0 : Int32).toInt = 0 := by decide
  have e1 := c_iadd j (128 : Int32)
  have e2 := rng32 (j + (128 : Int32))
  have nn : ¬ (j + (128 : Int32)) < 0 := by rw [Int32.lt_iff_toInt_lt]; omega
  have hlt : (j + (128 : Int32)).toNatClampNeg < c.slots.size := by
    have := nat_of nn
    rw [q]; omega
  obtain ⟨u1, u2⟩ := and_e (Cond.all_elim (et []) (A.fin (Vm.Alike.refl _)) h _ hlt)
  obtain ⟨box, eb⟩ := exa_v u1
  exact ⟨box, (elem_f (et _) (idx_at nn) (A.fin (Vm.Alike.refl _)) nn).symm.trans eb, exa_at eb u1, fun x => x.elim nn (fun y => Nat.not_lt.mpr y hlt)⟩
theorem own_m3 (x : Int32) : (x &&& (3 : Int32)) = (0 : Int32) ∨ (x &&& (3 : Int32)) = (1 : Int32) ∨ (x &&& (3 : Int32)) = (2 : Int32) ∨ (x &&& (3 : Int32)) = (3 : Int32) := by
  have h1 := c_mask x (3 : Int32) 2 (by decide) (by decide)
  generalize hz : x &&& (3 : Int32) = z at *
  have h3 : z.toInt = 0 ∨ z.toInt = 1 ∨ z.toInt = 2 ∨ z.toInt = 3 := by omega
  rcases h3 with h | h | h | h
  · exact Or.inl (Int32.toInt_inj.mp h)
  · exact Or.inr (Or.inl (Int32.toInt_inj.mp h))
  · exact Or.inr (Or.inr (Or.inl (Int32.toInt_inj.mp h)))
  · exact Or.inr (Or.inr (Or.inr (Int32.toInt_inj.mp h)))
def Pins (Z : State) (w_cache : Addr) (cl_cache : Cell) : Prop :=
  (Sta Z Z.heap "java/lang/Integer$IntegerCache" "high" "I" (.int (127 : Int32))) ∧
  (Sta Z Z.heap "java/lang/Integer$IntegerCache" "cache" "[Ljava/lang/Integer;" (.ref w_cache)) ∧
  (Arr Z Z.heap w_cache cl_cache (.object "java/lang/Integer")) ∧
  (∀ j : Int32, ¬ (j < (-128 : Int32)) → ¬ ((127 : Int32) < j) → ∃ w : Addr, cl_cache.slots[(j + (128 : Int32)).toNatClampNeg]? = some (.ref w) ∧ Exa Z Z.heap w "java/lang/Integer" ∧ ¬ ((j + (128 : Int32)) < 0 ∨ cl_cache.slots.size ≤ (j + (128 : Int32)).toNatClampNeg))
theorem d1_0 : decode prog_2_method_1_code 0 = .ok (.aload_n 0, 1) := by decide +kernel
theorem d1_1 : decode prog_2_method_1_code 1 = .ok (.invokespecial 1, 3) := by decide +kernel
theorem d1_4 : decode prog_2_method_1_code 4 = .ok (.aload_n 0, 1) := by decide +kernel
theorem d1_5 : decode prog_2_method_1_code 5 = .ok (.iload_n 1, 1) := by decide +kernel
theorem d1_6 : decode prog_2_method_1_code 6 = .ok (.putfield 7, 3) := by decide +kernel
theorem d1_9 : decode prog_2_method_1_code 9 = .ok (.aload_n 0, 1) := by decide +kernel
theorem d1_10 : decode prog_2_method_1_code 10 = .ok (.iload_n 2, 1) := by decide +kernel
theorem d1_11 : decode prog_2_method_1_code 11 = .ok (.putfield 13, 3) := by decide +kernel
theorem d1_14 : decode prog_2_method_1_code 14 = .ok (.return_, 1) := by decide +kernel
theorem ef_1_RII (m : MethodId) (x0 : Addr) (x1 : Int32) (x2 : Int32) : entryFrame m #[(.ref x0), (.int x1), (.int x2)] 3 = mkF m 0 #[.val (.ref x0), .val (.int x1), .val (.int x2)] [] := by first | (simp [entryFrame, mkF, argsToLocals, Value.category]; done) | rfl
theorem pn_com_example_demarc_demarc_ApplicationExceptions_Designation : plainName "com/example/demarc/demarc/ApplicationExceptions$Designation" = true := by first | (simp [plainName, overriddenIn]; done) | decide +kernel
def Qrm1_1 (Z : State) (w_cache : Addr) (cl_cache : Cell) (x1 : Addr) (i2 : Int32) (i3 : Int32) (h0 : Heap) (n0 : Nat) (v : Option Value) (h : Heap) (L : List Loc) : Prop := v = none ∧ Fr n0 L ∧ Keep h0 h [x1] ∧ Fld Z h x1 "com/example/demarc/demarc/ApplicationExceptions$Designation" "rollback" "Z" (.int i2) ∧ Fld Z h x1 "com/example/demarc/demarc/ApplicationExceptions$Designation" "inherited" "Z" (.int i3)
set_option maxRecDepth 65536 in
set_option maxHeartbeats 40000000 in
theorem rm1_1 (l : Launch) (Z : State) (a0 : Array Value) (hw : ∀ d ∈ tables_1, d.before a0 Z = true) (ws : List Jvm.Cond) (w_cache : Addr) (cl_cache : Cell) (x1 : Addr) (i2 : Int32) (i3 : Int32) (h0 : Heap) (n0 : Nat) (O0 : Old Z n0 h0) (P : Pins Z w_cache cl_cache) (E_x1 : Exa Z h0 x1 "com/example/demarc/demarc/ApplicationExceptions$Designation") (F_x1_rollback : Fld Z h0 x1 "com/example/demarc/demarc/ApplicationExceptions$Designation" "rollback" "Z" (.int (0 : Int32))) (hc0 : i2 = (0 : Int32) ∨ i2 = (1 : Int32)) (g_x1 : n0 ≤ x1) (F_x1_inherited : Fld Z h0 x1 "com/example/demarc/demarc/ApplicationExceptions$Designation" "inherited" "Z" (.int (0 : Int32))) (hc1 : i3 = (0 : Int32) ∨ i3 = (1 : Int32)) :
    MetFree l (⟨"com/example/demarc/demarc/ApplicationExceptions$Designation", "<init>", "(ZZ)V"⟩ : MethodName) (head1 (Jvm.Cond.code (⟨"com/example/demarc/demarc/ApplicationExceptions$Designation", "<init>", "(ZZ)V"⟩ : MethodName) prog_2_method_1_code 3 none :: ws) ({ frames := 1, cells := 0, slots := 0, locals := 12 } : Room)) (fun a U => a = #[(.ref x1), (.int i2), (.int i3)] ∧ Z.Warmed39 U.vm ∧ U.heap = h0) (fun _ _ _ _ _ => True) (fun _ U o U' => ∃ v L, o = .returned v ∧ Qrm1_1 Z w_cache cl_cache x1 i2 i3 h0 n0 v U'.heap L ∧ FrameEnd U o U' L ({ frames := 1, cells := 0, slots := 0, locals := 12 } : Room).cells ({ frames := 1, cells := 0, slots := 0, locals := 12 } : Room).slots) := by
  refine MetFree.of_bodySF (plainFor_of_name pn_com_example_demarc_demarc_ApplicationExceptions_Designation) hisR ?_
  intro p e s m args below meth c s₁ Bd hml0 hP hK
  obtain ⟨rfl, hZ, hh⟩ := hP
  have hx := Bd.exec
  have hby := Bd.bytes
  have hml : c.maxLocals = 3 := hml0
  have hown : s.vm.findClass "com/example/demarc/demarc/ApplicationExceptions$Designation" = some m.cls := findClass_of_methodNamed Bd.named
  have hnm := (name_of_methodNamed Bd.named Bd.method).1
  have X0 : Stand p l e ({ frames := 1, cells := 0, slots := 0, locals := 12 } : Room) s m #[(.ref x1), (.int i2), (.int i3)] below meth c s₁ [] 0 0 := Stand.of_body Bd
  have e0 : s₁.heap = h0 := by rw [← hh, Bd.state]; rfl
  have N0 := Fr.nil n0
  have Z0 : n0 ≤ h0.size := O0.1 ▸ O0.2.1
  have pre0 : ∀ t, Steps p.tables e below (s₁.setTop (mkF m 0 #[.val (.ref x1), .val (.int i2), .val (.int i3)] [])) t → Steps p.tables e below (s₁.setTop (entryFrame m #[(.ref x1), (.int i2), (.int i3)] 3)) t := fun t k => castTop (ef_1_RII m x1 i2 i3) k
  have Kr : Keep h0 h0 [x1] := Keep.refl h0 _
  obtain ⟨T1, X1, e1, st1⟩ := initO X0 hx hZ hown (hw _ (List.mem_of_getElem? (i := 6) rfl)) (hw _ (List.mem_of_getElem? (i := 7) rfl)) (hw _ (List.mem_of_getElem? (i := 8) rfl)) e0 (g := (mkF m 1 #[.val (.ref x1), .val (.int i2), .val (.int i3)] [(.ref x1)])) rfl (by rw [hml]; rfl) rfl (hb hby d1_1) (by decide) (W := 0) (by show 2 * 0 + _ ≤ _; exact Nat.le_of_eq rfl) (by decide)
  obtain ⟨T2, h2, X2, e2, W2, st2⟩ := putFN X1 hx hZ hown (hw _ (List.mem_of_getElem? (i := 9) rfl)) Via.refl e1 F_x1_rollback E_x1 (Or.inr ⟨(hw _ (List.mem_of_getElem? (i := 10) rfl)), rfl, hnm⟩) (hw _ (List.mem_of_getElem? (i := 1) rfl)) (ty := .boolean) (v' := (.int i2)) (by decide) (own_nb hc0).1 (own_nb hc0).2 (g := (mkF m 6 #[.val (.ref x1), .val (.int i2), .val (.int i3)] [(.int i2), (.ref x1)])) rfl rfl (hb hby d1_6)
  have Ks3 : Keep h0 (h2) [x1] := Kr.wr W2 (Or.inl (List.mem_of_getElem? (i := 0) rfl))
  have Zs3 : n0 ≤ (h2).size := Nat.le_trans Z0 (Keep.of_wr W2).1
  have Os3 : Old Z n0 (h2) := O0.wr W2 g_x1
  have Fw2 := Fld.same W2 F_x1_rollback
  have N2 := Fr.snoc X2 N0 g_x1
  have f4 := (Exa.wr W2 E_x1)
  have f5 := (Fld.other W2 F_x1_inherited (Or.inr (slot_ne (Or.inr (hw _ (List.mem_of_getElem? (i := 12) rfl))) (Or.inr (hw _ (List.mem_of_getElem? (i := 10) rfl))) (by decide) (t := .boolean) (t' := .boolean) (by decide) (by decide))))
  obtain ⟨T6, h6, X6, e6, W6, st6⟩ := putFN X2 hx hZ hown (hw _ (List.mem_of_getElem? (i := 11) rfl)) Via.refl e2 f5 f4 (Or.inr ⟨(hw _ (List.mem_of_getElem? (i := 12) rfl)), rfl, hnm⟩) (hw _ (List.mem_of_getElem? (i := 1) rfl)) (ty := .boolean) (v' := (.int i3)) (by decide) (own_nb hc1).1 (own_nb hc1).2 (g := (mkF m 11 #[.val (.ref x1), .val (.int i2), .val (.int i3)] [(.int i3), (.ref x1)])) rfl rfl (hb hby d1_11)
  have Ks7 : Keep h0 (h6) [x1] := Ks3.wr W6 (Or.inl (List.mem_of_getElem? (i := 0) rfl))
  have Zs7 : n0 ≤ (h6).size := Nat.le_trans Zs3 (Keep.of_wr W6).1
  have Os7 : Old Z n0 (h6) := Os3.wr W6 g_x1
  have Fw6 := Fld.same W6 f5
  have N6 := Fr.snoc X6 N2 g_x1
  have f8 := (Fld.other W6 Fw2 (Or.inr (slot_ne (Or.inr (hw _ (List.mem_of_getElem? (i := 10) rfl))) (Or.inr (hw _ (List.mem_of_getElem? (i := 12) rfl))) (by decide) (t := .boolean) (t' := .boolean) (by decide) (by decide))))
  obtain ⟨fs, hr, hrun, hended, hW, hsame⟩ := X6.leave (v := none) (fun _ => rfl)
  refine ⟨_, _, pre0 _ ?_, hrun, hended, _, _, rfl, ?_, ⟨_, rfl⟩, hW, hsame.mono (by decide) (by decide)⟩
  · show Steps p.tables e below (s₁.setTop (mkF m 0 #[.val (.ref x1), .val (.int i2), .val (.int i3)] [])) _
    refine XS.aloadN X0.here hx rfl (hb hby d1_0) rfl rfl ?_
    show Steps p.tables e below (s₁.setTop (mkF m 1 #[.val (.ref x1), .val (.int i2), .val (.int i3)] [(.ref x1)])) _
    refine st1 _ ?_
    show Steps p.tables e below (T1.setTop (mkF m 4 #[.val (.ref x1), .val (.int i2), .val (.int i3)] [])) _
    refine XS.aloadN X1.here hx rfl (hb hby d1_4) rfl rfl ?_
    show Steps p.tables e below (T1.setTop (mkF m 5 #[.val (.ref x1), .val (.int i2), .val (.int i3)] [(.ref x1)])) _
    refine XS.iloadN X1.here hx rfl (hb hby d1_5) rfl ?_
    show Steps p.tables e below (T1.setTop (mkF m 6 #[.val (.ref x1), .val (.int i2), .val (.int i3)] [(.int i2), (.ref x1)])) _
    refine st2 _ ?_
    show Steps p.tables e below (T2.setTop (mkF m 9 #[.val (.ref x1), .val (.int i2), .val (.int i3)] [])) _
    refine XS.aloadN X2.here hx rfl (hb hby d1_9) rfl rfl ?_
    show Steps p.tables e below (T2.setTop (mkF m 10 #[.val (.ref x1), .val (.int i2), .val (.int i3)] [(.ref x1)])) _
    refine XS.iloadN X2.here hx rfl (hb hby d1_10) rfl ?_
    show Steps p.tables e below (T2.setTop (mkF m 11 #[.val (.ref x1), .val (.int i2), .val (.int i3)] [(.int i3), (.ref x1)])) _
    refine st6 _ ?_
    show Steps p.tables e below (T6.setTop (mkF m 14 #[.val (.ref x1), .val (.int i2), .val (.int i3)] [])) _
    exact X6.returnOut hx Bd.returns (hb hby d1_14) hr
  · show Qrm1_1 Z w_cache cl_cache x1 i2 i3 h0 n0 _ T6.heap _
    rw [e6]
    exact ⟨rfl, N6, Ks7, f8, Fw6⟩
theorem pd_0 : parseMethodDescriptor "(ZZ)V" = some ⟨[.boolean, .boolean], none⟩ := by decide +kernel
theorem d4_0 : decode prog_2_method_2_code 0 = .ok (.aload_n 1, 1) := by decide +kernel
theorem d4_1 : decode prog_2_method_2_code 1 = .ok (.instanceof 8, 3) := by decide +kernel
theorem d4_4 : decode prog_2_method_2_code 4 = .ok (.ifCond .eq 35, 3) := by decide +kernel
theorem d4_7 : decode prog_2_method_2_code 7 = .ok (.aload_n 1, 1) := by decide +kernel
theorem d4_8 : decode prog_2_method_2_code 8 = .ok (.checkcast 8, 3) := by decide +kernel
theorem d4_11 : decode prog_2_method_2_code 11 = .ok (.getfield 7, 3) := by decide +kernel
theorem d4_14 : decode prog_2_method_2_code 14 = .ok (.aload_n 0, 1) := by decide +kernel
theorem d4_15 : decode prog_2_method_2_code 15 = .ok (.getfield 7, 3) := by decide +kernel
theorem d4_18 : decode prog_2_method_2_code 18 = .ok (.if_icmp .ne 21, 3) := by decide +kernel
theorem d4_39 : decode prog_2_method_2_code 39 = .ok (.iconst 0, 1) := by decide +kernel
theorem d4_40 : decode prog_2_method_2_code 40 = .ok (.ireturn, 1) := by decide +kernel
theorem ef_4_RR (m : MethodId) (x0 : Addr) (x1 : Addr) : entryFrame m #[(.ref x0), (.ref x1)] 2 = mkF m 0 #[.val (.ref x0), .val (.ref x1)] [] := by first | (simp [entryFrame, mkF, argsToLocals, Value.category]; done) | rfl
def Qrm4_2 (Z : State) (w_cache : Addr) (cl_cache : Cell) (x1 : Addr) (x2 : Addr) (i3 : Int32) (i4 : Int32) (h0 : Heap) (n0 : Nat) (v : Option Value) (h : Heap) (L : List Loc) : Prop := v = some (.int (0 : Int32)) ∧ Fr n0 L ∧ h = h0
set_option maxRecDepth 65536 in
set_option maxHeartbeats 40000000 in
theorem rm4_2 (l : Launch) (Z : State) (a0 : Array Value) (hw : ∀ d ∈ tables_1, d.before a0 Z = true) (ws : List Jvm.Cond) (w_cache : Addr) (cl_cache : Cell) (x1 : Addr) (x2 : Addr) (i3 : Int32) (i4 : Int32) (h0 : Heap) (n0 : Nat) (O0 : Old Z n0 h0) (P : Pins Z w_cache cl_cache) (E_x2 : Exa Z h0 x2 "com/example/demarc/demarc/ApplicationExceptions$Designation") (F_x2_rollback : Fld Z h0 x2 "com/example/demarc/demarc/ApplicationExceptions$Designation" "rollback" "Z" (.int i3)) (F_x1_rollback : Fld Z h0 x1 "com/example/demarc/demarc/ApplicationExceptions$Designation" "rollback" "Z" (.int i4)) (hc0 : ¬ (i4 = i3)) :
    MetFree l (⟨"com/example/demarc/demarc/ApplicationExceptions$Designation", "equals", "(Ljava/lang/Object;)Z"⟩ : MethodName) (head1 (Jvm.Cond.code (⟨"com/example/demarc/demarc/ApplicationExceptions$Designation", "equals", "(Ljava/lang/Object;)Z"⟩ : MethodName) prog_2_method_2_code 2 (some .boolean) :: ws) ({ frames := 0, cells := 0, slots := 0, locals := 0 } : Room)) (fun a U => a = #[(.ref x1), (.ref x2)] ∧ Z.Warmed39 U.vm ∧ U.heap = h0) (fun _ _ _ _ _ => True) (fun _ U o U' => ∃ v L, o = .returned v ∧ Qrm4_2 Z w_cache cl_cache x1 x2 i3 i4 h0 n0 v U'.heap L ∧ FrameEnd U o U' L ({ frames := 0, cells := 0, slots := 0, locals := 0 } : Room).cells ({ frames := 0, cells := 0, slots := 0, locals := 0 } : Room).slots) := by
  refine MetFree.of_bodySF (plainFor_of_name pn_com_example_demarc_demarc_ApplicationExceptions_Designation) hisR ?_
  intro p e s m args below meth c s₁ Bd hml0 hP hK
  obtain ⟨rfl, hZ, hh⟩ := hP
  have hx := Bd.exec
  have hby := Bd.bytes
  have hml : c.maxLocals = 2 := hml0
  have hown : s.vm.findClass "com/example/demarc/demarc/ApplicationExceptions$Designation" = some m.cls := findClass_of_methodNamed Bd.named
  have hnm := (name_of_methodNamed Bd.named Bd.method).1
  have X0 : Stand p l e ({ frames := 0, cells := 0, slots := 0, locals := 0 } : Room) s m #[(.ref x1), (.ref x2)] below meth c s₁ [] 0 0 := Stand.of_body Bd
  have e0 : s₁.heap = h0 := by rw [← hh, Bd.state]; rfl
  have N0 := Fr.nil n0
  have Z0 : n0 ≤ h0.size := O0.1 ▸ O0.2.1
  have pre0 : ∀ t, Steps p.tables e below (s₁.setTop (mkF m 0 #[.val (.ref x1), .val (.ref x2)] [])) t → Steps p.tables e below (s₁.setTop (entryFrame m #[(.ref x1), (.ref x2)] 2)) t := fun t k => castTop (ef_4_RR m x1 x2) k
  obtain ⟨T1, X1, e1, st1⟩ := instY X0 hx hZ hown (hw _ (List.mem_of_getElem? (i := 25) rfl)) e0 (Ins.self E_x2) (g := (mkF m 1 #[.val (.ref x1), .val (.ref x2)] [(.ref x2)])) rfl rfl (hb hby d4_1)
  obtain ⟨T2, X2, e2, st2⟩ := castY X1 hx hZ hown (hw _ (List.mem_of_getElem? (i := 25) rfl)) e1 (Ins.self E_x2) (g := (mkF m 8 #[.val (.ref x1), .val (.ref x2)] [(.ref x2)])) rfl rfl (hb hby d4_8)
  obtain ⟨T3, X3, e3, st3⟩ := getF X2 hx hZ hown (host := "") (Or.inl (hw _ (List.mem_of_getElem? (i := 9) rfl))) Via.refl e2 F_x2_rollback (g := (mkF m 11 #[.val (.ref x1), .val (.ref x2)] [(.ref x2)])) rfl rfl (hb hby d4_11)
  obtain ⟨T4, X4, e4, st4⟩ := getF X3 hx hZ hown (host := "") (Or.inl (hw _ (List.mem_of_getElem? (i := 9) rfl))) Via.refl e3 F_x1_rollback (g := (mkF m 15 #[.val (.ref x1), .val (.ref x2)] [(.ref x1), (.int i3)])) rfl rfl (hb hby d4_15)
  obtain ⟨fs, hr, hrun, hended, hW, hsame⟩ := X4.leave (v := some (.int (0 : Int32))) (fun h => by rw [Bd.returns] at h; cases h)
  refine ⟨_, _, pre0 _ ?_, hrun, hended, _, _, rfl, ?_, ⟨_, rfl⟩, hW, hsame.mono (by decide) (by decide)⟩
  · show Steps p.tables e below (s₁.setTop (mkF m 0 #[.val (.ref x1), .val (.ref x2)] [])) _
    refine XS.aloadN X0.here hx rfl (hb hby d4_0) rfl rfl ?_
    show Steps p.tables e below (s₁.setTop (mkF m 1 #[.val (.ref x1), .val (.ref x2)] [(.ref x2)])) _
    refine st1 _ ?_
    show Steps p.tables e below (T1.setTop (mkF m 4 #[.val (.ref x1), .val (.ref x2)] [(.int (1 : Int32))])) _
    refine XS.ifNo X1.here hx rfl (hb hby d4_4) rfl (by decide) ?_
    show Steps p.tables e below (T1.setTop (mkF m 7 #[.val (.ref x1), .val (.ref x2)] [])) _
    refine XS.aloadN X1.here hx rfl (hb hby d4_7) rfl rfl ?_
    show Steps p.tables e below (T1.setTop (mkF m 8 #[.val (.ref x1), .val (.ref x2)] [(.ref x2)])) _
    refine st2 _ ?_
    show Steps p.tables e below (T2.setTop (mkF m 11 #[.val (.ref x1), .val (.ref x2)] [(.ref x2)])) _
    refine st3 _ ?_
    show Steps p.tables e below (T3.setTop (mkF m 14 #[.val (.ref x1), .val (.ref x2)] [(.int i3)])) _
    refine XS.aloadN X3.here hx rfl (hb hby d4_14) rfl rfl ?_
    show Steps p.tables e below (T3.setTop (mkF m 15 #[.val (.ref x1), .val (.ref x2)] [(.ref x1), (.int i3)])) _
    refine st4 _ ?_
    show Steps p.tables e below (T4.setTop (mkF m 18 #[.val (.ref x1), .val (.ref x2)] [(.int i4), (.int i3)])) _
    refine XS.icmpYes X4.here hx rfl (pc0 := 18) (pc' := 39) rfl (hb hby d4_18) rfl (feq (fun q => hc0 (Eq.symm q))).2 (by decide) (by decide) ?_
    show Steps p.tables e below (T4.setTop (mkF m 39 #[.val (.ref x1), .val (.ref x2)] [])) _
    refine XS.iconst X4.here hx rfl (hb hby d4_39) ?_
    show Steps p.tables e below (T4.setTop (mkF m 40 #[.val (.ref x1), .val (.ref x2)] [(.int (0 : Int32))])) _
    exact retN X4 hx (t := .boolean) Bd.returns (by simp) (hb hby d4_40) hr
  · exact ⟨rfl, N0, e4⟩
theorem pd_1 : parseMethodDescriptor "(Ljava/lang/Object;)Z" = some ⟨[(.object "java/lang/Object")], some .boolean⟩ := by decide +kernel
def Qrm4_3 (Z : State) (w_cache : Addr) (cl_cache : Cell) (x1 : Addr) (x2 : Addr) (i3 : Int32) (i4 : Int32) (h0 : Heap) (n0 : Nat) (v : Option Value) (h : Heap) (L : List Loc) : Prop := v = some (.int (0 : Int32)) ∧ Fr n0 L ∧ h = h0
set_option maxRecDepth 65536 in
set_option maxHeartbeats 40000000 in
theorem rm4_3 (l : Launch) (Z : State) (a0 : Array Value) (hw : ∀ d ∈ tables_1, d.before a0 Z = true) (ws : List Jvm.Cond) (w_cache : Addr) (cl_cache : Cell) (x1 : Addr) (x2 : Addr) (i3 : Int32) (i4 : Int32) (h0 : Heap) (n0 : Nat) (O0 : Old Z n0 h0) (P : Pins Z w_cache cl_cache) (E_x2 : Exa Z h0 x2 "com/example/demarc/demarc/ApplicationExceptions$Designation") (F_x2_rollback : Fld Z h0 x2 "com/example/demarc/demarc/ApplicationExceptions$Designation" "rollback" "Z" (.int i3)) (F_x1_rollback : Fld Z h0 x1 "com/example/demarc/demarc/ApplicationExceptions$Designation" "rollback" "Z" (.int i4)) (hc0 : ¬ (i3 = i4)) :
    MetFree l (⟨"com/example/demarc/demarc/ApplicationExceptions$Designation", "equals", "(Ljava/lang/Object;)Z"⟩ : MethodName) (head1 (Jvm.Cond.code (⟨"com/example/demarc/demarc/ApplicationExceptions$Designation", "equals", "(Ljava/lang/Object;)Z"⟩ : MethodName) prog_2_method_2_code 2 (some .boolean) :: ws) ({ frames := 0, cells := 0, slots := 0, locals := 0 } : Room)) (fun a U => a = #[(.ref x1), (.ref x2)] ∧ Z.Warmed39 U.vm ∧ U.heap = h0) (fun _ _ _ _ _ => True) (fun _ U o U' => ∃ v L, o = .returned v ∧ Qrm4_3 Z w_cache cl_cache x1 x2 i3 i4 h0 n0 v U'.heap L ∧ FrameEnd U o U' L ({ frames := 0, cells := 0, slots := 0, locals := 0 } : Room).cells ({ frames := 0, cells := 0, slots := 0, locals := 0 } : Room).slots) := by
  refine MetFree.of_bodySF (plainFor_of_name pn_com_example_demarc_demarc_ApplicationExceptions_Designation) hisR ?_
  intro p e s m args below meth c s₁ Bd hml0 hP hK
  obtain ⟨rfl, hZ, hh⟩ := hP
  have hx := Bd.exec
  have hby := Bd.bytes
  have hml : c.maxLocals = 2 := hml0
  have hown : s.vm.findClass "com/example/demarc/demarc/ApplicationExceptions$Designation" = some m.cls := findClass_of_methodNamed Bd.named
  have hnm := (name_of_methodNamed Bd.named Bd.method).1
  have X0 : Stand p l e ({ frames := 0, cells := 0, slots := 0, locals := 0 } : Room) s m #[(.ref x1), (.ref x2)] below meth c s₁ [] 0 0 := Stand.of_body Bd
  have e0 : s₁.heap = h0 := by rw [← hh, Bd.state]; rfl
  have N0 := Fr.nil n0
  have Z0 : n0 ≤ h0.size := O0.1 ▸ O0.2.1
  have pre0 : ∀ t, Steps p.tables e below (s₁.setTop (mkF m 0 #[.val (.ref x1), .val (.ref x2)] [])) t → Steps p.tables e below (s₁.setTop (entryFrame m #[(.ref x1), (.ref x2)] 2)) t := fun t k => castTop (ef_4_RR m x1 x2) k
  obtain ⟨T1, X1, e1, st1⟩ := instY X0 hx hZ hown (hw _ (List.mem_of_getElem? (i := 25) rfl)) e0 (Ins.self E_x2) (g := (mkF m 1 #[.val (.ref x1), .val (.ref x2)] [(.ref x2)])) rfl rfl (hb hby d4_1)
  obtain ⟨T2, X2, e2, st2⟩ := castY X1 hx hZ hown (hw _ (List.mem_of_getElem? (i := 25) rfl)) e1 (Ins.self E_x2) (g := (mkF m 8 #[.val (.ref x1), .val (.ref x2)] [(.ref x2)])) rfl rfl (hb hby d4_8)
  obtain ⟨T3, X3, e3, st3⟩ := getF X2 hx hZ hown (host := "") (Or.inl (hw _ (List.mem_of_getElem? (i := 9) rfl))) Via.refl e2 F_x2_rollback (g := (mkF m 11 #[.val (.ref x1), .val (.ref x2)] [(.ref x2)])) rfl rfl (hb hby d4_11)
  obtain ⟨T4, X4, e4, st4⟩ := getF X3 hx hZ hown (host := "") (Or.inl (hw _ (List.mem_of_getElem? (i := 9) rfl))) Via.refl e3 F_x1_rollback (g := (mkF m 15 #[.val (.ref x1), .val (.ref x2)] [(.ref x1), (.int i3)])) rfl rfl (hb hby d4_15)
  obtain ⟨fs, hr, hrun, hended, hW, hsame⟩ := X4.leave (v := some (.int (0 : Int32))) (fun h => by rw [Bd.returns] at h; cases h)
  refine ⟨_, _, pre0 _ ?_, hrun, hended, _, _, rfl, ?_, ⟨_, rfl⟩, hW, hsame.mono (by decide) (by decide)⟩
  · show Steps p.tables e below (s₁.setTop (mkF m 0 #[.val (.ref x1), .val (.ref x2)] [])) _
    refine XS.aloadN X0.here hx rfl (hb hby d4_0) rfl rfl ?_
    show Steps p.tables e below (s₁.setTop (mkF m 1 #[.val (.ref x1), .val (.ref x2)] [(.ref x2)])) _
    refine st1 _ ?_
    show Steps p.tables e below (T1.setTop (mkF m 4 #[.val (.ref x1), .val (.ref x2)] [(.int (1 : Int32))])) _
    refine XS.ifNo X1.here hx rfl (hb hby d4_4) rfl (by decide) ?_
    show Steps p.tables e below (T1.setTop (mkF m 7 #[.val (.ref x1), .val (.ref x2)] [])) _
    refine XS.aloadN X1.here hx rfl (hb hby d4_7) rfl rfl ?_
    show Steps p.tables e below (T1.setTop (mkF m 8 #[.val (.ref x1), .val (.ref x2)] [(.ref x2)])) _
    refine st2 _ ?_
    show Steps p.tables e below (T2.setTop (mkF m 11 #[.val (.ref x1), .val (.ref x2)] [(.ref x2)])) _
    refine st3 _ ?_
    show Steps p.tables e below (T3.setTop (mkF m 14 #[.val (.ref x1), .val (.ref x2)] [(.int i3)])) _
    refine XS.aloadN X3.here hx rfl (hb hby d4_14) rfl rfl ?_
    show Steps p.tables e below (T3.setTop (mkF m 15 #[.val (.ref x1), .val (.ref x2)] [(.ref x1), (.int i3)])) _
    refine st4 _ ?_
    show Steps p.tables e below (T4.setTop (mkF m 18 #[.val (.ref x1), .val (.ref x2)] [(.int i4), (.int i3)])) _
    refine XS.icmpYes X4.here hx rfl (pc0 := 18) (pc' := 39) rfl (hb hby d4_18) rfl (feq hc0).2 (by decide) (by decide) ?_
    show Steps p.tables e below (T4.setTop (mkF m 39 #[.val (.ref x1), .val (.ref x2)] [])) _
    refine XS.iconst X4.here hx rfl (hb hby d4_39) ?_
    show Steps p.tables e below (T4.setTop (mkF m 40 #[.val (.ref x1), .val (.ref x2)] [(.int (0 : Int32))])) _
    exact retN X4 hx (t := .boolean) Bd.returns (by simp) (hb hby d4_40) hr
  · exact ⟨rfl, N0, e4⟩
theorem ef_0_III (m : MethodId) (x0 : Int32) (x1 : Int32) (x2 : Int32) : entryFrame m #[(.int x0), (.int x1), (.int x2)] maxLocals = mkF m 0 #[.val (.int x0), .val (.int x1), .val (.int x2), .unset, .unset, .unset, .unset, .unset, .unset, .unset, .unset] [] := by first | (simp [entryFrame, mkF, argsToLocals, Value.category, maxLocals]; done) | rfl
theorem pn_com_example_demarc_demarc_DesignationEqualsPinLaw : plainName "com/example/demarc/demarc/DesignationEqualsPinLaw" = true := by first | (simp [plainName, overriddenIn]; done) | decide +kernel
def Qrm0_0 (Z : State) (w_cache : Addr) (cl_cache : Cell) (p0 : Int32) (p1 : Int32) (p2 : Int32) (r1 : Int32) (j1 : Int32) (r2 : Int32) (j2 : Int32) (h0 : Heap) (n0 : Nat) (v : Option Value) (h : Heap) (L : List Loc) : Prop := v = some (.int (1 : Int32)) ∧ Fr n0 L ∧ Keep h0 h []
set_option maxRecDepth 65536 in
set_option maxHeartbeats 40000000 in
theorem rm0_0 (l : Launch) (Z : State) (a0 : Array Value) (hw : ∀ d ∈ tables_1, d.before a0 Z = true) (ws : List Jvm.Cond) (w_cache : Addr) (cl_cache : Cell) (p0 : Int32) (p1 : Int32) (p2 : Int32) (r1 : Int32) (j1 : Int32) (r2 : Int32) (j2 : Int32) (h0 : Heap) (n0 : Nat) (O0 : Old Z n0 h0) (P : Pins Z w_cache cl_cache) (hr1 : r1 = (if (p0 &&& (1 : Int32)) = (0 : Int32) then (0 : Int32) else (1 : Int32))) (hj1 : j1 = (if (p0 &&& (2 : Int32)) = (0 : Int32) then (0 : Int32) else (1 : Int32))) (hr2 : r2 = (if (p1 &&& (1 : Int32)) = (0 : Int32) then (0 : Int32) else (1 : Int32))) (hj2 : j2 = (if (p1 &&& (2 : Int32)) = (0 : Int32) then (0 : Int32) else (1 : Int32))) (k4 : (p2 &&& (3 : Int32)) = (0 : Int32)) (c0 : ¬ (r1 = r2)) :
    MetFree l x (head1 (Jvm.Cond.code x code maxLocals ret :: ws) room_1) (fun a U => a = #[(.int p0), (.int p1), (.int p2)] ∧ Z.Warmed39 U.vm ∧ U.heap = h0) (fun _ _ _ _ _ => True) (fun _ U o U' => ∃ v L, o = .returned v ∧ Qrm0_0 Z w_cache cl_cache p0 p1 p2 r1 j1 r2 j2 h0 n0 v U'.heap L ∧ FrameEnd U o U' L room_1.cells room_1.slots) := by
  refine MetFree.of_bodySF (plainFor_of_name pn_com_example_demarc_demarc_DesignationEqualsPinLaw) hisR ?_
  intro p e s m args below meth c s₁ Bd hml0 hP hK
  obtain ⟨rfl, hZ, hh⟩ := hP
  have hx := Bd.exec
  have hby := Bd.bytes
  have hml : c.maxLocals = 11 := hml0
  have hown : s.vm.findClass "com/example/demarc/demarc/DesignationEqualsPinLaw" = some m.cls := findClass_of_methodNamed Bd.named
  have hnm := (name_of_methodNamed Bd.named Bd.method).1
  have X0 : Stand p l e room_1 s m #[(.int p0), (.int p1), (.int p2)] below meth c s₁ [] 0 0 := Stand.of_body Bd
  have e0 : s₁.heap = h0 := by rw [← hh, Bd.state]; rfl
  have N0 := Fr.nil n0
  have Z0 : n0 ≤ h0.size := O0.1 ▸ O0.2.1
  have pre0 : ∀ t, Steps p.tables e below (s₁.setTop (mkF m 0 #[.val (.int p0), .val (.int p1), .val (.int p2), .unset, .unset, .unset, .unset, .unset, .unset, .unset, .unset] [])) t → Steps p.tables e below (s₁.setTop (entryFrame m #[(.int p0), (.int p1), (.int p2)] maxLocals)) t := fun t k => castTop (ef_0_III m p0 p1 p2) k
  have Kr : Keep h0 h0 [] := Keep.refl h0 _
  have hb_r1 : r1 = (0 : Int32) ∨ r1 = (1 : Int32) := by rw [hr1]; (repeat' split) <;> simp
  have sg2 : ∀ t, Steps p.tables e below (s₁.setTop (mkF m 11 #[.val (.int p0), .val (.int p1), .val (.int p2), .unset, .unset, .unset, .unset, .unset, .unset, .unset, .unset] [(.int r1)])) t → Steps p.tables e below (s₁.setTop (mkF m 3 #[.val (.int p0), .val (.int p1), .val (.int p2), .unset, .unset, .unset, .unset, .unset, .unset, .unset, .unset] [(.int (p0 &&& (1 : Int32)))])) t := by
    intro t kt
    show Steps p.tables e below (s₁.setTop (mkF m 3 #[.val (.int p0), .val (.int p1), .val (.int p2), .unset, .unset, .unset, .unset, .unset, .unset, .unset, .unset] [(.int (p0 &&& (1 : Int32)))])) _
    by_cases q1 : (p0 &&& (1 : Int32)) = (0 : Int32)
    · refine XS.ifYes X0.here hx rfl (pc0 := 3) (pc' := 10) rfl (hb hby at_3) rfl ((if0 _ _).trans (teq q1).1) (by decide) (by decide) ?_
      show Steps p.tables e below (s₁.setTop (mkF m 10 #[.val (.int p0), .val (.int p1), .val (.int p2), .unset, .unset, .unset, .unset, .unset, .unset, .unset, .unset] [])) _
      refine XS.iconst X0.here hx rfl (hb hby at_10) ?_
      rw [show r1 = (0 : Int32) from hr1.trans (if_pos q1)] at kt
      exact kt
    · refine XS.ifNo X0.here hx rfl (hb hby at_3) rfl ((if0 _ _).trans (feq q1).1) ?_
      show Steps p.tables e below (s₁.setTop (mkF m 6 #[.val (.int p0), .val (.int p1), .val (.int p2), .unset, .unset, .unset, .unset, .unset, .unset, .unset, .unset] [])) _
      refine XS.iconst X0.here hx rfl (hb hby at_6) ?_
      show Steps p.tables e below (s₁.setTop (mkF m 7 #[.val (.int p0), .val (.int p1), .val (.int p2), .unset, .unset, .unset, .unset, .unset, .unset, .unset, .unset] [(.int (1 : Int32))])) _
      refine XS.goto X0.here hx rfl (pc0 := 7) (pc' := 11) rfl (hb hby at_7) (by decide) (by decide) ?_
      rw [show r1 = (1 : Int32) from hr1.trans (if_neg q1)] at kt
      exact kt
  have hb_j1 : j1 = (0 : Int32) ∨ j1 = (1 : Int32) := by rw [hj1]; (repeat' split) <;> simp
  have sg4 : ∀ t, Steps p.tables e below (s₁.setTop (mkF m 23 #[.val (.int p0), .val (.int p1), .val (.int p2), .val (.int r1), .unset, .unset, .unset, .unset, .unset, .unset, .unset] [(.int j1)])) t → Steps p.tables e below (s₁.setTop (mkF m 15 #[.val (.int p0), .val (.int p1), .val (.int p2), .val (.int r1), .unset, .unset, .unset, .unset, .unset, .unset, .unset] [(.int (p0 &&& (2 : Int32)))])) t := by
    intro t kt
    show Steps p.tables e below (s₁.setTop (mkF m 15 #[.val (.int p0), .val (.int p1), .val (.int p2), .val (.int r1), .unset, .unset, .unset, .unset, .unset, .unset, .unset] [(.int (p0 &&& (2 : Int32)))])) _
    by_cases q3 : (p0 &&& (2 : Int32)) = (0 : Int32)
    · refine XS.ifYes X0.here hx rfl (pc0 := 15) (pc' := 22) rfl (hb hby at_15) rfl ((if0 _ _).trans (teq q3).1) (by decide) (by decide) ?_
      show Steps p.tables e below (s₁.setTop (mkF m 22 #[.val (.int p0), .val (.int p1), .val (.int p2), .val (.int r1), .unset, .unset, .unset, .unset, .unset, .unset, .unset] [])) _
      refine XS.iconst X0.here hx rfl (hb hby at_22) ?_
      rw [show j1 = (0 : Int32) from hj1.trans (if_pos q3)] at kt
      exact kt
    · refine XS.ifNo X0.here hx rfl (hb hby at_15) rfl ((if0 _ _).trans (feq q3).1) ?_
      show Steps p.tables e below (s₁.setTop (mkF m 18 #[.val (.int p0), .val (.int p1), .val (.int p2), .val (.int r1), .unset, .unset, .unset, .unset, .unset, .unset, .unset] [])) _
      refine XS.iconst X0.here hx rfl (hb hby at_18) ?_
      show Steps p.tables e below (s₁.setTop (mkF m 19 #[.val (.int p0), .val (.int p1), .val (.int p2), .val (.int r1), .unset, .unset, .unset, .unset, .unset, .unset, .unset] [(.int (1 : Int32))])) _
      refine XS.goto X0.here hx rfl (pc0 := 19) (pc' := 23) rfl (hb hby at_19) (by decide) (by decide) ?_
      rw [show j1 = (1 : Int32) from hj1.trans (if_neg q3)] at kt
      exact kt
  have hb_r2 : r2 = (0 : Int32) ∨ r2 = (1 : Int32) := by rw [hr2]; (repeat' split) <;> simp
  have sg6 : ∀ t, Steps p.tables e below (s₁.setTop (mkF m 36 #[.val (.int p0), .val (.int p1), .val (.int p2), .val (.int r1), .val (.int j1), .unset, .unset, .unset, .unset, .unset, .unset] [(.int r2)])) t → Steps p.tables e below (s₁.setTop (mkF m 28 #[.val (.int p0), .val (.int p1), .val (.int p2), .val (.int r1), .val (.int j1), .unset, .unset, .unset, .unset, .unset, .unset] [(.int (p1 &&& (1 : Int32)))])) t := by
    intro t kt
    show Steps p.tables e below (s₁.setTop (mkF m 28 #[.val (.int p0), .val (.int p1), .val (.int p2), .val (.int r1), .val (.int j1), .unset, .unset, .unset, .unset, .unset, .unset] [(.int (p1 &&& (1 : Int32)))])) _
    by_cases q5 : (p1 &&& (1 : Int32)) = (0 : Int32)
    · refine XS.ifYes X0.here hx rfl (pc0 := 28) (pc' := 35) rfl (hb hby at_28) rfl ((if0 _ _).trans (teq q5).1) (by decide) (by decide) ?_
      show Steps p.tables e below (s₁.setTop (mkF m 35 #[.val (.int p0), .val (.int p1), .val (.int p2), .val (.int r1), .val (.int j1), .unset, .unset, .unset, .unset, .unset, .unset] [])) _
      refine XS.iconst X0.here hx rfl (hb hby at_35) ?_
      rw [show r2 = (0 : Int32) from hr2.trans (if_pos q5)] at kt
      exact kt
    · refine XS.ifNo X0.here hx rfl (hb hby at_28) rfl ((if0 _ _).trans (feq q5).1) ?_
      show Steps p.tables e below (s₁.setTop (mkF m 31 #[.val (.int p0), .val (.int p1), .val (.int p2), .val (.int r1), .val (.int j1), .unset, .unset, .unset, .unset, .unset, .unset] [])) _
      refine XS.iconst X0.here hx rfl (hb hby at_31) ?_
      show Steps p.tables e below (s₁.setTop (mkF m 32 #[.val (.int p0), .val (.int p1), .val (.int p2), .val (.int r1), .val (.int j1), .unset, .unset, .unset, .unset, .unset, .unset] [(.int (1 : Int32))])) _
      refine XS.goto X0.here hx rfl (pc0 := 32) (pc' := 36) rfl (hb hby at_32) (by decide) (by decide) ?_
      rw [show r2 = (1 : Int32) from hr2.trans (if_neg q5)] at kt
      exact kt
  have hb_j2 : j2 = (0 : Int32) ∨ j2 = (1 : Int32) := by rw [hj2]; (repeat' split) <;> simp
  have sg8 : ∀ t, Steps p.tables e below (s₁.setTop (mkF m 49 #[.val (.int p0), .val (.int p1), .val (.int p2), .val (.int r1), .val (.int j1), .val (.int r2), .unset, .unset, .unset, .unset, .unset] [(.int j2)])) t → Steps p.tables e below (s₁.setTop (mkF m 41 #[.val (.int p0), .val (.int p1), .val (.int p2), .val (.int r1), .val (.int j1), .val (.int r2), .unset, .unset, .unset, .unset, .unset] [(.int (p1 &&& (2 : Int32)))])) t := by
    intro t kt
    show Steps p.tables e below (s₁.setTop (mkF m 41 #[.val (.int p0), .val (.int p1), .val (.int p2), .val (.int r1), .val (.int j1), .val (.int r2), .unset, .unset, .unset, .unset, .unset] [(.int (p1 &&& (2 : Int32)))])) _
    by_cases q7 : (p1 &&& (2 : Int32)) = (0 : Int32)
    · refine XS.ifYes X0.here hx rfl (pc0 := 41) (pc' := 48) rfl (hb hby at_41) rfl ((if0 _ _).trans (teq q7).1) (by decide) (by decide) ?_
      show Steps p.tables e below (s₁.setTop (mkF m 48 #[.val (.int p0), .val (.int p1), .val (.int p2), .val (.int r1), .val (.int j1), .val (.int r2), .unset, .unset, .unset, .unset, .unset] [])) _
      refine XS.iconst X0.here hx rfl (hb hby at_48) ?_
      rw [show j2 = (0 : Int32) from hj2.trans (if_pos q7)] at kt
      exact kt
    · refine XS.ifNo X0.here hx rfl (hb hby at_41) rfl ((if0 _ _).trans (feq q7).1) ?_
      show Steps p.tables e below (s₁.setTop (mkF m 44 #[.val (.int p0), .val (.int p1), .val (.int p2), .val (.int r1), .val (.int j1), .val (.int r2), .unset, .unset, .unset, .unset, .unset] [])) _
      refine XS.iconst X0.here hx rfl (hb hby at_44) ?_
      show Steps p.tables e below (s₁.setTop (mkF m 45 #[.val (.int p0), .val (.int p1), .val (.int p2), .val (.int r1), .val (.int j1), .val (.int r2), .unset, .unset, .unset, .unset, .unset] [(.int (1 : Int32))])) _
      refine XS.goto X0.here hx rfl (pc0 := 45) (pc' := 49) rfl (hb hby at_45) (by decide) (by decide) ?_
      rw [show j2 = (1 : Int32) from hj2.trans (if_neg q7)] at kt
      exact kt
  obtain ⟨T9, h9, X9, e9, E9, A9, D9, -, st9⟩ := newO X0 hx hZ hown (hw _ (List.mem_of_getElem? (i := 0) rfl)) (hw _ (List.mem_of_getElem? (i := 1) rfl)) (hw _ (List.mem_of_getElem? (i := 2) rfl)) e0 (g := (mkF m 51 #[.val (.int p0), .val (.int p1), .val (.int p2), .val (.int r1), .val (.int j1), .val (.int r2), .val (.int j2), .unset, .unset, .unset, .unset] [])) rfl (hb hby at_51) (by decide) (by decide)
  obtain ⟨b9, g9⟩ : ∃ z, z = (h0).size := ⟨_, rfl⟩
  rw [← g9] at A9 D9 st9
  have Zs10 : n0 ≤ (h9).size := Nat.le_trans Z0 E9.1
  have Os10 : Old Z n0 (h9) := O0.ext E9
  have Ks10 : Keep h0 (h9) [] := Kr.ext E9
  have D9_rollback : Fld Z h9 b9 "com/example/demarc/demarc/ApplicationExceptions$Designation" "rollback" "Z" (.int (0 : Int32)) := D9 (Or.inr (hw _ (List.mem_of_getElem? (i := 10) rfl))) (ty := .boolean) (by decide)
  have D9_inherited : Fld Z h9 b9 "com/example/demarc/demarc/ApplicationExceptions$Designation" "inherited" "Z" (.int (0 : Int32)) := D9 (Or.inr (hw _ (List.mem_of_getElem? (i := 12) rfl))) (ty := .boolean) (by decide)
  obtain ⟨_, _, ⟨T11, L11, k11, n11⟩, -, X11, ⟨Lc11, hQ11, l11, y11, z11⟩, st11⟩ := X9.specialBack hx (y := (⟨"com/example/demarc/demarc/ApplicationExceptions$Designation", "<init>", "(ZZ)V"⟩ : MethodName)) rfl hown (mvT hZ (hw _ (List.mem_of_getElem? (i := 3) rfl))) (mvT hZ (hw _ (List.mem_of_getElem? (i := 4) rfl))) (mvT hZ (hw _ (List.mem_of_getElem? (i := 5) rfl))) (by decide) (backOf (W := 1) (rm1_1 l Z a0 hw [] w_cache cl_cache b9 r1 j1 h9 n0 Os10 P A9 D9_rollback hb_r1 (Nat.le_trans Z0 (Nat.le_of_eq g9.symm)) D9_inherited hb_j1) hZ (hw _ (List.mem_of_getElem? (i := 5) rfl)) (hw _ (List.mem_of_getElem? (i := 2) rfl)) (by decide) (by decide)) (g := (mkF m 58 #[.val (.int p0), .val (.int p1), .val (.int p2), .val (.int r1), .val (.int j1), .val (.int r2), .val (.int j2), .unset, .unset, .unset, .unset] [(.int j1), (.int r1), (.ref b9), (.ref b9)])) rfl (by rw [hml]; rfl) (Steps.refl _) (a := b9) (argsL := [(.int r1), (.int j1)]) (rest := [(.ref b9)]) (lenOf pd_0 rfl) rfl (by show 2 * 0 + _ ≤ _; exact Nat.le_of_eq rfl) (hb hby at_58) (fun _ _ => ⟨rfl, e9, (by decide : 1 + 0 ≤ _), (by decide : 2 + 0 ≤ _)⟩)
  dsimp only [Pt.U, Pt.locs, Pt.cells, Pt.slots] at X11 l11 y11 z11 st11 hQ11
  subst l11 y11 z11
  obtain ⟨rfl, N11q, K11, q11_0, q11_1⟩ := hQ11
  have N11 := Fr.app N0 N11q
  have Ks12 : Keep h0 (T11.heap) [] := Ks10.trans K11 (allS (Or.inr (Nat.le_trans Kr.1 (Nat.le_of_eq g9.symm))) all0)
  have Zs12 : n0 ≤ (T11.heap).size := Nat.le_trans Zs10 K11.1
  have Os12 : Old Z n0 (T11.heap) := Os10.keep K11 (allS (Nat.le_trans Z0 (Nat.le_of_eq g9.symm)) all0)
  obtain ⟨T13, h13, X13, e13, E13, A13, D13, -, st13⟩ := newO X11 hx hZ hown (hw _ (List.mem_of_getElem? (i := 0) rfl)) (hw _ (List.mem_of_getElem? (i := 1) rfl)) (hw _ (List.mem_of_getElem? (i := 2) rfl)) rfl (g := (mkF m 63 #[.val (.int p0), .val (.int p1), .val (.int p2), .val (.int r1), .val (.int j1), .val (.int r2), .val (.int j2), .val (.ref b9), .unset, .unset, .unset] [])) rfl (hb hby at_63) (by decide) (by decide)
  obtain ⟨b13, g13⟩ : ∃ z, z = (T11.heap).size := ⟨_, rfl⟩
  rw [← g13] at A13 D13 st13
  have Zs14 : n0 ≤ (h13).size := Nat.le_trans Zs12 E13.1
  have Os14 : Old Z n0 (h13) := Os12.ext E13
  have Ks14 : Keep h0 (h13) [] := Ks12.ext E13
  have D13_rollback : Fld Z h13 b13 "com/example/demarc/demarc/ApplicationExceptions$Designation" "rollback" "Z" (.int (0 : Int32)) := D13 (Or.inr (hw _ (List.mem_of_getElem? (i := 10) rfl))) (ty := .boolean) (by decide)
  have D13_inherited : Fld Z h13 b13 "com/example/demarc/demarc/ApplicationExceptions$Designation" "inherited" "Z" (.int (0 : Int32)) := D13 (Or.inr (hw _ (List.mem_of_getElem? (i := 12) rfl))) (ty := .boolean) (by decide)
  obtain ⟨_, _, ⟨T15, L15, k15, n15⟩, -, X15, ⟨Lc15, hQ15, l15, y15, z15⟩, st15⟩ := X13.specialBack hx (y := (⟨"com/example/demarc/demarc/ApplicationExceptions$Designation", "<init>", "(ZZ)V"⟩ : MethodName)) rfl hown (mvT hZ (hw _ (List.mem_of_getElem? (i := 3) rfl))) (mvT hZ (hw _ (List.mem_of_getElem? (i := 4) rfl))) (mvT hZ (hw _ (List.mem_of_getElem? (i := 5) rfl))) (by decide) (backOf (W := 1) (rm1_1 l Z a0 hw [] w_cache cl_cache b13 r2 j2 h13 n0 Os14 P A13 D13_rollback hb_r2 (Nat.le_trans Zs12 (Nat.le_of_eq g13.symm)) D13_inherited hb_j2) hZ (hw _ (List.mem_of_getElem? (i := 5) rfl)) (hw _ (List.mem_of_getElem? (i := 2) rfl)) (by decide) (by decide)) (g := (mkF m 71 #[.val (.int p0), .val (.int p1), .val (.int p2), .val (.int r1), .val (.int j1), .val (.int r2), .val (.int j2), .val (.ref b9), .unset, .unset, .unset] [(.int j2), (.int r2), (.ref b13), (.ref b13)])) rfl (by rw [hml]; rfl) (Steps.refl _) (a := b13) (argsL := [(.int r2), (.int j2)]) (rest := [(.ref b13)]) (lenOf pd_0 rfl) rfl (by show 2 * 0 + _ ≤ _; exact Nat.le_of_eq rfl) (hb hby at_71) (fun _ _ => ⟨rfl, e13, (by decide : 2 + 0 ≤ _), (by decide : 4 + 0 ≤ _)⟩)
  dsimp only [Pt.U, Pt.locs, Pt.cells, Pt.slots] at X15 l15 y15 z15 st15 hQ15
  subst l15 y15 z15
  obtain ⟨rfl, N15q, K15, q15_0, q15_1⟩ := hQ15
  have N15 := Fr.app N11 N15q
  have Ks16 : Keep h0 (T15.heap) [] := Ks14.trans K15 (allS (Or.inr (Nat.le_trans Ks12.1 (Nat.le_of_eq g13.symm))) all0)
  have Zs16 : n0 ≤ (T15.heap).size := Nat.le_trans Zs14 K15.1
  have Os16 : Old Z n0 (T15.heap) := Os14.keep K15 (allS (Nat.le_trans Zs12 (Nat.le_of_eq g13.symm)) all0)
  have f17 := (((A9.keep K11).ext E13).keep K15)
  have f18 := (A13.keep K15)
  have f19 := ((q11_0.ext E13).keep K15 (ninS (Nat.ne_of_lt (Nat.lt_of_lt_of_le (q11_0).lt (Nat.le_of_eq g13.symm))) nin0))
  obtain ⟨cq20, kq20, q20a, q20b, q20c⟩ := isOf hZ rfl f17
  obtain ⟨_, _, ⟨T20, L20, k20, n20⟩, -, X20, ⟨Lc20, hQ20, l20, y20, z20⟩, st20⟩ := X15.virtualBack hx (y := (⟨"com/example/demarc/demarc/ApplicationExceptions$Designation", "equals", "(Ljava/lang/Object;)Z"⟩ : MethodName)) (z := (⟨"com/example/demarc/demarc/ApplicationExceptions$Designation", "equals", "(Ljava/lang/Object;)Z"⟩ : MethodName)) hown (mvT hZ (hw _ (List.mem_of_getElem? (i := 20) rfl))) (mvT hZ (hw _ (List.mem_of_getElem? (i := 21) rfl))) (notFace_of_selects (args := #[]) (mvT hZ (hw _ (List.mem_of_getElem? (i := 23) rfl)))) (mvT hZ (hw _ (List.mem_of_getElem? (i := 23) rfl))) (mvT hZ (hw _ (List.mem_of_getElem? (i := 22) rfl))) (by decide) (backOf (W := 0) (rm4_2 l Z a0 hw [] w_cache cl_cache b9 b13 r2 r1 T15.heap n0 Os16 P f18 q15_0 f19 c0) hZ (hw _ (List.mem_of_getElem? (i := 24) rfl)) (hw _ (List.mem_of_getElem? (i := 2) rfl)) (by decide) (by decide)) q20a q20c (g := (mkF m 110 #[.val (.int p0), .val (.int p1), .val (.int p2), .val (.int r1), .val (.int j1), .val (.int r2), .val (.int j2), .val (.ref b9), .val (.ref b13), .val (.int (0 : Int32)), .val (.int (0 : Int32))] [(.ref b13), (.ref b9)])) rfl (by rw [hml]; rfl) (Steps.refl _) (argsL := [(.ref b13)]) (rest := []) (lenOf pd_1 rfl) rfl (by show 2 * 0 + _ ≤ _; exact Nat.le_of_eq rfl) (hb hby at_110) (fun _ _ => ⟨rfl, rfl, (by decide : 2 + 0 ≤ _), (by decide : 4 + 0 ≤ _)⟩)
  dsimp only [Pt.U, Pt.locs, Pt.cells, Pt.slots] at X20 l20 y20 z20 st20 hQ20
  subst l20 y20 z20
  obtain ⟨rfl, N20q, e20⟩ := hQ20
  have N20 := Fr.app N15 N20q
  obtain ⟨cq21, kq21, q21a, q21b, q21c⟩ := isOf hZ e20 f18
  obtain ⟨_, _, ⟨T21, L21, k21, n21⟩, -, X21, ⟨Lc21, hQ21, l21, y21, z21⟩, st21⟩ := X20.virtualBack hx (y := (⟨"com/example/demarc/demarc/ApplicationExceptions$Designation", "equals", "(Ljava/lang/Object;)Z"⟩ : MethodName)) (z := (⟨"com/example/demarc/demarc/ApplicationExceptions$Designation", "equals", "(Ljava/lang/Object;)Z"⟩ : MethodName)) hown (mvT hZ (hw _ (List.mem_of_getElem? (i := 20) rfl))) (mvT hZ (hw _ (List.mem_of_getElem? (i := 21) rfl))) (notFace_of_selects (args := #[]) (mvT hZ (hw _ (List.mem_of_getElem? (i := 23) rfl)))) (mvT hZ (hw _ (List.mem_of_getElem? (i := 23) rfl))) (mvT hZ (hw _ (List.mem_of_getElem? (i := 22) rfl))) (by decide) (backOf (W := 0) (rm4_3 l Z a0 hw [] w_cache cl_cache b13 b9 r1 r2 T15.heap n0 Os16 P f17 f19 q15_0 c0) hZ (hw _ (List.mem_of_getElem? (i := 24) rfl)) (hw _ (List.mem_of_getElem? (i := 2) rfl)) (by decide) (by decide)) q21a q21c (g := (mkF m 122 #[.val (.int p0), .val (.int p1), .val (.int p2), .val (.int r1), .val (.int j1), .val (.int r2), .val (.int j2), .val (.ref b9), .val (.ref b13), .val (.int (0 : Int32)), .val (.int (0 : Int32))] [(.ref b9), (.ref b13)])) rfl (by rw [hml]; rfl) (Steps.refl _) (argsL := [(.ref b9)]) (rest := []) (lenOf pd_1 rfl) rfl (by show 2 * 0 + _ ≤ _; exact Nat.le_of_eq rfl) (hb hby at_122) (fun _ _ => ⟨rfl, e20, (by decide : 2 + 0 ≤ _), (by decide : 4 + 0 ≤ _)⟩)
  dsimp only [Pt.U, Pt.locs, Pt.cells, Pt.slots] at X21 l21 y21 z21 st21 hQ21
  subst l21 y21 z21
  obtain ⟨rfl, N21q, e21⟩ := hQ21
  have N21 := Fr.app N20 N21q
  obtain ⟨fs, hr, hrun, hended, hW, hsame⟩ := X21.leave (v := some (.int (1 : Int32))) (fun h => by rw [Bd.returns] at h; cases h)
  refine ⟨_, _, pre0 _ ?_, hrun, hended, _, _, rfl, ?_, ⟨_, rfl⟩, hW, hsame.mono (by decide) (by decide)⟩
  · show Steps p.tables e below (s₁.setTop (mkF m 0 #[.val (.int p0), .val (.int p1), .val (.int p2), .unset, .unset, .unset, .unset, .unset, .unset, .unset, .unset] [])) _
    refine XS.iloadN X0.here hx rfl (hb hby at_0) rfl ?_
    show Steps p.tables e below (s₁.setTop (mkF m 1 #[.val (.int p0), .val (.int p1), .val (.int p2), .unset, .unset, .unset, .unset, .unset, .unset, .unset, .unset] [(.int p0)])) _
    refine XS.iconst X0.here hx rfl (hb hby at_1) ?_
    show Steps p.tables e below (s₁.setTop (mkF m 2 #[.val (.int p0), .val (.int p1), .val (.int p2), .unset, .unset, .unset, .unset, .unset, .unset, .unset, .unset] [(.int (1 : Int32)), (.int p0)])) _
    refine XS.iand X0.here hx rfl (hb hby at_2) rfl ?_
    refine sg2 _ ?_
    show Steps p.tables e below (s₁.setTop (mkF m 11 #[.val (.int p0), .val (.int p1), .val (.int p2), .unset, .unset, .unset, .unset, .unset, .unset, .unset, .unset] [(.int r1)])) _
    refine XS.istoreN X0.here hx rfl (hb hby at_11) rfl (l' := #[.val (.int p0), .val (.int p1), .val (.int p2), .val (.int r1), .unset, .unset, .unset, .unset, .unset, .unset, .unset]) rfl ?_
    show Steps p.tables e below (s₁.setTop (mkF m 12 #[.val (.int p0), .val (.int p1), .val (.int p2), .val (.int r1), .unset, .unset, .unset, .unset, .unset, .unset, .unset] [])) _
    refine XS.iloadN X0.here hx rfl (hb hby at_12) rfl ?_
    show Steps p.tables e below (s₁.setTop (mkF m 13 #[.val (.int p0), .val (.int p1), .val (.int p2), .val (.int r1), .unset, .unset, .unset, .unset, .unset, .unset, .unset] [(.int p0)])) _
    refine XS.iconst X0.here hx rfl (hb hby at_13) ?_
    show Steps p.tables e below (s₁.setTop (mkF m 14 #[.val (.int p0), .val (.int p1), .val (.int p2), .val (.int r1), .unset, .unset, .unset, .unset, .unset, .unset, .unset] [(.int (2 : Int32)), (.int p0)])) _
    refine XS.iand X0.here hx rfl (hb hby at_14) rfl ?_
    refine sg4 _ ?_
    show Steps p.tables e below (s₁.setTop (mkF m 23 #[.val (.int p0), .val (.int p1), .val (.int p2), .val (.int r1), .unset, .unset, .unset, .unset, .unset, .unset, .unset] [(.int j1)])) _
    refine XS.istore X0.here hx rfl (hb hby at_23) rfl (l' := #[.val (.int p0), .val (.int p1), .val (.int p2), .val (.int r1), .val (.int j1), .unset, .unset, .unset, .unset, .unset, .unset]) rfl ?_
    show Steps p.tables e below (s₁.setTop (mkF m 25 #[.val (.int p0), .val (.int p1), .val (.int p2), .val (.int r1), .val (.int j1), .unset, .unset, .unset, .unset, .unset, .unset] [])) _
    refine XS.iloadN X0.here hx rfl (hb hby at_25) rfl ?_
    show Steps p.tables e below (s₁.setTop (mkF m 26 #[.val (.int p0), .val (.int p1), .val (.int p2), .val (.int r1), .val (.int j1), .unset, .unset, .unset, .unset, .unset, .unset] [(.int p1)])) _
    refine XS.iconst X0.here hx rfl (hb hby at_26) ?_
    show Steps p.tables e below (s₁.setTop (mkF m 27 #[.val (.int p0), .val (.int p1), .val (.int p2), .val (.int r1), .val (.int j1), .unset, .unset, .unset, .unset, .unset, .unset] [(.int (1 : Int32)), (.int p1)])) _
    refine XS.iand X0.here hx rfl (hb hby at_27) rfl ?_
    refine sg6 _ ?_
    show Steps p.tables e below (s₁.setTop (mkF m 36 #[.val (.int p0), .val (.int p1), .val (.int p2), .val (.int r1), .val (.int j1), .unset, .unset, .unset, .unset, .unset, .unset] [(.int r2)])) _
    refine XS.istore X0.here hx rfl (hb hby at_36) rfl (l' := #[.val (.int p0), .val (.int p1), .val (.int p2), .val (.int r1), .val (.int j1), .val (.int r2), .unset, .unset, .unset, .unset, .unset]) rfl ?_
    show Steps p.tables e below (s₁.setTop (mkF m 38 #[.val (.int p0), .val (.int p1), .val (.int p2), .val (.int r1), .val (.int j1), .val (.int r2), .unset, .unset, .unset, .unset, .unset] [])) _
    refine XS.iloadN X0.here hx rfl (hb hby at_38) rfl ?_
    show Steps p.tables e below (s₁.setTop (mkF m 39 #[.val (.int p0), .val (.int p1), .val (.int p2), .val (.int r1), .val (.int j1), .val (.int r2), .unset, .unset, .unset, .unset, .unset] [(.int p1)])) _
    refine XS.iconst X0.here hx rfl (hb hby at_39) ?_
    show Steps p.tables e below (s₁.setTop (mkF m 40 #[.val (.int p0), .val (.int p1), .val (.int p2), .val (.int r1), .val (.int j1), .val (.int r2), .unset, .unset, .unset, .unset, .unset] [(.int (2 : Int32)), (.int p1)])) _
    refine XS.iand X0.here hx rfl (hb hby at_40) rfl ?_
    refine sg8 _ ?_
    show Steps p.tables e below (s₁.setTop (mkF m 49 #[.val (.int p0), .val (.int p1), .val (.int p2), .val (.int r1), .val (.int j1), .val (.int r2), .unset, .unset, .unset, .unset, .unset] [(.int j2)])) _
    refine XS.istore X0.here hx rfl (hb hby at_49) rfl (l' := #[.val (.int p0), .val (.int p1), .val (.int p2), .val (.int r1), .val (.int j1), .val (.int r2), .val (.int j2), .unset, .unset, .unset, .unset]) rfl ?_
    show Steps p.tables e below (s₁.setTop (mkF m 51 #[.val (.int p0), .val (.int p1), .val (.int p2), .val (.int r1), .val (.int j1), .val (.int r2), .val (.int j2), .unset, .unset, .unset, .unset] [])) _
    refine st9 _ ?_
    show Steps p.tables e below (T9.setTop (mkF m 54 #[.val (.int p0), .val (.int p1), .val (.int p2), .val (.int r1), .val (.int j1), .val (.int r2), .val (.int j2), .unset, .unset, .unset, .unset] [(.ref b9)])) _
    refine XS.dup X9.here hx rfl (hb hby at_54) rfl rfl ?_
    show Steps p.tables e below (T9.setTop (mkF m 55 #[.val (.int p0), .val (.int p1), .val (.int p2), .val (.int r1), .val (.int j1), .val (.int r2), .val (.int j2), .unset, .unset, .unset, .unset] [(.ref b9), (.ref b9)])) _
    refine XS.iloadN X9.here hx rfl (hb hby at_55) rfl ?_
    show Steps p.tables e below (T9.setTop (mkF m 56 #[.val (.int p0), .val (.int p1), .val (.int p2), .val (.int r1), .val (.int j1), .val (.int r2), .val (.int j2), .unset, .unset, .unset, .unset] [(.int r1), (.ref b9), (.ref b9)])) _
    refine XS.iload X9.here hx rfl (hb hby at_56) rfl ?_
    show Steps p.tables e below (T9.setTop (mkF m 58 #[.val (.int p0), .val (.int p1), .val (.int p2), .val (.int r1), .val (.int j1), .val (.int r2), .val (.int j2), .unset, .unset, .unset, .unset] [(.int j1), (.int r1), (.ref b9), (.ref b9)])) _
    refine st11.trans ?_
    show Steps p.tables e below (T11.setTop (mkF m 61 #[.val (.int p0), .val (.int p1), .val (.int p2), .val (.int r1), .val (.int j1), .val (.int r2), .val (.int j2), .unset, .unset, .unset, .unset] [(.ref b9)])) _
    refine XS.astore X11.here hx rfl (hb hby at_61) rfl rfl (l' := #[.val (.int p0), .val (.int p1), .val (.int p2), .val (.int r1), .val (.int j1), .val (.int r2), .val (.int j2), .val (.ref b9), .unset, .unset, .unset]) rfl ?_
    show Steps p.tables e below (T11.setTop (mkF m 63 #[.val (.int p0), .val (.int p1), .val (.int p2), .val (.int r1), .val (.int j1), .val (.int r2), .val (.int j2), .val (.ref b9), .unset, .unset, .unset] [])) _
    refine st13 _ ?_
    show Steps p.tables e below (T13.setTop (mkF m 66 #[.val (.int p0), .val (.int p1), .val (.int p2), .val (.int r1), .val (.int j1), .val (.int r2), .val (.int j2), .val (.ref b9), .unset, .unset, .unset] [(.ref b13)])) _
    refine XS.dup X13.here hx rfl (hb hby at_66) rfl rfl ?_
    show Steps p.tables e below (T13.setTop (mkF m 67 #[.val (.int p0), .val (.int p1), .val (.int p2), .val (.int r1), .val (.int j1), .val (.int r2), .val (.int j2), .val (.ref b9), .unset, .unset, .unset] [(.ref b13), (.ref b13)])) _
    refine XS.iload X13.here hx rfl (hb hby at_67) rfl ?_
    show Steps p.tables e below (T13.setTop (mkF m 69 #[.val (.int p0), .val (.int p1), .val (.int p2), .val (.int r1), .val (.int j1), .val (.int r2), .val (.int j2), .val (.ref b9), .unset, .unset, .unset] [(.int r2), (.ref b13), (.ref b13)])) _
    refine XS.iload X13.here hx rfl (hb hby at_69) rfl ?_
    show Steps p.tables e below (T13.setTop (mkF m 71 #[.val (.int p0), .val (.int p1), .val (.int p2), .val (.int r1), .val (.int j1), .val (.int r2), .val (.int j2), .val (.ref b9), .unset, .unset, .unset] [(.int j2), (.int r2), (.ref b13), (.ref b13)])) _
    refine st15.trans ?_
    show Steps p.tables e below (T15.setTop (mkF m 74 #[.val (.int p0), .val (.int p1), .val (.int p2), .val (.int r1), .val (.int j1), .val (.int r2), .val (.int j2), .val (.ref b9), .unset, .unset, .unset] [(.ref b13)])) _
    refine XS.astore X15.here hx rfl (hb hby at_74) rfl rfl (l' := #[.val (.int p0), .val (.int p1), .val (.int p2), .val (.int r1), .val (.int j1), .val (.int r2), .val (.int j2), .val (.ref b9), .val (.ref b13), .unset, .unset]) rfl ?_
    show Steps p.tables e below (T15.setTop (mkF m 76 #[.val (.int p0), .val (.int p1), .val (.int p2), .val (.int r1), .val (.int j1), .val (.int r2), .val (.int j2), .val (.ref b9), .val (.ref b13), .unset, .unset] [])) _
    refine XS.iloadN X15.here hx rfl (hb hby at_76) rfl ?_
    show Steps p.tables e below (T15.setTop (mkF m 77 #[.val (.int p0), .val (.int p1), .val (.int p2), .val (.int r1), .val (.int j1), .val (.int r2), .val (.int j2), .val (.ref b9), .val (.ref b13), .unset, .unset] [(.int p2)])) _
    refine XS.iconst X15.here hx rfl (hb hby at_77) ?_
    show Steps p.tables e below (T15.setTop (mkF m 78 #[.val (.int p0), .val (.int p1), .val (.int p2), .val (.int r1), .val (.int j1), .val (.int r2), .val (.int j2), .val (.ref b9), .val (.ref b13), .unset, .unset] [(.int (3 : Int32)), (.int p2)])) _
    refine XS.iand X15.here hx rfl (hb hby at_78) rfl ?_
    show Steps p.tables e below (T15.setTop (mkF m 79 #[.val (.int p0), .val (.int p1), .val (.int p2), .val (.int r1), .val (.int j1), .val (.int r2), .val (.int j2), .val (.ref b9), .val (.ref b13), .unset, .unset] [(.int (p2 &&& (3 : Int32)))])) _
    rw [k4]
    show Steps p.tables e below (T15.setTop (mkF m 79 #[.val (.int p0), .val (.int p1), .val (.int p2), .val (.int r1), .val (.int j1), .val (.int r2), .val (.int j2), .val (.ref b9), .val (.ref b13), .unset, .unset] [(.int (0 : Int32))])) _
    refine XS.istore X15.here hx rfl (hb hby at_79) rfl (l' := #[.val (.int p0), .val (.int p1), .val (.int p2), .val (.int r1), .val (.int j1), .val (.int r2), .val (.int j2), .val (.ref b9), .val (.ref b13), .val (.int (0 : Int32)), .unset]) rfl ?_
    show Steps p.tables e below (T15.setTop (mkF m 81 #[.val (.int p0), .val (.int p1), .val (.int p2), .val (.int r1), .val (.int j1), .val (.int r2), .val (.int j2), .val (.ref b9), .val (.ref b13), .val (.int (0 : Int32)), .unset] [])) _
    refine XS.iload X15.here hx rfl (hb hby at_81) rfl ?_
    show Steps p.tables e below (T15.setTop (mkF m 83 #[.val (.int p0), .val (.int p1), .val (.int p2), .val (.int r1), .val (.int j1), .val (.int r2), .val (.int j2), .val (.ref b9), .val (.ref b13), .val (.int (0 : Int32)), .unset] [(.int (0 : Int32))])) _
    refine XS.ifNo X15.here hx rfl (hb hby at_83) rfl (by decide) ?_
    show Steps p.tables e below (T15.setTop (mkF m 86 #[.val (.int p0), .val (.int p1), .val (.int p2), .val (.int r1), .val (.int j1), .val (.int r2), .val (.int j2), .val (.ref b9), .val (.ref b13), .val (.int (0 : Int32)), .unset] [])) _
    refine XS.iloadN X15.here hx rfl (hb hby at_86) rfl ?_
    show Steps p.tables e below (T15.setTop (mkF m 87 #[.val (.int p0), .val (.int p1), .val (.int p2), .val (.int r1), .val (.int j1), .val (.int r2), .val (.int j2), .val (.ref b9), .val (.ref b13), .val (.int (0 : Int32)), .unset] [(.int r1)])) _
    refine XS.iload X15.here hx rfl (hb hby at_87) rfl ?_
    show Steps p.tables e below (T15.setTop (mkF m 89 #[.val (.int p0), .val (.int p1), .val (.int p2), .val (.int r1), .val (.int j1), .val (.int r2), .val (.int j2), .val (.ref b9), .val (.ref b13), .val (.int (0 : Int32)), .unset] [(.int r2), (.int r1)])) _
    refine XS.icmpYes X15.here hx rfl (pc0 := 89) (pc' := 103) rfl (hb hby at_89) rfl (feq c0).2 (by decide) (by decide) ?_
    show Steps p.tables e below (T15.setTop (mkF m 103 #[.val (.int p0), .val (.int p1), .val (.int p2), .val (.int r1), .val (.int j1), .val (.int r2), .val (.int j2), .val (.ref b9), .val (.ref b13), .val (.int (0 : Int32)), .unset] [])) _
    refine XS.iconst X15.here hx rfl (hb hby at_103) ?_
    show Steps p.tables e below (T15.setTop (mkF m 104 #[.val (.int p0), .val (.int p1), .val (.int p2), .val (.int r1), .val (.int j1), .val (.int r2), .val (.int j2), .val (.ref b9), .val (.ref b13), .val (.int (0 : Int32)), .unset] [(.int (0 : Int32))])) _
    refine XS.istore X15.here hx rfl (hb hby at_104) rfl (l' := #[.val (.int p0), .val (.int p1), .val (.int p2), .val (.int r1), .val (.int j1), .val (.int r2), .val (.int j2), .val (.ref b9), .val (.ref b13), .val (.int (0 : Int32)), .val (.int (0 : Int32))]) rfl ?_
    show Steps p.tables e below (T15.setTop (mkF m 106 #[.val (.int p0), .val (.int p1), .val (.int p2), .val (.int r1), .val (.int j1), .val (.int r2), .val (.int j2), .val (.ref b9), .val (.ref b13), .val (.int (0 : Int32)), .val (.int (0 : Int32))] [])) _
    refine XS.aload X15.here hx rfl (hb hby at_106) rfl rfl ?_
    show Steps p.tables e below (T15.setTop (mkF m 108 #[.val (.int p0), .val (.int p1), .val (.int p2), .val (.int r1), .val (.int j1), .val (.int r2), .val (.int j2), .val (.ref b9), .val (.ref b13), .val (.int (0 : Int32)), .val (.int (0 : Int32))] [(.ref b9)])) _
    refine XS.aload X15.here hx rfl (hb hby at_108) rfl rfl ?_
    show Steps p.tables e below (T15.setTop (mkF m 110 #[.val (.int p0), .val (.int p1), .val (.int p2), .val (.int r1), .val (.int j1), .val (.int r2), .val (.int j2), .val (.ref b9), .val (.ref b13), .val (.int (0 : Int32)), .val (.int (0 : Int32))] [(.ref b13), (.ref b9)])) _
    refine st20.trans ?_
    show Steps p.tables e below (T20.setTop (mkF m 113 #[.val (.int p0), .val (.int p1), .val (.int p2), .val (.int r1), .val (.int j1), .val (.int r2), .val (.int j2), .val (.ref b9), .val (.ref b13), .val (.int (0 : Int32)), .val (.int (0 : Int32))] [(.int (0 : Int32))])) _
    refine XS.iload X20.here hx rfl (hb hby at_113) rfl ?_
    show Steps p.tables e below (T20.setTop (mkF m 115 #[.val (.int p0), .val (.int p1), .val (.int p2), .val (.int r1), .val (.int j1), .val (.int r2), .val (.int j2), .val (.ref b9), .val (.ref b13), .val (.int (0 : Int32)), .val (.int (0 : Int32))] [(.int (0 : Int32)), (.int (0 : Int32))])) _
    refine XS.icmpNo X20.here hx rfl (hb hby at_115) rfl (by decide) ?_
    show Steps p.tables e below (T20.setTop (mkF m 118 #[.val (.int p0), .val (.int p1), .val (.int p2), .val (.int r1), .val (.int j1), .val (.int r2), .val (.int j2), .val (.ref b9), .val (.ref b13), .val (.int (0 : Int32)), .val (.int (0 : Int32))] [])) _
    refine XS.aload X20.here hx rfl (hb hby at_118) rfl rfl ?_
    show Steps p.tables e below (T20.setTop (mkF m 120 #[.val (.int p0), .val (.int p1), .val (.int p2), .val (.int r1), .val (.int j1), .val (.int r2), .val (.int j2), .val (.ref b9), .val (.ref b13), .val (.int (0 : Int32)), .val (.int (0 : Int32))] [(.ref b13)])) _
    refine XS.aload X20.here hx rfl (hb hby at_120) rfl rfl ?_
    show Steps p.tables e below (T20.setTop (mkF m 122 #[.val (.int p0), .val (.int p1), .val (.int p2), .val (.int r1), .val (.int j1), .val (.int r2), .val (.int j2), .val (.ref b9), .val (.ref b13), .val (.int (0 : Int32)), .val (.int (0 : Int32))] [(.ref b9), (.ref b13)])) _
    refine st21.trans ?_
    show Steps p.tables e below (T21.setTop (mkF m 125 #[.val (.int p0), .val (.int p1), .val (.int p2), .val (.int r1), .val (.int j1), .val (.int r2), .val (.int j2), .val (.ref b9), .val (.ref b13), .val (.int (0 : Int32)), .val (.int (0 : Int32))] [(.int (0 : Int32))])) _
    refine XS.iload X21.here hx rfl (hb hby at_125) rfl ?_
    show Steps p.tables e below (T21.setTop (mkF m 127 #[.val (.int p0), .val (.int p1), .val (.int p2), .val (.int r1), .val (.int j1), .val (.int r2), .val (.int j2), .val (.ref b9), .val (.ref b13), .val (.int (0 : Int32)), .val (.int (0 : Int32))] [(.int (0 : Int32)), (.int (0 : Int32))])) _
    refine XS.icmpNo X21.here hx rfl (hb hby at_127) rfl (by decide) ?_
    show Steps p.tables e below (T21.setTop (mkF m 130 #[.val (.int p0), .val (.int p1), .val (.int p2), .val (.int r1), .val (.int j1), .val (.int r2), .val (.int j2), .val (.ref b9), .val (.ref b13), .val (.int (0 : Int32)), .val (.int (0 : Int32))] [])) _
    refine XS.iconst X21.here hx rfl (hb hby at_130) ?_
    show Steps p.tables e below (T21.setTop (mkF m 131 #[.val (.int p0), .val (.int p1), .val (.int p2), .val (.int r1), .val (.int j1), .val (.int r2), .val (.int j2), .val (.ref b9), .val (.ref b13), .val (.int (0 : Int32)), .val (.int (0 : Int32))] [(.int (1 : Int32))])) _
    refine XS.goto X21.here hx rfl (pc0 := 131) (pc' := 135) rfl (hb hby at_131) (by decide) (by decide) ?_
    show Steps p.tables e below (T21.setTop (mkF m 135 #[.val (.int p0), .val (.int p1), .val (.int p2), .val (.int r1), .val (.int j1), .val (.int r2), .val (.int j2), .val (.ref b9), .val (.ref b13), .val (.int (0 : Int32)), .val (.int (0 : Int32))] [(.int (1 : Int32))])) _
    exact retN X21 hx (t := .boolean) Bd.returns (by simp) (hb hby at_135) hr
  · show Qrm0_0 Z w_cache cl_cache p0 p1 p2 r1 j1 r2 j2 h0 n0 _ T21.heap _
    rw [e21]
    exact ⟨rfl, N21, Ks16⟩
theorem d4_21 : decode prog_2_method_2_code 21 = .ok (.aload_n 1, 1) := by decide +kernel
theorem d4_22 : decode prog_2_method_2_code 22 = .ok (.checkcast 8, 3) := by decide +kernel
theorem d4_25 : decode prog_2_method_2_code 25 = .ok (.getfield 13, 3) := by decide +kernel
theorem d4_28 : decode prog_2_method_2_code 28 = .ok (.aload_n 0, 1) := by decide +kernel
theorem d4_29 : decode prog_2_method_2_code 29 = .ok (.getfield 13, 3) := by decide +kernel
theorem d4_32 : decode prog_2_method_2_code 32 = .ok (.if_icmp .ne 7, 3) := by decide +kernel
def Qrm4_5 (Z : State) (w_cache : Addr) (cl_cache : Cell) (x1 : Addr) (x2 : Addr) (i3 : Int32) (i4 : Int32) (i5 : Int32) (i6 : Int32) (h0 : Heap) (n0 : Nat) (v : Option Value) (h : Heap) (L : List Loc) : Prop := v = some (.int (0 : Int32)) ∧ Fr n0 L ∧ h = h0
set_option maxRecDepth 65536 in
set_option maxHeartbeats 40000000 in
theorem rm4_5 (l : Launch) (Z : State) (a0 : Array Value) (hw : ∀ d ∈ tables_1, d.before a0 Z = true) (ws : List Jvm.Cond) (w_cache : Addr) (cl_cache : Cell) (x1 : Addr) (x2 : Addr) (i3 : Int32) (i4 : Int32) (i5 : Int32) (i6 : Int32) (h0 : Heap) (n0 : Nat) (O0 : Old Z n0 h0) (P : Pins Z w_cache cl_cache) (E_x2 : Exa Z h0 x2 "com/example/demarc/demarc/ApplicationExceptions$Designation") (F_x2_rollback : Fld Z h0 x2 "com/example/demarc/demarc/ApplicationExceptions$Designation" "rollback" "Z" (.int i3)) (F_x1_rollback : Fld Z h0 x1 "com/example/demarc/demarc/ApplicationExceptions$Designation" "rollback" "Z" (.int i4)) (hc0 : i4 = i3) (F_x2_inherited : Fld Z h0 x2 "com/example/demarc/demarc/ApplicationExceptions$Designation" "inherited" "Z" (.int i5)) (F_x1_inherited : Fld Z h0 x1 "com/example/demarc/demarc/ApplicationExceptions$Designation" "inherited" "Z" (.int i6)) (hc1 : ¬ (i6 = i5)) :
    MetFree l (⟨"com/example/demarc/demarc/ApplicationExceptions$Designation", "equals", "(Ljava/lang/Object;)Z"⟩ : MethodName) (head1 (Jvm.Cond.code (⟨"com/example/demarc/demarc/ApplicationExceptions$Designation", "equals", "(Ljava/lang/Object;)Z"⟩ : MethodName) prog_2_method_2_code 2 (some .boolean) :: ws) ({ frames := 0, cells := 0, slots := 0, locals := 0 } : Room)) (fun a U => a = #[(.ref x1), (.ref x2)] ∧ Z.Warmed39 U.vm ∧ U.heap = h0) (fun _ _ _ _ _ => True) (fun _ U o U' => ∃ v L, o = .returned v ∧ Qrm4_5 Z w_cache cl_cache x1 x2 i3 i4 i5 i6 h0 n0 v U'.heap L ∧ FrameEnd U o U' L ({ frames := 0, cells := 0, slots := 0, locals := 0 } : Room).cells ({ frames := 0, cells := 0, slots := 0, locals := 0 } : Room).slots) := by
  refine MetFree.of_bodySF (plainFor_of_name pn_com_example_demarc_demarc_ApplicationExceptions_Designation) hisR ?_
  intro p e s m args below meth c s₁ Bd hml0 hP hK
  obtain ⟨rfl, hZ, hh⟩ := hP
  have hx := Bd.exec
  have hby := Bd.bytes
  have hml : c.maxLocals = 2 := hml0
  have hown : s.vm.findClass "com/example/demarc/demarc/ApplicationExceptions$Designation" = some m.cls := findClass_of_methodNamed Bd.named
  have hnm := (name_of_methodNamed Bd.named Bd.method).1
  have X0 : Stand p l e ({ frames := 0, cells := 0, slots := 0, locals := 0 } : Room) s m #[(.ref x1), (.ref x2)] below meth c s₁ [] 0 0 := Stand.of_body Bd
  have e0 : s₁.heap = h0 := by rw [← hh, Bd.state]; rfl
  have N0 := Fr.nil n0
  have Z0 : n0 ≤ h0.size := O0.1 ▸ O0.2.1
  have pre0 : ∀ t, Steps p.tables e below (s₁.setTop (mkF m 0 #[.val (.ref x1), .val (.ref x2)] [])) t → Steps p.tables e below (s₁.setTop (entryFrame m #[(.ref x1), (.ref x2)] 2)) t := fun t k => castTop (ef_4_RR m x1 x2) k
  obtain ⟨T1, X1, e1, st1⟩ := instY X0 hx hZ hown (hw _ (List.mem_of_getElem? (i := 25) rfl)) e0 (Ins.self E_x2) (g := (mkF m 1 #[.val (.ref x1), .val (.ref x2)] [(.ref x2)])) rfl rfl (hb hby d4_1)
  obtain ⟨T2, X2, e2, st2⟩ := castY X1 hx hZ hown (hw _ (List.mem_of_getElem? (i := 25) rfl)) e1 (Ins.self E_x2) (g := (mkF m 8 #[.val (.ref x1), .val (.ref x2)] [(.ref x2)])) rfl rfl (hb hby d4_8)
  obtain ⟨T3, X3, e3, st3⟩ := getF X2 hx hZ hown (host := "") (Or.inl (hw _ (List.mem_of_getElem? (i := 9) rfl))) Via.refl e2 F_x2_rollback (g := (mkF m 11 #[.val (.ref x1), .val (.ref x2)] [(.ref x2)])) rfl rfl (hb hby d4_11)
  obtain ⟨T4, X4, e4, st4⟩ := getF X3 hx hZ hown (host := "") (Or.inl (hw _ (List.mem_of_getElem? (i := 9) rfl))) Via.refl e3 F_x1_rollback (g := (mkF m 15 #[.val (.ref x1), .val (.ref x2)] [(.ref x1), (.int i3)])) rfl rfl (hb hby d4_15)
  obtain ⟨T5, X5, e5, st5⟩ := castY X4 hx hZ hown (hw _ (List.mem_of_getElem? (i := 25) rfl)) e4 (Ins.self E_x2) (g := (mkF m 22 #[.val (.ref x1), .val (.ref x2)] [(.ref x2)])) rfl rfl (hb hby d4_22)
  obtain ⟨T6, X6, e6, st6⟩ := getF X5 hx hZ hown (host := "") (Or.inl (hw _ (List.mem_of_getElem? (i := 11) rfl))) Via.refl e5 F_x2_inherited (g := (mkF m 25 #[.val (.ref x1), .val (.ref x2)] [(.ref x2)])) rfl rfl (hb hby d4_25)
  obtain ⟨T7, X7, e7, st7⟩ := getF X6 hx hZ hown (host := "") (Or.inl (hw _ (List.mem_of_getElem? (i := 11) rfl))) Via.refl e6 F_x1_inherited (g := (mkF m 29 #[.val (.ref x1), .val (.ref x2)] [(.ref x1), (.int i5)])) rfl rfl (hb hby d4_29)
  obtain ⟨fs, hr, hrun, hended, hW, hsame⟩ := X7.leave (v := some (.int (0 : Int32))) (fun h => by rw [Bd.returns] at h; cases h)
  refine ⟨_, _, pre0 _ ?_, hrun, hended, _, _, rfl, ?_, ⟨_, rfl⟩, hW, hsame.mono (by decide) (by decide)⟩
  · show Steps p.tables e below (s₁.setTop (mkF m 0 #[.val (.ref x1), .val (.ref x2)] [])) _
    refine XS.aloadN X0.here hx rfl (hb hby d4_0) rfl rfl ?_
    show Steps p.tables e below (s₁.setTop (mkF m 1 #[.val (.ref x1), .val (.ref x2)] [(.ref x2)])) _
    refine st1 _ ?_
    show Steps p.tables e below (T1.setTop (mkF m 4 #[.val (.ref x1), .val (.ref x2)] [(.int (1 : Int32))])) _
    refine XS.ifNo X1.here hx rfl (hb hby d4_4) rfl (by decide) ?_
    show Steps p.tables e below (T1.setTop (mkF m 7 #[.val (.ref x1), .val (.ref x2)] [])) _
    refine XS.aloadN X1.here hx rfl (hb hby d4_7) rfl rfl ?_
    show Steps p.tables e below (T1.setTop (mkF m 8 #[.val (.ref x1), .val (.ref x2)] [(.ref x2)])) _
    refine st2 _ ?_
    show Steps p.tables e below (T2.setTop (mkF m 11 #[.val (.ref x1), .val (.ref x2)] [(.ref x2)])) _
    refine st3 _ ?_
    show Steps p.tables e below (T3.setTop (mkF m 14 #[.val (.ref x1), .val (.ref x2)] [(.int i3)])) _
    refine XS.aloadN X3.here hx rfl (hb hby d4_14) rfl rfl ?_
    show Steps p.tables e below (T3.setTop (mkF m 15 #[.val (.ref x1), .val (.ref x2)] [(.ref x1), (.int i3)])) _
    refine st4 _ ?_
    show Steps p.tables e below (T4.setTop (mkF m 18 #[.val (.ref x1), .val (.ref x2)] [(.int i4), (.int i3)])) _
    refine XS.icmpNo X4.here hx rfl (hb hby d4_18) rfl (teq (Eq.symm hc0)).2 ?_
    show Steps p.tables e below (T4.setTop (mkF m 21 #[.val (.ref x1), .val (.ref x2)] [])) _
    refine XS.aloadN X4.here hx rfl (hb hby d4_21) rfl rfl ?_
    show Steps p.tables e below (T4.setTop (mkF m 22 #[.val (.ref x1), .val (.ref x2)] [(.ref x2)])) _
    refine st5 _ ?_
    show Steps p.tables e below (T5.setTop (mkF m 25 #[.val (.ref x1), .val (.ref x2)] [(.ref x2)])) _
    refine st6 _ ?_
    show Steps p.tables e below (T6.setTop (mkF m 28 #[.val (.ref x1), .val (.ref x2)] [(.int i5)])) _
    refine XS.aloadN X6.here hx rfl (hb hby d4_28) rfl rfl ?_
    show Steps p.tables e below (T6.setTop (mkF m 29 #[.val (.ref x1), .val (.ref x2)] [(.ref x1), (.int i5)])) _
    refine st7 _ ?_
    show Steps p.tables e below (T7.setTop (mkF m 32 #[.val (.ref x1), .val (.ref x2)] [(.int i6), (.int i5)])) _
    refine XS.icmpYes X7.here hx rfl (pc0 := 32) (pc' := 39) rfl (hb hby d4_32) rfl (feq (fun q => hc1 (Eq.symm q))).2 (by decide) (by decide) ?_
    show Steps p.tables e below (T7.setTop (mkF m 39 #[.val (.ref x1), .val (.ref x2)] [])) _
    refine XS.iconst X7.here hx rfl (hb hby d4_39) ?_
    show Steps p.tables e below (T7.setTop (mkF m 40 #[.val (.ref x1), .val (.ref x2)] [(.int (0 : Int32))])) _
    exact retN X7 hx (t := .boolean) Bd.returns (by simp) (hb hby d4_40) hr
  · exact ⟨rfl, N0, e7⟩
def Qrm4_6 (Z : State) (w_cache : Addr) (cl_cache : Cell) (x1 : Addr) (x2 : Addr) (i3 : Int32) (i4 : Int32) (i5 : Int32) (i6 : Int32) (h0 : Heap) (n0 : Nat) (v : Option Value) (h : Heap) (L : List Loc) : Prop := v = some (.int (0 : Int32)) ∧ Fr n0 L ∧ h = h0
set_option maxRecDepth 65536 in
set_option maxHeartbeats 40000000 in
theorem rm4_6 (l : Launch) (Z : State) (a0 : Array Value) (hw : ∀ d ∈ tables_1, d.before a0 Z = true) (ws : List Jvm.Cond) (w_cache : Addr) (cl_cache : Cell) (x1 : Addr) (x2 : Addr) (i3 : Int32) (i4 : Int32) (i5 : Int32) (i6 : Int32) (h0 : Heap) (n0 : Nat) (O0 : Old Z n0 h0) (P : Pins Z w_cache cl_cache) (E_x2 : Exa Z h0 x2 "com/example/demarc/demarc/ApplicationExceptions$Designation") (F_x2_rollback : Fld Z h0 x2 "com/example/demarc/demarc/ApplicationExceptions$Designation" "rollback" "Z" (.int i3)) (F_x1_rollback : Fld Z h0 x1 "com/example/demarc/demarc/ApplicationExceptions$Designation" "rollback" "Z" (.int i4)) (hc0 : i3 = i4) (F_x2_inherited : Fld Z h0 x2 "com/example/demarc/demarc/ApplicationExceptions$Designation" "inherited" "Z" (.int i5)) (F_x1_inherited : Fld Z h0 x1 "com/example/demarc/demarc/ApplicationExceptions$Designation" "inherited" "Z" (.int i6)) (hc1 : ¬ (i5 = i6)) :
    MetFree l (⟨"com/example/demarc/demarc/ApplicationExceptions$Designation", "equals", "(Ljava/lang/Object;)Z"⟩ : MethodName) (head1 (Jvm.Cond.code (⟨"com/example/demarc/demarc/ApplicationExceptions$Designation", "equals", "(Ljava/lang/Object;)Z"⟩ : MethodName) prog_2_method_2_code 2 (some .boolean) :: ws) ({ frames := 0, cells := 0, slots := 0, locals := 0 } : Room)) (fun a U => a = #[(.ref x1), (.ref x2)] ∧ Z.Warmed39 U.vm ∧ U.heap = h0) (fun _ _ _ _ _ => True) (fun _ U o U' => ∃ v L, o = .returned v ∧ Qrm4_6 Z w_cache cl_cache x1 x2 i3 i4 i5 i6 h0 n0 v U'.heap L ∧ FrameEnd U o U' L ({ frames := 0, cells := 0, slots := 0, locals := 0 } : Room).cells ({ frames := 0, cells := 0, slots := 0, locals := 0 } : Room).slots) := by
  refine MetFree.of_bodySF (plainFor_of_name pn_com_example_demarc_demarc_ApplicationExceptions_Designation) hisR ?_
  intro p e s m args below meth c s₁ Bd hml0 hP hK
  obtain ⟨rfl, hZ, hh⟩ := hP
  have hx := Bd.exec
  have hby := Bd.bytes
  have hml : c.maxLocals = 2 := hml0
  have hown : s.vm.findClass "com/example/demarc/demarc/ApplicationExceptions$Designation" = some m.cls := findClass_of_methodNamed Bd.named
  have hnm := (name_of_methodNamed Bd.named Bd.method).1
  have X0 : Stand p l e ({ frames := 0, cells := 0, slots := 0, locals := 0 } : Room) s m #[(.ref x1), (.ref x2)] below meth c s₁ [] 0 0 := Stand.of_body Bd
  have e0 : s₁.heap = h0 := by rw [← hh, Bd.state]; rfl
  have N0 := Fr.nil n0
  have Z0 : n0 ≤ h0.size := O0.1 ▸ O0.2.1
  have pre0 : ∀ t, Steps p.tables e below (s₁.setTop (mkF m 0 #[.val (.ref x1), .val (.ref x2)] [])) t → Steps p.tables e below (s₁.setTop (entryFrame m #[(.ref x1), (.ref x2)] 2)) t := fun t k => castTop (ef_4_RR m x1 x2) k
  obtain ⟨T1, X1, e1, st1⟩ := instY X0 hx hZ hown (hw _ (List.mem_of_getElem? (i := 25) rfl)) e0 (Ins.self E_x2) (g := (mkF m 1 #[.val (.ref x1), .val (.ref x2)] [(.ref x2)])) rfl rfl (hb hby d4_1)
  obtain ⟨T2, X2, e2, st2⟩ := castY X1 hx hZ hown (hw _ (List.mem_of_getElem? (i := 25) rfl)) e1 (Ins.self E_x2) (g := (mkF m 8 #[.val (.ref x1), .val (.ref x2)] [(.ref x2)])) rfl rfl (hb hby d4_8)
  obtain ⟨T3, X3, e3, st3⟩ := getF X2 hx hZ hown (host := "") (Or.inl (hw _ (List.mem_of_getElem? (i := 9) rfl))) Via.refl e2 F_x2_rollback (g := (mkF m 11 #[.val (.ref x1), .val (.ref x2)] [(.ref x2)])) rfl rfl (hb hby d4_11)
  obtain ⟨T4, X4, e4, st4⟩ := getF X3 hx hZ hown (host := "") (Or.inl (hw _ (List.mem_of_getElem? (i := 9) rfl))) Via.refl e3 F_x1_rollback (g := (mkF m 15 #[.val (.ref x1), .val (.ref x2)] [(.ref x1), (.int i3)])) rfl rfl (hb hby d4_15)
  obtain ⟨T5, X5, e5, st5⟩ := castY X4 hx hZ hown (hw _ (List.mem_of_getElem? (i := 25) rfl)) e4 (Ins.self E_x2) (g := (mkF m 22 #[.val (.ref x1), .val (.ref x2)] [(.ref x2)])) rfl rfl (hb hby d4_22)
  obtain ⟨T6, X6, e6, st6⟩ := getF X5 hx hZ hown (host := "") (Or.inl (hw _ (List.mem_of_getElem? (i := 11) rfl))) Via.refl e5 F_x2_inherited (g := (mkF m 25 #[.val (.ref x1), .val (.ref x2)] [(.ref x2)])) rfl rfl (hb hby d4_25)
  obtain ⟨T7, X7, e7, st7⟩ := getF X6 hx hZ hown (host := "") (Or.inl (hw _ (List.mem_of_getElem? (i := 11) rfl))) Via.refl e6 F_x1_inherited (g := (mkF m 29 #[.val (.ref x1), .val (.ref x2)] [(.ref x1), (.int i5)])) rfl rfl (hb hby d4_29)
  obtain ⟨fs, hr, hrun, hended, hW, hsame⟩ := X7.leave (v := some (.int (0 : Int32))) (fun h => by rw [Bd.returns] at h; cases h)
  refine ⟨_, _, pre0 _ ?_, hrun, hended, _, _, rfl, ?_, ⟨_, rfl⟩, hW, hsame.mono (by decide) (by decide)⟩
  · show Steps p.tables e below (s₁.setTop (mkF m 0 #[.val (.ref x1), .val (.ref x2)] [])) _
    refine XS.aloadN X0.here hx rfl (hb hby d4_0) rfl rfl ?_
    show Steps p.tables e below (s₁.setTop (mkF m 1 #[.val (.ref x1), .val (.ref x2)] [(.ref x2)])) _
    refine st1 _ ?_
    show Steps p.tables e below (T1.setTop (mkF m 4 #[.val (.ref x1), .val (.ref x2)] [(.int (1 : Int32))])) _
    refine XS.ifNo X1.here hx rfl (hb hby d4_4) rfl (by decide) ?_
    show Steps p.tables e below (T1.setTop (mkF m 7 #[.val (.ref x1), .val (.ref x2)] [])) _
    refine XS.aloadN X1.here hx rfl (hb hby d4_7) rfl rfl ?_
    show Steps p.tables e below (T1.setTop (mkF m 8 #[.val (.ref x1), .val (.ref x2)] [(.ref x2)])) _
    refine st2 _ ?_
    show Steps p.tables e below (T2.setTop (mkF m 11 #[.val (.ref x1), .val (.ref x2)] [(.ref x2)])) _
    refine st3 _ ?_
    show Steps p.tables e below (T3.setTop (mkF m 14 #[.val (.ref x1), .val (.ref x2)] [(.int i3)])) _
    refine XS.aloadN X3.here hx rfl (hb hby d4_14) rfl rfl ?_
    show Steps p.tables e below (T3.setTop (mkF m 15 #[.val (.ref x1), .val (.ref x2)] [(.ref x1), (.int i3)])) _
    refine st4 _ ?_
    show Steps p.tables e below (T4.setTop (mkF m 18 #[.val (.ref x1), .val (.ref x2)] [(.int i4), (.int i3)])) _
    refine XS.icmpNo X4.here hx rfl (hb hby d4_18) rfl (teq hc0).2 ?_
    show Steps p.tables e below (T4.setTop (mkF m 21 #[.val (.ref x1), .val (.ref x2)] [])) _
    refine XS.aloadN X4.here hx rfl (hb hby d4_21) rfl rfl ?_
    show Steps p.tables e below (T4.setTop (mkF m 22 #[.val (.ref x1), .val (.ref x2)] [(.ref x2)])) _
    refine st5 _ ?_
    show Steps p.tables e below (T5.setTop (mkF m 25 #[.val (.ref x1), .val (.ref x2)] [(.ref x2)])) _
    refine st6 _ ?_
    show Steps p.tables e below (T6.setTop (mkF m 28 #[.val (.ref x1), .val (.ref x2)] [(.int i5)])) _
    refine XS.aloadN X6.here hx rfl (hb hby d4_28) rfl rfl ?_
    show Steps p.tables e below (T6.setTop (mkF m 29 #[.val (.ref x1), .val (.ref x2)] [(.ref x1), (.int i5)])) _
    refine st7 _ ?_
    show Steps p.tables e below (T7.setTop (mkF m 32 #[.val (.ref x1), .val (.ref x2)] [(.int i6), (.int i5)])) _
    refine XS.icmpYes X7.here hx rfl (pc0 := 32) (pc' := 39) rfl (hb hby d4_32) rfl (feq hc1).2 (by decide) (by decide) ?_
    show Steps p.tables e below (T7.setTop (mkF m 39 #[.val (.ref x1), .val (.ref x2)] [])) _
    refine XS.iconst X7.here hx rfl (hb hby d4_39) ?_
    show Steps p.tables e below (T7.setTop (mkF m 40 #[.val (.ref x1), .val (.ref x2)] [(.int (0 : Int32))])) _
    exact retN X7 hx (t := .boolean) Bd.returns (by simp) (hb hby d4_40) hr
  · exact ⟨rfl, N0, e7⟩
def Qrm0_1 (Z : State) (w_cache : Addr) (cl_cache : Cell) (p0 : Int32) (p1 : Int32) (p2 : Int32) (r1 : Int32) (j1 : Int32) (r2 : Int32) (j2 : Int32) (h0 : Heap) (n0 : Nat) (v : Option Value) (h : Heap) (L : List Loc) : Prop := v = some (.int (1 : Int32)) ∧ Fr n0 L ∧ Keep h0 h []
set_option maxRecDepth 65536 in
set_option maxHeartbeats 40000000 in
theorem rm0_1 (l : Launch) (Z : State) (a0 : Array Value) (hw : ∀ d ∈ tables_1, d.before a0 Z = true) (ws : List Jvm.Cond) (w_cache : Addr) (cl_cache : Cell) (p0 : Int32) (p1 : Int32) (p2 : Int32) (r1 : Int32) (j1 : Int32) (r2 : Int32) (j2 : Int32) (h0 : Heap) (n0 : Nat) (O0 : Old Z n0 h0) (P : Pins Z w_cache cl_cache) (hr1 : r1 = (if (p0 &&& (1 : Int32)) = (0 : Int32) then (0 : Int32) else (1 : Int32))) (hj1 : j1 = (if (p0 &&& (2 : Int32)) = (0 : Int32) then (0 : Int32) else (1 : Int32))) (hr2 : r2 = (if (p1 &&& (1 : Int32)) = (0 : Int32) then (0 : Int32) else (1 : Int32))) (hj2 : j2 = (if (p1 &&& (2 : Int32)) = (0 : Int32) then (0 : Int32) else (1 : Int32))) (k4 : (p2 &&& (3 : Int32)) = (0 : Int32)) (c0 : r1 = r2) (c1 : ¬ (j1 = j2)) :
    MetFree l x (head1 (Jvm.Cond.code x code maxLocals ret :: ws) room_1) (fun a U => a = #[(.int p0), (.int p1), (.int p2)] ∧ Z.Warmed39 U.vm ∧ U.heap = h0) (fun _ _ _ _ _ => True) (fun _ U o U' => ∃ v L, o = .returned v ∧ Qrm0_1 Z w_cache cl_cache p0 p1 p2 r1 j1 r2 j2 h0 n0 v U'.heap L ∧ FrameEnd U o U' L room_1.cells room_1.slots) := by
  refine MetFree.of_bodySF (plainFor_of_name pn_com_example_demarc_demarc_DesignationEqualsPinLaw) hisR ?_
  intro p e s m args below meth c s₁ Bd hml0 hP hK
  obtain ⟨rfl, hZ, hh⟩ := hP
  have hx := Bd.exec
  have hby := Bd.bytes
  have hml : c.maxLocals = 11 := hml0
  have hown : s.vm.findClass "com/example/demarc/demarc/DesignationEqualsPinLaw" = some m.cls := findClass_of_methodNamed Bd.named
  have hnm := (name_of_methodNamed Bd.named Bd.method).1
  have X0 : Stand p l e room_1 s m #[(.int p0), (.int p1), (.int p2)] below meth c s₁ [] 0 0 := Stand.of_body Bd
  have e0 : s₁.heap = h0 := by rw [← hh, Bd.state]; rfl
  have N0 := Fr.nil n0
  have Z0 : n0 ≤ h0.size := O0.1 ▸ O0.2.1
  have pre0 : ∀ t, Steps p.tables e below (s₁.setTop (mkF m 0 #[.val (.int p0), .val (.int p1), .val (.int p2), .unset, .unset, .unset, .unset, .unset, .unset, .unset, .unset] [])) t → Steps p.tables e below (s₁.setTop (entryFrame m #[(.int p0), (.int p1), (.int p2)] maxLocals)) t := fun t k => castTop (ef_0_III m p0 p1 p2) k
  have Kr : Keep h0 h0 [] := Keep.refl h0 _
  have hb_r1 : r1 = (0 : Int32) ∨ r1 = (1 : Int32) := by rw [hr1]; (repeat' split) <;> simp
  have sg2 : ∀ t, Steps p.tables e below (s₁.setTop (mkF m 11 #[.val (.int p0), .val (.int p1), .val (.int p2), .unset, .unset, .unset, .unset, .unset, .unset, .unset, .unset] [(.int r1)])) t → Steps p.tables e below (s₁.setTop (mkF m 3 #[.val (.int p0), .val (.int p1), .val (.int p2), .unset, .unset, .unset, .unset, .unset, .unset, .unset, .unset] [(.int (p0 &&& (1 : Int32)))])) t := by
    intro t kt
    show Steps p.tables e below (s₁.setTop (mkF m 3 #[.val (.int p0), .val (.int p1), .val (.int p2), .unset, .unset, .unset, .unset, .unset, .unset, .unset, .unset] [(.int (p0 &&& (1 : Int32)))])) _
    by_cases q1 : (p0 &&& (1 : Int32)) = (0 : Int32)
    · refine XS.ifYes X0.here hx rfl (pc0 := 3) (pc' := 10) rfl (hb hby at_3) rfl ((if0 _ _).trans (teq q1).1) (by decide) (by decide) ?_
      show Steps p.tables e below (s₁.setTop (mkF m 10 #[.val (.int p0), .val (.int p1), .val (.int p2), .unset, .unset, .unset, .unset, .unset, .unset, .unset, .unset] [])) _
      refine XS.iconst X0.here hx rfl (hb hby at_10) ?_
      rw [show r1 = (0 : Int32) from hr1.trans (if_pos q1)] at kt
      exact kt
    · refine XS.ifNo X0.here hx rfl (hb hby at_3) rfl ((if0 _ _).trans (feq q1).1) ?_
      show Steps p.tables e below (s₁.setTop (mkF m 6 #[.val (.int p0), .val (.int p1), .val (.int p2), .unset, .unset, .unset, .unset, .unset, .unset, .unset, .unset] [])) _
      refine XS.iconst X0.here hx rfl (hb hby at_6) ?_
      show Steps p.tables e below (s₁.setTop (mkF m 7 #[.val (.int p0), .val (.int p1), .val (.int p2), .unset, .unset, .unset, .unset, .unset, .unset, .unset, .unset] [(.int (1 : Int32))])) _
      refine XS.goto X0.here hx rfl (pc0 := 7) (pc' := 11) rfl (hb hby at_7) (by decide) (by decide) ?_
      rw [show r1 = (1 : Int32) from hr1.trans (if_neg q1)] at kt
      exact kt
  have hb_j1 : j1 = (0 : Int32) ∨ j1 = (1 : Int32) := by rw [hj1]; (repeat' split) <;> simp
  have sg4 : ∀ t, Steps p.tables e below (s₁.setTop (mkF m 23 #[.val (.int p0), .val (.int p1), .val (.int p2), .val (.int r1), .unset, .unset, .unset, .unset, .unset, .unset, .unset] [(.int j1)])) t → Steps p.tables e below (s₁.setTop (mkF m 15 #[.val (.int p0), .val (.int p1), .val (.int p2), .val (.int r1), .unset, .unset, .unset, .unset, .unset, .unset, .unset] [(.int (p0 &&& (2 : Int32)))])) t := by
    intro t kt
    show Steps p.tables e below (s₁.setTop (mkF m 15 #[.val (.int p0), .val (.int p1), .val (.int p2), .val (.int r1), .unset, .unset, .unset, .unset, .unset, .unset, .unset] [(.int (p0 &&& (2 : Int32)))])) _
    by_cases q3 : (p0 &&& (2 : Int32)) = (0 : Int32)
    · refine XS.ifYes X0.here hx rfl (pc0 := 15) (pc' := 22) rfl (hb hby at_15) rfl ((if0 _ _).trans (teq q3).1) (by decide) (by decide) ?_
      show Steps p.tables e below (s₁.setTop (mkF m 22 #[.val (.int p0), .val (.int p1), .val (.int p2), .val (.int r1), .unset, .unset, .unset, .unset, .unset, .unset, .unset] [])) _
      refine XS.iconst X0.here hx rfl (hb hby at_22) ?_
      rw [show j1 = (0 : Int32) from hj1.trans (if_pos q3)] at kt
      exact kt
    · refine XS.ifNo X0.here hx rfl (hb hby at_15) rfl ((if0 _ _).trans (feq q3).1) ?_
      show Steps p.tables e below (s₁.setTop (mkF m 18 #[.val (.int p0), .val (.int p1), .val (.int p2), .val (.int r1), .unset, .unset, .unset, .unset, .unset, .unset, .unset] [])) _
      refine XS.iconst X0.here hx rfl (hb hby at_18) ?_
      show Steps p.tables e below (s₁.setTop (mkF m 19 #[.val (.int p0), .val (.int p1), .val (.int p2), .val (.int r1), .unset, .unset, .unset, .unset, .unset, .unset, .unset] [(.int (1 : Int32))])) _
      refine XS.goto X0.here hx rfl (pc0 := 19) (pc' := 23) rfl (hb hby at_19) (by decide) (by decide) ?_
      rw [show j1 = (1 : Int32) from hj1.trans (if_neg q3)] at kt
      exact kt
  have hb_r2 : r2 = (0 : Int32) ∨ r2 = (1 : Int32) := by rw [hr2]; (repeat' split) <;> simp
  have sg6 : ∀ t, Steps p.tables e below (s₁.setTop (mkF m 36 #[.val (.int p0), .val (.int p1), .val (.int p2), .val (.int r1), .val (.int j1), .unset, .unset, .unset, .unset, .unset, .unset] [(.int r2)])) t → Steps p.tables e below (s₁.setTop (mkF m 28 #[.val (.int p0), .val (.int p1), .val (.int p2), .val (.int r1), .val (.int j1), .unset, .unset, .unset, .unset, .unset, .unset] [(.int (p1 &&& (1 : Int32)))])) t := by
    intro t kt
    show Steps p.tables e below (s₁.setTop (mkF m 28 #[.val (.int p0), .val (.int p1), .val (.int p2), .val (.int r1), .val (.int j1), .unset, .unset, .unset, .unset, .unset, .unset] [(.int (p1 &&& (1 : Int32)))])) _
    by_cases q5 : (p1 &&& (1 : Int32)) = (0 : Int32)
    · refine XS.ifYes X0.here hx rfl (pc0 := 28) (pc' := 35) rfl (hb hby at_28) rfl ((if0 _ _).trans (teq q5).1) (by decide) (by decide) ?_
      show Steps p.tables e below (s₁.setTop (mkF m 35 #[.val (.int p0), .val (.int p1), .val (.int p2), .val (.int r1), .val (.int j1), .unset, .unset, .unset, .unset, .unset, .unset] [])) _
      refine XS.iconst X0.here hx rfl (hb hby at_35) ?_
      rw [show r2 = (0 : Int32) from hr2.trans (if_pos q5)] at kt
      exact kt
    · refine XS.ifNo X0.here hx rfl (hb hby at_28) rfl ((if0 _ _).trans (feq q5).1) ?_
      show Steps p.tables e below (s₁.setTop (mkF m 31 #[.val (.int p0), .val (.int p1), .val (.int p2), .val (.int r1), .val (.int j1), .unset, .unset, .unset, .unset, .unset, .unset] [])) _
      refine XS.iconst X0.here hx rfl (hb hby at_31) ?_
      show Steps p.tables e below (s₁.setTop (mkF m 32 #[.val (.int p0), .val (.int p1), .val (.int p2), .val (.int r1), .val (.int j1), .unset, .unset, .unset, .unset, .unset, .unset] [(.int (1 : Int32))])) _
      refine XS.goto X0.here hx rfl (pc0 := 32) (pc' := 36) rfl (hb hby at_32) (by decide) (by decide) ?_
      rw [show r2 = (1 : Int32) from hr2.trans (if_neg q5)] at kt
      exact kt
  have hb_j2 : j2 = (0 : Int32) ∨ j2 = (1 : Int32) := by rw [hj2]; (repeat' split) <;> simp
  have sg8 : ∀ t, Steps p.tables e below (s₁.setTop (mkF m 49 #[.val (.int p0), .val (.int p1), .val (.int p2), .val (.int r1), .val (.int j1), .val (.int r2), .unset, .unset, .unset, .unset, .unset] [(.int j2)])) t → Steps p.tables e below (s₁.setTop (mkF m 41 #[.val (.int p0), .val (.int p1), .val (.int p2), .val (.int r1), .val (.int j1), .val (.int r2), .unset, .unset, .unset, .unset, .unset] [(.int (p1 &&& (2 : Int32)))])) t := by
    intro t kt
    show Steps p.tables e below (s₁.setTop (mkF m 41 #[.val (.int p0), .val (.int p1), .val (.int p2), .val (.int r1), .val (.int j1), .val (.int r2), .unset, .unset, .unset, .unset, .unset] [(.int (p1 &&& (2 : Int32)))])) _
    by_cases q7 : (p1 &&& (2 : Int32)) = (0 : Int32)
    · refine XS.ifYes X0.here hx rfl (pc0 := 41) (pc' := 48) rfl (hb hby at_41) rfl ((if0 _ _).trans (teq q7).1) (by decide) (by decide) ?_
      show Steps p.tables e below (s₁.setTop (mkF m 48 #[.val (.int p0), .val (.int p1), .val (.int p2), .val (.int r1), .val (.int j1), .val (.int r2), .unset, .unset, .unset, .unset, .unset] [])) _
      refine XS.iconst X0.here hx rfl (hb hby at_48) ?_
      rw [show j2 = (0 : Int32) from hj2.trans (if_pos q7)] at kt
      exact kt
    · refine XS.ifNo X0.here hx rfl (hb hby at_41) rfl ((if0 _ _).trans (feq q7).1) ?_
      show Steps p.tables e below (s₁.setTop (mkF m 44 #[.val (.int p0), .val (.int p1), .val (.int p2), .val (.int r1), .val (.int j1), .val (.int r2), .unset, .unset, .unset, .unset, .unset] [])) _
      refine XS.iconst X0.here hx rfl (hb hby at_44) ?_
      show Steps p.tables e below (s₁.setTop (mkF m 45 #[.val (.int p0), .val (.int p1), .val (.int p2), .val (.int r1), .val (.int j1), .val (.int r2), .unset, .unset, .unset, .unset, .unset] [(.int (1 : Int32))])) _
      refine XS.goto X0.here hx rfl (pc0 := 45) (pc' := 49) rfl (hb hby at_45) (by decide) (by decide) ?_
      rw [show j2 = (1 : Int32) from hj2.trans (if_neg q7)] at kt
      exact kt
  obtain ⟨T9, h9, X9, e9, E9, A9, D9, -, st9⟩ := newO X0 hx hZ hown (hw _ (List.mem_of_getElem? (i := 0) rfl)) (hw _ (List.mem_of_getElem? (i := 1) rfl)) (hw _ (List.mem_of_getElem? (i := 2) rfl)) e0 (g := (mkF m 51 #[.val (.int p0), .val (.int p1), .val (.int p2), .val (.int r1), .val (.int j1), .val (.int r2), .val (.int j2), .unset, .unset, .unset, .unset] [])) rfl (hb hby at_51) (by decide) (by decide)
  obtain ⟨b9, g9⟩ : ∃ z, z = (h0).size := ⟨_, rfl⟩
  rw [← g9] at A9 D9 st9
  have Zs10 : n0 ≤ (h9).size := Nat.le_trans Z0 E9.1
  have Os10 : Old Z n0 (h9) := O0.ext E9
  have Ks10 : Keep h0 (h9) [] := Kr.ext E9
  have D9_rollback : Fld Z h9 b9 "com/example/demarc/demarc/ApplicationExceptions$Designation" "rollback" "Z" (.int (0 : Int32)) := D9 (Or.inr (hw _ (List.mem_of_getElem? (i := 10) rfl))) (ty := .boolean) (by decide)
  have D9_inherited : Fld Z h9 b9 "com/example/demarc/demarc/ApplicationExceptions$Designation" "inherited" "Z" (.int (0 : Int32)) := D9 (Or.inr (hw _ (List.mem_of_getElem? (i := 12) rfl))) (ty := .boolean) (by decide)
  obtain ⟨_, _, ⟨T11, L11, k11, n11⟩, -, X11, ⟨Lc11, hQ11, l11, y11, z11⟩, st11⟩ := X9.specialBack hx (y := (⟨"com/example/demarc/demarc/ApplicationExceptions$Designation", "<init>", "(ZZ)V"⟩ : MethodName)) rfl hown (mvT hZ (hw _ (List.mem_of_getElem? (i := 3) rfl))) (mvT hZ (hw _ (List.mem_of_getElem? (i := 4) rfl))) (mvT hZ (hw _ (List.mem_of_getElem? (i := 5) rfl))) (by decide) (backOf (W := 1) (rm1_1 l Z a0 hw [] w_cache cl_cache b9 r1 j1 h9 n0 Os10 P A9 D9_rollback hb_r1 (Nat.le_trans Z0 (Nat.le_of_eq g9.symm)) D9_inherited hb_j1) hZ (hw _ (List.mem_of_getElem? (i := 5) rfl)) (hw _ (List.mem_of_getElem? (i := 2) rfl)) (by decide) (by decide)) (g := (mkF m 58 #[.val (.int p0), .val (.int p1), .val (.int p2), .val (.int r1), .val (.int j1), .val (.int r2), .val (.int j2), .unset, .unset, .unset, .unset] [(.int j1), (.int r1), (.ref b9), (.ref b9)])) rfl (by rw [hml]; rfl) (Steps.refl _) (a := b9) (argsL := [(.int r1), (.int j1)]) (rest := [(.ref b9)]) (lenOf pd_0 rfl) rfl (by show 2 * 0 + _ ≤ _; exact Nat.le_of_eq rfl) (hb hby at_58) (fun _ _ => ⟨rfl, e9, (by decide : 1 + 0 ≤ _), (by decide : 2 + 0 ≤ _)⟩)
  dsimp only [Pt.U, Pt.locs, Pt.cells, Pt.slots] at X11 l11 y11 z11 st11 hQ11
  subst l11 y11 z11
  obtain ⟨rfl, N11q, K11, q11_0, q11_1⟩ := hQ11
  have N11 := Fr.app N0 N11q
  have Ks12 : Keep h0 (T11.heap) [] := Ks10.trans K11 (allS (Or.inr (Nat.le_trans Kr.1 (Nat.le_of_eq g9.symm))) all0)
  have Zs12 : n0 ≤ (T11.heap).size := Nat.le_trans Zs10 K11.1
  have Os12 : Old Z n0 (T11.heap) := Os10.keep K11 (allS (Nat.le_trans Z0 (Nat.le_of_eq g9.symm)) all0)
  obtain ⟨T13, h13, X13, e13, E13, A13, D13, -, st13⟩ := newO X11 hx hZ hown (hw _ (List.mem_of_getElem? (i := 0) rfl)) (hw _ (List.mem_of_getElem? (i := 1) rfl)) (hw _ (List.mem_of_getElem? (i := 2) rfl)) rfl (g := (mkF m 63 #[.val (.int p0), .val (.int p1), .val (.int p2), .val (.int r1), .val (.int j1), .val (.int r2), .val (.int j2), .val (.ref b9), .unset, .unset, .unset] [])) rfl (hb hby at_63) (by decide) (by decide)
  obtain ⟨b13, g13⟩ : ∃ z, z = (T11.heap).size := ⟨_, rfl⟩
  rw [← g13] at A13 D13 st13
  have Zs14 : n0 ≤ (h13).size := Nat.le_trans Zs12 E13.1
  have Os14 : Old Z n0 (h13) := Os12.ext E13
  have Ks14 : Keep h0 (h13) [] := Ks12.ext E13
  have D13_rollback : Fld Z h13 b13 "com/example/demarc/demarc/ApplicationExceptions$Designation" "rollback" "Z" (.int (0 : Int32)) := D13 (Or.inr (hw _ (List.mem_of_getElem? (i := 10) rfl))) (ty := .boolean) (by decide)
  have D13_inherited : Fld Z h13 b13 "com/example/demarc/demarc/ApplicationExceptions$Designation" "inherited" "Z" (.int (0 : Int32)) := D13 (Or.inr (hw _ (List.mem_of_getElem? (i := 12) rfl))) (ty := .boolean) (by decide)
  obtain ⟨_, _, ⟨T15, L15, k15, n15⟩, -, X15, ⟨Lc15, hQ15, l15, y15, z15⟩, st15⟩ := X13.specialBack hx (y := (⟨"com/example/demarc/demarc/ApplicationExceptions$Designation", "<init>", "(ZZ)V"⟩ : MethodName)) rfl hown (mvT hZ (hw _ (List.mem_of_getElem? (i := 3) rfl))) (mvT hZ (hw _ (List.mem_of_getElem? (i := 4) rfl))) (mvT hZ (hw _ (List.mem_of_getElem? (i := 5) rfl))) (by decide) (backOf (W := 1) (rm1_1 l Z a0 hw [] w_cache cl_cache b13 r2 j2 h13 n0 Os14 P A13 D13_rollback hb_r2 (Nat.le_trans Zs12 (Nat.le_of_eq g13.symm)) D13_inherited hb_j2) hZ (hw _ (List.mem_of_getElem? (i := 5) rfl)) (hw _ (List.mem_of_getElem? (i := 2) rfl)) (by decide) (by decide)) (g := (mkF m 71 #[.val (.int p0), .val (.int p1), .val (.int p2), .val (.int r1), .val (.int j1), .val (.int r2), .val (.int j2), .val (.ref b9), .unset, .unset, .unset] [(.int j2), (.int r2), (.ref b13), (.ref b13)])) rfl (by rw [hml]; rfl) (Steps.refl _) (a := b13) (argsL := [(.int r2), (.int j2)]) (rest := [(.ref b13)]) (lenOf pd_0 rfl) rfl (by show 2 * 0 + _ ≤ _; exact Nat.le_of_eq rfl) (hb hby at_71) (fun _ _ => ⟨rfl, e13, (by decide : 2 + 0 ≤ _), (by decide : 4 + 0 ≤ _)⟩)
  dsimp only [Pt.U, Pt.locs, Pt.cells, Pt.slots] at X15 l15 y15 z15 st15 hQ15
  subst l15 y15 z15
  obtain ⟨rfl, N15q, K15, q15_0, q15_1⟩ := hQ15
  have N15 := Fr.app N11 N15q
  have Ks16 : Keep h0 (T15.heap) [] := Ks14.trans K15 (allS (Or.inr (Nat.le_trans Ks12.1 (Nat.le_of_eq g13.symm))) all0)
  have Zs16 : n0 ≤ (T15.heap).size := Nat.le_trans Zs14 K15.1
  have Os16 : Old Z n0 (T15.heap) := Os14.keep K15 (allS (Nat.le_trans Zs12 (Nat.le_of_eq g13.symm)) all0)
  have f17 := (((A9.keep K11).ext E13).keep K15)
  have f18 := (A13.keep K15)
  have f19 := ((q11_0.ext E13).keep K15 (ninS (Nat.ne_of_lt (Nat.lt_of_lt_of_le (q11_0).lt (Nat.le_of_eq g13.symm))) nin0))
  have f20 := ((q11_1.ext E13).keep K15 (ninS (Nat.ne_of_lt (Nat.lt_of_lt_of_le (q11_0).lt (Nat.le_of_eq g13.symm))) nin0))
  obtain ⟨cq21, kq21, q21a, q21b, q21c⟩ := isOf hZ rfl f17
  obtain ⟨_, _, ⟨T21, L21, k21, n21⟩, -, X21, ⟨Lc21, hQ21, l21, y21, z21⟩, st21⟩ := X15.virtualBack hx (y := (⟨"com/example/demarc/demarc/ApplicationExceptions$Designation", "equals", "(Ljava/lang/Object;)Z"⟩ : MethodName)) (z := (⟨"com/example/demarc/demarc/ApplicationExceptions$Designation", "equals", "(Ljava/lang/Object;)Z"⟩ : MethodName)) hown (mvT hZ (hw _ (List.mem_of_getElem? (i := 20) rfl))) (mvT hZ (hw _ (List.mem_of_getElem? (i := 21) rfl))) (notFace_of_selects (args := #[]) (mvT hZ (hw _ (List.mem_of_getElem? (i := 23) rfl)))) (mvT hZ (hw _ (List.mem_of_getElem? (i := 23) rfl))) (mvT hZ (hw _ (List.mem_of_getElem? (i := 22) rfl))) (by decide) (backOf (W := 0) (rm4_5 l Z a0 hw [] w_cache cl_cache b9 b13 r2 r1 j2 j1 T15.heap n0 Os16 P f18 q15_0 f19 c0 q15_1 f20 c1) hZ (hw _ (List.mem_of_getElem? (i := 24) rfl)) (hw _ (List.mem_of_getElem? (i := 2) rfl)) (by decide) (by decide)) q21a q21c (g := (mkF m 110 #[.val (.int p0), .val (.int p1), .val (.int p2), .val (.int r1), .val (.int j1), .val (.int r2), .val (.int j2), .val (.ref b9), .val (.ref b13), .val (.int (0 : Int32)), .val (.int (0 : Int32))] [(.ref b13), (.ref b9)])) rfl (by rw [hml]; rfl) (Steps.refl _) (argsL := [(.ref b13)]) (rest := []) (lenOf pd_1 rfl) rfl (by show 2 * 0 + _ ≤ _; exact Nat.le_of_eq rfl) (hb hby at_110) (fun _ _ => ⟨rfl, rfl, (by decide : 2 + 0 ≤ _), (by decide : 4 + 0 ≤ _)⟩)
  dsimp only [Pt.U, Pt.locs, Pt.cells, Pt.slots] at X21 l21 y21 z21 st21 hQ21
  subst l21 y21 z21
  obtain ⟨rfl, N21q, e21⟩ := hQ21
  have N21 := Fr.app N15 N21q
  obtain ⟨cq22, kq22, q22a, q22b, q22c⟩ := isOf hZ e21 f18
  obtain ⟨_, _, ⟨T22, L22, k22, n22⟩, -, X22, ⟨Lc22, hQ22, l22, y22, z22⟩, st22⟩ := X21.virtualBack hx (y := (⟨"com/example/demarc/demarc/ApplicationExceptions$Designation", "equals", "(Ljava/lang/Object;)Z"⟩ : MethodName)) (z := (⟨"com/example/demarc/demarc/ApplicationExceptions$Designation", "equals", "(Ljava/lang/Object;)Z"⟩ : MethodName)) hown (mvT hZ (hw _ (List.mem_of_getElem? (i := 20) rfl))) (mvT hZ (hw _ (List.mem_of_getElem? (i := 21) rfl))) (notFace_of_selects (args := #[]) (mvT hZ (hw _ (List.mem_of_getElem? (i := 23) rfl)))) (mvT hZ (hw _ (List.mem_of_getElem? (i := 23) rfl))) (mvT hZ (hw _ (List.mem_of_getElem? (i := 22) rfl))) (by decide) (backOf (W := 0) (rm4_6 l Z a0 hw [] w_cache cl_cache b13 b9 r1 r2 j1 j2 T15.heap n0 Os16 P f17 f19 q15_0 c0 f20 q15_1 c1) hZ (hw _ (List.mem_of_getElem? (i := 24) rfl)) (hw _ (List.mem_of_getElem? (i := 2) rfl)) (by decide) (by decide)) q22a q22c (g := (mkF m 122 #[.val (.int p0), .val (.int p1), .val (.int p2), .val (.int r1), .val (.int j1), .val (.int r2), .val (.int j2), .val (.ref b9), .val (.ref b13), .val (.int (0 : Int32)), .val (.int (0 : Int32))] [(.ref b9), (.ref b13)])) rfl (by rw [hml]; rfl) (Steps.refl _) (argsL := [(.ref b9)]) (rest := []) (lenOf pd_1 rfl) rfl (by show 2 * 0 + _ ≤ _; exact Nat.le_of_eq rfl) (hb hby at_122) (fun _ _ => ⟨rfl, e21, (by decide : 2 + 0 ≤ _), (by decide : 4 + 0 ≤ _)⟩)
  dsimp only [Pt.U, Pt.locs, Pt.cells, Pt.slots] at X22 l22 y22 z22 st22 hQ22
  subst l22 y22 z22
  obtain ⟨rfl, N22q, e22⟩ := hQ22
  have N22 := Fr.app N21 N22q
  obtain ⟨fs, hr, hrun, hended, hW, hsame⟩ := X22.leave (v := some (.int (1 : Int32))) (fun h => by rw [Bd.returns] at h; cases h)
  refine ⟨_, _, pre0 _ ?_, hrun, hended, _, _, rfl, ?_, ⟨_, rfl⟩, hW, hsame.mono (by decide) (by decide)⟩
  · show Steps p.tables e below (s₁.setTop (mkF m 0 #[.val (.int p0), .val (.int p1), .val (.int p2), .unset, .unset, .unset, .unset, .unset, .unset, .unset, .unset] [])) _
    refine XS.iloadN X0.here hx rfl (hb hby at_0) rfl ?_
    show Steps p.tables e below (s₁.setTop (mkF m 1 #[.val (.int p0), .val (.int p1), .val (.int p2), .unset, .unset, .unset, .unset, .unset, .unset, .unset, .unset] [(.int p0)])) _
    refine XS.iconst X0.here hx rfl (hb hby at_1) ?_
    show Steps p.tables e below (s₁.setTop (mkF m 2 #[.val (.int p0), .val (.int p1), .val (.int p2), .unset, .unset, .unset, .unset, .unset, .unset, .unset, .unset] [(.int (1 : Int32)), (.int p0)])) _
    refine XS.iand X0.here hx rfl (hb hby at_2) rfl ?_
    refine sg2 _ ?_
    show Steps p.tables e below (s₁.setTop (mkF m 11 #[.val (.int p0), .val (.int p1), .val (.int p2), .unset, .unset, .unset, .unset, .unset, .unset, .unset, .unset] [(.int r1)])) _
    refine XS.istoreN X0.here hx rfl (hb hby at_11) rfl (l' := #[.val (.int p0), .val (.int p1), .val (.int p2), .val (.int r1), .unset, .unset, .unset, .unset, .unset, .unset, .unset]) rfl ?_
    show Steps p.tables e below (s₁.setTop (mkF m 12 #[.val (.int p0), .val (.int p1), .val (.int p2), .val (.int r1), .unset, .unset, .unset, .unset, .unset, .unset, .unset] [])) _
    refine XS.iloadN X0.here hx rfl (hb hby at_12) rfl ?_
    show Steps p.tables e below (s₁.setTop (mkF m 13 #[.val (.int p0), .val (.int p1), .val (.int p2), .val (.int r1), .unset, .unset, .unset, .unset, .unset, .unset, .unset] [(.int p0)])) _
    refine XS.iconst X0.here hx rfl (hb hby at_13) ?_
    show Steps p.tables e below (s₁.setTop (mkF m 14 #[.val (.int p0), .val (.int p1), .val (.int p2), .val (.int r1), .unset, .unset, .unset, .unset, .unset, .unset, .unset] [(.int (2 : Int32)), (.int p0)])) _
    refine XS.iand X0.here hx rfl (hb hby at_14) rfl ?_
    refine sg4 _ ?_
    show Steps p.tables e below (s₁.setTop (mkF m 23 #[.val (.int p0), .val (.int p1), .val (.int p2), .val (.int r1), .unset, .unset, .unset, .unset, .unset, .unset, .unset] [(.int j1)])) _
    refine XS.istore X0.here hx rfl (hb hby at_23) rfl (l' := #[.val (.int p0), .val (.int p1), .val (.int p2), .val (.int r1), .val (.int j1), .unset, .unset, .unset, .unset, .unset, .unset]) rfl ?_
    show Steps p.tables e below (s₁.setTop (mkF m 25 #[.val (.int p0), .val (.int p1), .val (.int p2), .val (.int r1), .val (.int j1), .unset, .unset, .unset, .unset, .unset, .unset] [])) _
    refine XS.iloadN X0.here hx rfl (hb hby at_25) rfl ?_
    show Steps p.tables e below (s₁.setTop (mkF m 26 #[.val (.int p0), .val (.int p1), .val (.int p2), .val (.int r1), .val (.int j1), .unset, .unset, .unset, .unset, .unset, .unset] [(.int p1)])) _
    refine XS.iconst X0.here hx rfl (hb hby at_26) ?_
    show Steps p.tables e below (s₁.setTop (mkF m 27 #[.val (.int p0), .val (.int p1), .val (.int p2), .val (.int r1), .val (.int j1), .unset, .unset, .unset, .unset, .unset, .unset] [(.int (1 : Int32)), (.int p1)])) _
    refine XS.iand X0.here hx rfl (hb hby at_27) rfl ?_
    refine sg6 _ ?_
    show Steps p.tables e below (s₁.setTop (mkF m 36 #[.val (.int p0), .val (.int p1), .val (.int p2), .val (.int r1), .val (.int j1), .unset, .unset, .unset, .unset, .unset, .unset] [(.int r2)])) _
    refine XS.istore X0.here hx rfl (hb hby at_36) rfl (l' := #[.val (.int p0), .val (.int p1), .val (.int p2), .val (.int r1), .val (.int j1), .val (.int r2), .unset, .unset, .unset, .unset, .unset]) rfl ?_
    show Steps p.tables e below (s₁.setTop (mkF m 38 #[.val (.int p0), .val (.int p1), .val (.int p2), .val (.int r1), .val (.int j1), .val (.int r2), .unset, .unset, .unset, .unset, .unset] [])) _
    refine XS.iloadN X0.here hx rfl (hb hby at_38) rfl ?_
    show Steps p.tables e below (s₁.setTop (mkF m 39 #[.val (.int p0), .val (.int p1), .val (.int p2), .val (.int r1), .val (.int j1), .val (.int r2), .unset, .unset, .unset, .unset, .unset] [(.int p1)])) _
    refine XS.iconst X0.here hx rfl (hb hby at_39) ?_
    show Steps p.tables e below (s₁.setTop (mkF m 40 #[.val (.int p0), .val (.int p1), .val (.int p2), .val (.int r1), .val (.int j1), .val (.int r2), .unset, .unset, .unset, .unset, .unset] [(.int (2 : Int32)), (.int p1)])) _
    refine XS.iand X0.here hx rfl (hb hby at_40) rfl ?_
    refine sg8 _ ?_
    show Steps p.tables e below (s₁.setTop (mkF m 49 #[.val (.int p0), .val (.int p1), .val (.int p2), .val (.int r1), .val (.int j1), .val (.int r2), .unset, .unset, .unset, .unset, .unset] [(.int j2)])) _
    refine XS.istore X0.here hx rfl (hb hby at_49) rfl (l' := #[.val (.int p0), .val (.int p1), .val (.int p2), .val (.int r1), .val (.int j1), .val (.int r2), .val (.int j2), .unset, .unset, .unset, .unset]) rfl ?_
    show Steps p.tables e below (s₁.setTop (mkF m 51 #[.val (.int p0), .val (.int p1), .val (.int p2), .val (.int r1), .val (.int j1), .val (.int r2), .val (.int j2), .unset, .unset, .unset, .unset] [])) _
    refine st9 _ ?_
    show Steps p.tables e below (T9.setTop (mkF m 54 #[.val (.int p0), .val (.int p1), .val (.int p2), .val (.int r1), .val (.int j1), .val (.int r2), .val (.int j2), .unset, .unset, .unset, .unset] [(.ref b9)])) _
    refine XS.dup X9.here hx rfl (hb hby at_54) rfl rfl ?_
    show Steps p.tables e below (T9.setTop (mkF m 55 #[.val (.int p0), .val (.int p1), .val (.int p2), .val (.int r1), .val (.int j1), .val (.int r2), .val (.int j2), .unset, .unset, .unset, .unset] [(.ref b9), (.ref b9)])) _
    refine XS.iloadN X9.here hx rfl (hb hby at_55) rfl ?_
    show Steps p.tables e below (T9.setTop (mkF m 56 #[.val (.int p0), .val (.int p1), .val (.int p2), .val (.int r1), .val (.int j1), .val (.int r2), .val (.int j2), .unset, .unset, .unset, .unset] [(.int r1), (.ref b9), (.ref b9)])) _
    refine XS.iload X9.here hx rfl (hb hby at_56) rfl ?_
    show Steps p.tables e below (T9.setTop (mkF m 58 #[.val (.int p0), .val (.int p1), .val (.int p2), .val (.int r1), .val (.int j1), .val (.int r2), .val (.int j2), .unset, .unset, .unset, .unset] [(.int j1), (.int r1), (.ref b9), (.ref b9)])) _
    refine st11.trans ?_
    show Steps p.tables e below (T11.setTop (mkF m 61 #[.val (.int p0), .val (.int p1), .val (.int p2), .val (.int r1), .val (.int j1), .val (.int r2), .val (.int j2), .unset, .unset, .unset, .unset] [(.ref b9)])) _
    refine XS.astore X11.here hx rfl (hb hby at_61) rfl rfl (l' := #[.val (.int p0), .val (.int p1), .val (.int p2), .val (.int r1), .val (.int j1), .val (.int r2), .val (.int j2), .val (.ref b9), .unset, .unset, .unset]) rfl ?_
    show Steps p.tables e below (T11.setTop (mkF m 63 #[.val (.int p0), .val (.int p1), .val (.int p2), .val (.int r1), .val (.int j1), .val (.int r2), .val (.int j2), .val (.ref b9), .unset, .unset, .unset] [])) _
    refine st13 _ ?_
    show Steps p.tables e below (T13.setTop (mkF m 66 #[.val (.int p0), .val (.int p1), .val (.int p2), .val (.int r1), .val (.int j1), .val (.int r2), .val (.int j2), .val (.ref b9), .unset, .unset, .unset] [(.ref b13)])) _
    refine XS.dup X13.here hx rfl (hb hby at_66) rfl rfl ?_
    show Steps p.tables e below (T13.setTop (mkF m 67 #[.val (.int p0), .val (.int p1), .val (.int p2), .val (.int r1), .val (.int j1), .val (.int r2), .val (.int j2), .val (.ref b9), .unset, .unset, .unset] [(.ref b13), (.ref b13)])) _
    refine XS.iload X13.here hx rfl (hb hby at_67) rfl ?_
    show Steps p.tables e below (T13.setTop (mkF m 69 #[.val (.int p0), .val (.int p1), .val (.int p2), .val (.int r1), .val (.int j1), .val (.int r2), .val (.int j2), .val (.ref b9), .unset, .unset, .unset] [(.int r2), (.ref b13), (.ref b13)])) _
    refine XS.iload X13.here hx rfl (hb hby at_69) rfl ?_
    show Steps p.tables e below (T13.setTop (mkF m 71 #[.val (.int p0), .val (.int p1), .val (.int p2), .val (.int r1), .val (.int j1), .val (.int r2), .val (.int j2), .val (.ref b9), .unset, .unset, .unset] [(.int j2), (.int r2), (.ref b13), (.ref b13)])) _
    refine st15.trans ?_
    show Steps p.tables e below (T15.setTop (mkF m 74 #[.val (.int p0), .val (.int p1), .val (.int p2), .val (.int r1), .val (.int j1), .val (.int r2), .val (.int j2), .val (.ref b9), .unset, .unset, .unset] [(.ref b13)])) _
    refine XS.astore X15.here hx rfl (hb hby at_74) rfl rfl (l' := #[.val (.int p0), .val (.int p1), .val (.int p2), .val (.int r1), .val (.int j1), .val (.int r2), .val (.int j2), .val (.ref b9), .val (.ref b13), .unset, .unset]) rfl ?_
    show Steps p.tables e below (T15.setTop (mkF m 76 #[.val (.int p0), .val (.int p1), .val (.int p2), .val (.int r1), .val (.int j1), .val (.int r2), .val (.int j2), .val (.ref b9), .val (.ref b13), .unset, .unset] [])) _
    refine XS.iloadN X15.here hx rfl (hb hby at_76) rfl ?_
    show Steps p.tables e below (T15.setTop (mkF m 77 #[.val (.int p0), .val (.int p1), .val (.int p2), .val (.int r1), .val (.int j1), .val (.int r2), .val (.int j2), .val (.ref b9), .val (.ref b13), .unset, .unset] [(.int p2)])) _
    refine XS.iconst X15.here hx rfl (hb hby at_77) ?_
    show Steps p.tables e below (T15.setTop (mkF m 78 #[.val (.int p0), .val (.int p1), .val (.int p2), .val (.int r1), .val (.int j1), .val (.int r2), .val (.int j2), .val (.ref b9), .val (.ref b13), .unset, .unset] [(.int (3 : Int32)), (.int p2)])) _
    refine XS.iand X15.here hx rfl (hb hby at_78) rfl ?_
    show Steps p.tables e below (T15.setTop (mkF m 79 #[.val (.int p0), .val (.int p1), .val (.int p2), .val (.int r1), .val (.int j1), .val (.int r2), .val (.int j2), .val (.ref b9), .val (.ref b13), .unset, .unset] [(.int (p2 &&& (3 : Int32)))])) _
    rw [k4]
    show Steps p.tables e below (T15.setTop (mkF m 79 #[.val (.int p0), .val (.int p1), .val (.int p2), .val (.int r1), .val (.int j1), .val (.int r2), .val (.int j2), .val (.ref b9), .val (.ref b13), .unset, .unset] [(.int (0 : Int32))])) _
    refine XS.istore X15.here hx rfl (hb hby at_79) rfl (l' := #[.val (.int p0), .val (.int p1), .val (.int p2), .val (.int r1), .val (.int j1), .val (.int r2), .val (.int j2), .val (.ref b9), .val (.ref b13), .val (.int (0 : Int32)), .unset]) rfl ?_
    show Steps p.tables e below (T15.setTop (mkF m 81 #[.val (.int p0), .val (.int p1), .val (.int p2), .val (.int r1), .val (.int j1), .val (.int r2), .val (.int j2), .val (.ref b9), .val (.ref b13), .val (.int (0 : Int32)), .unset] [])) _
    refine XS.iload X15.here hx rfl (hb hby at_81) rfl ?_
    show Steps p.tables e below (T15.setTop (mkF m 83 #[.val (.int p0), .val (.int p1), .val (.int p2), .val (.int r1), .val (.int j1), .val (.int r2), .val (.int j2), .val (.ref b9), .val (.ref b13), .val (.int (0 : Int32)), .unset] [(.int (0 : Int32))])) _
    refine XS.ifNo X15.here hx rfl (hb hby at_83) rfl (by decide) ?_
    show Steps p.tables e below (T15.setTop (mkF m 86 #[.val (.int p0), .val (.int p1), .val (.int p2), .val (.int r1), .val (.int j1), .val (.int r2), .val (.int j2), .val (.ref b9), .val (.ref b13), .val (.int (0 : Int32)), .unset] [])) _
    refine XS.iloadN X15.here hx rfl (hb hby at_86) rfl ?_
    show Steps p.tables e below (T15.setTop (mkF m 87 #[.val (.int p0), .val (.int p1), .val (.int p2), .val (.int r1), .val (.int j1), .val (.int r2), .val (.int j2), .val (.ref b9), .val (.ref b13), .val (.int (0 : Int32)), .unset] [(.int r1)])) _
    refine XS.iload X15.here hx rfl (hb hby at_87) rfl ?_
    show Steps p.tables e below (T15.setTop (mkF m 89 #[.val (.int p0), .val (.int p1), .val (.int p2), .val (.int r1), .val (.int j1), .val (.int r2), .val (.int j2), .val (.ref b9), .val (.ref b13), .val (.int (0 : Int32)), .unset] [(.int r2), (.int r1)])) _
    refine XS.icmpNo X15.here hx rfl (hb hby at_89) rfl (teq c0).2 ?_
    show Steps p.tables e below (T15.setTop (mkF m 92 #[.val (.int p0), .val (.int p1), .val (.int p2), .val (.int r1), .val (.int j1), .val (.int r2), .val (.int j2), .val (.ref b9), .val (.ref b13), .val (.int (0 : Int32)), .unset] [])) _
    refine XS.iload X15.here hx rfl (hb hby at_92) rfl ?_
    show Steps p.tables e below (T15.setTop (mkF m 94 #[.val (.int p0), .val (.int p1), .val (.int p2), .val (.int r1), .val (.int j1), .val (.int r2), .val (.int j2), .val (.ref b9), .val (.ref b13), .val (.int (0 : Int32)), .unset] [(.int j1)])) _
    refine XS.iload X15.here hx rfl (hb hby at_94) rfl ?_
    show Steps p.tables e below (T15.setTop (mkF m 96 #[.val (.int p0), .val (.int p1), .val (.int p2), .val (.int r1), .val (.int j1), .val (.int r2), .val (.int j2), .val (.ref b9), .val (.ref b13), .val (.int (0 : Int32)), .unset] [(.int j2), (.int j1)])) _
    refine XS.icmpYes X15.here hx rfl (pc0 := 96) (pc' := 103) rfl (hb hby at_96) rfl (feq c1).2 (by decide) (by decide) ?_
    show Steps p.tables e below (T15.setTop (mkF m 103 #[.val (.int p0), .val (.int p1), .val (.int p2), .val (.int r1), .val (.int j1), .val (.int r2), .val (.int j2), .val (.ref b9), .val (.ref b13), .val (.int (0 : Int32)), .unset] [])) _
    refine XS.iconst X15.here hx rfl (hb hby at_103) ?_
    show Steps p.tables e below (T15.setTop (mkF m 104 #[.val (.int p0), .val (.int p1), .val (.int p2), .val (.int r1), .val (.int j1), .val (.int r2), .val (.int j2), .val (.ref b9), .val (.ref b13), .val (.int (0 : Int32)), .unset] [(.int (0 : Int32))])) _
    refine XS.istore X15.here hx rfl (hb hby at_104) rfl (l' := #[.val (.int p0), .val (.int p1), .val (.int p2), .val (.int r1), .val (.int j1), .val (.int r2), .val (.int j2), .val (.ref b9), .val (.ref b13), .val (.int (0 : Int32)), .val (.int (0 : Int32))]) rfl ?_
    show Steps p.tables e below (T15.setTop (mkF m 106 #[.val (.int p0), .val (.int p1), .val (.int p2), .val (.int r1), .val (.int j1), .val (.int r2), .val (.int j2), .val (.ref b9), .val (.ref b13), .val (.int (0 : Int32)), .val (.int (0 : Int32))] [])) _
    refine XS.aload X15.here hx rfl (hb hby at_106) rfl rfl ?_
    show Steps p.tables e below (T15.setTop (mkF m 108 #[.val (.int p0), .val (.int p1), .val (.int p2), .val (.int r1), .val (.int j1), .val (.int r2), .val (.int j2), .val (.ref b9), .val (.ref b13), .val (.int (0 : Int32)), .val (.int (0 : Int32))] [(.ref b9)])) _
    refine XS.aload X15.here hx rfl (hb hby at_108) rfl rfl ?_
    show Steps p.tables e below (T15.setTop (mkF m 110 #[.val (.int p0), .val (.int p1), .val (.int p2), .val (.int r1), .val (.int j1), .val (.int r2), .val (.int j2), .val (.ref b9), .val (.ref b13), .val (.int (0 : Int32)), .val (.int (0 : Int32))] [(.ref b13), (.ref b9)])) _
    refine st21.trans ?_
    show Steps p.tables e below (T21.setTop (mkF m 113 #[.val (.int p0), .val (.int p1), .val (.int p2), .val (.int r1), .val (.int j1), .val (.int r2), .val (.int j2), .val (.ref b9), .val (.ref b13), .val (.int (0 : Int32)), .val (.int (0 : Int32))] [(.int (0 : Int32))])) _
    refine XS.iload X21.here hx rfl (hb hby at_113) rfl ?_
    show Steps p.tables e below (T21.setTop (mkF m 115 #[.val (.int p0), .val (.int p1), .val (.int p2), .val (.int r1), .val (.int j1), .val (.int r2), .val (.int j2), .val (.ref b9), .val (.ref b13), .val (.int (0 : Int32)), .val (.int (0 : Int32))] [(.int (0 : Int32)), (.int (0 : Int32))])) _
    refine XS.icmpNo X21.here hx rfl (hb hby at_115) rfl (by decide) ?_
    show Steps p.tables e below (T21.setTop (mkF m 118 #[.val (.int p0), .val (.int p1), .val (.int p2), .val (.int r1), .val (.int j1), .val (.int r2), .val (.int j2), .val (.ref b9), .val (.ref b13), .val (.int (0 : Int32)), .val (.int (0 : Int32))] [])) _
    refine XS.aload X21.here hx rfl (hb hby at_118) rfl rfl ?_
    show Steps p.tables e below (T21.setTop (mkF m 120 #[.val (.int p0), .val (.int p1), .val (.int p2), .val (.int r1), .val (.int j1), .val (.int r2), .val (.int j2), .val (.ref b9), .val (.ref b13), .val (.int (0 : Int32)), .val (.int (0 : Int32))] [(.ref b13)])) _
    refine XS.aload X21.here hx rfl (hb hby at_120) rfl rfl ?_
    show Steps p.tables e below (T21.setTop (mkF m 122 #[.val (.int p0), .val (.int p1), .val (.int p2), .val (.int r1), .val (.int j1), .val (.int r2), .val (.int j2), .val (.ref b9), .val (.ref b13), .val (.int (0 : Int32)), .val (.int (0 : Int32))] [(.ref b9), (.ref b13)])) _
    refine st22.trans ?_
    show Steps p.tables e below (T22.setTop (mkF m 125 #[.val (.int p0), .val (.int p1), .val (.int p2), .val (.int r1), .val (.int j1), .val (.int r2), .val (.int j2), .val (.ref b9), .val (.ref b13), .val (.int (0 : Int32)), .val (.int (0 : Int32))] [(.int (0 : Int32))])) _
    refine XS.iload X22.here hx rfl (hb hby at_125) rfl ?_
    show Steps p.tables e below (T22.setTop (mkF m 127 #[.val (.int p0), .val (.int p1), .val (.int p2), .val (.int r1), .val (.int j1), .val (.int r2), .val (.int j2), .val (.ref b9), .val (.ref b13), .val (.int (0 : Int32)), .val (.int (0 : Int32))] [(.int (0 : Int32)), (.int (0 : Int32))])) _
    refine XS.icmpNo X22.here hx rfl (hb hby at_127) rfl (by decide) ?_
    show Steps p.tables e below (T22.setTop (mkF m 130 #[.val (.int p0), .val (.int p1), .val (.int p2), .val (.int r1), .val (.int j1), .val (.int r2), .val (.int j2), .val (.ref b9), .val (.ref b13), .val (.int (0 : Int32)), .val (.int (0 : Int32))] [])) _
    refine XS.iconst X22.here hx rfl (hb hby at_130) ?_
    show Steps p.tables e below (T22.setTop (mkF m 131 #[.val (.int p0), .val (.int p1), .val (.int p2), .val (.int r1), .val (.int j1), .val (.int r2), .val (.int j2), .val (.ref b9), .val (.ref b13), .val (.int (0 : Int32)), .val (.int (0 : Int32))] [(.int (1 : Int32))])) _
    refine XS.goto X22.here hx rfl (pc0 := 131) (pc' := 135) rfl (hb hby at_131) (by decide) (by decide) ?_
    show Steps p.tables e below (T22.setTop (mkF m 135 #[.val (.int p0), .val (.int p1), .val (.int p2), .val (.int r1), .val (.int j1), .val (.int r2), .val (.int j2), .val (.ref b9), .val (.ref b13), .val (.int (0 : Int32)), .val (.int (0 : Int32))] [(.int (1 : Int32))])) _
    exact retN X22 hx (t := .boolean) Bd.returns (by simp) (hb hby at_135) hr
  · show Qrm0_1 Z w_cache cl_cache p0 p1 p2 r1 j1 r2 j2 h0 n0 _ T22.heap _
    rw [e22]
    exact ⟨rfl, N22, Ks16⟩
theorem d4_35 : decode prog_2_method_2_code 35 = .ok (.iconst 1, 1) := by decide +kernel
theorem d4_36 : decode prog_2_method_2_code 36 = .ok (.goto 4, 3) := by decide +kernel
def Qrm4_8 (Z : State) (w_cache : Addr) (cl_cache : Cell) (x1 : Addr) (x2 : Addr) (i3 : Int32) (i4 : Int32) (i5 : Int32) (i6 : Int32) (h0 : Heap) (n0 : Nat) (v : Option Value) (h : Heap) (L : List Loc) : Prop := v = some (.int (1 : Int32)) ∧ Fr n0 L ∧ h = h0
set_option maxRecDepth 65536 in
set_option maxHeartbeats 40000000 in
theorem rm4_8 (l : Launch) (Z : State) (a0 : Array Value) (hw : ∀ d ∈ tables_1, d.before a0 Z = true) (ws : List Jvm.Cond) (w_cache : Addr) (cl_cache : Cell) (x1 : Addr) (x2 : Addr) (i3 : Int32) (i4 : Int32) (i5 : Int32) (i6 : Int32) (h0 : Heap) (n0 : Nat) (O0 : Old Z n0 h0) (P : Pins Z w_cache cl_cache) (E_x2 : Exa Z h0 x2 "com/example/demarc/demarc/ApplicationExceptions$Designation") (F_x2_rollback : Fld Z h0 x2 "com/example/demarc/demarc/ApplicationExceptions$Designation" "rollback" "Z" (.int i3)) (F_x1_rollback : Fld Z h0 x1 "com/example/demarc/demarc/ApplicationExceptions$Designation" "rollback" "Z" (.int i4)) (hc0 : i4 = i3) (F_x2_inherited : Fld Z h0 x2 "com/example/demarc/demarc/ApplicationExceptions$Designation" "inherited" "Z" (.int i5)) (F_x1_inherited : Fld Z h0 x1 "com/example/demarc/demarc/ApplicationExceptions$Designation" "inherited" "Z" (.int i6)) (hc1 : i6 = i5) :
    MetFree l (⟨"com/example/demarc/demarc/ApplicationExceptions$Designation", "equals", "(Ljava/lang/Object;)Z"⟩ : MethodName) (head1 (Jvm.Cond.code (⟨"com/example/demarc/demarc/ApplicationExceptions$Designation", "equals", "(Ljava/lang/Object;)Z"⟩ : MethodName) prog_2_method_2_code 2 (some .boolean) :: ws) ({ frames := 0, cells := 0, slots := 0, locals := 0 } : Room)) (fun a U => a = #[(.ref x1), (.ref x2)] ∧ Z.Warmed39 U.vm ∧ U.heap = h0) (fun _ _ _ _ _ => True) (fun _ U o U' => ∃ v L, o = .returned v ∧ Qrm4_8 Z w_cache cl_cache x1 x2 i3 i4 i5 i6 h0 n0 v U'.heap L ∧ FrameEnd U o U' L ({ frames := 0, cells := 0, slots := 0, locals := 0 } : Room).cells ({ frames := 0, cells := 0, slots := 0, locals := 0 } : Room).slots) := by
  refine MetFree.of_bodySF (plainFor_of_name pn_com_example_demarc_demarc_ApplicationExceptions_Designation) hisR ?_
  intro p e s m args below meth c s₁ Bd hml0 hP hK
  obtain ⟨rfl, hZ, hh⟩ := hP
  have hx := Bd.exec
  have hby := Bd.bytes
  have hml : c.maxLocals = 2 := hml0
  have hown : s.vm.findClass "com/example/demarc/demarc/ApplicationExceptions$Designation" = some m.cls := findClass_of_methodNamed Bd.named
  have hnm := (name_of_methodNamed Bd.named Bd.method).1
  have X0 : Stand p l e ({ frames := 0, cells := 0, slots := 0, locals := 0 } : Room) s m #[(.ref x1), (.ref x2)] below meth c s₁ [] 0 0 := Stand.of_body Bd
  have e0 : s₁.heap = h0 := by rw [← hh, Bd.state]; rfl
  have N0 := Fr.nil n0
  have Z0 : n0 ≤ h0.size := O0.1 ▸ O0.2.1
  have pre0 : ∀ t, Steps p.tables e below (s₁.setTop (mkF m 0 #[.val (.ref x1), .val (.ref x2)] [])) t → Steps p.tables e below (s₁.setTop (entryFrame m #[(.ref x1), (.ref x2)] 2)) t := fun t k => castTop (ef_4_RR m x1 x2) k
  obtain ⟨T1, X1, e1, st1⟩ := instY X0 hx hZ hown (hw _ (List.mem_of_getElem? (i := 25) rfl)) e0 (Ins.self E_x2) (g := (mkF m 1 #[.val (.ref x1), .val (.ref x2)] [(.ref x2)])) rfl rfl (hb hby d4_1)
  obtain ⟨T2, X2, e2, st2⟩ := castY X1 hx hZ hown (hw _ (List.mem_of_getElem? (i := 25) rfl)) e1 (Ins.self E_x2) (g := (mkF m 8 #[.val (.ref x1), .val (.ref x2)] [(.ref x2)])) rfl rfl (hb hby d4_8)
  obtain ⟨T3, X3, e3, st3⟩ := getF X2 hx hZ hown (host := "") (Or.inl (hw _ (List.mem_of_getElem? (i := 9) rfl))) Via.refl e2 F_x2_rollback (g := (mkF m 11 #[.val (.ref x1), .val (.ref x2)] [(.ref x2)])) rfl rfl (hb hby d4_11)
  obtain ⟨T4, X4, e4, st4⟩ := getF X3 hx hZ hown (host := "") (Or.inl (hw _ (List.mem_of_getElem? (i := 9) rfl))) Via.refl e3 F_x1_rollback (g := (mkF m 15 #[.val (.ref x1), .val (.ref x2)] [(.ref x1), (.int i3)])) rfl rfl (hb hby d4_15)
  obtain ⟨T5, X5, e5, st5⟩ := castY X4 hx hZ hown (hw _ (List.mem_of_getElem? (i := 25) rfl)) e4 (Ins.self E_x2) (g := (mkF m 22 #[.val (.ref x1), .val (.ref x2)] [(.ref x2)])) rfl rfl (hb hby d4_22)
  obtain ⟨T6, X6, e6, st6⟩ := getF X5 hx hZ hown (host := "") (Or.inl (hw _ (List.mem_of_getElem? (i := 11) rfl))) Via.refl e5 F_x2_inherited (g := (mkF m 25 #[.val (.ref x1), .val (.ref x2)] [(.ref x2)])) rfl rfl (hb hby d4_25)
  obtain ⟨T7, X7, e7, st7⟩ := getF X6 hx hZ hown (host := "") (Or.inl (hw _ (List.mem_of_getElem? (i := 11) rfl))) Via.refl e6 F_x1_inherited (g := (mkF m 29 #[.val (.ref x1), .val (.ref x2)] [(.ref x1), (.int i5)])) rfl rfl (hb hby d4_29)
  obtain ⟨fs, hr, hrun, hended, hW, hsame⟩ := X7.leave (v := some (.int (1 : Int32))) (fun h => by rw [Bd.returns] at h; cases h)
  refine ⟨_, _, pre0 _ ?_, hrun, hended, _, _, rfl, ?_, ⟨_, rfl⟩, hW, hsame.mono (by decide) (by decide)⟩
  · show Steps p.tables e below (s₁.setTop (mkF m 0 #[.val (.ref x1), .val (.ref x2)] [])) _
    refine XS.aloadN X0.here hx rfl (hb hby d4_0) rfl rfl ?_
    show Steps p.tables e below (s₁.setTop (mkF m 1 #[.val (.ref x1), .val (.ref x2)] [(.ref x2)])) _
    refine st1 _ ?_
    show Steps p.tables e below (T1.setTop (mkF m 4 #[.val (.ref x1), .val (.ref x2)] [(.int (1 : Int32))])) _
    refine XS.ifNo X1.here hx rfl (hb hby d4_4) rfl (by decide) ?_
    show Steps p.tables e below (T1.setTop (mkF m 7 #[.val (.ref x1), .val (.ref x2)] [])) _
    refine XS.aloadN X1.here hx rfl (hb hby d4_7) rfl rfl ?_
    show Steps p.tables e below (T1.setTop (mkF m 8 #[.val (.ref x1), .val (.ref x2)] [(.ref x2)])) _
    refine st2 _ ?_
    show Steps p.tables e below (T2.setTop (mkF m 11 #[.val (.ref x1), .val (.ref x2)] [(.ref x2)])) _
    refine st3 _ ?_
    show Steps p.tables e below (T3.setTop (mkF m 14 #[.val (.ref x1), .val (.ref x2)] [(.int i3)])) _
    refine XS.aloadN X3.here hx rfl (hb hby d4_14) rfl rfl ?_
    show Steps p.tables e below (T3.setTop (mkF m 15 #[.val (.ref x1), .val (.ref x2)] [(.ref x1), (.int i3)])) _
    refine st4 _ ?_
    show Steps p.tables e below (T4.setTop (mkF m 18 #[.val (.ref x1), .val (.ref x2)] [(.int i4), (.int i3)])) _
    refine XS.icmpNo X4.here hx rfl (hb hby d4_18) rfl (teq (Eq.symm hc0)).2 ?_
    show Steps p.tables e below (T4.setTop (mkF m 21 #[.val (.ref x1), .val (.ref x2)] [])) _
    refine XS.aloadN X4.here hx rfl (hb hby d4_21) rfl rfl ?_
    show Steps p.tables e below (T4.setTop (mkF m 22 #[.val (.ref x1), .val (.ref x2)] [(.ref x2)])) _
    refine st5 _ ?_
    show Steps p.tables e below (T5.setTop (mkF m 25 #[.val (.ref x1), .val (.ref x2)] [(.ref x2)])) _
    refine st6 _ ?_
    show Steps p.tables e below (T6.setTop (mkF m 28 #[.val (.ref x1), .val (.ref x2)] [(.int i5)])) _
    refine XS.aloadN X6.here hx rfl (hb hby d4_28) rfl rfl ?_
    show Steps p.tables e below (T6.setTop (mkF m 29 #[.val (.ref x1), .val (.ref x2)] [(.ref x1), (.int i5)])) _
    refine st7 _ ?_
    show Steps p.tables e below (T7.setTop (mkF m 32 #[.val (.ref x1), .val (.ref x2)] [(.int i6), (.int i5)])) _
    refine XS.icmpNo X7.here hx rfl (hb hby d4_32) rfl (teq (Eq.symm hc1)).2 ?_
    show Steps p.tables e below (T7.setTop (mkF m 35 #[.val (.ref x1), .val (.ref x2)] [])) _
    refine XS.iconst X7.here hx rfl (hb hby d4_35) ?_
    show Steps p.tables e below (T7.setTop (mkF m 36 #[.val (.ref x1), .val (.ref x2)] [(.int (1 : Int32))])) _
    refine XS.goto X7.here hx rfl (pc0 := 36) (pc' := 40) rfl (hb hby d4_36) (by decide) (by decide) ?_
    show Steps p.tables e below (T7.setTop (mkF m 40 #[.val (.ref x1), .val (.ref x2)] [(.int (1 : Int32))])) _
    exact retN X7 hx (t := .boolean) Bd.returns (by simp) (hb hby d4_40) hr
  · exact ⟨rfl, N0, e7⟩
def Qrm4_9 (Z : State) (w_cache : Addr) (cl_cache : Cell) (x1 : Addr) (x2 : Addr) (i3 : Int32) (i4 : Int32) (i5 : Int32) (i6 : Int32) (h0 : Heap) (n0 : Nat) (v : Option Value) (h : Heap) (L : List Loc) : Prop := v = some (.int (1 : Int32)) ∧ Fr n0 L ∧ h = h0
set_option maxRecDepth 65536 in
set_option maxHeartbeats 40000000 in
theorem rm4_9 (l : Launch) (Z : State) (a0 : Array Value) (hw : ∀ d ∈ tables_1, d.before a0 Z = true) (ws : List Jvm.Cond) (w_cache : Addr) (cl_cache : Cell) (x1 : Addr) (x2 : Addr) (i3 : Int32) (i4 : Int32) (i5 : Int32) (i6 : Int32) (h0 : Heap) (n0 : Nat) (O0 : Old Z n0 h0) (P : Pins Z w_cache cl_cache) (E_x2 : Exa Z h0 x2 "com/example/demarc/demarc/ApplicationExceptions$Designation") (F_x2_rollback : Fld Z h0 x2 "com/example/demarc/demarc/ApplicationExceptions$Designation" "rollback" "Z" (.int i3)) (F_x1_rollback : Fld Z h0 x1 "com/example/demarc/demarc/ApplicationExceptions$Designation" "rollback" "Z" (.int i4)) (hc0 : i3 = i4) (F_x2_inherited : Fld Z h0 x2 "com/example/demarc/demarc/ApplicationExceptions$Designation" "inherited" "Z" (.int i5)) (F_x1_inherited : Fld Z h0 x1 "com/example/demarc/demarc/ApplicationExceptions$Designation" "inherited" "Z" (.int i6)) (hc1 : i5 = i6) :
    MetFree l (⟨"com/example/demarc/demarc/ApplicationExceptions$Designation", "equals", "(Ljava/lang/Object;)Z"⟩ : MethodName) (head1 (Jvm.Cond.code (⟨"com/example/demarc/demarc/ApplicationExceptions$Designation", "equals", "(Ljava/lang/Object;)Z"⟩ : MethodName) prog_2_method_2_code 2 (some .boolean) :: ws) ({ frames := 0, cells := 0, slots := 0, locals := 0 } : Room)) (fun a U => a = #[(.ref x1), (.ref x2)] ∧ Z.Warmed39 U.vm ∧ U.heap = h0) (fun _ _ _ _ _ => True) (fun _ U o U' => ∃ v L, o = .returned v ∧ Qrm4_9 Z w_cache cl_cache x1 x2 i3 i4 i5 i6 h0 n0 v U'.heap L ∧ FrameEnd U o U' L ({ frames := 0, cells := 0, slots := 0, locals := 0 } : Room).cells ({ frames := 0, cells := 0, slots := 0, locals := 0 } : Room).slots) := by
  refine MetFree.of_bodySF (plainFor_of_name pn_com_example_demarc_demarc_ApplicationExceptions_Designation) hisR ?_
  intro p e s m args below meth c s₁ Bd hml0 hP hK
  obtain ⟨rfl, hZ, hh⟩ := hP
  have hx := Bd.exec
  have hby := Bd.bytes
  have hml : c.maxLocals = 2 := hml0
  have hown : s.vm.findClass "com/example/demarc/demarc/ApplicationExceptions$Designation" = some m.cls := findClass_of_methodNamed Bd.named
  have hnm := (name_of_methodNamed Bd.named Bd.method).1
  have X0 : Stand p l e ({ frames := 0, cells := 0, slots := 0, locals := 0 } : Room) s m #[(.ref x1), (.ref x2)] below meth c s₁ [] 0 0 := Stand.of_body Bd
  have e0 : s₁.heap = h0 := by rw [← hh, Bd.state]; rfl
  have N0 := Fr.nil n0
  have Z0 : n0 ≤ h0.size := O0.1 ▸ O0.2.1
  have pre0 : ∀ t, Steps p.tables e below (s₁.setTop (mkF m 0 #[.val (.ref x1), .val (.ref x2)] [])) t → Steps p.tables e below (s₁.setTop (entryFrame m #[(.ref x1), (.ref x2)] 2)) t := fun t k => castTop (ef_4_RR m x1 x2) k
  obtain ⟨T1, X1, e1, st1⟩ := instY X0 hx hZ hown (hw _ (List.mem_of_getElem? (i := 25) rfl)) e0 (Ins.self E_x2) (g := (mkF m 1 #[.val (.ref x1), .val (.ref x2)] [(.ref x2)])) rfl rfl (hb hby d4_1)
  obtain ⟨T2, X2, e2, st2⟩ := castY X1 hx hZ hown (hw _ (List.mem_of_getElem? (i := 25) rfl)) e1 (Ins.self E_x2) (g := (mkF m 8 #[.val (.ref x1), .val (.ref x2)] [(.ref x2)])) rfl rfl (hb hby d4_8)
  obtain ⟨T3, X3, e3, st3⟩ := getF X2 hx hZ hown (host := "") (Or.inl (hw _ (List.mem_of_getElem? (i := 9) rfl))) Via.refl e2 F_x2_rollback (g := (mkF m 11 #[.val (.ref x1), .val (.ref x2)] [(.ref x2)])) rfl rfl (hb hby d4_11)
  obtain ⟨T4, X4, e4, st4⟩ := getF X3 hx hZ hown (host := "") (Or.inl (hw _ (List.mem_of_getElem? (i := 9) rfl))) Via.refl e3 F_x1_rollback (g := (mkF m 15 #[.val (.ref x1), .val (.ref x2)] [(.ref x1), (.int i3)])) rfl rfl (hb hby d4_15)
  obtain ⟨T5, X5, e5, st5⟩ := castY X4 hx hZ hown (hw _ (List.mem_of_getElem? (i := 25) rfl)) e4 (Ins.self E_x2) (g := (mkF m 22 #[.val (.ref x1), .val (.ref x2)] [(.ref x2)])) rfl rfl (hb hby d4_22)
  obtain ⟨T6, X6, e6, st6⟩ := getF X5 hx hZ hown (host := "") (Or.inl (hw _ (List.mem_of_getElem? (i := 11) rfl))) Via.refl e5 F_x2_inherited (g := (mkF m 25 #[.val (.ref x1), .val (.ref x2)] [(.ref x2)])) rfl rfl (hb hby d4_25)
  obtain ⟨T7, X7, e7, st7⟩ := getF X6 hx hZ hown (host := "") (Or.inl (hw _ (List.mem_of_getElem? (i := 11) rfl))) Via.refl e6 F_x1_inherited (g := (mkF m 29 #[.val (.ref x1), .val (.ref x2)] [(.ref x1), (.int i5)])) rfl rfl (hb hby d4_29)
  obtain ⟨fs, hr, hrun, hended, hW, hsame⟩ := X7.leave (v := some (.int (1 : Int32))) (fun h => by rw [Bd.returns] at h; cases h)
  refine ⟨_, _, pre0 _ ?_, hrun, hended, _, _, rfl, ?_, ⟨_, rfl⟩, hW, hsame.mono (by decide) (by decide)⟩
  · show Steps p.tables e below (s₁.setTop (mkF m 0 #[.val (.ref x1), .val (.ref x2)] [])) _
    refine XS.aloadN X0.here hx rfl (hb hby d4_0) rfl rfl ?_
    show Steps p.tables e below (s₁.setTop (mkF m 1 #[.val (.ref x1), .val (.ref x2)] [(.ref x2)])) _
    refine st1 _ ?_
    show Steps p.tables e below (T1.setTop (mkF m 4 #[.val (.ref x1), .val (.ref x2)] [(.int (1 : Int32))])) _
    refine XS.ifNo X1.here hx rfl (hb hby d4_4) rfl (by decide) ?_
    show Steps p.tables e below (T1.setTop (mkF m 7 #[.val (.ref x1), .val (.ref x2)] [])) _
    refine XS.aloadN X1.here hx rfl (hb hby d4_7) rfl rfl ?_
    show Steps p.tables e below (T1.setTop (mkF m 8 #[.val (.ref x1), .val (.ref x2)] [(.ref x2)])) _
    refine st2 _ ?_
    show Steps p.tables e below (T2.setTop (mkF m 11 #[.val (.ref x1), .val (.ref x2)] [(.ref x2)])) _
    refine st3 _ ?_
    show Steps p.tables e below (T3.setTop (mkF m 14 #[.val (.ref x1), .val (.ref x2)] [(.int i3)])) _
    refine XS.aloadN X3.here hx rfl (hb hby d4_14) rfl rfl ?_
    show Steps p.tables e below (T3.setTop (mkF m 15 #[.val (.ref x1), .val (.ref x2)] [(.ref x1), (.int i3)])) _
    refine st4 _ ?_
    show Steps p.tables e below (T4.setTop (mkF m 18 #[.val (.ref x1), .val (.ref x2)] [(.int i4), (.int i3)])) _
    refine XS.icmpNo X4.here hx rfl (hb hby d4_18) rfl (teq hc0).2 ?_
    show Steps p.tables e below (T4.setTop (mkF m 21 #[.val (.ref x1), .val (.ref x2)] [])) _
    refine XS.aloadN X4.here hx rfl (hb hby d4_21) rfl rfl ?_
    show Steps p.tables e below (T4.setTop (mkF m 22 #[.val (.ref x1), .val (.ref x2)] [(.ref x2)])) _
    refine st5 _ ?_
    show Steps p.tables e below (T5.setTop (mkF m 25 #[.val (.ref x1), .val (.ref x2)] [(.ref x2)])) _
    refine st6 _ ?_
    show Steps p.tables e below (T6.setTop (mkF m 28 #[.val (.ref x1), .val (.ref x2)] [(.int i5)])) _
    refine XS.aloadN X6.here hx rfl (hb hby d4_28) rfl rfl ?_
    show Steps p.tables e below (T6.setTop (mkF m 29 #[.val (.ref x1), .val (.ref x2)] [(.ref x1), (.int i5)])) _
    refine st7 _ ?_
    show Steps p.tables e below (T7.setTop (mkF m 32 #[.val (.ref x1), .val (.ref x2)] [(.int i6), (.int i5)])) _
    refine XS.icmpNo X7.here hx rfl (hb hby d4_32) rfl (teq hc1).2 ?_
    show Steps p.tables e below (T7.setTop (mkF m 35 #[.val (.ref x1), .val (.ref x2)] [])) _
    refine XS.iconst X7.here hx rfl (hb hby d4_35) ?_
    show Steps p.tables e below (T7.setTop (mkF m 36 #[.val (.ref x1), .val (.ref x2)] [(.int (1 : Int32))])) _
    refine XS.goto X7.here hx rfl (pc0 := 36) (pc' := 40) rfl (hb hby d4_36) (by decide) (by decide) ?_
    show Steps p.tables e below (T7.setTop (mkF m 40 #[.val (.ref x1), .val (.ref x2)] [(.int (1 : Int32))])) _
    exact retN X7 hx (t := .boolean) Bd.returns (by simp) (hb hby d4_40) hr
  · exact ⟨rfl, N0, e7⟩
def Qrm0_2 (Z : State) (w_cache : Addr) (cl_cache : Cell) (p0 : Int32) (p1 : Int32) (p2 : Int32) (r1 : Int32) (j1 : Int32) (r2 : Int32) (j2 : Int32) (h0 : Heap) (n0 : Nat) (v : Option Value) (h : Heap) (L : List Loc) : Prop := v = some (.int (1 : Int32)) ∧ Fr n0 L ∧ Keep h0 h []
set_option maxRecDepth 65536 in
set_option maxHeartbeats 40000000 in
theorem rm0_2 (l : Launch) (Z : State) (a0 : Array Value) (hw : ∀ d ∈ tables_1, d.before a0 Z = true) (ws : List Jvm.Cond) (w_cache : Addr) (cl_cache : Cell) (p0 : Int32) (p1 : Int32) (p2 : Int32) (r1 : Int32) (j1 : Int32) (r2 : Int32) (j2 : Int32) (h0 : Heap) (n0 : Nat) (O0 : Old Z n0 h0) (P : Pins Z w_cache cl_cache) (hr1 : r1 = (if (p0 &&& (1 : Int32)) = (0 : Int32) then (0 : Int32) else (1 : Int32))) (hj1 : j1 = (if (p0 &&& (2 : Int32)) = (0 : Int32) then (0 : Int32) else (1 : Int32))) (hr2 : r2 = (if (p1 &&& (1 : Int32)) = (0 : Int32) then (0 : Int32) else (1 : Int32))) (hj2 : j2 = (if (p1 &&& (2 : Int32)) = (0 : Int32) then (0 : Int32) else (1 : Int32))) (k4 : (p2 &&& (3 : Int32)) = (0 : Int32)) (c0 : r1 = r2) (c1 : j1 = j2) :
    MetFree l x (head1 (Jvm.Cond.code x code maxLocals ret :: ws) room_1) (fun a U => a = #[(.int p0), (.int p1), (.int p2)] ∧ Z.Warmed39 U.vm ∧ U.heap = h0) (fun _ _ _ _ _ => True) (fun _ U o U' => ∃ v L, o = .returned v ∧ Qrm0_2 Z w_cache cl_cache p0 p1 p2 r1 j1 r2 j2 h0 n0 v U'.heap L ∧ FrameEnd U o U' L room_1.cells room_1.slots) := by
  refine MetFree.of_bodySF (plainFor_of_name pn_com_example_demarc_demarc_DesignationEqualsPinLaw) hisR ?_
  intro p e s m args below meth c s₁ Bd hml0 hP hK
  obtain ⟨rfl, hZ, hh⟩ := hP
  have hx := Bd.exec
  have hby := Bd.bytes
  have hml : c.maxLocals = 11 := hml0
  have hown : s.vm.findClass "com/example/demarc/demarc/DesignationEqualsPinLaw" = some m.cls := findClass_of_methodNamed Bd.named
  have hnm := (name_of_methodNamed Bd.named Bd.method).1
  have X0 : Stand p l e room_1 s m #[(.int p0), (.int p1), (.int p2)] below meth c s₁ [] 0 0 := Stand.of_body Bd
  have e0 : s₁.heap = h0 := by rw [← hh, Bd.state]; rfl
  have N0 := Fr.nil n0
  have Z0 : n0 ≤ h0.size := O0.1 ▸ O0.2.1
  have pre0 : ∀ t, Steps p.tables e below (s₁.setTop (mkF m 0 #[.val (.int p0), .val (.int p1), .val (.int p2), .unset, .unset, .unset, .unset, .unset, .unset, .unset, .unset] [])) t → Steps p.tables e below (s₁.setTop (entryFrame m #[(.int p0), (.int p1), (.int p2)] maxLocals)) t := fun t k => castTop (ef_0_III m p0 p1 p2) k
  have Kr : Keep h0 h0 [] := Keep.refl h0 _
  have hb_r1 : r1 = (0 : Int32) ∨ r1 = (1 : Int32) := by rw [hr1]; (repeat' split) <;> simp
  have sg2 : ∀ t, Steps p.tables e below (s₁.setTop (mkF m 11 #[.val (.int p0), .val (.int p1), .val (.int p2), .unset, .unset, .unset, .unset, .unset, .unset, .unset, .unset] [(.int r1)])) t → Steps p.tables e below (s₁.setTop (mkF m 3 #[.val (.int p0), .val (.int p1), .val (.int p2), .unset, .unset, .unset, .unset, .unset, .unset, .unset, .unset] [(.int (p0 &&& (1 : Int32)))])) t := by
    intro t kt
    show Steps p.tables e below (s₁.setTop (mkF m 3 #[.val (.int p0), .val (.int p1), .val (.int p2), .unset, .unset, .unset, .unset, .unset, .unset, .unset, .unset] [(.int (p0 &&& (1 : Int32)))])) _
    by_cases q1 : (p0 &&& (1 : Int32)) = (0 : Int32)
    · refine XS.ifYes X0.here hx rfl (pc0 := 3) (pc' := 10) rfl (hb hby at_3) rfl ((if0 _ _).trans (teq q1).1) (by decide) (by decide) ?_
      show Steps p.tables e below (s₁.setTop (mkF m 10 #[.val (.int p0), .val (.int p1), .val (.int p2), .unset, .unset, .unset, .unset, .unset, .unset, .unset, .unset] [])) _
      refine XS.iconst X0.here hx rfl (hb hby at_10) ?_
      rw [show r1 = (0 : Int32) from hr1.trans (if_pos q1)] at kt
      exact kt
    · refine XS.ifNo X0.here hx rfl (hb hby at_3) rfl ((if0 _ _).trans (feq q1).1) ?_
      show Steps p.tables e below (s₁.setTop (mkF m 6 #[.val (.int p0), .val (.int p1), .val (.int p2), .unset, .unset, .unset, .unset, .unset, .unset, .unset, .unset] [])) _
      refine XS.iconst X0.here hx rfl (hb hby at_6) ?_
      show Steps p.tables e below (s₁.setTop (mkF m 7 #[.val (.int p0), .val (.int p1), .val (.int p2), .unset, .unset, .unset, .unset, .unset, .unset, .unset, .unset] [(.int (1 : Int32))])) _
      refine XS.goto X0.here hx rfl (pc0 := 7) (pc' := 11) rfl (hb hby at_7) (by decide) (by decide) ?_
      rw [show r1 = (1 : Int32) from hr1.trans (if_neg q1)] at kt
      exact kt
  have hb_j1 : j1 = (0 : Int32) ∨ j1 = (1 : Int32) := by rw [hj1]; (repeat' split) <;> simp
  have sg4 : ∀ t, Steps p.tables e below (s₁.setTop (mkF m 23 #[.val (.int p0), .val (.int p1), .val (.int p2), .val (.int r1), .unset, .unset, .unset, .unset, .unset, .unset, .unset] [(.int j1)])) t → Steps p.tables e below (s₁.setTop (mkF m 15 #[.val (.int p0), .val (.int p1), .val (.int p2), .val (.int r1), .unset, .unset, .unset, .unset, .unset, .unset, .unset] [(.int (p0 &&& (2 : Int32)))])) t := by
    intro t kt
    show Steps p.tables e below (s₁.setTop (mkF m 15 #[.val (.int p0), .val (.int p1), .val (.int p2), .val (.int r1), .unset, .unset, .unset, .unset, .unset, .unset, .unset] [(.int (p0 &&& (2 : Int32)))])) _
    by_cases q3 : (p0 &&& (2 : Int32)) = (0 : Int32)
    · refine XS.ifYes X0.here hx rfl (pc0 := 15) (pc' := 22) rfl (hb hby at_15) rfl ((if0 _ _).trans (teq q3).1) (by decide) (by decide) ?_
      show Steps p.tables e below (s₁.setTop (mkF m 22 #[.val (.int p0), .val (.int p1), .val (.int p2), .val (.int r1), .unset, .unset, .unset, .unset, .unset, .unset, .unset] [])) _
      refine XS.iconst X0.here hx rfl (hb hby at_22) ?_
      rw [show j1 = (0 : Int32) from hj1.trans (if_pos q3)] at kt
      exact kt
    · refine XS.ifNo X0.here hx rfl (hb hby at_15) rfl ((if0 _ _).trans (feq q3).1) ?_
      show Steps p.tables e below (s₁.setTop (mkF m 18 #[.val (.int p0), .val (.int p1), .val (.int p2), .val (.int r1), .unset, .unset, .unset, .unset, .unset, .unset, .unset] [])) _
      refine XS.iconst X0.here hx rfl (hb hby at_18) ?_
      show Steps p.tables e below (s₁.setTop (mkF m 19 #[.val (.int p0), .val (.int p1), .val (.int p2), .val (.int r1), .unset, .unset, .unset, .unset, .unset, .unset, .unset] [(.int (1 : Int32))])) _
      refine XS.goto X0.here hx rfl (pc0 := 19) (pc' := 23) rfl (hb hby at_19) (by decide) (by decide) ?_
      rw [show j1 = (1 : Int32) from hj1.trans (if_neg q3)] at kt
      exact kt
  have hb_r2 : r2 = (0 : Int32) ∨ r2 = (1 : Int32) := by rw [hr2]; (repeat' split) <;> simp
  have sg6 : ∀ t, Steps p.tables e below (s₁.setTop (mkF m 36 #[.val (.int p0), .val (.int p1), .val (.int p2), .val (.int r1), .val (.int j1), .unset, .unset, .unset, .unset, .unset, .unset] [(.int r2)])) t → Steps p.tables e below (s₁.setTop (mkF m 28 #[.val (.int p0), .val (.int p1), .val (.int p2), .val (.int r1), .val (.int j1), .unset, .unset, .unset, .unset, .unset, .unset] [(.int (p1 &&& (1 : Int32)))])) t := by
    intro t kt
    show Steps p.tables e below (s₁.setTop (mkF m 28 #[.val (.int p0), .val (.int p1), .val (.int p2), .val (.int r1), .val (.int j1), .unset, .unset, .unset, .unset, .unset, .unset] [(.int (p1 &&& (1 : Int32)))])) _
    by_cases q5 : (p1 &&& (1 : Int32)) = (0 : Int32)
    · refine XS.ifYes X0.here hx rfl (pc0 := 28) (pc' := 35) rfl (hb hby at_28) rfl ((if0 _ _).trans (teq q5).1) (by decide) (by decide) ?_
      show Steps p.tables e below (s₁.setTop (mkF m 35 #[.val (.int p0), .val (.int p1), .val (.int p2), .val (.int r1), .val (.int j1), .unset, .unset, .unset, .unset, .unset, .unset] [])) _
      refine XS.iconst X0.here hx rfl (hb hby at_35) ?_
      rw [show r2 = (0 : Int32) from hr2.trans (if_pos q5)] at kt
      exact kt
    · refine XS.ifNo X0.here hx rfl (hb hby at_28) rfl ((if0 _ _).trans (feq q5).1) ?_
      show Steps p.tables e below (s₁.setTop (mkF m 31 #[.val (.int p0), .val (.int p1), .val (.int p2), .val (.int r1), .val (.int j1), .unset, .unset, .unset, .unset, .unset, .unset] [])) _
      refine XS.iconst X0.here hx rfl (hb hby at_31) ?_
      show Steps p.tables e below (s₁.setTop (mkF m 32 #[.val (.int p0), .val (.int p1), .val (.int p2), .val (.int r1), .val (.int j1), .unset, .unset, .unset, .unset, .unset, .unset] [(.int (1 : Int32))])) _
      refine XS.goto X0.here hx rfl (pc0 := 32) (pc' := 36) rfl (hb hby at_32) (by decide) (by decide) ?_
      rw [show r2 = (1 : Int32) from hr2.trans (if_neg q5)] at kt
      exact kt
  have hb_j2 : j2 = (0 : Int32) ∨ j2 = (1 : Int32) := by rw [hj2]; (repeat' split) <;> simp
  have sg8 : ∀ t, Steps p.tables e below (s₁.setTop (mkF m 49 #[.val (.int p0), .val (.int p1), .val (.int p2), .val (.int r1), .val (.int j1), .val (.int r2), .unset, .unset, .unset, .unset, .unset] [(.int j2)])) t → Steps p.tables e below (s₁.setTop (mkF m 41 #[.val (.int p0), .val (.int p1), .val (.int p2), .val (.int r1), .val (.int j1), .val (.int r2), .unset, .unset, .unset, .unset, .unset] [(.int (p1 &&& (2 : Int32)))])) t := by
    intro t kt
    show Steps p.tables e below (s₁.setTop (mkF m 41 #[.val (.int p0), .val (.int p1), .val (.int p2), .val (.int r1), .val (.int j1), .val (.int r2), .unset, .unset, .unset, .unset, .unset] [(.int (p1 &&& (2 : Int32)))])) _
    by_cases q7 : (p1 &&& (2 : Int32)) = (0 : Int32)
    · refine XS.ifYes X0.here hx rfl (pc0 := 41) (pc' := 48) rfl (hb hby at_41) rfl ((if0 _ _).trans (teq q7).1) (by decide) (by decide) ?_
      show Steps p.tables e below (s₁.setTop (mkF m 48 #[.val (.int p0), .val (.int p1), .val (.int p2), .val (.int r1), .val (.int j1), .val (.int r2), .unset, .unset, .unset, .unset, .unset] [])) _
      refine XS.iconst X0.here hx rfl (hb hby at_48) ?_
      rw [show j2 = (0 : Int32) from hj2.trans (if_pos q7)] at kt
      exact kt
    · refine XS.ifNo X0.here hx rfl (hb hby at_41) rfl ((if0 _ _).trans (feq q7).1) ?_
      show Steps p.tables e below (s₁.setTop (mkF m 44 #[.val (.int p0), .val (.int p1), .val (.int p2), .val (.int r1), .val (.int j1), .val (.int r2), .unset, .unset, .unset, .unset, .unset] [])) _
      refine XS.iconst X0.here hx rfl (hb hby at_44) ?_
      show Steps p.tables e below (s₁.setTop (mkF m 45 #[.val (.int p0), .val (.int p1), .val (.int p2), .val (.int r1), .val (.int j1), .val (.int r2), .unset, .unset, .unset, .unset, .unset] [(.int (1 : Int32))])) _
      refine XS.goto X0.here hx rfl (pc0 := 45) (pc' := 49) rfl (hb hby at_45) (by decide) (by decide) ?_
      rw [show j2 = (1 : Int32) from hj2.trans (if_neg q7)] at kt
      exact kt
  obtain ⟨T9, h9, X9, e9, E9, A9, D9, -, st9⟩ := newO X0 hx hZ hown (hw _ (List.mem_of_getElem? (i := 0) rfl)) (hw _ (List.mem_of_getElem? (i := 1) rfl)) (hw _ (List.mem_of_getElem? (i := 2) rfl)) e0 (g := (mkF m 51 #[.val (.int p0), .val (.int p1), .val (.int p2), .val (.int r1), .val (.int j1), .val (.int r2), .val (.int j2), .unset, .unset, .unset, .unset] [])) rfl (hb hby at_51) (by decide) (by decide)
  obtain ⟨b9, g9⟩ : ∃ z, z = (h0).size := ⟨_, rfl⟩
  rw [← g9] at A9 D9 st9
  have Zs10 : n0 ≤ (h9).size := Nat.le_trans Z0 E9.1
  have Os10 : Old Z n0 (h9) := O0.ext E9
  have Ks10 : Keep h0 (h9) [] := Kr.ext E9
  have D9_rollback : Fld Z h9 b9 "com/example/demarc/demarc/ApplicationExceptions$Designation" "rollback" "Z" (.int (0 : Int32)) := D9 (Or.inr (hw _ (List.mem_of_getElem? (i := 10) rfl))) (ty := .boolean) (by decide)
  have D9_inherited : Fld Z h9 b9 "com/example/demarc/demarc/ApplicationExceptions$Designation" "inherited" "Z" (.int (0 : Int32)) := D9 (Or.inr (hw _ (List.mem_of_getElem? (i := 12) rfl))) (ty := .boolean) (by decide)
  obtain ⟨_, _, ⟨T11, L11, k11, n11⟩, -, X11, ⟨Lc11, hQ11, l11, y11, z11⟩, st11⟩ := X9.specialBack hx (y := (⟨"com/example/demarc/demarc/ApplicationExceptions$Designation", "<init>", "(ZZ)V"⟩ : MethodName)) rfl hown (mvT hZ (hw _ (List.mem_of_getElem? (i := 3) rfl))) (mvT hZ (hw _ (List.mem_of_getElem? (i := 4) rfl))) (mvT hZ (hw _ (List.mem_of_getElem? (i := 5) rfl))) (by decide) (backOf (W := 1) (rm1_1 l Z a0 hw [] w_cache cl_cache b9 r1 j1 h9 n0 Os10 P A9 D9_rollback hb_r1 (Nat.le_trans Z0 (Nat.le_of_eq g9.symm)) D9_inherited hb_j1) hZ (hw _ (List.mem_of_getElem? (i := 5) rfl)) (hw _ (List.mem_of_getElem? (i := 2) rfl)) (by decide) (by decide)) (g := (mkF m 58 #[.val (.int p0), .val (.int p1), .val (.int p2), .val (.int r1), .val (.int j1), .val (.int r2), .val (.int j2), .unset, .unset, .unset, .unset] [(.int j1), (.int r1), (.ref b9), (.ref b9)])) rfl (by rw [hml]; rfl) (Steps.refl _) (a := b9) (argsL := [(.int r1), (.int j1)]) (rest := [(.ref b9)]) (lenOf pd_0 rfl) rfl (by show 2 * 0 + _ ≤ _; exact Nat.le_of_eq rfl) (hb hby at_58) (fun _ _ => ⟨rfl, e9, (by decide : 1 + 0 ≤ _), (by decide : 2 + 0 ≤ _)⟩)
  dsimp only [Pt.U, Pt.locs, Pt.cells, Pt.slots] at X11 l11 y11 z11 st11 hQ11
  subst l11 y11 z11
  obtain ⟨rfl, N11q, K11, q11_0, q11_1⟩ := hQ11
  have N11 := Fr.app N0 N11q
  have Ks12 : Keep h0 (T11.heap) [] := Ks10.trans K11 (allS (Or.inr (Nat.le_trans Kr.1 (Nat.le_of_eq g9.symm))) all0)
  have Zs12 : n0 ≤ (T11.heap).size := Nat.le_trans Zs10 K11.1
  have Os12 : Old Z n0 (T11.heap) := Os10.keep K11 (allS (Nat.le_trans Z0 (Nat.le_of_eq g9.symm)) all0)
  obtain ⟨T13, h13, X13, e13, E13, A13, D13, -, st13⟩ := newO X11 hx hZ hown (hw _ (List.mem_of_getElem? (i := 0) rfl)) (hw _ (List.mem_of_getElem? (i := 1) rfl)) (hw _ (List.mem_of_getElem? (i := 2) rfl)) rfl (g := (mkF m 63 #[.val (.int p0), .val (.int p1), .val (.int p2), .val (.int r1), .val (.int j1), .val (.int r2), .val (.int j2), .val (.ref b9), .unset, .unset, .unset] [])) rfl (hb hby at_63) (by decide) (by decide)
  obtain ⟨b13, g13⟩ : ∃ z, z = (T11.heap).size := ⟨_, rfl⟩
  rw [← g13] at A13 D13 st13
  have Zs14 : n0 ≤ (h13).size := Nat.le_trans Zs12 E13.1
  have Os14 : Old Z n0 (h13) := Os12.ext E13
  have Ks14 : Keep h0 (h13) [] := Ks12.ext E13
  have D13_rollback : Fld Z h13 b13 "com/example/demarc/demarc/ApplicationExceptions$Designation" "rollback" "Z" (.int (0 : Int32)) := D13 (Or.inr (hw _ (List.mem_of_getElem? (i := 10) rfl))) (ty := .boolean) (by decide)
  have D13_inherited : Fld Z h13 b13 "com/example/demarc/demarc/ApplicationExceptions$Designation" "inherited" "Z" (.int (0 : Int32)) := D13 (Or.inr (hw _ (List.mem_of_getElem? (i := 12) rfl))) (ty := .boolean) (by decide)
  obtain ⟨_, _, ⟨T15, L15, k15, n15⟩, -, X15, ⟨Lc15, hQ15, l15, y15, z15⟩, st15⟩ := X13.specialBack hx (y := (⟨"com/example/demarc/demarc/ApplicationExceptions$Designation", "<init>", "(ZZ)V"⟩ : MethodName)) rfl hown (mvT hZ (hw _ (List.mem_of_getElem? (i := 3) rfl))) (mvT hZ (hw _ (List.mem_of_getElem? (i := 4) rfl))) (mvT hZ (hw _ (List.mem_of_getElem? (i := 5) rfl))) (by decide) (backOf (W := 1) (rm1_1 l Z a0 hw [] w_cache cl_cache b13 r2 j2 h13 n0 Os14 P A13 D13_rollback hb_r2 (Nat.le_trans Zs12 (Nat.le_of_eq g13.symm)) D13_inherited hb_j2) hZ (hw _ (List.mem_of_getElem? (i := 5) rfl)) (hw _ (List.mem_of_getElem? (i := 2) rfl)) (by decide) (by decide)) (g := (mkF m 71 #[.val (.int p0), .val (.int p1), .val (.int p2), .val (.int r1), .val (.int j1), .val (.int r2), .val (.int j2), .val (.ref b9), .unset, .unset, .unset] [(.int j2), (.int r2), (.ref b13), (.ref b13)])) rfl (by rw [hml]; rfl) (Steps.refl _) (a := b13) (argsL := [(.int r2), (.int j2)]) (rest := [(.ref b13)]) (lenOf pd_0 rfl) rfl (by show 2 * 0 + _ ≤ _; exact Nat.le_of_eq rfl) (hb hby at_71) (fun _ _ => ⟨rfl, e13, (by decide : 2 + 0 ≤ _), (by decide : 4 + 0 ≤ _)⟩)
  dsimp only [Pt.U, Pt.locs, Pt.cells, Pt.slots] at X15 l15 y15 z15 st15 hQ15
  subst l15 y15 z15
  obtain ⟨rfl, N15q, K15, q15_0, q15_1⟩ := hQ15
  have N15 := Fr.app N11 N15q
  have Ks16 : Keep h0 (T15.heap) [] := Ks14.trans K15 (allS (Or.inr (Nat.le_trans Ks12.1 (Nat.le_of_eq g13.symm))) all0)
  have Zs16 : n0 ≤ (T15.heap).size := Nat.le_trans Zs14 K15.1
  have Os16 : Old Z n0 (T15.heap) := Os14.keep K15 (allS (Nat.le_trans Zs12 (Nat.le_of_eq g13.symm)) all0)
  have f17 := (((A9.keep K11).ext E13).keep K15)
  have f18 := (A13.keep K15)
  have f19 := ((q11_0.ext E13).keep K15 (ninS (Nat.ne_of_lt (Nat.lt_of_lt_of_le (q11_0).lt (Nat.le_of_eq g13.symm))) nin0))
  have f20 := ((q11_1.ext E13).keep K15 (ninS (Nat.ne_of_lt (Nat.lt_of_lt_of_le (q11_0).lt (Nat.le_of_eq g13.symm))) nin0))
  obtain ⟨cq21, kq21, q21a, q21b, q21c⟩ := isOf hZ rfl f17
  obtain ⟨_, _, ⟨T21, L21, k21, n21⟩, -, X21, ⟨Lc21, hQ21, l21, y21, z21⟩, st21⟩ := X15.virtualBack hx (y := (⟨"com/example/demarc/demarc/ApplicationExceptions$Designation", "equals", "(Ljava/lang/Object;)Z"⟩ : MethodName)) (z := (⟨"com/example/demarc/demarc/ApplicationExceptions$Designation", "equals", "(Ljava/lang/Object;)Z"⟩ : MethodName)) hown (mvT hZ (hw _ (List.mem_of_getElem? (i := 20) rfl))) (mvT hZ (hw _ (List.mem_of_getElem? (i := 21) rfl))) (notFace_of_selects (args := #[]) (mvT hZ (hw _ (List.mem_of_getElem? (i := 23) rfl)))) (mvT hZ (hw _ (List.mem_of_getElem? (i := 23) rfl))) (mvT hZ (hw _ (List.mem_of_getElem? (i := 22) rfl))) (by decide) (backOf (W := 0) (rm4_8 l Z a0 hw [] w_cache cl_cache b9 b13 r2 r1 j2 j1 T15.heap n0 Os16 P f18 q15_0 f19 c0 q15_1 f20 c1) hZ (hw _ (List.mem_of_getElem? (i := 24) rfl)) (hw _ (List.mem_of_getElem? (i := 2) rfl)) (by decide) (by decide)) q21a q21c (g := (mkF m 110 #[.val (.int p0), .val (.int p1), .val (.int p2), .val (.int r1), .val (.int j1), .val (.int r2), .val (.int j2), .val (.ref b9), .val (.ref b13), .val (.int (0 : Int32)), .val (.int (1 : Int32))] [(.ref b13), (.ref b9)])) rfl (by rw [hml]; rfl) (Steps.refl _) (argsL := [(.ref b13)]) (rest := []) (lenOf pd_1 rfl) rfl (by show 2 * 0 + _ ≤ _; exact Nat.le_of_eq rfl) (hb hby at_110) (fun _ _ => ⟨rfl, rfl, (by decide : 2 + 0 ≤ _), (by decide : 4 + 0 ≤ _)⟩)
  dsimp only [Pt.U, Pt.locs, Pt.cells, Pt.slots] at X21 l21 y21 z21 st21 hQ21
  subst l21 y21 z21
  obtain ⟨rfl, N21q, e21⟩ := hQ21
  have N21 := Fr.app N15 N21q
  obtain ⟨cq22, kq22, q22a, q22b, q22c⟩ := isOf hZ e21 f18
  obtain ⟨_, _, ⟨T22, L22, k22, n22⟩, -, X22, ⟨Lc22, hQ22, l22, y22, z22⟩, st22⟩ := X21.virtualBack hx (y := (⟨"com/example/demarc/demarc/ApplicationExceptions$Designation", "equals", "(Ljava/lang/Object;)Z"⟩ : MethodName)) (z := (⟨"com/example/demarc/demarc/ApplicationExceptions$Designation", "equals", "(Ljava/lang/Object;)Z"⟩ : MethodName)) hown (mvT hZ (hw _ (List.mem_of_getElem? (i := 20) rfl))) (mvT hZ (hw _ (List.mem_of_getElem? (i := 21) rfl))) (notFace_of_selects (args := #[]) (mvT hZ (hw _ (List.mem_of_getElem? (i := 23) rfl)))) (mvT hZ (hw _ (List.mem_of_getElem? (i := 23) rfl))) (mvT hZ (hw _ (List.mem_of_getElem? (i := 22) rfl))) (by decide) (backOf (W := 0) (rm4_9 l Z a0 hw [] w_cache cl_cache b13 b9 r1 r2 j1 j2 T15.heap n0 Os16 P f17 f19 q15_0 c0 f20 q15_1 c1) hZ (hw _ (List.mem_of_getElem? (i := 24) rfl)) (hw _ (List.mem_of_getElem? (i := 2) rfl)) (by decide) (by decide)) q22a q22c (g := (mkF m 122 #[.val (.int p0), .val (.int p1), .val (.int p2), .val (.int r1), .val (.int j1), .val (.int r2), .val (.int j2), .val (.ref b9), .val (.ref b13), .val (.int (0 : Int32)), .val (.int (1 : Int32))] [(.ref b9), (.ref b13)])) rfl (by rw [hml]; rfl) (Steps.refl _) (argsL := [(.ref b9)]) (rest := []) (lenOf pd_1 rfl) rfl (by show 2 * 0 + _ ≤ _; exact Nat.le_of_eq rfl) (hb hby at_122) (fun _ _ => ⟨rfl, e21, (by decide : 2 + 0 ≤ _), (by decide : 4 + 0 ≤ _)⟩)
  dsimp only [Pt.U, Pt.locs, Pt.cells, Pt.slots] at X22 l22 y22 z22 st22 hQ22
  subst l22 y22 z22
  obtain ⟨rfl, N22q, e22⟩ := hQ22
  have N22 := Fr.app N21 N22q
  obtain ⟨fs, hr, hrun, hended, hW, hsame⟩ := X22.leave (v := some (.int (1 : Int32))) (fun h => by rw [Bd.returns] at h; cases h)
  refine ⟨_, _, pre0 _ ?_, hrun, hended, _, _, rfl, ?_, ⟨_, rfl⟩, hW, hsame.mono (by decide) (by decide)⟩
  · show Steps p.tables e below (s₁.setTop (mkF m 0 #[.val (.int p0), .val (.int p1), .val (.int p2), .unset, .unset, .unset, .unset, .unset, .unset, .unset, .unset] [])) _
    refine XS.iloadN X0.here hx rfl (hb hby at_0) rfl ?_
    show Steps p.tables e below (s₁.setTop (mkF m 1 #[.val (.int p0), .val (.int p1), .val (.int p2), .unset, .unset, .unset, .unset, .unset, .unset, .unset, .unset] [(.int p0)])) _
    refine XS.iconst X0.here hx rfl (hb hby at_1) ?_
    show Steps p.tables e below (s₁.setTop (mkF m 2 #[.val (.int p0), .val (.int p1), .val (.int p2), .unset, .unset, .unset, .unset, .unset, .unset, .unset, .unset] [(.int (1 : Int32)), (.int p0)])) _
    refine XS.iand X0.here hx rfl (hb hby at_2) rfl ?_
    refine sg2 _ ?_
    show Steps p.tables e below (s₁.setTop (mkF m 11 #[.val (.int p0), .val (.int p1), .val (.int p2), .unset, .unset, .unset, .unset, .unset, .unset, .unset, .unset] [(.int r1)])) _
    refine XS.istoreN X0.here hx rfl (hb hby at_11) rfl (l' := #[.val (.int p0), .val (.int p1), .val (.int p2), .val (.int r1), .unset, .unset, .unset, .unset, .unset, .unset, .unset]) rfl ?_
    show Steps p.tables e below (s₁.setTop (mkF m 12 #[.val (.int p0), .val (.int p1), .val (.int p2), .val (.int r1), .unset, .unset, .unset, .unset, .unset, .unset, .unset] [])) _
    refine XS.iloadN X0.here hx rfl (hb hby at_12) rfl ?_
    show Steps p.tables e below (s₁.setTop (mkF m 13 #[.val (.int p0), .val (.int p1), .val (.int p2), .val (.int r1), .unset, .unset, .unset, .unset, .unset, .unset, .unset] [(.int p0)])) _
    refine XS.iconst X0.here hx rfl (hb hby at_13) ?_
    show Steps p.tables e below (s₁.setTop (mkF m 14 #[.val (.int p0), .val (.int p1), .val (.int p2), .val (.int r1), .unset, .unset, .unset, .unset, .unset, .unset, .unset] [(.int (2 : Int32)), (.int p0)])) _
    refine XS.iand X0.here hx rfl (hb hby at_14) rfl ?_
    refine sg4 _ ?_
    show Steps p.tables e below (s₁.setTop (mkF m 23 #[.val (.int p0), .val (.int p1), .val (.int p2), .val (.int r1), .unset, .unset, .unset, .unset, .unset, .unset, .unset] [(.int j1)])) _
    refine XS.istore X0.here hx rfl (hb hby at_23) rfl (l' := #[.val (.int p0), .val (.int p1), .val (.int p2), .val (.int r1), .val (.int j1), .unset, .unset, .unset, .unset, .unset, .unset]) rfl ?_
    show Steps p.tables e below (s₁.setTop (mkF m 25 #[.val (.int p0), .val (.int p1), .val (.int p2), .val (.int r1), .val (.int j1), .unset, .unset, .unset, .unset, .unset, .unset] [])) _
    refine XS.iloadN X0.here hx rfl (hb hby at_25) rfl ?_
    show Steps p.tables e below (s₁.setTop (mkF m 26 #[.val (.int p0), .val (.int p1), .val (.int p2), .val (.int r1), .val (.int j1), .unset, .unset, .unset, .unset, .unset, .unset] [(.int p1)])) _
    refine XS.iconst X0.here hx rfl (hb hby at_26) ?_
    show Steps p.tables e below (s₁.setTop (mkF m 27 #[.val (.int p0), .val (.int p1), .val (.int p2), .val (.int r1), .val (.int j1), .unset, .unset, .unset, .unset, .unset, .unset] [(.int (1 : Int32)), (.int p1)])) _
    refine XS.iand X0.here hx rfl (hb hby at_27) rfl ?_
    refine sg6 _ ?_
    show Steps p.tables e below (s₁.setTop (mkF m 36 #[.val (.int p0), .val (.int p1), .val (.int p2), .val (.int r1), .val (.int j1), .unset, .unset, .unset, .unset, .unset, .unset] [(.int r2)])) _
    refine XS.istore X0.here hx rfl (hb hby at_36) rfl (l' := #[.val (.int p0), .val (.int p1), .val (.int p2), .val (.int r1), .val (.int j1), .val (.int r2), .unset, .unset, .unset, .unset, .unset]) rfl ?_
    show Steps p.tables e below (s₁.setTop (mkF m 38 #[.val (.int p0), .val (.int p1), .val (.int p2), .val (.int r1), .val (.int j1), .val (.int r2), .unset, .unset, .unset, .unset, .unset] [])) _
    refine XS.iloadN X0.here hx rfl (hb hby at_38) rfl ?_
    show Steps p.tables e below (s₁.setTop (mkF m 39 #[.val (.int p0), .val (.int p1), .val (.int p2), .val (.int r1), .val (.int j1), .val (.int r2), .unset, .unset, .unset, .unset, .unset] [(.int p1)])) _
    refine XS.iconst X0.here hx rfl (hb hby at_39) ?_
    show Steps p.tables e below (s₁.setTop (mkF m 40 #[.val (.int p0), .val (.int p1), .val (.int p2), .val (.int r1), .val (.int j1), .val (.int r2), .unset, .unset, .unset, .unset, .unset] [(.int (2 : Int32)), (.int p1)])) _
    refine XS.iand X0.here hx rfl (hb hby at_40) rfl ?_
    refine sg8 _ ?_
    show Steps p.tables e below (s₁.setTop (mkF m 49 #[.val (.int p0), .val (.int p1), .val (.int p2), .val (.int r1), .val (.int j1), .val (.int r2), .unset, .unset, .unset, .unset, .unset] [(.int j2)])) _
    refine XS.istore X0.here hx rfl (hb hby at_49) rfl (l' := #[.val (.int p0), .val (.int p1), .val (.int p2), .val (.int r1), .val (.int j1), .val (.int r2), .val (.int j2), .unset, .unset, .unset, .unset]) rfl ?_
    show Steps p.tables e below (s₁.setTop (mkF m 51 #[.val (.int p0), .val (.int p1), .val (.int p2), .val (.int r1), .val (.int j1), .val (.int r2), .val (.int j2), .unset, .unset, .unset, .unset] [])) _
    refine st9 _ ?_
    show Steps p.tables e below (T9.setTop (mkF m 54 #[.val (.int p0), .val (.int p1), .val (.int p2), .val (.int r1), .val (.int j1), .val (.int r2), .val (.int j2), .unset, .unset, .unset, .unset] [(.ref b9)])) _
    refine XS.dup X9.here hx rfl (hb hby at_54) rfl rfl ?_
    show Steps p.tables e below (T9.setTop (mkF m 55 #[.val (.int p0), .val (.int p1), .val (.int p2), .val (.int r1), .val (.int j1), .val (.int r2), .val (.int j2), .unset, .unset, .unset, .unset] [(.ref b9), (.ref b9)])) _
    refine XS.iloadN X9.here hx rfl (hb hby at_55) rfl ?_
    show Steps p.tables e below (T9.setTop (mkF m 56 #[.val (.int p0), .val (.int p1), .val (.int p2), .val (.int r1), .val (.int j1), .val (.int r2), .val (.int j2), .unset, .unset, .unset, .unset] [(.int r1), (.ref b9), (.ref b9)])) _
    refine XS.iload X9.here hx rfl (hb hby at_56) rfl ?_
    show Steps p.tables e below (T9.setTop (mkF m 58 #[.val (.int p0), .val (.int p1), .val (.int p2), .val (.int r1), .val (.int j1), .val (.int r2), .val (.int j2), .unset, .unset, .unset, .unset] [(.int j1), (.int r1), (.ref b9), (.ref b9)])) _
    refine st11.trans ?_
    show Steps p.tables e below (T11.setTop (mkF m 61 #[.val (.int p0), .val (.int p1), .val (.int p2), .val (.int r1), .val (.int j1), .val (.int r2), .val (.int j2), .unset, .unset, .unset, .unset] [(.ref b9)])) _
    refine XS.astore X11.here hx rfl (hb hby at_61) rfl rfl (l' := #[.val (.int p0), .val (.int p1), .val (.int p2), .val (.int r1), .val (.int j1), .val (.int r2), .val (.int j2), .val (.ref b9), .unset, .unset, .unset]) rfl ?_
    show Steps p.tables e below (T11.setTop (mkF m 63 #[.val (.int p0), .val (.int p1), .val (.int p2), .val (.int r1), .val (.int j1), .val (.int r2), .val (.int j2), .val (.ref b9), .unset, .unset, .unset] [])) _
    refine st13 _ ?_
    show Steps p.tables e below (T13.setTop (mkF m 66 #[.val (.int p0), .val (.int p1), .val (.int p2), .val (.int r1), .val (.int j1), .val (.int r2), .val (.int j2), .val (.ref b9), .unset, .unset, .unset] [(.ref b13)])) _
    refine XS.dup X13.here hx rfl (hb hby at_66) rfl rfl ?_
    show Steps p.tables e below (T13.setTop (mkF m 67 #[.val (.int p0), .val (.int p1), .val (.int p2), .val (.int r1), .val (.int j1), .val (.int r2), .val (.int j2), .val (.ref b9), .unset, .unset, .unset] [(.ref b13), (.ref b13)])) _
    refine XS.iload X13.here hx rfl (hb hby at_67) rfl ?_
    show Steps p.tables e below (T13.setTop (mkF m 69 #[.val (.int p0), .val (.int p1), .val (.int p2), .val (.int r1), .val (.int j1), .val (.int r2), .val (.int j2), .val (.ref b9), .unset, .unset, .unset] [(.int r2), (.ref b13), (.ref b13)])) _
    refine XS.iload X13.here hx rfl (hb hby at_69) rfl ?_
    show Steps p.tables e below (T13.setTop (mkF m 71 #[.val (.int p0), .val (.int p1), .val (.int p2), .val (.int r1), .val (.int j1), .val (.int r2), .val (.int j2), .val (.ref b9), .unset, .unset, .unset] [(.int j2), (.int r2), (.ref b13), (.ref b13)])) _
    refine st15.trans ?_
    show Steps p.tables e below (T15.setTop (mkF m 74 #[.val (.int p0), .val (.int p1), .val (.int p2), .val (.int r1), .val (.int j1), .val (.int r2), .val (.int j2), .val (.ref b9), .unset, .unset, .unset] [(.ref b13)])) _
    refine XS.astore X15.here hx rfl (hb hby at_74) rfl rfl (l' := #[.val (.int p0), .val (.int p1), .val (.int p2), .val (.int r1), .val (.int j1), .val (.int r2), .val (.int j2), .val (.ref b9), .val (.ref b13), .unset, .unset]) rfl ?_
    show Steps p.tables e below (T15.setTop (mkF m 76 #[.val (.int p0), .val (.int p1), .val (.int p2), .val (.int r1), .val (.int j1), .val (.int r2), .val (.int j2), .val (.ref b9), .val (.ref b13), .unset, .unset] [])) _
    refine XS.iloadN X15.here hx rfl (hb hby at_76) rfl ?_
    show Steps p.tables e below (T15.setTop (mkF m 77 #[.val (.int p0), .val (.int p1), .val (.int p2), .val (.int r1), .val (.int j1), .val (.int r2), .val (.int j2), .val (.ref b9), .val (.ref b13), .unset, .unset] [(.int p2)])) _
    refine XS.iconst X15.here hx rfl (hb hby at_77) ?_
    show Steps p.tables e below (T15.setTop (mkF m 78 #[.val (.int p0), .val (.int p1), .val (.int p2), .val (.int r1), .val (.int j1), .val (.int r2), .val (.int j2), .val (.ref b9), .val (.ref b13), .unset, .unset] [(.int (3 : Int32)), (.int p2)])) _
    refine XS.iand X15.here hx rfl (hb hby at_78) rfl ?_
    show Steps p.tables e below (T15.setTop (mkF m 79 #[.val (.int p0), .val (.int p1), .val (.int p2), .val (.int r1), .val (.int j1), .val (.int r2), .val (.int j2), .val (.ref b9), .val (.ref b13), .unset, .unset] [(.int (p2 &&& (3 : Int32)))])) _
    rw [k4]
    show Steps p.tables e below (T15.setTop (mkF m 79 #[.val (.int p0), .val (.int p1), .val (.int p2), .val (.int r1), .val (.int j1), .val (.int r2), .val (.int j2), .val (.ref b9), .val (.ref b13), .unset, .unset] [(.int (0 : Int32))])) _
    refine XS.istore X15.here hx rfl (hb hby at_79) rfl (l' := #[.val (.int p0), .val (.int p1), .val (.int p2), .val (.int r1), .val (.int j1), .val (.int r2), .val (.int j2), .val (.ref b9), .val (.ref b13), .val (.int (0 : Int32)), .unset]) rfl ?_
    show Steps p.tables e below (T15.setTop (mkF m 81 #[.val (.int p0), .val (.int p1), .val (.int p2), .val (.int r1), .val (.int j1), .val (.int r2), .val (.int j2), .val (.ref b9), .val (.ref b13), .val (.int (0 : Int32)), .unset] [])) _
    refine XS.iload X15.here hx rfl (hb hby at_81) rfl ?_
    show Steps p.tables e below (T15.setTop (mkF m 83 #[.val (.int p0), .val (.int p1), .val (.int p2), .val (.int r1), .val (.int j1), .val (.int r2), .val (.int j2), .val (.ref b9), .val (.ref b13), .val (.int (0 : Int32)), .unset] [(.int (0 : Int32))])) _
    refine XS.ifNo X15.here hx rfl (hb hby at_83) rfl (by decide) ?_
    show Steps p.tables e below (T15.setTop (mkF m 86 #[.val (.int p0), .val (.int p1), .val (.int p2), .val (.int r1), .val (.int j1), .val (.int r2), .val (.int j2), .val (.ref b9), .val (.ref b13), .val (.int (0 : Int32)), .unset] [])) _
    refine XS.iloadN X15.here hx rfl (hb hby at_86) rfl ?_
    show Steps p.tables e below (T15.setTop (mkF m 87 #[.val (.int p0), .val (.int p1), .val (.int p2), .val (.int r1), .val (.int j1), .val (.int r2), .val (.int j2), .val (.ref b9), .val (.ref b13), .val (.int (0 : Int32)), .unset] [(.int r1)])) _
    refine XS.iload X15.here hx rfl (hb hby at_87) rfl ?_
    show Steps p.tables e below (T15.setTop (mkF m 89 #[.val (.int p0), .val (.int p1), .val (.int p2), .val (.int r1), .val (.int j1), .val (.int r2), .val (.int j2), .val (.ref b9), .val (.ref b13), .val (.int (0 : Int32)), .unset] [(.int r2), (.int r1)])) _
    refine XS.icmpNo X15.here hx rfl (hb hby at_89) rfl (teq c0).2 ?_
    show Steps p.tables e below (T15.setTop (mkF m 92 #[.val (.int p0), .val (.int p1), .val (.int p2), .val (.int r1), .val (.int j1), .val (.int r2), .val (.int j2), .val (.ref b9), .val (.ref b13), .val (.int (0 : Int32)), .unset] [])) _
    refine XS.iload X15.here hx rfl (hb hby at_92) rfl ?_
    show Steps p.tables e below (T15.setTop (mkF m 94 #[.val (.int p0), .val (.int p1), .val (.int p2), .val (.int r1), .val (.int j1), .val (.int r2), .val (.int j2), .val (.ref b9), .val (.ref b13), .val (.int (0 : Int32)), .unset] [(.int j1)])) _
    refine XS.iload X15.here hx rfl (hb hby at_94) rfl ?_
    show Steps p.tables e below (T15.setTop (mkF m 96 #[.val (.int p0), .val (.int p1), .val (.int p2), .val (.int r1), .val (.int j1), .val (.int r2), .val (.int j2), .val (.ref b9), .val (.ref b13), .val (.int (0 : Int32)), .unset] [(.int j2), (.int j1)])) _
    refine XS.icmpNo X15.here hx rfl (hb hby at_96) rfl (teq c1).2 ?_
    show Steps p.tables e below (T15.setTop (mkF m 99 #[.val (.int p0), .val (.int p1), .val (.int p2), .val (.int r1), .val (.int j1), .val (.int r2), .val (.int j2), .val (.ref b9), .val (.ref b13), .val (.int (0 : Int32)), .unset] [])) _
    refine XS.iconst X15.here hx rfl (hb hby at_99) ?_
    show Steps p.tables e below (T15.setTop (mkF m 100 #[.val (.int p0), .val (.int p1), .val (.int p2), .val (.int r1), .val (.int j1), .val (.int r2), .val (.int j2), .val (.ref b9), .val (.ref b13), .val (.int (0 : Int32)), .unset] [(.int (1 : Int32))])) _
    refine XS.goto X15.here hx rfl (pc0 := 100) (pc' := 104) rfl (hb hby at_100) (by decide) (by decide) ?_
    show Steps p.tables e below (T15.setTop (mkF m 104 #[.val (.int p0), .val (.int p1), .val (.int p2), .val (.int r1), .val (.int j1), .val (.int r2), .val (.int j2), .val (.ref b9), .val (.ref b13), .val (.int (0 : Int32)), .unset] [(.int (1 : Int32))])) _
    refine XS.istore X15.here hx rfl (hb hby at_104) rfl (l' := #[.val (.int p0), .val (.int p1), .val (.int p2), .val (.int r1), .val (.int j1), .val (.int r2), .val (.int j2), .val (.ref b9), .val (.ref b13), .val (.int (0 : Int32)), .val (.int (1 : Int32))]) rfl ?_
    show Steps p.tables e below (T15.setTop (mkF m 106 #[.val (.int p0), .val (.int p1), .val (.int p2), .val (.int r1), .val (.int j1), .val (.int r2), .val (.int j2), .val (.ref b9), .val (.ref b13), .val (.int (0 : Int32)), .val (.int (1 : Int32))] [])) _
    refine XS.aload X15.here hx rfl (hb hby at_106) rfl rfl ?_
    show Steps p.tables e below (T15.setTop (mkF m 108 #[.val (.int p0), .val (.int p1), .val (.int p2), .val (.int r1), .val (.int j1), .val (.int r2), .val (.int j2), .val (.ref b9), .val (.ref b13), .val (.int (0 : Int32)), .val (.int (1 : Int32))] [(.ref b9)])) _
    refine XS.aload X15.here hx rfl (hb hby at_108) rfl rfl ?_
    show Steps p.tables e below (T15.setTop (mkF m 110 #[.val (.int p0), .val (.int p1), .val (.int p2), .val (.int r1), .val (.int j1), .val (.int r2), .val (.int j2), .val (.ref b9), .val (.ref b13), .val (.int (0 : Int32)), .val (.int (1 : Int32))] [(.ref b13), (.ref b9)])) _
    refine st21.trans ?_
    show Steps p.tables e below (T21.setTop (mkF m 113 #[.val (.int p0), .val (.int p1), .val (.int p2), .val (.int r1), .val (.int j1), .val (.int r2), .val (.int j2), .val (.ref b9), .val (.ref b13), .val (.int (0 : Int32)), .val (.int (1 : Int32))] [(.int (1 : Int32))])) _
    refine XS.iload X21.here hx rfl (hb hby at_113) rfl ?_
    show Steps p.tables e below (T21.setTop (mkF m 115 #[.val (.int p0), .val (.int p1), .val (.int p2), .val (.int r1), .val (.int j1), .val (.int r2), .val (.int j2), .val (.ref b9), .val (.ref b13), .val (.int (0 : Int32)), .val (.int (1 : Int32))] [(.int (1 : Int32)), (.int (1 : Int32))])) _
    refine XS.icmpNo X21.here hx rfl (hb hby at_115) rfl (by decide) ?_
    show Steps p.tables e below (T21.setTop (mkF m 118 #[.val (.int p0), .val (.int p1), .val (.int p2), .val (.int r1), .val (.int j1), .val (.int r2), .val (.int j2), .val (.ref b9), .val (.ref b13), .val (.int (0 : Int32)), .val (.int (1 : Int32))] [])) _
    refine XS.aload X21.here hx rfl (hb hby at_118) rfl rfl ?_
    show Steps p.tables e below (T21.setTop (mkF m 120 #[.val (.int p0), .val (.int p1), .val (.int p2), .val (.int r1), .val (.int j1), .val (.int r2), .val (.int j2), .val (.ref b9), .val (.ref b13), .val (.int (0 : Int32)), .val (.int (1 : Int32))] [(.ref b13)])) _
    refine XS.aload X21.here hx rfl (hb hby at_120) rfl rfl ?_
    show Steps p.tables e below (T21.setTop (mkF m 122 #[.val (.int p0), .val (.int p1), .val (.int p2), .val (.int r1), .val (.int j1), .val (.int r2), .val (.int j2), .val (.ref b9), .val (.ref b13), .val (.int (0 : Int32)), .val (.int (1 : Int32))] [(.ref b9), (.ref b13)])) _
    refine st22.trans ?_
    show Steps p.tables e below (T22.setTop (mkF m 125 #[.val (.int p0), .val (.int p1), .val (.int p2), .val (.int r1), .val (.int j1), .val (.int r2), .val (.int j2), .val (.ref b9), .val (.ref b13), .val (.int (0 : Int32)), .val (.int (1 : Int32))] [(.int (1 : Int32))])) _
    refine XS.iload X22.here hx rfl (hb hby at_125) rfl ?_
    show Steps p.tables e below (T22.setTop (mkF m 127 #[.val (.int p0), .val (.int p1), .val (.int p2), .val (.int r1), .val (.int j1), .val (.int r2), .val (.int j2), .val (.ref b9), .val (.ref b13), .val (.int (0 : Int32)), .val (.int (1 : Int32))] [(.int (1 : Int32)), (.int (1 : Int32))])) _
    refine XS.icmpNo X22.here hx rfl (hb hby at_127) rfl (by decide) ?_
    show Steps p.tables e below (T22.setTop (mkF m 130 #[.val (.int p0), .val (.int p1), .val (.int p2), .val (.int r1), .val (.int j1), .val (.int r2), .val (.int j2), .val (.ref b9), .val (.ref b13), .val (.int (0 : Int32)), .val (.int (1 : Int32))] [])) _
    refine XS.iconst X22.here hx rfl (hb hby at_130) ?_
    show Steps p.tables e below (T22.setTop (mkF m 131 #[.val (.int p0), .val (.int p1), .val (.int p2), .val (.int r1), .val (.int j1), .val (.int r2), .val (.int j2), .val (.ref b9), .val (.ref b13), .val (.int (0 : Int32)), .val (.int (1 : Int32))] [(.int (1 : Int32))])) _
    refine XS.goto X22.here hx rfl (pc0 := 131) (pc' := 135) rfl (hb hby at_131) (by decide) (by decide) ?_
    show Steps p.tables e below (T22.setTop (mkF m 135 #[.val (.int p0), .val (.int p1), .val (.int p2), .val (.int r1), .val (.int j1), .val (.int r2), .val (.int j2), .val (.ref b9), .val (.ref b13), .val (.int (0 : Int32)), .val (.int (1 : Int32))] [(.int (1 : Int32))])) _
    exact retN X22 hx (t := .boolean) Bd.returns (by simp) (hb hby at_135) hr
  · show Qrm0_2 Z w_cache cl_cache p0 p1 p2 r1 j1 r2 j2 h0 n0 _ T22.heap _
    rw [e22]
    exact ⟨rfl, N22, Ks16⟩
theorem ef_4_R0 (m : MethodId) (x0 : Addr) : entryFrame m #[(.ref x0), .null] 2 = mkF m 0 #[.val (.ref x0), .val .null] [] := by first | (simp [entryFrame, mkF, argsToLocals, Value.category]; done) | rfl
def Qrm4_11 (Z : State) (w_cache : Addr) (cl_cache : Cell) (x1 : Addr) (h0 : Heap) (n0 : Nat) (v : Option Value) (h : Heap) (L : List Loc) : Prop := v = some (.int (0 : Int32)) ∧ Fr n0 L ∧ h = h0
set_option maxRecDepth 65536 in
set_option maxHeartbeats 40000000 in
theorem rm4_11 (l : Launch) (Z : State) (a0 : Array Value) (hw : ∀ d ∈ tables_1, d.before a0 Z = true) (ws : List Jvm.Cond) (w_cache : Addr) (cl_cache : Cell) (x1 : Addr) (h0 : Heap) (n0 : Nat) (O0 : Old Z n0 h0) (P : Pins Z w_cache cl_cache) :
    MetFree l (⟨"com/example/demarc/demarc/ApplicationExceptions$Designation", "equals", "(Ljava/lang/Object;)Z"⟩ : MethodName) (head1 (Jvm.Cond.code (⟨"com/example/demarc/demarc/ApplicationExceptions$Designation", "equals", "(Ljava/lang/Object;)Z"⟩ : MethodName) prog_2_method_2_code 2 (some .boolean) :: ws) ({ frames := 0, cells := 0, slots := 0, locals := 0 } : Room)) (fun a U => a = #[(.ref x1), .null] ∧ Z.Warmed39 U.vm ∧ U.heap = h0) (fun _ _ _ _ _ => True) (fun _ U o U' => ∃ v L, o = .returned v ∧ Qrm4_11 Z w_cache cl_cache x1 h0 n0 v U'.heap L ∧ FrameEnd U o U' L ({ frames := 0, cells := 0, slots := 0, locals := 0 } : Room).cells ({ frames := 0, cells := 0, slots := 0, locals := 0 } : Room).slots) := by
  refine MetFree.of_bodySF (plainFor_of_name pn_com_example_demarc_demarc_ApplicationExceptions_Designation) hisR ?_
  intro p e s m args below meth c s₁ Bd hml0 hP hK
  obtain ⟨rfl, hZ, hh⟩ := hP
  have hx := Bd.exec
  have hby := Bd.bytes
  have hml : c.maxLocals = 2 := hml0
  have hown : s.vm.findClass "com/example/demarc/demarc/ApplicationExceptions$Designation" = some m.cls := findClass_of_methodNamed Bd.named
  have hnm := (name_of_methodNamed Bd.named Bd.method).1
  have X0 : Stand p l e ({ frames := 0, cells := 0, slots := 0, locals := 0 } : Room) s m #[(.ref x1), .null] below meth c s₁ [] 0 0 := Stand.of_body Bd
  have e0 : s₁.heap = h0 := by rw [← hh, Bd.state]; rfl
  have N0 := Fr.nil n0
  have Z0 : n0 ≤ h0.size := O0.1 ▸ O0.2.1
  have pre0 : ∀ t, Steps p.tables e below (s₁.setTop (mkF m 0 #[.val (.ref x1), .val .null] [])) t → Steps p.tables e below (s₁.setTop (entryFrame m #[(.ref x1), .null] 2)) t := fun t k => castTop (ef_4_R0 m x1) k
  obtain ⟨fs, hr, hrun, hended, hW, hsame⟩ := X0.leave (v := some (.int (0 : Int32))) (fun h => by rw [Bd.returns] at h; cases h)
  refine ⟨_, _, pre0 _ ?_, hrun, hended, _, _, rfl, ?_, ⟨_, rfl⟩, hW, hsame.mono (by decide) (by decide)⟩
  · show Steps p.tables e below (s₁.setTop (mkF m 0 #[.val (.ref x1), .val .null] [])) _
    refine XS.aloadN X0.here hx rfl (hb hby d4_0) rfl rfl ?_
    show Steps p.tables e below (s₁.setTop (mkF m 1 #[.val (.ref x1), .val .null] [.null])) _
    refine X0.instanceofNull hx (g := (mkF m 1 #[.val (.ref x1), .val .null] [.null])) rfl rfl (hb hby d4_1) _ ?_
    show Steps p.tables e below (s₁.setTop (mkF m 4 #[.val (.ref x1), .val .null] [(.int (0 : Int32))])) _
    refine XS.ifYes X0.here hx rfl (pc0 := 4) (pc' := 39) rfl (hb hby d4_4) rfl (by decide) (by decide) (by decide) ?_
    show Steps p.tables e below (s₁.setTop (mkF m 39 #[.val (.ref x1), .val .null] [])) _
    refine XS.iconst X0.here hx rfl (hb hby d4_39) ?_
    show Steps p.tables e below (s₁.setTop (mkF m 40 #[.val (.ref x1), .val .null] [(.int (0 : Int32))])) _
    exact retN X0 hx (t := .boolean) Bd.returns (by simp) (hb hby d4_40) hr
  · exact ⟨rfl, N0, e0⟩
def Qrm0_3 (Z : State) (w_cache : Addr) (cl_cache : Cell) (p0 : Int32) (p1 : Int32) (p2 : Int32) (r1 : Int32) (j1 : Int32) (r2 : Int32) (j2 : Int32) (h0 : Heap) (n0 : Nat) (v : Option Value) (h : Heap) (L : List Loc) : Prop := v = some (.int (1 : Int32)) ∧ Fr n0 L ∧ Keep h0 h []
set_option maxRecDepth 65536 in
set_option maxHeartbeats 40000000 in
theorem rm0_3 (l : Launch) (Z : State) (a0 : Array Value) (hw : ∀ d ∈ tables_1, d.before a0 Z = true) (ws : List Jvm.Cond) (w_cache : Addr) (cl_cache : Cell) (p0 : Int32) (p1 : Int32) (p2 : Int32) (r1 : Int32) (j1 : Int32) (r2 : Int32) (j2 : Int32) (h0 : Heap) (n0 : Nat) (O0 : Old Z n0 h0) (P : Pins Z w_cache cl_cache) (hr1 : r1 = (if (p0 &&& (1 : Int32)) = (0 : Int32) then (0 : Int32) else (1 : Int32))) (hj1 : j1 = (if (p0 &&& (2 : Int32)) = (0 : Int32) then (0 : Int32) else (1 : Int32))) (hr2 : r2 = (if (p1 &&& (1 : Int32)) = (0 : Int32) then (0 : Int32) else (1 : Int32))) (hj2 : j2 = (if (p1 &&& (2 : Int32)) = (0 : Int32) then (0 : Int32) else (1 : Int32))) (k4 : (p2 &&& (3 : Int32)) = (1 : Int32)) :
    MetFree l x (head1 (Jvm.Cond.code x code maxLocals ret :: ws) room_1) (fun a U => a = #[(.int p0), (.int p1), (.int p2)] ∧ Z.Warmed39 U.vm ∧ U.heap = h0) (fun _ _ _ _ _ => True) (fun _ U o U' => ∃ v L, o = .returned v ∧ Qrm0_3 Z w_cache cl_cache p0 p1 p2 r1 j1 r2 j2 h0 n0 v U'.heap L ∧ FrameEnd U o U' L room_1.cells room_1.slots) := by
  refine MetFree.of_bodySF (plainFor_of_name pn_com_example_demarc_demarc_DesignationEqualsPinLaw) hisR ?_
  intro p e s m args below meth c s₁ Bd hml0 hP hK
  obtain ⟨rfl, hZ, hh⟩ := hP
  have hx := Bd.exec
  have hby := Bd.bytes
  have hml : c.maxLocals = 11 := hml0
  have hown : s.vm.findClass "com/example/demarc/demarc/DesignationEqualsPinLaw" = some m.cls := findClass_of_methodNamed Bd.named
  have hnm := (name_of_methodNamed Bd.named Bd.method).1
  have X0 : Stand p l e room_1 s m #[(.int p0), (.int p1), (.int p2)] below meth c s₁ [] 0 0 := Stand.of_body Bd
  have e0 : s₁.heap = h0 := by rw [← hh, Bd.state]; rfl
  have N0 := Fr.nil n0
  have Z0 : n0 ≤ h0.size := O0.1 ▸ O0.2.1
  have pre0 : ∀ t, Steps p.tables e below (s₁.setTop (mkF m 0 #[.val (.int p0), .val (.int p1), .val (.int p2), .unset, .unset, .unset, .unset, .unset, .unset, .unset, .unset] [])) t → Steps p.tables e below (s₁.setTop (entryFrame m #[(.int p0), (.int p1), (.int p2)] maxLocals)) t := fun t k => castTop (ef_0_III m p0 p1 p2) k
  have Kr : Keep h0 h0 [] := Keep.refl h0 _
  have hb_r1 : r1 = (0 : Int32) ∨ r1 = (1 : Int32) := by rw [hr1]; (repeat' split) <;> simp
  have sg2 : ∀ t, Steps p.tables e below (s₁.setTop (mkF m 11 #[.val (.int p0), .val (.int p1), .val (.int p2), .unset, .unset, .unset, .unset, .unset, .unset, .unset, .unset] [(.int r1)])) t → Steps p.tables e below (s₁.setTop (mkF m 3 #[.val (.int p0), .val (.int p1), .val (.int p2), .unset, .unset, .unset, .unset, .unset, .unset, .unset, .unset] [(.int (p0 &&& (1 : Int32)))])) t := by
    intro t kt
    show Steps p.tables e below (s₁.setTop (mkF m 3 #[.val (.int p0), .val (.int p1), .val (.int p2), .unset, .unset, .unset, .unset, .unset, .unset, .unset, .unset] [(.int (p0 &&& (1 : Int32)))])) _
    by_cases q1 : (p0 &&& (1 : Int32)) = (0 : Int32)
    · refine XS.ifYes X0.here hx rfl (pc0 := 3) (pc' := 10) rfl (hb hby at_3) rfl ((if0 _ _).trans (teq q1).1) (by decide) (by decide) ?_
      show Steps p.tables e below (s₁.setTop (mkF m 10 #[.val (.int p0), .val (.int p1), .val (.int p2), .unset, .unset, .unset, .unset, .unset, .unset, .unset, .unset] [])) _
      refine XS.iconst X0.here hx rfl (hb hby at_10) ?_
      rw [show r1 = (0 : Int32) from hr1.trans (if_pos q1)] at kt
      exact kt
    · refine XS.ifNo X0.here hx rfl (hb hby at_3) rfl ((if0 _ _).trans (feq q1).1) ?_
      show Steps p.tables e below (s₁.setTop (mkF m 6 #[.val (.int p0), .val (.int p1), .val (.int p2), .unset, .unset, .unset, .unset, .unset, .unset, .unset, .unset] [])) _
      refine XS.iconst X0.here hx rfl (hb hby at_6) ?_
      show Steps p.tables e below (s₁.setTop (mkF m 7 #[.val (.int p0), .val (.int p1), .val (.int p2), .unset, .unset, .unset, .unset, .unset, .unset, .unset, .unset] [(.int (1 : Int32))])) _
      refine XS.goto X0.here hx rfl (pc0 := 7) (pc' := 11) rfl (hb hby at_7) (by decide) (by decide) ?_
      rw [show r1 = (1 : Int32) from hr1.trans (if_neg q1)] at kt
      exact kt
  have hb_j1 : j1 = (0 : Int32) ∨ j1 = (1 : Int32) := by rw [hj1]; (repeat' split) <;> simp
  have sg4 : ∀ t, Steps p.tables e below (s₁.setTop (mkF m 23 #[.val (.int p0), .val (.int p1), .val (.int p2), .val (.int r1), .unset, .unset, .unset, .unset, .unset, .unset, .unset] [(.int j1)])) t → Steps p.tables e below (s₁.setTop (mkF m 15 #[.val (.int p0), .val (.int p1), .val (.int p2), .val (.int r1), .unset, .unset, .unset, .unset, .unset, .unset, .unset] [(.int (p0 &&& (2 : Int32)))])) t := by
    intro t kt
    show Steps p.tables e below (s₁.setTop (mkF m 15 #[.val (.int p0), .val (.int p1), .val (.int p2), .val (.int r1), .unset, .unset, .unset, .unset, .unset, .unset, .unset] [(.int (p0 &&& (2 : Int32)))])) _
    by_cases q3 : (p0 &&& (2 : Int32)) = (0 : Int32)
    · refine XS.ifYes X0.here hx rfl (pc0 := 15) (pc' := 22) rfl (hb hby at_15) rfl ((if0 _ _).trans (teq q3).1) (by decide) (by decide) ?_
      show Steps p.tables e below (s₁.setTop (mkF m 22 #[.val (.int p0), .val (.int p1), .val (.int p2), .val (.int r1), .unset, .unset, .unset, .unset, .unset, .unset, .unset] [])) _
      refine XS.iconst X0.here hx rfl (hb hby at_22) ?_
      rw [show j1 = (0 : Int32) from hj1.trans (if_pos q3)] at kt
      exact kt
    · refine XS.ifNo X0.here hx rfl (hb hby at_15) rfl ((if0 _ _).trans (feq q3).1) ?_
      show Steps p.tables e below (s₁.setTop (mkF m 18 #[.val (.int p0), .val (.int p1), .val (.int p2), .val (.int r1), .unset, .unset, .unset, .unset, .unset, .unset, .unset] [])) _
      refine XS.iconst X0.here hx rfl (hb hby at_18) ?_
      show Steps p.tables e below (s₁.setTop (mkF m 19 #[.val (.int p0), .val (.int p1), .val (.int p2), .val (.int r1), .unset, .unset, .unset, .unset, .unset, .unset, .unset] [(.int (1 : Int32))])) _
      refine XS.goto X0.here hx rfl (pc0 := 19) (pc' := 23) rfl (hb hby at_19) (by decide) (by decide) ?_
      rw [show j1 = (1 : Int32) from hj1.trans (if_neg q3)] at kt
      exact kt
  have hb_r2 : r2 = (0 : Int32) ∨ r2 = (1 : Int32) := by rw [hr2]; (repeat' split) <;> simp
  have sg6 : ∀ t, Steps p.tables e below (s₁.setTop (mkF m 36 #[.val (.int p0), .val (.int p1), .val (.int p2), .val (.int r1), .val (.int j1), .unset, .unset, .unset, .unset, .unset, .unset] [(.int r2)])) t → Steps p.tables e below (s₁.setTop (mkF m 28 #[.val (.int p0), .val (.int p1), .val (.int p2), .val (.int r1), .val (.int j1), .unset, .unset, .unset, .unset, .unset, .unset] [(.int (p1 &&& (1 : Int32)))])) t := by
    intro t kt
    show Steps p.tables e below (s₁.setTop (mkF m 28 #[.val (.int p0), .val (.int p1), .val (.int p2), .val (.int r1), .val (.int j1), .unset, .unset, .unset, .unset, .unset, .unset] [(.int (p1 &&& (1 : Int32)))])) _
    by_cases q5 : (p1 &&& (1 : Int32)) = (0 : Int32)
    · refine XS.ifYes X0.here hx rfl (pc0 := 28) (pc' := 35) rfl (hb hby at_28) rfl ((if0 _ _).trans (teq q5).1) (by decide) (by decide) ?_
      show Steps p.tables e below (s₁.setTop (mkF m 35 #[.val (.int p0), .val (.int p1), .val (.int p2), .val (.int r1), .val (.int j1), .unset, .unset, .unset, .unset, .unset, .unset] [])) _
      refine XS.iconst X0.here hx rfl (hb hby at_35) ?_
      rw [show r2 = (0 : Int32) from hr2.trans (if_pos q5)] at kt
      exact kt
    · refine XS.ifNo X0.here hx rfl (hb hby at_28) rfl ((if0 _ _).trans (feq q5).1) ?_
      show Steps p.tables e below (s₁.setTop (mkF m 31 #[.val (.int p0), .val (.int p1), .val (.int p2), .val (.int r1), .val (.int j1), .unset, .unset, .unset, .unset, .unset, .unset] [])) _
      refine XS.iconst X0.here hx rfl (hb hby at_31) ?_
      show Steps p.tables e below (s₁.setTop (mkF m 32 #[.val (.int p0), .val (.int p1), .val (.int p2), .val (.int r1), .val (.int j1), .unset, .unset, .unset, .unset, .unset, .unset] [(.int (1 : Int32))])) _
      refine XS.goto X0.here hx rfl (pc0 := 32) (pc' := 36) rfl (hb hby at_32) (by decide) (by decide) ?_
      rw [show r2 = (1 : Int32) from hr2.trans (if_neg q5)] at kt
      exact kt
  have hb_j2 : j2 = (0 : Int32) ∨ j2 = (1 : Int32) := by rw [hj2]; (repeat' split) <;> simp
  have sg8 : ∀ t, Steps p.tables e below (s₁.setTop (mkF m 49 #[.val (.int p0), .val (.int p1), .val (.int p2), .val (.int r1), .val (.int j1), .val (.int r2), .unset, .unset, .unset, .unset, .unset] [(.int j2)])) t → Steps p.tables e below (s₁.setTop (mkF m 41 #[.val (.int p0), .val (.int p1), .val (.int p2), .val (.int r1), .val (.int j1), .val (.int r2), .unset, .unset, .unset, .unset, .unset] [(.int (p1 &&& (2 : Int32)))])) t := by
    intro t kt
    show Steps p.tables e below (s₁.setTop (mkF m 41 #[.val (.int p0), .val (.int p1), .val (.int p2), .val (.int r1), .val (.int j1), .val (.int r2), .unset, .unset, .unset, .unset, .unset] [(.int (p1 &&& (2 : Int32)))])) _
    by_cases q7 : (p1 &&& (2 : Int32)) = (0 : Int32)
    · refine XS.ifYes X0.here hx rfl (pc0 := 41) (pc' := 48) rfl (hb hby at_41) rfl ((if0 _ _).trans (teq q7).1) (by decide) (by decide) ?_
      show Steps p.tables e below (s₁.setTop (mkF m 48 #[.val (.int p0), .val (.int p1), .val (.int p2), .val (.int r1), .val (.int j1), .val (.int r2), .unset, .unset, .unset, .unset, .unset] [])) _
      refine XS.iconst X0.here hx rfl (hb hby at_48) ?_
      rw [show j2 = (0 : Int32) from hj2.trans (if_pos q7)] at kt
      exact kt
    · refine XS.ifNo X0.here hx rfl (hb hby at_41) rfl ((if0 _ _).trans (feq q7).1) ?_
      show Steps p.tables e below (s₁.setTop (mkF m 44 #[.val (.int p0), .val (.int p1), .val (.int p2), .val (.int r1), .val (.int j1), .val (.int r2), .unset, .unset, .unset, .unset, .unset] [])) _
      refine XS.iconst X0.here hx rfl (hb hby at_44) ?_
      show Steps p.tables e below (s₁.setTop (mkF m 45 #[.val (.int p0), .val (.int p1), .val (.int p2), .val (.int r1), .val (.int j1), .val (.int r2), .unset, .unset, .unset, .unset, .unset] [(.int (1 : Int32))])) _
      refine XS.goto X0.here hx rfl (pc0 := 45) (pc' := 49) rfl (hb hby at_45) (by decide) (by decide) ?_
      rw [show j2 = (1 : Int32) from hj2.trans (if_neg q7)] at kt
      exact kt
  obtain ⟨T9, h9, X9, e9, E9, A9, D9, -, st9⟩ := newO X0 hx hZ hown (hw _ (List.mem_of_getElem? (i := 0) rfl)) (hw _ (List.mem_of_getElem? (i := 1) rfl)) (hw _ (List.mem_of_getElem? (i := 2) rfl)) e0 (g := (mkF m 51 #[.val (.int p0), .val (.int p1), .val (.int p2), .val (.int r1), .val (.int j1), .val (.int r2), .val (.int j2), .unset, .unset, .unset, .unset] [])) rfl (hb hby at_51) (by decide) (by decide)
  obtain ⟨b9, g9⟩ : ∃ z, z = (h0).size := ⟨_, rfl⟩
  rw [← g9] at A9 D9 st9
  have Zs10 : n0 ≤ (h9).size := Nat.le_trans Z0 E9.1
  have Os10 : Old Z n0 (h9) := O0.ext E9
  have Ks10 : Keep h0 (h9) [] := Kr.ext E9
  have D9_rollback : Fld Z h9 b9 "com/example/demarc/demarc/ApplicationExceptions$Designation" "rollback" "Z" (.int (0 : Int32)) := D9 (Or.inr (hw _ (List.mem_of_getElem? (i := 10) rfl))) (ty := .boolean) (by decide)
  have D9_inherited : Fld Z h9 b9 "com/example/demarc/demarc/ApplicationExceptions$Designation" "inherited" "Z" (.int (0 : Int32)) := D9 (Or.inr (hw _ (List.mem_of_getElem? (i := 12) rfl))) (ty := .boolean) (by decide)
  obtain ⟨_, _, ⟨T11, L11, k11, n11⟩, -, X11, ⟨Lc11, hQ11, l11, y11, z11⟩, st11⟩ := X9.specialBack hx (y := (⟨"com/example/demarc/demarc/ApplicationExceptions$Designation", "<init>", "(ZZ)V"⟩ : MethodName)) rfl hown (mvT hZ (hw _ (List.mem_of_getElem? (i := 3) rfl))) (mvT hZ (hw _ (List.mem_of_getElem? (i := 4) rfl))) (mvT hZ (hw _ (List.mem_of_getElem? (i := 5) rfl))) (by decide) (backOf (W := 1) (rm1_1 l Z a0 hw [] w_cache cl_cache b9 r1 j1 h9 n0 Os10 P A9 D9_rollback hb_r1 (Nat.le_trans Z0 (Nat.le_of_eq g9.symm)) D9_inherited hb_j1) hZ (hw _ (List.mem_of_getElem? (i := 5) rfl)) (hw _ (List.mem_of_getElem? (i := 2) rfl)) (by decide) (by decide)) (g := (mkF m 58 #[.val (.int p0), .val (.int p1), .val (.int p2), .val (.int r1), .val (.int j1), .val (.int r2), .val (.int j2), .unset, .unset, .unset, .unset] [(.int j1), (.int r1), (.ref b9), (.ref b9)])) rfl (by rw [hml]; rfl) (Steps.refl _) (a := b9) (argsL := [(.int r1), (.int j1)]) (rest := [(.ref b9)]) (lenOf pd_0 rfl) rfl (by show 2 * 0 + _ ≤ _; exact Nat.le_of_eq rfl) (hb hby at_58) (fun _ _ => ⟨rfl, e9, (by decide : 1 + 0 ≤ _), (by decide : 2 + 0 ≤ _)⟩)
  dsimp only [Pt.U, Pt.locs, Pt.cells, Pt.slots] at X11 l11 y11 z11 st11 hQ11
  subst l11 y11 z11
  obtain ⟨rfl, N11q, K11, q11_0, q11_1⟩ := hQ11
  have N11 := Fr.app N0 N11q
  have Ks12 : Keep h0 (T11.heap) [] := Ks10.trans K11 (allS (Or.inr (Nat.le_trans Kr.1 (Nat.le_of_eq g9.symm))) all0)
  have Zs12 : n0 ≤ (T11.heap).size := Nat.le_trans Zs10 K11.1
  have Os12 : Old Z n0 (T11.heap) := Os10.keep K11 (allS (Nat.le_trans Z0 (Nat.le_of_eq g9.symm)) all0)
  obtain ⟨T13, h13, X13, e13, E13, A13, D13, -, st13⟩ := newO X11 hx hZ hown (hw _ (List.mem_of_getElem? (i := 0) rfl)) (hw _ (List.mem_of_getElem? (i := 1) rfl)) (hw _ (List.mem_of_getElem? (i := 2) rfl)) rfl (g := (mkF m 63 #[.val (.int p0), .val (.int p1), .val (.int p2), .val (.int r1), .val (.int j1), .val (.int r2), .val (.int j2), .val (.ref b9), .unset, .unset, .unset] [])) rfl (hb hby at_63) (by decide) (by decide)
  obtain ⟨b13, g13⟩ : ∃ z, z = (T11.heap).size := ⟨_, rfl⟩
  rw [← g13] at A13 D13 st13
  have Zs14 : n0 ≤ (h13).size := Nat.le_trans Zs12 E13.1
  have Os14 : Old Z n0 (h13) := Os12.ext E13
  have Ks14 : Keep h0 (h13) [] := Ks12.ext E13
  have D13_rollback : Fld Z h13 b13 "com/example/demarc/demarc/ApplicationExceptions$Designation" "rollback" "Z" (.int (0 : Int32)) := D13 (Or.inr (hw _ (List.mem_of_getElem? (i := 10) rfl))) (ty := .boolean) (by decide)
  have D13_inherited : Fld Z h13 b13 "com/example/demarc/demarc/ApplicationExceptions$Designation" "inherited" "Z" (.int (0 : Int32)) := D13 (Or.inr (hw _ (List.mem_of_getElem? (i := 12) rfl))) (ty := .boolean) (by decide)
  obtain ⟨_, _, ⟨T15, L15, k15, n15⟩, -, X15, ⟨Lc15, hQ15, l15, y15, z15⟩, st15⟩ := X13.specialBack hx (y := (⟨"com/example/demarc/demarc/ApplicationExceptions$Designation", "<init>", "(ZZ)V"⟩ : MethodName)) rfl hown (mvT hZ (hw _ (List.mem_of_getElem? (i := 3) rfl))) (mvT hZ (hw _ (List.mem_of_getElem? (i := 4) rfl))) (mvT hZ (hw _ (List.mem_of_getElem? (i := 5) rfl))) (by decide) (backOf (W := 1) (rm1_1 l Z a0 hw [] w_cache cl_cache b13 r2 j2 h13 n0 Os14 P A13 D13_rollback hb_r2 (Nat.le_trans Zs12 (Nat.le_of_eq g13.symm)) D13_inherited hb_j2) hZ (hw _ (List.mem_of_getElem? (i := 5) rfl)) (hw _ (List.mem_of_getElem? (i := 2) rfl)) (by decide) (by decide)) (g := (mkF m 71 #[.val (.int p0), .val (.int p1), .val (.int p2), .val (.int r1), .val (.int j1), .val (.int r2), .val (.int j2), .val (.ref b9), .unset, .unset, .unset] [(.int j2), (.int r2), (.ref b13), (.ref b13)])) rfl (by rw [hml]; rfl) (Steps.refl _) (a := b13) (argsL := [(.int r2), (.int j2)]) (rest := [(.ref b13)]) (lenOf pd_0 rfl) rfl (by show 2 * 0 + _ ≤ _; exact Nat.le_of_eq rfl) (hb hby at_71) (fun _ _ => ⟨rfl, e13, (by decide : 2 + 0 ≤ _), (by decide : 4 + 0 ≤ _)⟩)
  dsimp only [Pt.U, Pt.locs, Pt.cells, Pt.slots] at X15 l15 y15 z15 st15 hQ15
  subst l15 y15 z15
  obtain ⟨rfl, N15q, K15, q15_0, q15_1⟩ := hQ15
  have N15 := Fr.app N11 N15q
  have Ks16 : Keep h0 (T15.heap) [] := Ks14.trans K15 (allS (Or.inr (Nat.le_trans Ks12.1 (Nat.le_of_eq g13.symm))) all0)
  have Zs16 : n0 ≤ (T15.heap).size := Nat.le_trans Zs14 K15.1
  have Os16 : Old Z n0 (T15.heap) := Os14.keep K15 (allS (Nat.le_trans Zs12 (Nat.le_of_eq g13.symm)) all0)
  have f17 := (((A9.keep K11).ext E13).keep K15)
  obtain ⟨cq18, kq18, q18a, q18b, q18c⟩ := isOf hZ rfl f17
  obtain ⟨_, _, ⟨T18, L18, k18, n18⟩, -, X18, ⟨Lc18, hQ18, l18, y18, z18⟩, st18⟩ := X15.virtualBack hx (y := (⟨"com/example/demarc/demarc/ApplicationExceptions$Designation", "equals", "(Ljava/lang/Object;)Z"⟩ : MethodName)) (z := (⟨"com/example/demarc/demarc/ApplicationExceptions$Designation", "equals", "(Ljava/lang/Object;)Z"⟩ : MethodName)) hown (mvT hZ (hw _ (List.mem_of_getElem? (i := 20) rfl))) (mvT hZ (hw _ (List.mem_of_getElem? (i := 21) rfl))) (notFace_of_selects (args := #[]) (mvT hZ (hw _ (List.mem_of_getElem? (i := 23) rfl)))) (mvT hZ (hw _ (List.mem_of_getElem? (i := 23) rfl))) (mvT hZ (hw _ (List.mem_of_getElem? (i := 22) rfl))) (by decide) (backOf (W := 0) (rm4_11 l Z a0 hw [] w_cache cl_cache b9 T15.heap n0 Os16 P ) hZ (hw _ (List.mem_of_getElem? (i := 24) rfl)) (hw _ (List.mem_of_getElem? (i := 2) rfl)) (by decide) (by decide)) q18a q18c (g := (mkF m 149 #[.val (.int p0), .val (.int p1), .val (.int p2), .val (.int r1), .val (.int j1), .val (.int r2), .val (.int j2), .val (.ref b9), .val (.ref b13), .val (.int (1 : Int32)), .val .null] [.null, (.ref b9)])) rfl (by rw [hml]; rfl) (Steps.refl _) (argsL := [.null]) (rest := []) (lenOf pd_1 rfl) rfl (by show 2 * 0 + _ ≤ _; exact Nat.le_of_eq rfl) (hb hby at_149) (fun _ _ => ⟨rfl, rfl, (by decide : 2 + 0 ≤ _), (by decide : 4 + 0 ≤ _)⟩)
  dsimp only [Pt.U, Pt.locs, Pt.cells, Pt.slots] at X18 l18 y18 z18 st18 hQ18
  subst l18 y18 z18
  obtain ⟨rfl, N18q, e18⟩ := hQ18
  have N18 := Fr.app N15 N18q
  obtain ⟨fs, hr, hrun, hended, hW, hsame⟩ := X18.leave (v := some (.int (1 : Int32))) (fun h => by rw [Bd.returns] at h; cases h)
  refine ⟨_, _, pre0 _ ?_, hrun, hended, _, _, rfl, ?_, ⟨_, rfl⟩, hW, hsame.mono (by decide) (by decide)⟩
  · show Steps p.tables e below (s₁.setTop (mkF m 0 #[.val (.int p0), .val (.int p1), .val (.int p2), .unset, .unset, .unset, .unset, .unset, .unset, .unset, .unset] [])) _
    refine XS.iloadN X0.here hx rfl (hb hby at_0) rfl ?_
    show Steps p.tables e below (s₁.setTop (mkF m 1 #[.val (.int p0), .val (.int p1), .val (.int p2), .unset, .unset, .unset, .unset, .unset, .unset, .unset, .unset] [(.int p0)])) _
    refine XS.iconst X0.here hx rfl (hb hby at_1) ?_
    show Steps p.tables e below (s₁.setTop (mkF m 2 #[.val (.int p0), .val (.int p1), .val (.int p2), .unset, .unset, .unset, .unset, .unset, .unset, .unset, .unset] [(.int (1 : Int32)), (.int p0)])) _
    refine XS.iand X0.here hx rfl (hb hby at_2) rfl ?_
    refine sg2 _ ?_
    show Steps p.tables e below (s₁.setTop (mkF m 11 #[.val (.int p0), .val (.int p1), .val (.int p2), .unset, .unset, .unset, .unset, .unset, .unset, .unset, .unset] [(.int r1)])) _
    refine XS.istoreN X0.here hx rfl (hb hby at_11) rfl (l' := #[.val (.int p0), .val (.int p1), .val (.int p2), .val (.int r1), .unset, .unset, .unset, .unset, .unset, .unset, .unset]) rfl ?_
    show Steps p.tables e below (s₁.setTop (mkF m 12 #[.val (.int p0), .val (.int p1), .val (.int p2), .val (.int r1), .unset, .unset, .unset, .unset, .unset, .unset, .unset] [])) _
    refine XS.iloadN X0.here hx rfl (hb hby at_12) rfl ?_
    show Steps p.tables e below (s₁.setTop (mkF m 13 #[.val (.int p0), .val (.int p1), .val (.int p2), .val (.int r1), .unset, .unset, .unset, .unset, .unset, .unset, .unset] [(.int p0)])) _
    refine XS.iconst X0.here hx rfl (hb hby at_13) ?_
    show Steps p.tables e below (s₁.setTop (mkF m 14 #[.val (.int p0), .val (.int p1), .val (.int p2), .val (.int r1), .unset, .unset, .unset, .unset, .unset, .unset, .unset] [(.int (2 : Int32)), (.int p0)])) _
    refine XS.iand X0.here hx rfl (hb hby at_14) rfl ?_
    refine sg4 _ ?_
    show Steps p.tables e below (s₁.setTop (mkF m 23 #[.val (.int p0), .val (.int p1), .val (.int p2), .val (.int r1), .unset, .unset, .unset, .unset, .unset, .unset, .unset] [(.int j1)])) _
    refine XS.istore X0.here hx rfl (hb hby at_23) rfl (l' := #[.val (.int p0), .val (.int p1), .val (.int p2), .val (.int r1), .val (.int j1), .unset, .unset, .unset, .unset, .unset, .unset]) rfl ?_
    show Steps p.tables e below (s₁.setTop (mkF m 25 #[.val (.int p0), .val (.int p1), .val (.int p2), .val (.int r1), .val (.int j1), .unset, .unset, .unset, .unset, .unset, .unset] [])) _
    refine XS.iloadN X0.here hx rfl (hb hby at_25) rfl ?_
    show Steps p.tables e below (s₁.setTop (mkF m 26 #[.val (.int p0), .val (.int p1), .val (.int p2), .val (.int r1), .val (.int j1), .unset, .unset, .unset, .unset, .unset, .unset] [(.int p1)])) _
    refine XS.iconst X0.here hx rfl (hb hby at_26) ?_
    show Steps p.tables e below (s₁.setTop (mkF m 27 #[.val (.int p0), .val (.int p1), .val (.int p2), .val (.int r1), .val (.int j1), .unset, .unset, .unset, .unset, .unset, .unset] [(.int (1 : Int32)), (.int p1)])) _
    refine XS.iand X0.here hx rfl (hb hby at_27) rfl ?_
    refine sg6 _ ?_
    show Steps p.tables e below (s₁.setTop (mkF m 36 #[.val (.int p0), .val (.int p1), .val (.int p2), .val (.int r1), .val (.int j1), .unset, .unset, .unset, .unset, .unset, .unset] [(.int r2)])) _
    refine XS.istore X0.here hx rfl (hb hby at_36) rfl (l' := #[.val (.int p0), .val (.int p1), .val (.int p2), .val (.int r1), .val (.int j1), .val (.int r2), .unset, .unset, .unset, .unset, .unset]) rfl ?_
    show Steps p.tables e below (s₁.setTop (mkF m 38 #[.val (.int p0), .val (.int p1), .val (.int p2), .val (.int r1), .val (.int j1), .val (.int r2), .unset, .unset, .unset, .unset, .unset] [])) _
    refine XS.iloadN X0.here hx rfl (hb hby at_38) rfl ?_
    show Steps p.tables e below (s₁.setTop (mkF m 39 #[.val (.int p0), .val (.int p1), .val (.int p2), .val (.int r1), .val (.int j1), .val (.int r2), .unset, .unset, .unset, .unset, .unset] [(.int p1)])) _
    refine XS.iconst X0.here hx rfl (hb hby at_39) ?_
    show Steps p.tables e below (s₁.setTop (mkF m 40 #[.val (.int p0), .val (.int p1), .val (.int p2), .val (.int r1), .val (.int j1), .val (.int r2), .unset, .unset, .unset, .unset, .unset] [(.int (2 : Int32)), (.int p1)])) _
    refine XS.iand X0.here hx rfl (hb hby at_40) rfl ?_
    refine sg8 _ ?_
    show Steps p.tables e below (s₁.setTop (mkF m 49 #[.val (.int p0), .val (.int p1), .val (.int p2), .val (.int r1), .val (.int j1), .val (.int r2), .unset, .unset, .unset, .unset, .unset] [(.int j2)])) _
    refine XS.istore X0.here hx rfl (hb hby at_49) rfl (l' := #[.val (.int p0), .val (.int p1), .val (.int p2), .val (.int r1), .val (.int j1), .val (.int r2), .val (.int j2), .unset, .unset, .unset, .unset]) rfl ?_
    show Steps p.tables e below (s₁.setTop (mkF m 51 #[.val (.int p0), .val (.int p1), .val (.int p2), .val (.int r1), .val (.int j1), .val (.int r2), .val (.int j2), .unset, .unset, .unset, .unset] [])) _
    refine st9 _ ?_
    show Steps p.tables e below (T9.setTop (mkF m 54 #[.val (.int p0), .val (.int p1), .val (.int p2), .val (.int r1), .val (.int j1), .val (.int r2), .val (.int j2), .unset, .unset, .unset, .unset] [(.ref b9)])) _
    refine XS.dup X9.here hx rfl (hb hby at_54) rfl rfl ?_
    show Steps p.tables e below (T9.setTop (mkF m 55 #[.val (.int p0), .val (.int p1), .val (.int p2), .val (.int r1), .val (.int j1), .val (.int r2), .val (.int j2), .unset, .unset, .unset, .unset] [(.ref b9), (.ref b9)])) _
    refine XS.iloadN X9.here hx rfl (hb hby at_55) rfl ?_
    show Steps p.tables e below (T9.setTop (mkF m 56 #[.val (.int p0), .val (.int p1), .val (.int p2), .val (.int r1), .val (.int j1), .val (.int r2), .val (.int j2), .unset, .unset, .unset, .unset] [(.int r1), (.ref b9), (.ref b9)])) _
    refine XS.iload X9.here hx rfl (hb hby at_56) rfl ?_
    show Steps p.tables e below (T9.setTop (mkF m 58 #[.val (.int p0), .val (.int p1), .val (.int p2), .val (.int r1), .val (.int j1), .val (.int r2), .val (.int j2), .unset, .unset, .unset, .unset] [(.int j1), (.int r1), (.ref b9), (.ref b9)])) _
    refine st11.trans ?_
    show Steps p.tables e below (T11.setTop (mkF m 61 #[.val (.int p0), .val (.int p1), .val (.int p2), .val (.int r1), .val (.int j1), .val (.int r2), .val (.int j2), .unset, .unset, .unset, .unset] [(.ref b9)])) _
    refine XS.astore X11.here hx rfl (hb hby at_61) rfl rfl (l' := #[.val (.int p0), .val (.int p1), .val (.int p2), .val (.int r1), .val (.int j1), .val (.int r2), .val (.int j2), .val (.ref b9), .unset, .unset, .unset]) rfl ?_
    show Steps p.tables e below (T11.setTop (mkF m 63 #[.val (.int p0), .val (.int p1), .val (.int p2), .val (.int r1), .val (.int j1), .val (.int r2), .val (.int j2), .val (.ref b9), .unset, .unset, .unset] [])) _
    refine st13 _ ?_
    show Steps p.tables e below (T13.setTop (mkF m 66 #[.val (.int p0), .val (.int p1), .val (.int p2), .val (.int r1), .val (.int j1), .val (.int r2), .val (.int j2), .val (.ref b9), .unset, .unset, .unset] [(.ref b13)])) _
    refine XS.dup X13.here hx rfl (hb hby at_66) rfl rfl ?_
    show Steps p.tables e below (T13.setTop (mkF m 67 #[.val (.int p0), .val (.int p1), .val (.int p2), .val (.int r1), .val (.int j1), .val (.int r2), .val (.int j2), .val (.ref b9), .unset, .unset, .unset] [(.ref b13), (.ref b13)])) _
    refine XS.iload X13.here hx rfl (hb hby at_67) rfl ?_
    show Steps p.tables e below (T13.setTop (mkF m 69 #[.val (.int p0), .val (.int p1), .val (.int p2), .val (.int r1), .val (.int j1), .val (.int r2), .val (.int j2), .val (.ref b9), .unset, .unset, .unset] [(.int r2), (.ref b13), (.ref b13)])) _
    refine XS.iload X13.here hx rfl (hb hby at_69) rfl ?_
    show Steps p.tables e below (T13.setTop (mkF m 71 #[.val (.int p0), .val (.int p1), .val (.int p2), .val (.int r1), .val (.int j1), .val (.int r2), .val (.int j2), .val (.ref b9), .unset, .unset, .unset] [(.int j2), (.int r2), (.ref b13), (.ref b13)])) _
    refine st15.trans ?_
    show Steps p.tables e below (T15.setTop (mkF m 74 #[.val (.int p0), .val (.int p1), .val (.int p2), .val (.int r1), .val (.int j1), .val (.int r2), .val (.int j2), .val (.ref b9), .unset, .unset, .unset] [(.ref b13)])) _
    refine XS.astore X15.here hx rfl (hb hby at_74) rfl rfl (l' := #[.val (.int p0), .val (.int p1), .val (.int p2), .val (.int r1), .val (.int j1), .val (.int r2), .val (.int j2), .val (.ref b9), .val (.ref b13), .unset, .unset]) rfl ?_
    show Steps p.tables e below (T15.setTop (mkF m 76 #[.val (.int p0), .val (.int p1), .val (.int p2), .val (.int r1), .val (.int j1), .val (.int r2), .val (.int j2), .val (.ref b9), .val (.ref b13), .unset, .unset] [])) _
    refine XS.iloadN X15.here hx rfl (hb hby at_76) rfl ?_
    show Steps p.tables e below (T15.setTop (mkF m 77 #[.val (.int p0), .val (.int p1), .val (.int p2), .val (.int r1), .val (.int j1), .val (.int r2), .val (.int j2), .val (.ref b9), .val (.ref b13), .unset, .unset] [(.int p2)])) _
    refine XS.iconst X15.here hx rfl (hb hby at_77) ?_
    show Steps p.tables e below (T15.setTop (mkF m 78 #[.val (.int p0), .val (.int p1), .val (.int p2), .val (.int r1), .val (.int j1), .val (.int r2), .val (.int j2), .val (.ref b9), .val (.ref b13), .unset, .unset] [(.int (3 : Int32)), (.int p2)])) _
    refine XS.iand X15.here hx rfl (hb hby at_78) rfl ?_
    show Steps p.tables e below (T15.setTop (mkF m 79 #[.val (.int p0), .val (.int p1), .val (.int p2), .val (.int r1), .val (.int j1), .val (.int r2), .val (.int j2), .val (.ref b9), .val (.ref b13), .unset, .unset] [(.int (p2 &&& (3 : Int32)))])) _
    rw [k4]
    show Steps p.tables e below (T15.setTop (mkF m 79 #[.val (.int p0), .val (.int p1), .val (.int p2), .val (.int r1), .val (.int j1), .val (.int r2), .val (.int j2), .val (.ref b9), .val (.ref b13), .unset, .unset] [(.int (1 : Int32))])) _
    refine XS.istore X15.here hx rfl (hb hby at_79) rfl (l' := #[.val (.int p0), .val (.int p1), .val (.int p2), .val (.int r1), .val (.int j1), .val (.int r2), .val (.int j2), .val (.ref b9), .val (.ref b13), .val (.int (1 : Int32)), .unset]) rfl ?_
    show Steps p.tables e below (T15.setTop (mkF m 81 #[.val (.int p0), .val (.int p1), .val (.int p2), .val (.int r1), .val (.int j1), .val (.int r2), .val (.int j2), .val (.ref b9), .val (.ref b13), .val (.int (1 : Int32)), .unset] [])) _
    refine XS.iload X15.here hx rfl (hb hby at_81) rfl ?_
    show Steps p.tables e below (T15.setTop (mkF m 83 #[.val (.int p0), .val (.int p1), .val (.int p2), .val (.int r1), .val (.int j1), .val (.int r2), .val (.int j2), .val (.ref b9), .val (.ref b13), .val (.int (1 : Int32)), .unset] [(.int (1 : Int32))])) _
    refine XS.ifYes X15.here hx rfl (pc0 := 83) (pc' := 136) rfl (hb hby at_83) rfl (by decide) (by decide) (by decide) ?_
    show Steps p.tables e below (T15.setTop (mkF m 136 #[.val (.int p0), .val (.int p1), .val (.int p2), .val (.int r1), .val (.int j1), .val (.int r2), .val (.int j2), .val (.ref b9), .val (.ref b13), .val (.int (1 : Int32)), .unset] [])) _
    refine XS.iload X15.here hx rfl (hb hby at_136) rfl ?_
    show Steps p.tables e below (T15.setTop (mkF m 138 #[.val (.int p0), .val (.int p1), .val (.int p2), .val (.int r1), .val (.int j1), .val (.int r2), .val (.int j2), .val (.ref b9), .val (.ref b13), .val (.int (1 : Int32)), .unset] [(.int (1 : Int32))])) _
    refine XS.iconst X15.here hx rfl (hb hby at_138) ?_
    show Steps p.tables e below (T15.setTop (mkF m 139 #[.val (.int p0), .val (.int p1), .val (.int p2), .val (.int r1), .val (.int j1), .val (.int r2), .val (.int j2), .val (.ref b9), .val (.ref b13), .val (.int (1 : Int32)), .unset] [(.int (1 : Int32)), (.int (1 : Int32))])) _
    refine XS.icmpNo X15.here hx rfl (hb hby at_139) rfl (by decide) ?_
    show Steps p.tables e below (T15.setTop (mkF m 142 #[.val (.int p0), .val (.int p1), .val (.int p2), .val (.int r1), .val (.int j1), .val (.int r2), .val (.int j2), .val (.ref b9), .val (.ref b13), .val (.int (1 : Int32)), .unset] [])) _
    refine XS.aconstNull X15.here hx rfl (hb hby at_142) ?_
    show Steps p.tables e below (T15.setTop (mkF m 143 #[.val (.int p0), .val (.int p1), .val (.int p2), .val (.int r1), .val (.int j1), .val (.int r2), .val (.int j2), .val (.ref b9), .val (.ref b13), .val (.int (1 : Int32)), .unset] [.null])) _
    refine XS.astore X15.here hx rfl (hb hby at_143) rfl rfl (l' := #[.val (.int p0), .val (.int p1), .val (.int p2), .val (.int r1), .val (.int j1), .val (.int r2), .val (.int j2), .val (.ref b9), .val (.ref b13), .val (.int (1 : Int32)), .val .null]) rfl ?_
    show Steps p.tables e below (T15.setTop (mkF m 145 #[.val (.int p0), .val (.int p1), .val (.int p2), .val (.int r1), .val (.int j1), .val (.int r2), .val (.int j2), .val (.ref b9), .val (.ref b13), .val (.int (1 : Int32)), .val .null] [])) _
    refine XS.aload X15.here hx rfl (hb hby at_145) rfl rfl ?_
    show Steps p.tables e below (T15.setTop (mkF m 147 #[.val (.int p0), .val (.int p1), .val (.int p2), .val (.int r1), .val (.int j1), .val (.int r2), .val (.int j2), .val (.ref b9), .val (.ref b13), .val (.int (1 : Int32)), .val .null] [(.ref b9)])) _
    refine XS.aload X15.here hx rfl (hb hby at_147) rfl rfl ?_
    show Steps p.tables e below (T15.setTop (mkF m 149 #[.val (.int p0), .val (.int p1), .val (.int p2), .val (.int r1), .val (.int j1), .val (.int r2), .val (.int j2), .val (.ref b9), .val (.ref b13), .val (.int (1 : Int32)), .val .null] [.null, (.ref b9)])) _
    refine st18.trans ?_
    show Steps p.tables e below (T18.setTop (mkF m 152 #[.val (.int p0), .val (.int p1), .val (.int p2), .val (.int r1), .val (.int j1), .val (.int r2), .val (.int j2), .val (.ref b9), .val (.ref b13), .val (.int (1 : Int32)), .val .null] [(.int (0 : Int32))])) _
    refine XS.ifNo X18.here hx rfl (hb hby at_152) rfl (by decide) ?_
    show Steps p.tables e below (T18.setTop (mkF m 155 #[.val (.int p0), .val (.int p1), .val (.int p2), .val (.int r1), .val (.int j1), .val (.int r2), .val (.int j2), .val (.ref b9), .val (.ref b13), .val (.int (1 : Int32)), .val .null] [])) _
    refine XS.iconst X18.here hx rfl (hb hby at_155) ?_
    show Steps p.tables e below (T18.setTop (mkF m 156 #[.val (.int p0), .val (.int p1), .val (.int p2), .val (.int r1), .val (.int j1), .val (.int r2), .val (.int j2), .val (.ref b9), .val (.ref b13), .val (.int (1 : Int32)), .val .null] [(.int (1 : Int32))])) _
    refine XS.goto X18.here hx rfl (pc0 := 156) (pc' := 160) rfl (hb hby at_156) (by decide) (by decide) ?_
    show Steps p.tables e below (T18.setTop (mkF m 160 #[.val (.int p0), .val (.int p1), .val (.int p2), .val (.int r1), .val (.int j1), .val (.int r2), .val (.int j2), .val (.ref b9), .val (.ref b13), .val (.int (1 : Int32)), .val .null] [(.int (1 : Int32))])) _
    exact retN X18 hx (t := .boolean) Bd.returns (by simp) (hb hby at_160) hr
  · show Qrm0_3 Z w_cache cl_cache p0 p1 p2 r1 j1 r2 j2 h0 n0 _ T18.heap _
    rw [e18]
    exact ⟨rfl, N18, Ks16⟩
theorem d3_0 : decode jdk_33_method_22_code 0 = .ok (.iload_n 0, 1) := by decide +kernel
theorem d3_1 : decode jdk_33_method_22_code 1 = .ok (.bipush (-128), 2) := by decide +kernel
theorem d3_3 : decode jdk_33_method_22_code 3 = .ok (.if_icmp .lt 20, 3) := by decide +kernel
theorem d3_23 : decode jdk_33_method_22_code 23 = .ok (.new 1, 3) := by decide +kernel
theorem d3_26 : decode jdk_33_method_22_code 26 = .ok (.dup, 1) := by decide +kernel
theorem d3_27 : decode jdk_33_method_22_code 27 = .ok (.iload_n 0, 1) := by decide +kernel
theorem d3_28 : decode jdk_33_method_22_code 28 = .ok (.invokespecial 199, 3) := by decide +kernel
theorem d5_0 : decode jdk_33_method_23_code 0 = .ok (.aload_n 0, 1) := by decide +kernel
theorem d5_1 : decode jdk_33_method_23_code 1 = .ok (.invokespecial 202, 3) := by decide +kernel
theorem d6_0 : decode jdk_18_method_1_code 0 = .ok (.aload_n 0, 1) := by decide +kernel
theorem d6_1 : decode jdk_18_method_1_code 1 = .ok (.invokespecial 1, 3) := by decide +kernel
theorem d6_4 : decode jdk_18_method_1_code 4 = .ok (.return_, 1) := by decide +kernel
theorem ef_6_R (m : MethodId) (x0 : Addr) : entryFrame m #[(.ref x0)] 1 = mkF m 0 #[.val (.ref x0)] [] := by first | (simp [entryFrame, mkF, argsToLocals, Value.category]; done) | rfl
theorem pn_java_lang_Number : plainName "java/lang/Number" = true := by first | (simp [plainName, overriddenIn]; done) | decide +kernel
def Qrm6_13 (Z : State) (w_cache : Addr) (cl_cache : Cell) (x1 : Addr) (h0 : Heap) (n0 : Nat) (v : Option Value) (h : Heap) (L : List Loc) : Prop := v = none ∧ Fr n0 L ∧ h = h0
set_option maxRecDepth 65536 in
set_option maxHeartbeats 40000000 in
theorem rm6_13 (l : Launch) (Z : State) (a0 : Array Value) (hw : ∀ d ∈ tables_1, d.before a0 Z = true) (ws : List Jvm.Cond) (w_cache : Addr) (cl_cache : Cell) (x1 : Addr) (h0 : Heap) (n0 : Nat) (O0 : Old Z n0 h0) (P : Pins Z w_cache cl_cache) :
    MetFree l (⟨"java/lang/Number", "<init>", "()V"⟩ : MethodName) (head1 (Jvm.Cond.code (⟨"java/lang/Number", "<init>", "()V"⟩ : MethodName) jdk_18_method_1_code 1 none :: ws) ({ frames := 1, cells := 0, slots := 0, locals := 12 } : Room)) (fun a U => a = #[(.ref x1)] ∧ Z.Warmed39 U.vm ∧ U.heap = h0) (fun _ _ _ _ _ => True) (fun _ U o U' => ∃ v L, o = .returned v ∧ Qrm6_13 Z w_cache cl_cache x1 h0 n0 v U'.heap L ∧ FrameEnd U o U' L ({ frames := 1, cells := 0, slots := 0, locals := 12 } : Room).cells ({ frames := 1, cells := 0, slots := 0, locals := 12 } : Room).slots) := by
  refine MetFree.of_bodySF (plainFor_of_name pn_java_lang_Number) hisR ?_
  intro p e s m args below meth c s₁ Bd hml0 hP hK
  obtain ⟨rfl, hZ, hh⟩ := hP
  have hx := Bd.exec
  have hby := Bd.bytes
  have hml : c.maxLocals = 1 := hml0
  have hown : s.vm.findClass "java/lang/Number" = some m.cls := findClass_of_methodNamed Bd.named
  have hnm := (name_of_methodNamed Bd.named Bd.method).1
  have X0 : Stand p l e ({ frames := 1, cells := 0, slots := 0, locals := 12 } : Room) s m #[(.ref x1)] below meth c s₁ [] 0 0 := Stand.of_body Bd
  have e0 : s₁.heap = h0 := by rw [← hh, Bd.state]; rfl
  have N0 := Fr.nil n0
  have Z0 : n0 ≤ h0.size := O0.1 ▸ O0.2.1
  have pre0 : ∀ t, Steps p.tables e below (s₁.setTop (mkF m 0 #[.val (.ref x1)] [])) t → Steps p.tables e below (s₁.setTop (entryFrame m #[(.ref x1)] 1)) t := fun t k => castTop (ef_6_R m x1) k
  obtain ⟨T1, X1, e1, st1⟩ := initO X0 hx hZ hown (hw _ (List.mem_of_getElem? (i := 42) rfl)) (hw _ (List.mem_of_getElem? (i := 7) rfl)) (hw _ (List.mem_of_getElem? (i := 8) rfl)) e0 (g := (mkF m 1 #[.val (.ref x1)] [(.ref x1)])) rfl (by rw [hml]; rfl) rfl (hb hby d6_1) (by decide) (W := 0) (by show 2 * 0 + _ ≤ _; exact Nat.le_of_eq rfl) (by decide)
  obtain ⟨fs, hr, hrun, hended, hW, hsame⟩ := X1.leave (v := none) (fun _ => rfl)
  refine ⟨_, _, pre0 _ ?_, hrun, hended, _, _, rfl, ?_, ⟨_, rfl⟩, hW, hsame.mono (by decide) (by decide)⟩
  · show Steps p.tables e below (s₁.setTop (mkF m 0 #[.val (.ref x1)] [])) _
    refine XS.aloadN X0.here hx rfl (hb hby d6_0) rfl rfl ?_
    show Steps p.tables e below (s₁.setTop (mkF m 1 #[.val (.ref x1)] [(.ref x1)])) _
    refine st1 _ ?_
    show Steps p.tables e below (T1.setTop (mkF m 4 #[.val (.ref x1)] [])) _
    exact X1.returnOut hx Bd.returns (hb hby d6_4) hr
  · exact ⟨rfl, N0, e1⟩
theorem pd_2 : parseMethodDescriptor "()V" = some ⟨[], none⟩ := by decide +kernel
theorem d5_4 : decode jdk_33_method_23_code 4 = .ok (.aload_n 0, 1) := by decide +kernel
theorem d5_5 : decode jdk_33_method_23_code 5 = .ok (.iload_n 1, 1) := by decide +kernel
theorem d5_6 : decode jdk_33_method_23_code 6 = .ok (.putfield 205, 3) := by decide +kernel
theorem d5_9 : decode jdk_33_method_23_code 9 = .ok (.return_, 1) := by decide +kernel
theorem ef_5_RI (m : MethodId) (x0 : Addr) (x1 : Int32) : entryFrame m #[(.ref x0), (.int x1)] 2 = mkF m 0 #[.val (.ref x0), .val (.int x1)] [] := by first | (simp [entryFrame, mkF, argsToLocals, Value.category]; done) | rfl
theorem pn_java_lang_Integer : plainName "java/lang/Integer" = true := by first | (simp [plainName, overriddenIn]; done) | decide +kernel
def Qrm5_14 (Z : State) (w_cache : Addr) (cl_cache : Cell) (x1 : Addr) (i2 : Int32) (h0 : Heap) (n0 : Nat) (v : Option Value) (h : Heap) (L : List Loc) : Prop := v = none ∧ Fr n0 L ∧ Keep h0 h [x1] ∧ Fld Z h x1 "java/lang/Integer" "value" "I" (.int i2)
set_option maxRecDepth 65536 in
set_option maxHeartbeats 40000000 in
theorem rm5_14 (l : Launch) (Z : State) (a0 : Array Value) (hw : ∀ d ∈ tables_1, d.before a0 Z = true) (ws : List Jvm.Cond) (w_cache : Addr) (cl_cache : Cell) (x1 : Addr) (i2 : Int32) (h0 : Heap) (n0 : Nat) (O0 : Old Z n0 h0) (P : Pins Z w_cache cl_cache) (E_x1 : Exa Z h0 x1 "java/lang/Integer") (F_x1_value : Fld Z h0 x1 "java/lang/Integer" "value" "I" (.int (0 : Int32))) (g_x1 : n0 ≤ x1) :
    MetFree l (⟨"java/lang/Integer", "<init>", "(I)V"⟩ : MethodName) (head1 (Jvm.Cond.code (⟨"java/lang/Integer", "<init>", "(I)V"⟩ : MethodName) jdk_33_method_23_code 2 none :: ws) ({ frames := 2, cells := 0, slots := 0, locals := 24 } : Room)) (fun a U => a = #[(.ref x1), (.int i2)] ∧ Z.Warmed39 U.vm ∧ U.heap = h0) (fun _ _ _ _ _ => True) (fun _ U o U' => ∃ v L, o = .returned v ∧ Qrm5_14 Z w_cache cl_cache x1 i2 h0 n0 v U'.heap L ∧ FrameEnd U o U' L ({ frames := 2, cells := 0, slots := 0, locals := 24 } : Room).cells ({ frames := 2, cells := 0, slots := 0, locals := 24 } : Room).slots) := by
  refine MetFree.of_bodySF (plainFor_of_name pn_java_lang_Integer) hisR ?_
  intro p e s m args below meth c s₁ Bd hml0 hP hK
  obtain ⟨rfl, hZ, hh⟩ := hP
  have hx := Bd.exec
  have hby := Bd.bytes
  have hml : c.maxLocals = 2 := hml0
  have hown : s.vm.findClass "java/lang/Integer" = some m.cls := findClass_of_methodNamed Bd.named
  have hnm := (name_of_methodNamed Bd.named Bd.method).1
  have X0 : Stand p l e ({ frames := 2, cells := 0, slots := 0, locals := 24 } : Room) s m #[(.ref x1), (.int i2)] below meth c s₁ [] 0 0 := Stand.of_body Bd
  have e0 : s₁.heap = h0 := by rw [← hh, Bd.state]; rfl
  have N0 := Fr.nil n0
  have Z0 : n0 ≤ h0.size := O0.1 ▸ O0.2.1
  have pre0 : ∀ t, Steps p.tables e below (s₁.setTop (mkF m 0 #[.val (.ref x1), .val (.int i2)] [])) t → Steps p.tables e below (s₁.setTop (entryFrame m #[(.ref x1), (.int i2)] 2)) t := fun t k => castTop (ef_5_RI m x1 i2) k
  have Kr : Keep h0 h0 [x1] := Keep.refl h0 _
  obtain ⟨_, _, ⟨T1, L1, k1, n1⟩, -, X1, ⟨Lc1, hQ1, l1, y1, z1⟩, st1⟩ := X0.specialBack hx (y := (⟨"java/lang/Number", "<init>", "()V"⟩ : MethodName)) rfl hown (mvT hZ (hw _ (List.mem_of_getElem? (i := 36) rfl))) (mvT hZ (hw _ (List.mem_of_getElem? (i := 37) rfl))) (mvT hZ (hw _ (List.mem_of_getElem? (i := 41) rfl))) (by decide) (backOf (W := 0) (rm6_13 l Z a0 hw [] w_cache cl_cache x1 h0 n0 O0 P ) hZ (hw _ (List.mem_of_getElem? (i := 41) rfl)) (hw _ (List.mem_of_getElem? (i := 40) rfl)) (by decide) (by decide)) (g := (mkF m 1 #[.val (.ref x1), .val (.int i2)] [(.ref x1)])) rfl (by rw [hml]; rfl) (Steps.refl _) (a := x1) (argsL := []) (rest := []) (lenOf pd_2 rfl) rfl (by show 2 * 0 + _ ≤ _; exact Nat.le_of_eq rfl) (hb hby d5_1) (fun _ _ => ⟨rfl, e0, (by decide : 0 + 0 ≤ _), (by decide : 0 + 0 ≤ _)⟩)
  dsimp only [Pt.U, Pt.locs, Pt.cells, Pt.slots] at X1 l1 y1 z1 st1 hQ1
  subst l1 y1 z1
  obtain ⟨rfl, N1q, e1⟩ := hQ1
  have N1 := Fr.app N0 N1q
  obtain ⟨T2, h2, X2, e2, W2, st2⟩ := putF X1 hx hZ hown (host := "") (Or.inl (hw _ (List.mem_of_getElem? (i := 43) rfl))) Via.refl e1 F_x1_value E_x1 (Or.inr ⟨(hw _ (List.mem_of_getElem? (i := 44) rfl)), rfl, hnm⟩) (hw _ (List.mem_of_getElem? (i := 31) rfl)) (ty := .int) (by decide) rfl rfl (g := (mkF m 6 #[.val (.ref x1), .val (.int i2)] [(.int i2), (.ref x1)])) rfl rfl (hb hby d5_6)
  have Ks3 : Keep h0 (h2) [x1] := Kr.wr W2 (Or.inl (List.mem_of_getElem? (i := 0) rfl))
  have Zs3 : n0 ≤ (h2).size := Nat.le_trans Z0 (Keep.of_wr W2).1
  have Os3 : Old Z n0 (h2) := O0.wr W2 g_x1
  have Fw2 := Fld.same W2 F_x1_value
  have N2 := Fr.snoc X2 N1 g_x1
  obtain ⟨fs, hr, hrun, hended, hW, hsame⟩ := X2.leave (v := none) (fun _ => rfl)
  refine ⟨_, _, pre0 _ ?_, hrun, hended, _, _, rfl, ?_, ⟨_, rfl⟩, hW, hsame.mono (by decide) (by decide)⟩
  · show Steps p.tables e below (s₁.setTop (mkF m 0 #[.val (.ref x1), .val (.int i2)] [])) _
    refine XS.aloadN X0.here hx rfl (hb hby d5_0) rfl rfl ?_
    show Steps p.tables e below (s₁.setTop (mkF m 1 #[.val (.ref x1), .val (.int i2)] [(.ref x1)])) _
    refine st1.trans ?_
    show Steps p.tables e below (T1.setTop (mkF m 4 #[.val (.ref x1), .val (.int i2)] [])) _
    refine XS.aloadN X1.here hx rfl (hb hby d5_4) rfl rfl ?_
    show Steps p.tables e below (T1.setTop (mkF m 5 #[.val (.ref x1), .val (.int i2)] [(.ref x1)])) _
    refine XS.iloadN X1.here hx rfl (hb hby d5_5) rfl ?_
    show Steps p.tables e below (T1.setTop (mkF m 6 #[.val (.ref x1), .val (.int i2)] [(.int i2), (.ref x1)])) _
    refine st2 _ ?_
    show Steps p.tables e below (T2.setTop (mkF m 9 #[.val (.ref x1), .val (.int i2)] [])) _
    exact X2.returnOut hx Bd.returns (hb hby d5_9) hr
  · show Qrm5_14 Z w_cache cl_cache x1 i2 h0 n0 _ T2.heap _
    rw [e2]
    exact ⟨rfl, N2, Ks3, Fw2⟩
theorem pd_3 : parseMethodDescriptor "(I)V" = some ⟨[.int], none⟩ := by decide +kernel
theorem d3_31 : decode jdk_33_method_22_code 31 = .ok (.areturn, 1) := by decide +kernel
theorem ef_3_I (m : MethodId) (x0 : Int32) : entryFrame m #[(.int x0)] 1 = mkF m 0 #[.val (.int x0)] [] := by first | (simp [entryFrame, mkF, argsToLocals, Value.category]; done) | rfl
def Qrm3_15 (Z : State) (w_cache : Addr) (cl_cache : Cell) (i1 : Int32) (h0 : Heap) (n0 : Nat) (v : Option Value) (h : Heap) (L : List Loc) : Prop := ∃ y1 : Addr, v = some (.ref y1) ∧ Fr n0 L ∧ Keep h0 h [] ∧ h0.size ≤ y1 ∧ Exa Z h y1 "java/lang/Integer" ∧ Fld Z h y1 "java/lang/Integer" "value" "I" (.int i1)
set_option maxRecDepth 65536 in
set_option maxHeartbeats 40000000 in
theorem rm3_15 (l : Launch) (Z : State) (a0 : Array Value) (hw : ∀ d ∈ tables_1, d.before a0 Z = true) (ws : List Jvm.Cond) (w_cache : Addr) (cl_cache : Cell) (i1 : Int32) (h0 : Heap) (n0 : Nat) (O0 : Old Z n0 h0) (P : Pins Z w_cache cl_cache) (hc0 : i1 < (-128 : Int32)) :
    MetFree l (⟨"java/lang/Integer", "valueOf", "(I)Ljava/lang/Integer;"⟩ : MethodName) (head1 (Jvm.Cond.code (⟨"java/lang/Integer", "valueOf", "(I)Ljava/lang/Integer;"⟩ : MethodName) jdk_33_method_22_code 1 (some (.object "java/lang/Integer")) :: ws) ({ frames := 3, cells := 1, slots := 1, locals := 38 } : Room)) (fun a U => a = #[(.int i1)] ∧ Z.Warmed39 U.vm ∧ U.heap = h0) (fun _ _ _ _ _ => True) (fun _ U o U' => ∃ v L, o = .returned v ∧ Qrm3_15 Z w_cache cl_cache i1 h0 n0 v U'.heap L ∧ FrameEnd U o U' L ({ frames := 3, cells := 1, slots := 1, locals := 38 } : Room).cells ({ frames := 3, cells := 1, slots := 1, locals := 38 } : Room).slots) := by
  refine MetFree.of_bodySF (plainFor_of_name pn_java_lang_Integer) hisR ?_
  intro p e s m args below meth c s₁ Bd hml0 hP hK
  obtain ⟨rfl, hZ, hh⟩ := hP
  have hx := Bd.exec
  have hby := Bd.bytes
  have hml : c.maxLocals = 1 := hml0
  have hown : s.vm.findClass "java/lang/Integer" = some m.cls := findClass_of_methodNamed Bd.named
  have hnm := (name_of_methodNamed Bd.named Bd.method).1
  have X0 : Stand p l e ({ frames := 3, cells := 1, slots := 1, locals := 38 } : Room) s m #[(.int i1)] below meth c s₁ [] 0 0 := Stand.of_body Bd
  have e0 : s₁.heap = h0 := by rw [← hh, Bd.state]; rfl
  have N0 := Fr.nil n0
  have Z0 : n0 ≤ h0.size := O0.1 ▸ O0.2.1
  have pre0 : ∀ t, Steps p.tables e below (s₁.setTop (mkF m 0 #[.val (.int i1)] [])) t → Steps p.tables e below (s₁.setTop (entryFrame m #[(.int i1)] 1)) t := fun t k => castTop (ef_3_I m i1) k
  have Kr : Keep h0 h0 [] := Keep.refl h0 _
  obtain ⟨T1, h1, X1, e1, E1, A1, D1, -, st1⟩ := newO X0 hx hZ hown (hw _ (List.mem_of_getElem? (i := 30) rfl)) (hw _ (List.mem_of_getElem? (i := 31) rfl)) (hw _ (List.mem_of_getElem? (i := 15) rfl)) e0 (g := (mkF m 23 #[.val (.int i1)] [])) rfl (hb hby d3_23) (by decide) (by decide)
  obtain ⟨b1, g1⟩ : ∃ z, z = (h0).size := ⟨_, rfl⟩
  rw [← g1] at A1 D1 st1
  have Zs2 : n0 ≤ (h1).size := Nat.le_trans Z0 E1.1
  have Os2 : Old Z n0 (h1) := O0.ext E1
  have Ks2 : Keep h0 (h1) [] := Kr.ext E1
  have D1_value : Fld Z h1 b1 "java/lang/Integer" "value" "I" (.int (0 : Int32)) := D1 (Or.inr (hw _ (List.mem_of_getElem? (i := 44) rfl))) (ty := .int) (by decide)
  obtain ⟨_, _, ⟨T3, L3, k3, n3⟩, -, X3, ⟨Lc3, hQ3, l3, y3, z3⟩, st3⟩ := X1.specialBack hx (y := (⟨"java/lang/Integer", "<init>", "(I)V"⟩ : MethodName)) rfl hown (mvT hZ (hw _ (List.mem_of_getElem? (i := 32) rfl))) (mvT hZ (hw _ (List.mem_of_getElem? (i := 33) rfl))) (mvT hZ (hw _ (List.mem_of_getElem? (i := 35) rfl))) (by decide) (backOf (W := 1) (rm5_14 l Z a0 hw [] w_cache cl_cache b1 i1 h1 n0 Os2 P A1 D1_value (Nat.le_trans Z0 (Nat.le_of_eq g1.symm))) hZ (hw _ (List.mem_of_getElem? (i := 35) rfl)) (hw _ (List.mem_of_getElem? (i := 15) rfl)) (by decide) (by decide)) (g := (mkF m 28 #[.val (.int i1)] [(.int i1), (.ref b1), (.ref b1)])) rfl (by rw [hml]; rfl) (Steps.refl _) (a := b1) (argsL := [(.int i1)]) (rest := [(.ref b1)]) (lenOf pd_3 rfl) rfl (by show 2 * 0 + _ ≤ _; exact Nat.le_of_eq rfl) (hb hby d3_28) (fun _ _ => ⟨rfl, e1, (by decide : 1 + 0 ≤ _), (by decide : 1 + 0 ≤ _)⟩)
  dsimp only [Pt.U, Pt.locs, Pt.cells, Pt.slots] at X3 l3 y3 z3 st3 hQ3
  subst l3 y3 z3
  obtain ⟨rfl, N3q, K3, q3_0⟩ := hQ3
  have N3 := Fr.app N0 N3q
  have Ks4 : Keep h0 (T3.heap) [] := Ks2.trans K3 (allS (Or.inr (Nat.le_trans Kr.1 (Nat.le_of_eq g1.symm))) all0)
  have Zs4 : n0 ≤ (T3.heap).size := Nat.le_trans Zs2 K3.1
  have Os4 : Old Z n0 (T3.heap) := Os2.keep K3 (allS (Nat.le_trans Z0 (Nat.le_of_eq g1.symm)) all0)
  have f5 := (A1.keep K3)
  obtain ⟨fs, hr, hrun, hended, hW, hsame⟩ := X3.leave (v := some (.ref b1)) (fun h => by rw [Bd.returns] at h; cases h)
  refine ⟨_, _, pre0 _ ?_, hrun, hended, _, _, rfl, ?_, ⟨_, rfl⟩, hW, hsame.mono (by decide) (by decide)⟩
  · show Steps p.tables e below (s₁.setTop (mkF m 0 #[.val (.int i1)] [])) _
    refine XS.iloadN X0.here hx rfl (hb hby d3_0) rfl ?_
    show Steps p.tables e below (s₁.setTop (mkF m 1 #[.val (.int i1)] [(.int i1)])) _
    refine XS.bipush X0.here hx rfl (hb hby d3_1) ?_
    show Steps p.tables e below (s₁.setTop (mkF m 3 #[.val (.int i1)] [(.int (-128 : Int32)), (.int i1)])) _
    refine XS.icmpYes X0.here hx rfl (pc0 := 3) (pc' := 23) rfl (hb hby d3_3) rfl (tlt hc0).1 (by decide) (by decide) ?_
    show Steps p.tables e below (s₁.setTop (mkF m 23 #[.val (.int i1)] [])) _
    refine st1 _ ?_
    show Steps p.tables e below (T1.setTop (mkF m 26 #[.val (.int i1)] [(.ref b1)])) _
    refine XS.dup X1.here hx rfl (hb hby d3_26) rfl rfl ?_
    show Steps p.tables e below (T1.setTop (mkF m 27 #[.val (.int i1)] [(.ref b1), (.ref b1)])) _
    refine XS.iloadN X1.here hx rfl (hb hby d3_27) rfl ?_
    show Steps p.tables e below (T1.setTop (mkF m 28 #[.val (.int i1)] [(.int i1), (.ref b1), (.ref b1)])) _
    refine st3.trans ?_
    show Steps p.tables e below (T3.setTop (mkF m 31 #[.val (.int i1)] [(.ref b1)])) _
    exact retOut X3 hx Bd.returns rfl (Or.inr (Or.inr (Or.inr (Or.inr ⟨rfl, rfl, rfl⟩)))) (hb hby d3_31) hr
  · show Qrm3_15 Z w_cache cl_cache i1 h0 n0 _ T3.heap _
    exact ⟨b1, rfl, N3, Ks4, (Nat.le_trans Kr.1 (Nat.le_of_eq g1.symm)), f5, q3_0⟩
theorem pd_4 : parseMethodDescriptor "(I)Ljava/lang/Integer;" = some ⟨[.int], some (.object "java/lang/Integer")⟩ := by decide +kernel
def Qrm4_16 (Z : State) (w_cache : Addr) (cl_cache : Cell) (x1 : Addr) (x2 : Addr) (h0 : Heap) (n0 : Nat) (v : Option Value) (h : Heap) (L : List Loc) : Prop := v = some (.int (0 : Int32)) ∧ Fr n0 L ∧ h = h0
set_option maxRecDepth 65536 in
set_option maxHeartbeats 40000000 in
theorem rm4_16 (l : Launch) (Z : State) (a0 : Array Value) (hw : ∀ d ∈ tables_1, d.before a0 Z = true) (ws : List Jvm.Cond) (w_cache : Addr) (cl_cache : Cell) (x1 : Addr) (x2 : Addr) (h0 : Heap) (n0 : Nat) (O0 : Old Z n0 h0) (P : Pins Z w_cache cl_cache) (E_x2 : Exa Z h0 x2 "java/lang/Integer") :
    MetFree l (⟨"com/example/demarc/demarc/ApplicationExceptions$Designation", "equals", "(Ljava/lang/Object;)Z"⟩ : MethodName) (head1 (Jvm.Cond.code (⟨"com/example/demarc/demarc/ApplicationExceptions$Designation", "equals", "(Ljava/lang/Object;)Z"⟩ : MethodName) prog_2_method_2_code 2 (some .boolean) :: ws) ({ frames := 0, cells := 0, slots := 0, locals := 0 } : Room)) (fun a U => a = #[(.ref x1), (.ref x2)] ∧ Z.Warmed39 U.vm ∧ U.heap = h0) (fun _ _ _ _ _ => True) (fun _ U o U' => ∃ v L, o = .returned v ∧ Qrm4_16 Z w_cache cl_cache x1 x2 h0 n0 v U'.heap L ∧ FrameEnd U o U' L ({ frames := 0, cells := 0, slots := 0, locals := 0 } : Room).cells ({ frames := 0, cells := 0, slots := 0, locals := 0 } : Room).slots) := by
  refine MetFree.of_bodySF (plainFor_of_name pn_com_example_demarc_demarc_ApplicationExceptions_Designation) hisR ?_
  intro p e s m args below meth c s₁ Bd hml0 hP hK
  obtain ⟨rfl, hZ, hh⟩ := hP
  have hx := Bd.exec
  have hby := Bd.bytes
  have hml : c.maxLocals = 2 := hml0
  have hown : s.vm.findClass "com/example/demarc/demarc/ApplicationExceptions$Designation" = some m.cls := findClass_of_methodNamed Bd.named
  have hnm := (name_of_methodNamed Bd.named Bd.method).1
  have X0 : Stand p l e ({ frames := 0, cells := 0, slots := 0, locals := 0 } : Room) s m #[(.ref x1), (.ref x2)] below meth c s₁ [] 0 0 := Stand.of_body Bd
  have e0 : s₁.heap = h0 := by rw [← hh, Bd.state]; rfl
  have N0 := Fr.nil n0
  have Z0 : n0 ≤ h0.size := O0.1 ▸ O0.2.1
  have pre0 : ∀ t, Steps p.tables e below (s₁.setTop (mkF m 0 #[.val (.ref x1), .val (.ref x2)] [])) t → Steps p.tables e below (s₁.setTop (entryFrame m #[(.ref x1), (.ref x2)] 2)) t := fun t k => castTop (ef_4_RR m x1 x2) k
  obtain ⟨T1, X1, e1, st1⟩ := instNo X0 hx hZ hown (hw _ (List.mem_of_getElem? (i := 25) rfl)) e0 E_x2 (own_nsno (hw _ (List.mem_of_getElem? (i := 26) rfl)) (hw _ (List.mem_of_getElem? (i := 1) rfl)) (NS.step (hw _ (List.mem_of_getElem? (i := 26) rfl)) (NS.step (hw _ (List.mem_of_getElem? (i := 27) rfl)) (own_nsr (hw _ (List.mem_of_getElem? (i := 28) rfl)) (hw _ (List.mem_of_getElem? (i := 1) rfl)) (by decide)) (by decide)) (by decide)) (by decide)) (g := (mkF m 1 #[.val (.ref x1), .val (.ref x2)] [(.ref x2)])) rfl rfl (hb hby d4_1)
  obtain ⟨fs, hr, hrun, hended, hW, hsame⟩ := X1.leave (v := some (.int (0 : Int32))) (fun h => by rw [Bd.returns] at h; cases h)
  refine ⟨_, _, pre0 _ ?_, hrun, hended, _, _, rfl, ?_, ⟨_, rfl⟩, hW, hsame.mono (by decide) (by decide)⟩
  · show Steps p.tables e below (s₁.setTop (mkF m 0 #[.val (.ref x1), .val (.ref x2)] [])) _
    refine XS.aloadN X0.here hx rfl (hb hby d4_0) rfl rfl ?_
    show Steps p.tables e below (s₁.setTop (mkF m 1 #[.val (.ref x1), .val (.ref x2)] [(.ref x2)])) _
    refine st1 _ ?_
    show Steps p.tables e below (T1.setTop (mkF m 4 #[.val (.ref x1), .val (.ref x2)] [(.int (0 : Int32))])) _
    refine XS.ifYes X1.here hx rfl (pc0 := 4) (pc' := 39) rfl (hb hby d4_4) rfl (by decide) (by decide) (by decide) ?_
    show Steps p.tables e below (T1.setTop (mkF m 39 #[.val (.ref x1), .val (.ref x2)] [])) _
    refine XS.iconst X1.here hx rfl (hb hby d4_39) ?_
    show Steps p.tables e below (T1.setTop (mkF m 40 #[.val (.ref x1), .val (.ref x2)] [(.int (0 : Int32))])) _
    exact retN X1 hx (t := .boolean) Bd.returns (by simp) (hb hby d4_40) hr
  · exact ⟨rfl, N0, e1⟩
def Qrm0_4 (Z : State) (w_cache : Addr) (cl_cache : Cell) (p0 : Int32) (p1 : Int32) (p2 : Int32) (r1 : Int32) (j1 : Int32) (r2 : Int32) (j2 : Int32) (h0 : Heap) (n0 : Nat) (v : Option Value) (h : Heap) (L : List Loc) : Prop := v = some (.int (1 : Int32)) ∧ Fr n0 L ∧ Keep h0 h []
set_option maxRecDepth 65536 in
set_option maxHeartbeats 40000000 in
theorem rm0_4 (l : Launch) (Z : State) (a0 : Array Value) (hw : ∀ d ∈ tables_1, d.before a0 Z = true) (ws : List Jvm.Cond) (w_cache : Addr) (cl_cache : Cell) (p0 : Int32) (p1 : Int32) (p2 : Int32) (r1 : Int32) (j1 : Int32) (r2 : Int32) (j2 : Int32) (h0 : Heap) (n0 : Nat) (O0 : Old Z n0 h0) (P : Pins Z w_cache cl_cache) (hr1 : r1 = (if (p0 &&& (1 : Int32)) = (0 : Int32) then (0 : Int32) else (1 : Int32))) (hj1 : j1 = (if (p0 &&& (2 : Int32)) = (0 : Int32) then (0 : Int32) else (1 : Int32))) (hr2 : r2 = (if (p1 &&& (1 : Int32)) = (0 : Int32) then (0 : Int32) else (1 : Int32))) (hj2 : j2 = (if (p1 &&& (2 : Int32)) = (0 : Int32) then (0 : Int32) else (1 : Int32))) (k4 : (p2 &&& (3 : Int32)) = (2 : Int32)) (c0 : p2 < (-128 : Int32)) :
    MetFree l x (head1 (Jvm.Cond.code x code maxLocals ret :: ws) room_1) (fun a U => a = #[(.int p0), (.int p1), (.int p2)] ∧ Z.Warmed39 U.vm ∧ U.heap = h0) (fun _ _ _ _ _ => True) (fun _ U o U' => ∃ v L, o = .returned v ∧ Qrm0_4 Z w_cache cl_cache p0 p1 p2 r1 j1 r2 j2 h0 n0 v U'.heap L ∧ FrameEnd U o U' L room_1.cells room_1.slots) := by
  refine MetFree.of_bodySF (plainFor_of_name pn_com_example_demarc_demarc_DesignationEqualsPinLaw) hisR ?_
  intro p e s m args below meth c s₁ Bd hml0 hP hK
  obtain ⟨rfl, hZ, hh⟩ := hP
  have hx := Bd.exec
  have hby := Bd.bytes
  have hml : c.maxLocals = 11 := hml0
  have hown : s.vm.findClass "com/example/demarc/demarc/DesignationEqualsPinLaw" = some m.cls := findClass_of_methodNamed Bd.named
  have hnm := (name_of_methodNamed Bd.named Bd.method).1
  have X0 : Stand p l e room_1 s m #[(.int p0), (.int p1), (.int p2)] below meth c s₁ [] 0 0 := Stand.of_body Bd
  have e0 : s₁.heap = h0 := by rw [← hh, Bd.state]; rfl
  have N0 := Fr.nil n0
  have Z0 : n0 ≤ h0.size := O0.1 ▸ O0.2.1
  have pre0 : ∀ t, Steps p.tables e below (s₁.setTop (mkF m 0 #[.val (.int p0), .val (.int p1), .val (.int p2), .unset, .unset, .unset, .unset, .unset, .unset, .unset, .unset] [])) t → Steps p.tables e below (s₁.setTop (entryFrame m #[(.int p0), (.int p1), (.int p2)] maxLocals)) t := fun t k => castTop (ef_0_III m p0 p1 p2) k
  have Kr : Keep h0 h0 [] := Keep.refl h0 _
  have hb_r1 : r1 = (0 : Int32) ∨ r1 = (1 : Int32) := by rw [hr1]; (repeat' split) <;> simp
  have sg2 : ∀ t, Steps p.tables e below (s₁.setTop (mkF m 11 #[.val (.int p0), .val (.int p1), .val (.int p2), .unset, .unset, .unset, .unset, .unset, .unset, .unset, .unset] [(.int r1)])) t → Steps p.tables e below (s₁.setTop (mkF m 3 #[.val (.int p0), .val (.int p1), .val (.int p2), .unset, .unset, .unset, .unset, .unset, .unset, .unset, .unset] [(.int (p0 &&& (1 : Int32)))])) t := by
    intro t kt
    show Steps p.tables e below (s₁.setTop (mkF m 3 #[.val (.int p0), .val (.int p1), .val (.int p2), .unset, .unset, .unset, .unset, .unset, .unset, .unset, .unset] [(.int (p0 &&& (1 : Int32)))])) _
    by_cases q1 : (p0 &&& (1 : Int32)) = (0 : Int32)
    · refine XS.ifYes X0.here hx rfl (pc0 := 3) (pc' := 10) rfl (hb hby at_3) rfl ((if0 _ _).trans (teq q1).1) (by decide) (by decide) ?_
      show Steps p.tables e below (s₁.setTop (mkF m 10 #[.val (.int p0), .val (.int p1), .val (.int p2), .unset, .unset, .unset, .unset, .unset, .unset, .unset, .unset] [])) _
      refine XS.iconst X0.here hx rfl (hb hby at_10) ?_
      rw [show r1 = (0 : Int32) from hr1.trans (if_pos q1)] at kt
      exact kt
    · refine XS.ifNo X0.here hx rfl (hb hby at_3) rfl ((if0 _ _).trans (feq q1).1) ?_
      show Steps p.tables e below (s₁.setTop (mkF m 6 #[.val (.int p0), .val (.int p1), .val (.int p2), .unset, .unset, .unset, .unset, .unset, .unset, .unset, .unset] [])) _
      refine XS.iconst X0.here hx rfl (hb hby at_6) ?_
      show Steps p.tables e below (s₁.setTop (mkF m 7 #[.val (.int p0), .val (.int p1), .val (.int p2), .unset, .unset, .unset, .unset, .unset, .unset, .unset, .unset] [(.int (1 : Int32))])) _
      refine XS.goto X0.here hx rfl (pc0 := 7) (pc' := 11) rfl (hb hby at_7) (by decide) (by decide) ?_
      rw [show r1 = (1 : Int32) from hr1.trans (if_neg q1)] at kt
      exact kt
  have hb_j1 : j1 = (0 : Int32) ∨ j1 = (1 : Int32) := by rw [hj1]; (repeat' split) <;> simp
  have sg4 : ∀ t, Steps p.tables e below (s₁.setTop (mkF m 23 #[.val (.int p0), .val (.int p1), .val (.int p2), .val (.int r1), .unset, .unset, .unset, .unset, .unset, .unset, .unset] [(.int j1)])) t → Steps p.tables e below (s₁.setTop (mkF m 15 #[.val (.int p0), .val (.int p1), .val (.int p2), .val (.int r1), .unset, .unset, .unset, .unset, .unset, .unset, .unset] [(.int (p0 &&& (2 : Int32)))])) t := by
    intro t kt
    show Steps p.tables e below (s₁.setTop (mkF m 15 #[.val (.int p0), .val (.int p1), .val (.int p2), .val (.int r1), .unset, .unset, .unset, .unset, .unset, .unset, .unset] [(.int (p0 &&& (2 : Int32)))])) _
    by_cases q3 : (p0 &&& (2 : Int32)) = (0 : Int32)
    · refine XS.ifYes X0.here hx rfl (pc0 := 15) (pc' := 22) rfl (hb hby at_15) rfl ((if0 _ _).trans (teq q3).1) (by decide) (by decide) ?_
      show Steps p.tables e below (s₁.setTop (mkF m 22 #[.val (.int p0), .val (.int p1), .val (.int p2), .val (.int r1), .unset, .unset, .unset, .unset, .unset, .unset, .unset] [])) _
      refine XS.iconst X0.here hx rfl (hb hby at_22) ?_
      rw [show j1 = (0 : Int32) from hj1.trans (if_pos q3)] at kt
      exact kt
    · refine XS.ifNo X0.here hx rfl (hb hby at_15) rfl ((if0 _ _).trans (feq q3).1) ?_
      show Steps p.tables e below (s₁.setTop (mkF m 18 #[.val (.int p0), .val (.int p1), .val (.int p2), .val (.int r1), .unset, .unset, .unset, .unset, .unset, .unset, .unset] [])) _
      refine XS.iconst X0.here hx rfl (hb hby at_18) ?_
      show Steps p.tables e below (s₁.setTop (mkF m 19 #[.val (.int p0), .val (.int p1), .val (.int p2), .val (.int r1), .unset, .unset, .unset, .unset, .unset, .unset, .unset] [(.int (1 : Int32))])) _
      refine XS.goto X0.here hx rfl (pc0 := 19) (pc' := 23) rfl (hb hby at_19) (by decide) (by decide) ?_
      rw [show j1 = (1 : Int32) from hj1.trans (if_neg q3)] at kt
      exact kt
  have hb_r2 : r2 = (0 : Int32) ∨ r2 = (1 : Int32) := by rw [hr2]; (repeat' split) <;> simp
  have sg6 : ∀ t, Steps p.tables e below (s₁.setTop (mkF m 36 #[.val (.int p0), .val (.int p1), .val (.int p2), .val (.int r1), .val (.int j1), .unset, .unset, .unset, .unset, .unset, .unset] [(.int r2)])) t → Steps p.tables e below (s₁.setTop (mkF m 28 #[.val (.int p0), .val (.int p1), .val (.int p2), .val (.int r1), .val (.int j1), .unset, .unset, .unset, .unset, .unset, .unset] [(.int (p1 &&& (1 : Int32)))])) t := by
    intro t kt
    show Steps p.tables e below (s₁.setTop (mkF m 28 #[.val (.int p0), .val (.int p1), .val (.int p2), .val (.int r1), .val (.int j1), .unset, .unset, .unset, .unset, .unset, .unset] [(.int (p1 &&& (1 : Int32)))])) _
    by_cases q5 : (p1 &&& (1 : Int32)) = (0 : Int32)
    · refine XS.ifYes X0.here hx rfl (pc0 := 28) (pc' := 35) rfl (hb hby at_28) rfl ((if0 _ _).trans (teq q5).1) (by decide) (by decide) ?_
      show Steps p.tables e below (s₁.setTop (mkF m 35 #[.val (.int p0), .val (.int p1), .val (.int p2), .val (.int r1), .val (.int j1), .unset, .unset, .unset, .unset, .unset, .unset] [])) _
      refine XS.iconst X0.here hx rfl (hb hby at_35) ?_
      rw [show r2 = (0 : Int32) from hr2.trans (if_pos q5)] at kt
      exact kt
    · refine XS.ifNo X0.here hx rfl (hb hby at_28) rfl ((if0 _ _).trans (feq q5).1) ?_
      show Steps p.tables e below (s₁.setTop (mkF m 31 #[.val (.int p0), .val (.int p1), .val (.int p2), .val (.int r1), .val (.int j1), .unset, .unset, .unset, .unset, .unset, .unset] [])) _
      refine XS.iconst X0.here hx rfl (hb hby at_31) ?_
      show Steps p.tables e below (s₁.setTop (mkF m 32 #[.val (.int p0), .val (.int p1), .val (.int p2), .val (.int r1), .val (.int j1), .unset, .unset, .unset, .unset, .unset, .unset] [(.int (1 : Int32))])) _
      refine XS.goto X0.here hx rfl (pc0 := 32) (pc' := 36) rfl (hb hby at_32) (by decide) (by decide) ?_
      rw [show r2 = (1 : Int32) from hr2.trans (if_neg q5)] at kt
      exact kt
  have hb_j2 : j2 = (0 : Int32) ∨ j2 = (1 : Int32) := by rw [hj2]; (repeat' split) <;> simp
  have sg8 : ∀ t, Steps p.tables e below (s₁.setTop (mkF m 49 #[.val (.int p0), .val (.int p1), .val (.int p2), .val (.int r1), .val (.int j1), .val (.int r2), .unset, .unset, .unset, .unset, .unset] [(.int j2)])) t → Steps p.tables e below (s₁.setTop (mkF m 41 #[.val (.int p0), .val (.int p1), .val (.int p2), .val (.int r1), .val (.int j1), .val (.int r2), .unset, .unset, .unset, .unset, .unset] [(.int (p1 &&& (2 : Int32)))])) t := by
    intro t kt
    show Steps p.tables e below (s₁.setTop (mkF m 41 #[.val (.int p0), .val (.int p1), .val (.int p2), .val (.int r1), .val (.int j1), .val (.int r2), .unset, .unset, .unset, .unset, .unset] [(.int (p1 &&& (2 : Int32)))])) _
    by_cases q7 : (p1 &&& (2 : Int32)) = (0 : Int32)
    · refine XS.ifYes X0.here hx rfl (pc0 := 41) (pc' := 48) rfl (hb hby at_41) rfl ((if0 _ _).trans (teq q7).1) (by decide) (by decide) ?_
      show Steps p.tables e below (s₁.setTop (mkF m 48 #[.val (.int p0), .val (.int p1), .val (.int p2), .val (.int r1), .val (.int j1), .val (.int r2), .unset, .unset, .unset, .unset, .unset] [])) _
      refine XS.iconst X0.here hx rfl (hb hby at_48) ?_
      rw [show j2 = (0 : Int32) from hj2.trans (if_pos q7)] at kt
      exact kt
    · refine XS.ifNo X0.here hx rfl (hb hby at_41) rfl ((if0 _ _).trans (feq q7).1) ?_
      show Steps p.tables e below (s₁.setTop (mkF m 44 #[.val (.int p0), .val (.int p1), .val (.int p2), .val (.int r1), .val (.int j1), .val (.int r2), .unset, .unset, .unset, .unset, .unset] [])) _
      refine XS.iconst X0.here hx rfl (hb hby at_44) ?_
      show Steps p.tables e below (s₁.setTop (mkF m 45 #[.val (.int p0), .val (.int p1), .val (.int p2), .val (.int r1), .val (.int j1), .val (.int r2), .unset, .unset, .unset, .unset, .unset] [(.int (1 : Int32))])) _
      refine XS.goto X0.here hx rfl (pc0 := 45) (pc' := 49) rfl (hb hby at_45) (by decide) (by decide) ?_
      rw [show j2 = (1 : Int32) from hj2.trans (if_neg q7)] at kt
      exact kt
  obtain ⟨T9, h9, X9, e9, E9, A9, D9, -, st9⟩ := newO X0 hx hZ hown (hw _ (List.mem_of_getElem? (i := 0) rfl)) (hw _ (List.mem_of_getElem? (i := 1) rfl)) (hw _ (List.mem_of_getElem? (i := 2) rfl)) e0 (g := (mkF m 51 #[.val (.int p0), .val (.int p1), .val (.int p2), .val (.int r1), .val (.int j1), .val (.int r2), .val (.int j2), .unset, .unset, .unset, .unset] [])) rfl (hb hby at_51) (by decide) (by decide)
  obtain ⟨b9, g9⟩ : ∃ z, z = (h0).size := ⟨_, rfl⟩
  rw [← g9] at A9 D9 st9
  have Zs10 : n0 ≤ (h9).size := Nat.le_trans Z0 E9.1
  have Os10 : Old Z n0 (h9) := O0.ext E9
  have Ks10 : Keep h0 (h9) [] := Kr.ext E9
  have D9_rollback : Fld Z h9 b9 "com/example/demarc/demarc/ApplicationExceptions$Designation" "rollback" "Z" (.int (0 : Int32)) := D9 (Or.inr (hw _ (List.mem_of_getElem? (i := 10) rfl))) (ty := .boolean) (by decide)
  have D9_inherited : Fld Z h9 b9 "com/example/demarc/demarc/ApplicationExceptions$Designation" "inherited" "Z" (.int (0 : Int32)) := D9 (Or.inr (hw _ (List.mem_of_getElem? (i := 12) rfl))) (ty := .boolean) (by decide)
  obtain ⟨_, _, ⟨T11, L11, k11, n11⟩, -, X11, ⟨Lc11, hQ11, l11, y11, z11⟩, st11⟩ := X9.specialBack hx (y := (⟨"com/example/demarc/demarc/ApplicationExceptions$Designation", "<init>", "(ZZ)V"⟩ : MethodName)) rfl hown (mvT hZ (hw _ (List.mem_of_getElem? (i := 3) rfl))) (mvT hZ (hw _ (List.mem_of_getElem? (i := 4) rfl))) (mvT hZ (hw _ (List.mem_of_getElem? (i := 5) rfl))) (by decide) (backOf (W := 1) (rm1_1 l Z a0 hw [] w_cache cl_cache b9 r1 j1 h9 n0 Os10 P A9 D9_rollback hb_r1 (Nat.le_trans Z0 (Nat.le_of_eq g9.symm)) D9_inherited hb_j1) hZ (hw _ (List.mem_of_getElem? (i := 5) rfl)) (hw _ (List.mem_of_getElem? (i := 2) rfl)) (by decide) (by decide)) (g := (mkF m 58 #[.val (.int p0), .val (.int p1), .val (.int p2), .val (.int r1), .val (.int j1), .val (.int r2), .val (.int j2), .unset, .unset, .unset, .unset] [(.int j1), (.int r1), (.ref b9), (.ref b9)])) rfl (by rw [hml]; rfl) (Steps.refl _) (a := b9) (argsL := [(.int r1), (.int j1)]) (rest := [(.ref b9)]) (lenOf pd_0 rfl) rfl (by show 2 * 0 + _ ≤ _; exact Nat.le_of_eq rfl) (hb hby at_58) (fun _ _ => ⟨rfl, e9, (by decide : 1 + 0 ≤ _), (by decide : 2 + 0 ≤ _)⟩)
  dsimp only [Pt.U, Pt.locs, Pt.cells, Pt.slots] at X11 l11 y11 z11 st11 hQ11
  subst l11 y11 z11
  obtain ⟨rfl, N11q, K11, q11_0, q11_1⟩ := hQ11
  have N11 := Fr.app N0 N11q
  have Ks12 : Keep h0 (T11.heap) [] := Ks10.trans K11 (allS (Or.inr (Nat.le_trans Kr.1 (Nat.le_of_eq g9.symm))) all0)
  have Zs12 : n0 ≤ (T11.heap).size := Nat.le_trans Zs10 K11.1
  have Os12 : Old Z n0 (T11.heap) := Os10.keep K11 (allS (Nat.le_trans Z0 (Nat.le_of_eq g9.symm)) all0)
  obtain ⟨T13, h13, X13, e13, E13, A13, D13, -, st13⟩ := newO X11 hx hZ hown (hw _ (List.mem_of_getElem? (i := 0) rfl)) (hw _ (List.mem_of_getElem? (i := 1) rfl)) (hw _ (List.mem_of_getElem? (i := 2) rfl)) rfl (g := (mkF m 63 #[.val (.int p0), .val (.int p1), .val (.int p2), .val (.int r1), .val (.int j1), .val (.int r2), .val (.int j2), .val (.ref b9), .unset, .unset, .unset] [])) rfl (hb hby at_63) (by decide) (by decide)
  obtain ⟨b13, g13⟩ : ∃ z, z = (T11.heap).size := ⟨_, rfl⟩
  rw [← g13] at A13 D13 st13
  have Zs14 : n0 ≤ (h13).size := Nat.le_trans Zs12 E13.1
  have Os14 : Old Z n0 (h13) := Os12.ext E13
  have Ks14 : Keep h0 (h13) [] := Ks12.ext E13
  have D13_rollback : Fld Z h13 b13 "com/example/demarc/demarc/ApplicationExceptions$Designation" "rollback" "Z" (.int (0 : Int32)) := D13 (Or.inr (hw _ (List.mem_of_getElem? (i := 10) rfl))) (ty := .boolean) (by decide)
  have D13_inherited : Fld Z h13 b13 "com/example/demarc/demarc/ApplicationExceptions$Designation" "inherited" "Z" (.int (0 : Int32)) := D13 (Or.inr (hw _ (List.mem_of_getElem? (i := 12) rfl))) (ty := .boolean) (by decide)
  obtain ⟨_, _, ⟨T15, L15, k15, n15⟩, -, X15, ⟨Lc15, hQ15, l15, y15, z15⟩, st15⟩ := X13.specialBack hx (y := (⟨"com/example/demarc/demarc/ApplicationExceptions$Designation", "<init>", "(ZZ)V"⟩ : MethodName)) rfl hown (mvT hZ (hw _ (List.mem_of_getElem? (i := 3) rfl))) (mvT hZ (hw _ (List.mem_of_getElem? (i := 4) rfl))) (mvT hZ (hw _ (List.mem_of_getElem? (i := 5) rfl))) (by decide) (backOf (W := 1) (rm1_1 l Z a0 hw [] w_cache cl_cache b13 r2 j2 h13 n0 Os14 P A13 D13_rollback hb_r2 (Nat.le_trans Zs12 (Nat.le_of_eq g13.symm)) D13_inherited hb_j2) hZ (hw _ (List.mem_of_getElem? (i := 5) rfl)) (hw _ (List.mem_of_getElem? (i := 2) rfl)) (by decide) (by decide)) (g := (mkF m 71 #[.val (.int p0), .val (.int p1), .val (.int p2), .val (.int r1), .val (.int j1), .val (.int r2), .val (.int j2), .val (.ref b9), .unset, .unset, .unset] [(.int j2), (.int r2), (.ref b13), (.ref b13)])) rfl (by rw [hml]; rfl) (Steps.refl _) (a := b13) (argsL := [(.int r2), (.int j2)]) (rest := [(.ref b13)]) (lenOf pd_0 rfl) rfl (by show 2 * 0 + _ ≤ _; exact Nat.le_of_eq rfl) (hb hby at_71) (fun _ _ => ⟨rfl, e13, (by decide : 2 + 0 ≤ _), (by decide : 4 + 0 ≤ _)⟩)
  dsimp only [Pt.U, Pt.locs, Pt.cells, Pt.slots] at X15 l15 y15 z15 st15 hQ15
  subst l15 y15 z15
  obtain ⟨rfl, N15q, K15, q15_0, q15_1⟩ := hQ15
  have N15 := Fr.app N11 N15q
  have Ks16 : Keep h0 (T15.heap) [] := Ks14.trans K15 (allS (Or.inr (Nat.le_trans Ks12.1 (Nat.le_of_eq g13.symm))) all0)
  have Zs16 : n0 ≤ (T15.heap).size := Nat.le_trans Zs14 K15.1
  have Os16 : Old Z n0 (T15.heap) := Os14.keep K15 (allS (Nat.le_trans Zs12 (Nat.le_of_eq g13.symm)) all0)
  obtain ⟨_, _, ⟨T17, L17, k17, n17⟩, -, X17, ⟨Lc17, hQ17, l17, y17, z17⟩, st17⟩ := Jvm.LawKit.callS X15 hx (y := (⟨"java/lang/Integer", "valueOf", "(I)Ljava/lang/Integer;"⟩ : MethodName)) hown (mvT hZ (hw _ (List.mem_of_getElem? (i := 13) rfl))) (mvT hZ (hw _ (List.mem_of_getElem? (i := 14) rfl))) (mvT hZ (hw _ (List.mem_of_getElem? (i := 15) rfl))) (mvT hZ (hw _ (List.mem_of_getElem? (i := 16) rfl))) (by decide) (backOf (W := 0) (rm3_15 l Z a0 hw [] w_cache cl_cache p2 T15.heap n0 Os16 P c0) hZ (hw _ (List.mem_of_getElem? (i := 16) rfl)) (hw _ (List.mem_of_getElem? (i := 15) rfl)) (by decide) (by decide)) (g := (mkF m 168 #[.val (.int p0), .val (.int p1), .val (.int p2), .val (.int r1), .val (.int j1), .val (.int r2), .val (.int j2), .val (.ref b9), .val (.ref b13), .val (.int (2 : Int32)), .unset] [(.int p2)])) rfl (by rw [hml]; rfl) (argsL := [(.int p2)]) (rest := []) (lenOf pd_4 rfl) rfl (by show 2 * 0 + _ ≤ _; exact Nat.le_of_eq rfl) (hb hby at_168) (fun _ _ => ⟨rfl, rfl, (by decide : 2 + 1 ≤ _), (by decide : 4 + 1 ≤ _)⟩)
  dsimp only [Pt.U, Pt.locs, Pt.cells, Pt.slots] at X17 l17 y17 z17 st17 hQ17
  subst l17 y17 z17
  obtain ⟨b17_0, rfl, N17q, K17, l17_0, q17_0, q17_1⟩ := hQ17
  have N17 := Fr.app N15 N17q
  have Ks18 : Keep h0 (T17.heap) [] := Ks16.trans K17 all0
  have Zs18 : n0 ≤ (T17.heap).size := Nat.le_trans Zs16 K17.1
  have Os18 : Old Z n0 (T17.heap) := Os16.keep K17 all0
  have f19 := ((((A9.keep K11).ext E13).keep K15).keep K17)
  obtain ⟨cq20, kq20, q20a, q20b, q20c⟩ := isOf hZ rfl f19
  obtain ⟨_, _, ⟨T20, L20, k20, n20⟩, -, X20, ⟨Lc20, hQ20, l20, y20, z20⟩, st20⟩ := X17.virtualBack hx (y := (⟨"com/example/demarc/demarc/ApplicationExceptions$Designation", "equals", "(Ljava/lang/Object;)Z"⟩ : MethodName)) (z := (⟨"com/example/demarc/demarc/ApplicationExceptions$Designation", "equals", "(Ljava/lang/Object;)Z"⟩ : MethodName)) hown (mvT hZ (hw _ (List.mem_of_getElem? (i := 20) rfl))) (mvT hZ (hw _ (List.mem_of_getElem? (i := 21) rfl))) (notFace_of_selects (args := #[]) (mvT hZ (hw _ (List.mem_of_getElem? (i := 23) rfl)))) (mvT hZ (hw _ (List.mem_of_getElem? (i := 23) rfl))) (mvT hZ (hw _ (List.mem_of_getElem? (i := 22) rfl))) (by decide) (backOf (W := 0) (rm4_16 l Z a0 hw [] w_cache cl_cache b9 b17_0 T17.heap n0 Os18 P q17_0) hZ (hw _ (List.mem_of_getElem? (i := 24) rfl)) (hw _ (List.mem_of_getElem? (i := 2) rfl)) (by decide) (by decide)) q20a q20c (g := (mkF m 177 #[.val (.int p0), .val (.int p1), .val (.int p2), .val (.int r1), .val (.int j1), .val (.int r2), .val (.int j2), .val (.ref b9), .val (.ref b13), .val (.int (2 : Int32)), .val (.ref b17_0)] [(.ref b17_0), (.ref b9)])) rfl (by rw [hml]; rfl) (Steps.refl _) (argsL := [(.ref b17_0)]) (rest := []) (lenOf pd_1 rfl) rfl (by show 2 * 0 + _ ≤ _; exact Nat.le_of_eq rfl) (hb hby at_177) (fun _ _ => ⟨rfl, rfl, (by decide : 3 + 0 ≤ _), (by decide : 5 + 0 ≤ _)⟩)
  dsimp only [Pt.U, Pt.locs, Pt.cells, Pt.slots] at X20 l20 y20 z20 st20 hQ20
  subst l20 y20 z20
  obtain ⟨rfl, N20q, e20⟩ := hQ20
  have N20 := Fr.app N17 N20q
  obtain ⟨fs, hr, hrun, hended, hW, hsame⟩ := X20.leave (v := some (.int (1 : Int32))) (fun h => by rw [Bd.returns] at h; cases h)
  refine ⟨_, _, pre0 _ ?_, hrun, hended, _, _, rfl, ?_, ⟨_, rfl⟩, hW, hsame.mono (by decide) (by decide)⟩
  · show Steps p.tables e below (s₁.setTop (mkF m 0 #[.val (.int p0), .val (.int p1), .val (.int p2), .unset, .unset, .unset, .unset, .unset, .unset, .unset, .unset] [])) _
    refine XS.iloadN X0.here hx rfl (hb hby at_0) rfl ?_
    show Steps p.tables e below (s₁.setTop (mkF m 1 #[.val (.int p0), .val (.int p1), .val (.int p2), .unset, .unset, .unset, .unset, .unset, .unset, .unset, .unset] [(.int p0)])) _
    refine XS.iconst X0.here hx rfl (hb hby at_1) ?_
    show Steps p.tables e below (s₁.setTop (mkF m 2 #[.val (.int p0), .val (.int p1), .val (.int p2), .unset, .unset, .unset, .unset, .unset, .unset, .unset, .unset] [(.int (1 : Int32)), (.int p0)])) _
    refine XS.iand X0.here hx rfl (hb hby at_2) rfl ?_
    refine sg2 _ ?_
    show Steps p.tables e below (s₁.setTop (mkF m 11 #[.val (.int p0), .val (.int p1), .val (.int p2), .unset, .unset, .unset, .unset, .unset, .unset, .unset, .unset] [(.int r1)])) _
    refine XS.istoreN X0.here hx rfl (hb hby at_11) rfl (l' := #[.val (.int p0), .val (.int p1), .val (.int p2), .val (.int r1), .unset, .unset, .unset, .unset, .unset, .unset, .unset]) rfl ?_
    show Steps p.tables e below (s₁.setTop (mkF m 12 #[.val (.int p0), .val (.int p1), .val (.int p2), .val (.int r1), .unset, .unset, .unset, .unset, .unset, .unset, .unset] [])) _
    refine XS.iloadN X0.here hx rfl (hb hby at_12) rfl ?_
    show Steps p.tables e below (s₁.setTop (mkF m 13 #[.val (.int p0), .val (.int p1), .val (.int p2), .val (.int r1), .unset, .unset, .unset, .unset, .unset, .unset, .unset] [(.int p0)])) _
    refine XS.iconst X0.here hx rfl (hb hby at_13) ?_
    show Steps p.tables e below (s₁.setTop (mkF m 14 #[.val (.int p0), .val (.int p1), .val (.int p2), .val (.int r1), .unset, .unset, .unset, .unset, .unset, .unset, .unset] [(.int (2 : Int32)), (.int p0)])) _
    refine XS.iand X0.here hx rfl (hb hby at_14) rfl ?_
    refine sg4 _ ?_
    show Steps p.tables e below (s₁.setTop (mkF m 23 #[.val (.int p0), .val (.int p1), .val (.int p2), .val (.int r1), .unset, .unset, .unset, .unset, .unset, .unset, .unset] [(.int j1)])) _
    refine XS.istore X0.here hx rfl (hb hby at_23) rfl (l' := #[.val (.int p0), .val (.int p1), .val (.int p2), .val (.int r1), .val (.int j1), .unset, .unset, .unset, .unset, .unset, .unset]) rfl ?_
    show Steps p.tables e below (s₁.setTop (mkF m 25 #[.val (.int p0), .val (.int p1), .val (.int p2), .val (.int r1), .val (.int j1), .unset, .unset, .unset, .unset, .unset, .unset] [])) _
    refine XS.iloadN X0.here hx rfl (hb hby at_25) rfl ?_
    show Steps p.tables e below (s₁.setTop (mkF m 26 #[.val (.int p0), .val (.int p1), .val (.int p2), .val (.int r1), .val (.int j1), .unset, .unset, .unset, .unset, .unset, .unset] [(.int p1)])) _
    refine XS.iconst X0.here hx rfl (hb hby at_26) ?_
    show Steps p.tables e below (s₁.setTop (mkF m 27 #[.val (.int p0), .val (.int p1), .val (.int p2), .val (.int r1), .val (.int j1), .unset, .unset, .unset, .unset, .unset, .unset] [(.int (1 : Int32)), (.int p1)])) _
    refine XS.iand X0.here hx rfl (hb hby at_27) rfl ?_
    refine sg6 _ ?_
    show Steps p.tables e below (s₁.setTop (mkF m 36 #[.val (.int p0), .val (.int p1), .val (.int p2), .val (.int r1), .val (.int j1), .unset, .unset, .unset, .unset, .unset, .unset] [(.int r2)])) _
    refine XS.istore X0.here hx rfl (hb hby at_36) rfl (l' := #[.val (.int p0), .val (.int p1), .val (.int p2), .val (.int r1), .val (.int j1), .val (.int r2), .unset, .unset, .unset, .unset, .unset]) rfl ?_
    show Steps p.tables e below (s₁.setTop (mkF m 38 #[.val (.int p0), .val (.int p1), .val (.int p2), .val (.int r1), .val (.int j1), .val (.int r2), .unset, .unset, .unset, .unset, .unset] [])) _
    refine XS.iloadN X0.here hx rfl (hb hby at_38) rfl ?_
    show Steps p.tables e below (s₁.setTop (mkF m 39 #[.val (.int p0), .val (.int p1), .val (.int p2), .val (.int r1), .val (.int j1), .val (.int r2), .unset, .unset, .unset, .unset, .unset] [(.int p1)])) _
    refine XS.iconst X0.here hx rfl (hb hby at_39) ?_
    show Steps p.tables e below (s₁.setTop (mkF m 40 #[.val (.int p0), .val (.int p1), .val (.int p2), .val (.int r1), .val (.int j1), .val (.int r2), .unset, .unset, .unset, .unset, .unset] [(.int (2 : Int32)), (.int p1)])) _
    refine XS.iand X0.here hx rfl (hb hby at_40) rfl ?_
    refine sg8 _ ?_
    show Steps p.tables e below (s₁.setTop (mkF m 49 #[.val (.int p0), .val (.int p1), .val (.int p2), .val (.int r1), .val (.int j1), .val (.int r2), .unset, .unset, .unset, .unset, .unset] [(.int j2)])) _
    refine XS.istore X0.here hx rfl (hb hby at_49) rfl (l' := #[.val (.int p0), .val (.int p1), .val (.int p2), .val (.int r1), .val (.int j1), .val (.int r2), .val (.int j2), .unset, .unset, .unset, .unset]) rfl ?_
    show Steps p.tables e below (s₁.setTop (mkF m 51 #[.val (.int p0), .val (.int p1), .val (.int p2), .val (.int r1), .val (.int j1), .val (.int r2), .val (.int j2), .unset, .unset, .unset, .unset] [])) _
    refine st9 _ ?_
    show Steps p.tables e below (T9.setTop (mkF m 54 #[.val (.int p0), .val (.int p1), .val (.int p2), .val (.int r1), .val (.int j1), .val (.int r2), .val (.int j2), .unset, .unset, .unset, .unset] [(.ref b9)])) _
    refine XS.dup X9.here hx rfl (hb hby at_54) rfl rfl ?_
    show Steps p.tables e below (T9.setTop (mkF m 55 #[.val (.int p0), .val (.int p1), .val (.int p2), .val (.int r1), .val (.int j1), .val (.int r2), .val (.int j2), .unset, .unset, .unset, .unset] [(.ref b9), (.ref b9)])) _
    refine XS.iloadN X9.here hx rfl (hb hby at_55) rfl ?_
    show Steps p.tables e below (T9.setTop (mkF m 56 #[.val (.int p0), .val (.int p1), .val (.int p2), .val (.int r1), .val (.int j1), .val (.int r2), .val (.int j2), .unset, .unset, .unset, .unset] [(.int r1), (.ref b9), (.ref b9)])) _
    refine XS.iload X9.here hx rfl (hb hby at_56) rfl ?_
    show Steps p.tables e below (T9.setTop (mkF m 58 #[.val (.int p0), .val (.int p1), .val (.int p2), .val (.int r1), .val (.int j1), .val (.int r2), .val (.int j2), .unset, .unset, .unset, .unset] [(.int j1), (.int r1), (.ref b9), (.ref b9)])) _
    refine st11.trans ?_
    show Steps p.tables e below (T11.setTop (mkF m 61 #[.val (.int p0), .val (.int p1), .val (.int p2), .val (.int r1), .val (.int j1), .val (.int r2), .val (.int j2), .unset, .unset, .unset, .unset] [(.ref b9)])) _
    refine XS.astore X11.here hx rfl (hb hby at_61) rfl rfl (l' := #[.val (.int p0), .val (.int p1), .val (.int p2), .val (.int r1), .val (.int j1), .val (.int r2), .val (.int j2), .val (.ref b9), .unset, .unset, .unset]) rfl ?_
    show Steps p.tables e below (T11.setTop (mkF m 63 #[.val (.int p0), .val (.int p1), .val (.int p2), .val (.int r1), .val (.int j1), .val (.int r2), .val (.int j2), .val (.ref b9), .unset, .unset, .unset] [])) _
    refine st13 _ ?_
    show Steps p.tables e below (T13.setTop (mkF m 66 #[.val (.int p0), .val (.int p1), .val (.int p2), .val (.int r1), .val (.int j1), .val (.int r2), .val (.int j2), .val (.ref b9), .unset, .unset, .unset] [(.ref b13)])) _
    refine XS.dup X13.here hx rfl (hb hby at_66) rfl rfl ?_
    show Steps p.tables e below (T13.setTop (mkF m 67 #[.val (.int p0), .val (.int p1), .val (.int p2), .val (.int r1), .val (.int j1), .val (.int r2), .val (.int j2), .val (.ref b9), .unset, .unset, .unset] [(.ref b13), (.ref b13)])) _
    refine XS.iload X13.here hx rfl (hb hby at_67) rfl ?_
    show Steps p.tables e below (T13.setTop (mkF m 69 #[.val (.int p0), .val (.int p1), .val (.int p2), .val (.int r1), .val (.int j1), .val (.int r2), .val (.int j2), .val (.ref b9), .unset, .unset, .unset] [(.int r2), (.ref b13), (.ref b13)])) _
    refine XS.iload X13.here hx rfl (hb hby at_69) rfl ?_
    show Steps p.tables e below (T13.setTop (mkF m 71 #[.val (.int p0), .val (.int p1), .val (.int p2), .val (.int r1), .val (.int j1), .val (.int r2), .val (.int j2), .val (.ref b9), .unset, .unset, .unset] [(.int j2), (.int r2), (.ref b13), (.ref b13)])) _
    refine st15.trans ?_
    show Steps p.tables e below (T15.setTop (mkF m 74 #[.val (.int p0), .val (.int p1), .val (.int p2), .val (.int r1), .val (.int j1), .val (.int r2), .val (.int j2), .val (.ref b9), .unset, .unset, .unset] [(.ref b13)])) _
    refine XS.astore X15.here hx rfl (hb hby at_74) rfl rfl (l' := #[.val (.int p0), .val (.int p1), .val (.int p2), .val (.int r1), .val (.int j1), .val (.int r2), .val (.int j2), .val (.ref b9), .val (.ref b13), .unset, .unset]) rfl ?_
    show Steps p.tables e below (T15.setTop (mkF m 76 #[.val (.int p0), .val (.int p1), .val (.int p2), .val (.int r1), .val (.int j1), .val (.int r2), .val (.int j2), .val (.ref b9), .val (.ref b13), .unset, .unset] [])) _
    refine XS.iloadN X15.here hx rfl (hb hby at_76) rfl ?_
    show Steps p.tables e below (T15.setTop (mkF m 77 #[.val (.int p0), .val (.int p1), .val (.int p2), .val (.int r1), .val (.int j1), .val (.int r2), .val (.int j2), .val (.ref b9), .val (.ref b13), .unset, .unset] [(.int p2)])) _
    refine XS.iconst X15.here hx rfl (hb hby at_77) ?_
    show Steps p.tables e below (T15.setTop (mkF m 78 #[.val (.int p0), .val (.int p1), .val (.int p2), .val (.int r1), .val (.int j1), .val (.int r2), .val (.int j2), .val (.ref b9), .val (.ref b13), .unset, .unset] [(.int (3 : Int32)), (.int p2)])) _
    refine XS.iand X15.here hx rfl (hb hby at_78) rfl ?_
    show Steps p.tables e below (T15.setTop (mkF m 79 #[.val (.int p0), .val (.int p1), .val (.int p2), .val (.int r1), .val (.int j1), .val (.int r2), .val (.int j2), .val (.ref b9), .val (.ref b13), .unset, .unset] [(.int (p2 &&& (3 : Int32)))])) _
    rw [k4]
    show Steps p.tables e below (T15.setTop (mkF m 79 #[.val (.int p0), .val (.int p1), .val (.int p2), .val (.int r1), .val (.int j1), .val (.int r2), .val (.int j2), .val (.ref b9), .val (.ref b13), .unset, .unset] [(.int (2 : Int32))])) _
    refine XS.istore X15.here hx rfl (hb hby at_79) rfl (l' := #[.val (.int p0), .val (.int p1), .val (.int p2), .val (.int r1), .val (.int j1), .val (.int r2), .val (.int j2), .val (.ref b9), .val (.ref b13), .val (.int (2 : Int32)), .unset]) rfl ?_
    show Steps p.tables e below (T15.setTop (mkF m 81 #[.val (.int p0), .val (.int p1), .val (.int p2), .val (.int r1), .val (.int j1), .val (.int r2), .val (.int j2), .val (.ref b9), .val (.ref b13), .val (.int (2 : Int32)), .unset] [])) _
    refine XS.iload X15.here hx rfl (hb hby at_81) rfl ?_
    show Steps p.tables e below (T15.setTop (mkF m 83 #[.val (.int p0), .val (.int p1), .val (.int p2), .val (.int r1), .val (.int j1), .val (.int r2), .val (.int j2), .val (.ref b9), .val (.ref b13), .val (.int (2 : Int32)), .unset] [(.int (2 : Int32))])) _
    refine XS.ifYes X15.here hx rfl (pc0 := 83) (pc' := 136) rfl (hb hby at_83) rfl (by decide) (by decide) (by decide) ?_
    show Steps p.tables e below (T15.setTop (mkF m 136 #[.val (.int p0), .val (.int p1), .val (.int p2), .val (.int r1), .val (.int j1), .val (.int r2), .val (.int j2), .val (.ref b9), .val (.ref b13), .val (.int (2 : Int32)), .unset] [])) _
    refine XS.iload X15.here hx rfl (hb hby at_136) rfl ?_
    show Steps p.tables e below (T15.setTop (mkF m 138 #[.val (.int p0), .val (.int p1), .val (.int p2), .val (.int r1), .val (.int j1), .val (.int r2), .val (.int j2), .val (.ref b9), .val (.ref b13), .val (.int (2 : Int32)), .unset] [(.int (2 : Int32))])) _
    refine XS.iconst X15.here hx rfl (hb hby at_138) ?_
    show Steps p.tables e below (T15.setTop (mkF m 139 #[.val (.int p0), .val (.int p1), .val (.int p2), .val (.int r1), .val (.int j1), .val (.int r2), .val (.int j2), .val (.ref b9), .val (.ref b13), .val (.int (2 : Int32)), .unset] [(.int (1 : Int32)), (.int (2 : Int32))])) _
    refine XS.icmpYes X15.here hx rfl (pc0 := 139) (pc' := 161) rfl (hb hby at_139) rfl (by decide) (by decide) (by decide) ?_
    show Steps p.tables e below (T15.setTop (mkF m 161 #[.val (.int p0), .val (.int p1), .val (.int p2), .val (.int r1), .val (.int j1), .val (.int r2), .val (.int j2), .val (.ref b9), .val (.ref b13), .val (.int (2 : Int32)), .unset] [])) _
    refine XS.iload X15.here hx rfl (hb hby at_161) rfl ?_
    show Steps p.tables e below (T15.setTop (mkF m 163 #[.val (.int p0), .val (.int p1), .val (.int p2), .val (.int r1), .val (.int j1), .val (.int r2), .val (.int j2), .val (.ref b9), .val (.ref b13), .val (.int (2 : Int32)), .unset] [(.int (2 : Int32))])) _
    refine XS.iconst X15.here hx rfl (hb hby at_163) ?_
    show Steps p.tables e below (T15.setTop (mkF m 164 #[.val (.int p0), .val (.int p1), .val (.int p2), .val (.int r1), .val (.int j1), .val (.int r2), .val (.int j2), .val (.ref b9), .val (.ref b13), .val (.int (2 : Int32)), .unset] [(.int (2 : Int32)), (.int (2 : Int32))])) _
    refine XS.icmpNo X15.here hx rfl (hb hby at_164) rfl (by decide) ?_
    show Steps p.tables e below (T15.setTop (mkF m 167 #[.val (.int p0), .val (.int p1), .val (.int p2), .val (.int r1), .val (.int j1), .val (.int r2), .val (.int j2), .val (.ref b9), .val (.ref b13), .val (.int (2 : Int32)), .unset] [])) _
    refine XS.iloadN X15.here hx rfl (hb hby at_167) rfl ?_
    show Steps p.tables e below (T15.setTop (mkF m 168 #[.val (.int p0), .val (.int p1), .val (.int p2), .val (.int r1), .val (.int j1), .val (.int r2), .val (.int j2), .val (.ref b9), .val (.ref b13), .val (.int (2 : Int32)), .unset] [(.int p2)])) _
    refine st17 _ ?_
    show Steps p.tables e below (T17.setTop (mkF m 171 #[.val (.int p0), .val (.int p1), .val (.int p2), .val (.int r1), .val (.int j1), .val (.int r2), .val (.int j2), .val (.ref b9), .val (.ref b13), .val (.int (2 : Int32)), .unset] [(.ref b17_0)])) _
    refine XS.astore X17.here hx rfl (hb hby at_171) rfl rfl (l' := #[.val (.int p0), .val (.int p1), .val (.int p2), .val (.int r1), .val (.int j1), .val (.int r2), .val (.int j2), .val (.ref b9), .val (.ref b13), .val (.int (2 : Int32)), .val (.ref b17_0)]) rfl ?_
    show Steps p.tables e below (T17.setTop (mkF m 173 #[.val (.int p0), .val (.int p1), .val (.int p2), .val (.int r1), .val (.int j1), .val (.int r2), .val (.int j2), .val (.ref b9), .val (.ref b13), .val (.int (2 : Int32)), .val (.ref b17_0)] [])) _
    refine XS.aload X17.here hx rfl (hb hby at_173) rfl rfl ?_
    show Steps p.tables e below (T17.setTop (mkF m 175 #[.val (.int p0), .val (.int p1), .val (.int p2), .val (.int r1), .val (.int j1), .val (.int r2), .val (.int j2), .val (.ref b9), .val (.ref b13), .val (.int (2 : Int32)), .val (.ref b17_0)] [(.ref b9)])) _
    refine XS.aload X17.here hx rfl (hb hby at_175) rfl rfl ?_
    show Steps p.tables e below (T17.setTop (mkF m 177 #[.val (.int p0), .val (.int p1), .val (.int p2), .val (.int r1), .val (.int j1), .val (.int r2), .val (.int j2), .val (.ref b9), .val (.ref b13), .val (.int (2 : Int32)), .val (.ref b17_0)] [(.ref b17_0), (.ref b9)])) _
    refine st20.trans ?_
    show Steps p.tables e below (T20.setTop (mkF m 180 #[.val (.int p0), .val (.int p1), .val (.int p2), .val (.int r1), .val (.int j1), .val (.int r2), .val (.int j2), .val (.ref b9), .val (.ref b13), .val (.int (2 : Int32)), .val (.ref b17_0)] [(.int (0 : Int32))])) _
    refine XS.ifNo X20.here hx rfl (hb hby at_180) rfl (by decide) ?_
    show Steps p.tables e below (T20.setTop (mkF m 183 #[.val (.int p0), .val (.int p1), .val (.int p2), .val (.int r1), .val (.int j1), .val (.int r2), .val (.int j2), .val (.ref b9), .val (.ref b13), .val (.int (2 : Int32)), .val (.ref b17_0)] [])) _
    refine XS.iconst X20.here hx rfl (hb hby at_183) ?_
    show Steps p.tables e below (T20.setTop (mkF m 184 #[.val (.int p0), .val (.int p1), .val (.int p2), .val (.int r1), .val (.int j1), .val (.int r2), .val (.int j2), .val (.ref b9), .val (.ref b13), .val (.int (2 : Int32)), .val (.ref b17_0)] [(.int (1 : Int32))])) _
    refine XS.goto X20.here hx rfl (pc0 := 184) (pc' := 188) rfl (hb hby at_184) (by decide) (by decide) ?_
    show Steps p.tables e below (T20.setTop (mkF m 188 #[.val (.int p0), .val (.int p1), .val (.int p2), .val (.int r1), .val (.int j1), .val (.int r2), .val (.int j2), .val (.ref b9), .val (.ref b13), .val (.int (2 : Int32)), .val (.ref b17_0)] [(.int (1 : Int32))])) _
    exact retN X20 hx (t := .boolean) Bd.returns (by simp) (hb hby at_188) hr
  · show Qrm0_4 Z w_cache cl_cache p0 p1 p2 r1 j1 r2 j2 h0 n0 _ T20.heap _
    rw [e20]
    exact ⟨rfl, N20, Ks18⟩
theorem d3_6 : decode jdk_33_method_22_code 6 = .ok (.iload_n 0, 1) := by decide +kernel
theorem d3_7 : decode jdk_33_method_22_code 7 = .ok (.getstatic 191, 3) := by decide +kernel
theorem d3_10 : decode jdk_33_method_22_code 10 = .ok (.if_icmp .gt 13, 3) := by decide +kernel
def Qrm3_18 (Z : State) (w_cache : Addr) (cl_cache : Cell) (i1 : Int32) (h0 : Heap) (n0 : Nat) (v : Option Value) (h : Heap) (L : List Loc) : Prop := ∃ y1 : Addr, v = some (.ref y1) ∧ Fr n0 L ∧ Keep h0 h [] ∧ h0.size ≤ y1 ∧ Exa Z h y1 "java/lang/Integer" ∧ Fld Z h y1 "java/lang/Integer" "value" "I" (.int i1)
set_option maxRecDepth 65536 in
set_option maxHeartbeats 40000000 in
theorem rm3_18 (l : Launch) (Z : State) (a0 : Array Value) (hw : ∀ d ∈ tables_1, d.before a0 Z = true) (ws : List Jvm.Cond) (w_cache : Addr) (cl_cache : Cell) (i1 : Int32) (h0 : Heap) (n0 : Nat) (O0 : Old Z n0 h0) (P : Pins Z w_cache cl_cache) (hc0 : ¬ (i1 < (-128 : Int32))) (hc1 : (127 : Int32) < i1) :
    MetFree l (⟨"java/lang/Integer", "valueOf", "(I)Ljava/lang/Integer;"⟩ : MethodName) (head1 (Jvm.Cond.code (⟨"java/lang/Integer", "valueOf", "(I)Ljava/lang/Integer;"⟩ : MethodName) jdk_33_method_22_code 1 (some (.object "java/lang/Integer")) :: ws) ({ frames := 3, cells := 1, slots := 1, locals := 38 } : Room)) (fun a U => a = #[(.int i1)] ∧ Z.Warmed39 U.vm ∧ U.heap = h0) (fun _ _ _ _ _ => True) (fun _ U o U' => ∃ v L, o = .returned v ∧ Qrm3_18 Z w_cache cl_cache i1 h0 n0 v U'.heap L ∧ FrameEnd U o U' L ({ frames := 3, cells := 1, slots := 1, locals := 38 } : Room).cells ({ frames := 3, cells := 1, slots := 1, locals := 38 } : Room).slots) := by
  refine MetFree.of_bodySF (plainFor_of_name pn_java_lang_Integer) hisR ?_
  intro p e s m args below meth c s₁ Bd hml0 hP hK
  obtain ⟨rfl, hZ, hh⟩ := hP
  have hx := Bd.exec
  have hby := Bd.bytes
  have hml : c.maxLocals = 1 := hml0
  have hown : s.vm.findClass "java/lang/Integer" = some m.cls := findClass_of_methodNamed Bd.named
  have hnm := (name_of_methodNamed Bd.named Bd.method).1
  have X0 : Stand p l e ({ frames := 3, cells := 1, slots := 1, locals := 38 } : Room) s m #[(.int i1)] below meth c s₁ [] 0 0 := Stand.of_body Bd
  have e0 : s₁.heap = h0 := by rw [← hh, Bd.state]; rfl
  have N0 := Fr.nil n0
  have Z0 : n0 ≤ h0.size := O0.1 ▸ O0.2.1
  have pre0 : ∀ t, Steps p.tables e below (s₁.setTop (mkF m 0 #[.val (.int i1)] [])) t → Steps p.tables e below (s₁.setTop (entryFrame m #[(.int i1)] 1)) t := fun t k => castTop (ef_3_I m i1) k
  have S_high : Sta Z Z.heap "java/lang/Integer$IntegerCache" "high" "I" (.int (127 : Int32)) := P.1
  have Kr : Keep h0 h0 [] := Keep.refl h0 _
  obtain ⟨T1, X1, e1, st1⟩ := getS2 X0 hx hZ hown (host := "") (Or.inl (hw _ (List.mem_of_getElem? (i := 17) rfl))) Via.refl e0 (S_high.ext O0.2) (g := (mkF m 7 #[.val (.int i1)] [(.int i1)])) rfl (hb hby d3_7)
  obtain ⟨T2, h2, X2, e2, E2, A2, D2, -, st2⟩ := newO X1 hx hZ hown (hw _ (List.mem_of_getElem? (i := 30) rfl)) (hw _ (List.mem_of_getElem? (i := 31) rfl)) (hw _ (List.mem_of_getElem? (i := 15) rfl)) e1 (g := (mkF m 23 #[.val (.int i1)] [])) rfl (hb hby d3_23) (by decide) (by decide)
  obtain ⟨b2, g2⟩ : ∃ z, z = (h0).size := ⟨_, rfl⟩
  rw [← g2] at A2 D2 st2
  have Zs3 : n0 ≤ (h2).size := Nat.le_trans Z0 E2.1
  have Os3 : Old Z n0 (h2) := O0.ext E2
  have Ks3 : Keep h0 (h2) [] := Kr.ext E2
  have D2_value : Fld Z h2 b2 "java/lang/Integer" "value" "I" (.int (0 : Int32)) := D2 (Or.inr (hw _ (List.mem_of_getElem? (i := 44) rfl))) (ty := .int) (by decide)
  obtain ⟨_, _, ⟨T4, L4, k4, n4⟩, -, X4, ⟨Lc4, hQ4, l4, y4, z4⟩, st4⟩ := X2.specialBack hx (y := (⟨"java/lang/Integer", "<init>", "(I)V"⟩ : MethodName)) rfl hown (mvT hZ (hw _ (List.mem_of_getElem? (i := 32) rfl))) (mvT hZ (hw _ (List.mem_of_getElem? (i := 33) rfl))) (mvT hZ (hw _ (List.mem_of_getElem? (i := 35) rfl))) (by decide) (backOf (W := 1) (rm5_14 l Z a0 hw [] w_cache cl_cache b2 i1 h2 n0 Os3 P A2 D2_value (Nat.le_trans Z0 (Nat.le_of_eq g2.symm))) hZ (hw _ (List.mem_of_getElem? (i := 35) rfl)) (hw _ (List.mem_of_getElem? (i := 15) rfl)) (by decide) (by decide)) (g := (mkF m 28 #[.val (.int i1)] [(.int i1), (.ref b2), (.ref b2)])) rfl (by rw [hml]; rfl) (Steps.refl _) (a := b2) (argsL := [(.int i1)]) (rest := [(.ref b2)]) (lenOf pd_3 rfl) rfl (by show 2 * 0 + _ ≤ _; exact Nat.le_of_eq rfl) (hb hby d3_28) (fun _ _ => ⟨rfl, e2, (by decide : 1 + 0 ≤ _), (by decide : 1 + 0 ≤ _)⟩)
  dsimp only [Pt.U, Pt.locs, Pt.cells, Pt.slots] at X4 l4 y4 z4 st4 hQ4
  subst l4 y4 z4
  obtain ⟨rfl, N4q, K4, q4_0⟩ := hQ4
  have N4 := Fr.app N0 N4q
  have Ks5 : Keep h0 (T4.heap) [] := Ks3.trans K4 (allS (Or.inr (Nat.le_trans Kr.1 (Nat.le_of_eq g2.symm))) all0)
  have Zs5 : n0 ≤ (T4.heap).size := Nat.le_trans Zs3 K4.1
  have Os5 : Old Z n0 (T4.heap) := Os3.keep K4 (allS (Nat.le_trans Z0 (Nat.le_of_eq g2.symm)) all0)
  have f6 := (A2.keep K4)
  obtain ⟨fs, hr, hrun, hended, hW, hsame⟩ := X4.leave (v := some (.ref b2)) (fun h => by rw [Bd.returns] at h; cases h)
  refine ⟨_, _, pre0 _ ?_, hrun, hended, _, _, rfl, ?_, ⟨_, rfl⟩, hW, hsame.mono (by decide) (by decide)⟩
  · show Steps p.tables e below (s₁.setTop (mkF m 0 #[.val (.int i1)] [])) _
    refine XS.iloadN X0.here hx rfl (hb hby d3_0) rfl ?_
    show Steps p.tables e below (s₁.setTop (mkF m 1 #[.val (.int i1)] [(.int i1)])) _
    refine XS.bipush X0.here hx rfl (hb hby d3_1) ?_
    show Steps p.tables e below (s₁.setTop (mkF m 3 #[.val (.int i1)] [(.int (-128 : Int32)), (.int i1)])) _
    refine XS.icmpNo X0.here hx rfl (hb hby d3_3) rfl (flt hc0).1 ?_
    show Steps p.tables e below (s₁.setTop (mkF m 6 #[.val (.int i1)] [])) _
    refine XS.iloadN X0.here hx rfl (hb hby d3_6) rfl ?_
    show Steps p.tables e below (s₁.setTop (mkF m 7 #[.val (.int i1)] [(.int i1)])) _
    refine st1 _ ?_
    show Steps p.tables e below (T1.setTop (mkF m 10 #[.val (.int i1)] [(.int (127 : Int32)), (.int i1)])) _
    refine XS.icmpYes X1.here hx rfl (pc0 := 10) (pc' := 23) rfl (hb hby d3_10) rfl (tlt hc1).2.2.1 (by decide) (by decide) ?_
    show Steps p.tables e below (T1.setTop (mkF m 23 #[.val (.int i1)] [])) _
    refine st2 _ ?_
    show Steps p.tables e below (T2.setTop (mkF m 26 #[.val (.int i1)] [(.ref b2)])) _
    refine XS.dup X2.here hx rfl (hb hby d3_26) rfl rfl ?_
    show Steps p.tables e below (T2.setTop (mkF m 27 #[.val (.int i1)] [(.ref b2), (.ref b2)])) _
    refine XS.iloadN X2.here hx rfl (hb hby d3_27) rfl ?_
    show Steps p.tables e below (T2.setTop (mkF m 28 #[.val (.int i1)] [(.int i1), (.ref b2), (.ref b2)])) _
    refine st4.trans ?_
    show Steps p.tables e below (T4.setTop (mkF m 31 #[.val (.int i1)] [(.ref b2)])) _
    exact retOut X4 hx Bd.returns rfl (Or.inr (Or.inr (Or.inr (Or.inr ⟨rfl, rfl, rfl⟩)))) (hb hby d3_31) hr
  · show Qrm3_18 Z w_cache cl_cache i1 h0 n0 _ T4.heap _
    exact ⟨b2, rfl, N4, Ks5, (Nat.le_trans Kr.1 (Nat.le_of_eq g2.symm)), f6, q4_0⟩
def Qrm0_5 (Z : State) (w_cache : Addr) (cl_cache : Cell) (p0 : Int32) (p1 : Int32) (p2 : Int32) (r1 : Int32) (j1 : Int32) (r2 : Int32) (j2 : Int32) (h0 : Heap) (n0 : Nat) (v : Option Value) (h : Heap) (L : List Loc) : Prop := v = some (.int (1 : Int32)) ∧ Fr n0 L ∧ Keep h0 h []
set_option maxRecDepth 65536 in
set_option maxHeartbeats 40000000 in
theorem rm0_5 (l : Launch) (Z : State) (a0 : Array Value) (hw : ∀ d ∈ tables_1, d.before a0 Z = true) (ws : List Jvm.Cond) (w_cache : Addr) (cl_cache : Cell) (p0 : Int32) (p1 : Int32) (p2 : Int32) (r1 : Int32) (j1 : Int32) (r2 : Int32) (j2 : Int32) (h0 : Heap) (n0 : Nat) (O0 : Old Z n0 h0) (P : Pins Z w_cache cl_cache) (hr1 : r1 = (if (p0 &&& (1 : Int32)) = (0 : Int32) then (0 : Int32) else (1 : Int32))) (hj1 : j1 = (if (p0 &&& (2 : Int32)) = (0 : Int32) then (0 : Int32) else (1 : Int32))) (hr2 : r2 = (if (p1 &&& (1 : Int32)) = (0 : Int32) then (0 : Int32) else (1 : Int32))) (hj2 : j2 = (if (p1 &&& (2 : Int32)) = (0 : Int32) then (0 : Int32) else (1 : Int32))) (k4 : (p2 &&& (3 : Int32)) = (2 : Int32)) (c0 : ¬ (p2 < (-128 : Int32))) (c1 : (127 : Int32) < p2) :
    MetFree l x (head1 (Jvm.Cond.code x code maxLocals ret :: ws) room_1) (fun a U => a = #[(.int p0), (.int p1), (.int p2)] ∧ Z.Warmed39 U.vm ∧ U.heap = h0) (fun _ _ _ _ _ => True) (fun _ U o U' => ∃ v L, o = .returned v ∧ Qrm0_5 Z w_cache cl_cache p0 p1 p2 r1 j1 r2 j2 h0 n0 v U'.heap L ∧ FrameEnd U o U' L room_1.cells room_1.slots) := by
  refine MetFree.of_bodySF (plainFor_of_name pn_com_example_demarc_demarc_DesignationEqualsPinLaw) hisR ?_
  intro p e s m args below meth c s₁ Bd hml0 hP hK
  obtain ⟨rfl, hZ, hh⟩ := hP
  have hx := Bd.exec
  have hby := Bd.bytes
  have hml : c.maxLocals = 11 := hml0
  have hown : s.vm.findClass "com/example/demarc/demarc/DesignationEqualsPinLaw" = some m.cls := findClass_of_methodNamed Bd.named
  have hnm := (name_of_methodNamed Bd.named Bd.method).1
  have X0 : Stand p l e room_1 s m #[(.int p0), (.int p1), (.int p2)] below meth c s₁ [] 0 0 := Stand.of_body Bd
  have e0 : s₁.heap = h0 := by rw [← hh, Bd.state]; rfl
  have N0 := Fr.nil n0
  have Z0 : n0 ≤ h0.size := O0.1 ▸ O0.2.1
  have pre0 : ∀ t, Steps p.tables e below (s₁.setTop (mkF m 0 #[.val (.int p0), .val (.int p1), .val (.int p2), .unset, .unset, .unset, .unset, .unset, .unset, .unset, .unset] [])) t → Steps p.tables e below (s₁.setTop (entryFrame m #[(.int p0), (.int p1), (.int p2)] maxLocals)) t := fun t k => castTop (ef_0_III m p0 p1 p2) k
  have Kr : Keep h0 h0 [] := Keep.refl h0 _
  have hb_r1 : r1 = (0 : Int32) ∨ r1 = (1 : Int32) := by rw [hr1]; (repeat' split) <;> simp
  have sg2 : ∀ t, Steps p.tables e below (s₁.setTop (mkF m 11 #[.val (.int p0), .val (.int p1), .val (.int p2), .unset, .unset, .unset, .unset, .unset, .unset, .unset, .unset] [(.int r1)])) t → Steps p.tables e below (s₁.setTop (mkF m 3 #[.val (.int p0), .val (.int p1), .val (.int p2), .unset, .unset, .unset, .unset, .unset, .unset, .unset, .unset] [(.int (p0 &&& (1 : Int32)))])) t := by
    intro t kt
    show Steps p.tables e below (s₁.setTop (mkF m 3 #[.val (.int p0), .val (.int p1), .val (.int p2), .unset, .unset, .unset, .unset, .unset, .unset, .unset, .unset] [(.int (p0 &&& (1 : Int32)))])) _
    by_cases q1 : (p0 &&& (1 : Int32)) = (0 : Int32)
    · refine XS.ifYes X0.here hx rfl (pc0 := 3) (pc' := 10) rfl (hb hby at_3) rfl ((if0 _ _).trans (teq q1).1) (by decide) (by decide) ?_
      show Steps p.tables e below (s₁.setTop (mkF m 10 #[.val (.int p0), .val (.int p1), .val (.int p2), .unset, .unset, .unset, .unset, .unset, .unset, .unset, .unset] [])) _
      refine XS.iconst X0.here hx rfl (hb hby at_10) ?_
      rw [show r1 = (0 : Int32) from hr1.trans (if_pos q1)] at kt
      exact kt
    · refine XS.ifNo X0.here hx rfl (hb hby at_3) rfl ((if0 _ _).trans (feq q1).1) ?_
      show Steps p.tables e below (s₁.setTop (mkF m 6 #[.val (.int p0), .val (.int p1), .val (.int p2), .unset, .unset, .unset, .unset, .unset, .unset, .unset, .unset] [])) _
      refine XS.iconst X0.here hx rfl (hb hby at_6) ?_
      show Steps p.tables e below (s₁.setTop (mkF m 7 #[.val (.int p0), .val (.int p1), .val (.int p2), .unset, .unset, .unset, .unset, .unset, .unset, .unset, .unset] [(.int (1 : Int32))])) _
      refine XS.goto X0.here hx rfl (pc0 := 7) (pc' := 11) rfl (hb hby at_7) (by decide) (by decide) ?_
      rw [show r1 = (1 : Int32) from hr1.trans (if_neg q1)] at kt
      exact kt
  have hb_j1 : j1 = (0 : Int32) ∨ j1 = (1 : Int32) := by rw [hj1]; (repeat' split) <;> simp
  have sg4 : ∀ t, Steps p.tables e below (s₁.setTop (mkF m 23 #[.val (.int p0), .val (.int p1), .val (.int p2), .val (.int r1), .unset, .unset, .unset, .unset, .unset, .unset, .unset] [(.int j1)])) t → Steps p.tables e below (s₁.setTop (mkF m 15 #[.val (.int p0), .val (.int p1), .val (.int p2), .val (.int r1), .unset, .unset, .unset, .unset, .unset, .unset, .unset] [(.int (p0 &&& (2 : Int32)))])) t := by
    intro t kt
    show Steps p.tables e below (s₁.setTop (mkF m 15 #[.val (.int p0), .val (.int p1), .val (.int p2), .val (.int r1), .unset, .unset, .unset, .unset, .unset, .unset, .unset] [(.int (p0 &&& (2 : Int32)))])) _
    by_cases q3 : (p0 &&& (2 : Int32)) = (0 : Int32)
    · refine XS.ifYes X0.here hx rfl (pc0 := 15) (pc' := 22) rfl (hb hby at_15) rfl ((if0 _ _).trans (teq q3).1) (by decide) (by decide) ?_
      show Steps p.tables e below (s₁.setTop (mkF m 22 #[.val (.int p0), .val (.int p1), .val (.int p2), .val (.int r1), .unset, .unset, .unset, .unset, .unset, .unset, .unset] [])) _
      refine XS.iconst X0.here hx rfl (hb hby at_22) ?_
      rw [show j1 = (0 : Int32) from hj1.trans (if_pos q3)] at kt
      exact kt
    · refine XS.ifNo X0.here hx rfl (hb hby at_15) rfl ((if0 _ _).trans (feq q3).1) ?_
      show Steps p.tables e below (s₁.setTop (mkF m 18 #[.val (.int p0), .val (.int p1), .val (.int p2), .val (.int r1), .unset, .unset, .unset, .unset, .unset, .unset, .unset] [])) _
      refine XS.iconst X0.here hx rfl (hb hby at_18) ?_
      show Steps p.tables e below (s₁.setTop (mkF m 19 #[.val (.int p0), .val (.int p1), .val (.int p2), .val (.int r1), .unset, .unset, .unset, .unset, .unset, .unset, .unset] [(.int (1 : Int32))])) _
      refine XS.goto X0.here hx rfl (pc0 := 19) (pc' := 23) rfl (hb hby at_19) (by decide) (by decide) ?_
      rw [show j1 = (1 : Int32) from hj1.trans (if_neg q3)] at kt
      exact kt
  have hb_r2 : r2 = (0 : Int32) ∨ r2 = (1 : Int32) := by rw [hr2]; (repeat' split) <;> simp
  have sg6 : ∀ t, Steps p.tables e below (s₁.setTop (mkF m 36 #[.val (.int p0), .val (.int p1), .val (.int p2), .val (.int r1), .val (.int j1), .unset, .unset, .unset, .unset, .unset, .unset] [(.int r2)])) t → Steps p.tables e below (s₁.setTop (mkF m 28 #[.val (.int p0), .val (.int p1), .val (.int p2), .val (.int r1), .val (.int j1), .unset, .unset, .unset, .unset, .unset, .unset] [(.int (p1 &&& (1 : Int32)))])) t := by
    intro t kt
    show Steps p.tables e below (s₁.setTop (mkF m 28 #[.val (.int p0), .val (.int p1), .val (.int p2), .val (.int r1), .val (.int j1), .unset, .unset, .unset, .unset, .unset, .unset] [(.int (p1 &&& (1 : Int32)))])) _
    by_cases q5 : (p1 &&& (1 : Int32)) = (0 : Int32)
    · refine XS.ifYes X0.here hx rfl (pc0 := 28) (pc' := 35) rfl (hb hby at_28) rfl ((if0 _ _).trans (teq q5).1) (by decide) (by decide) ?_
      show Steps p.tables e below (s₁.setTop (mkF m 35 #[.val (.int p0), .val (.int p1), .val (.int p2), .val (.int r1), .val (.int j1), .unset, .unset, .unset, .unset, .unset, .unset] [])) _
      refine XS.iconst X0.here hx rfl (hb hby at_35) ?_
      rw [show r2 = (0 : Int32) from hr2.trans (if_pos q5)] at kt
      exact kt
    · refine XS.ifNo X0.here hx rfl (hb hby at_28) rfl ((if0 _ _).trans (feq q5).1) ?_
      show Steps p.tables e below (s₁.setTop (mkF m 31 #[.val (.int p0), .val (.int p1), .val (.int p2), .val (.int r1), .val (.int j1), .unset, .unset, .unset, .unset, .unset, .unset] [])) _
      refine XS.iconst X0.here hx rfl (hb hby at_31) ?_
      show Steps p.tables e below (s₁.setTop (mkF m 32 #[.val (.int p0), .val (.int p1), .val (.int p2), .val (.int r1), .val (.int j1), .unset, .unset, .unset, .unset, .unset, .unset] [(.int (1 : Int32))])) _
      refine XS.goto X0.here hx rfl (pc0 := 32) (pc' := 36) rfl (hb hby at_32) (by decide) (by decide) ?_
      rw [show r2 = (1 : Int32) from hr2.trans (if_neg q5)] at kt
      exact kt
  have hb_j2 : j2 = (0 : Int32) ∨ j2 = (1 : Int32) := by rw [hj2]; (repeat' split) <;> simp
  have sg8 : ∀ t, Steps p.tables e below (s₁.setTop (mkF m 49 #[.val (.int p0), .val (.int p1), .val (.int p2), .val (.int r1), .val (.int j1), .val (.int r2), .unset, .unset, .unset, .unset, .unset] [(.int j2)])) t → Steps p.tables e below (s₁.setTop (mkF m 41 #[.val (.int p0), .val (.int p1), .val (.int p2), .val (.int r1), .val (.int j1), .val (.int r2), .unset, .unset, .unset, .unset, .unset] [(.int (p1 &&& (2 : Int32)))])) t := by
    intro t kt
    show Steps p.tables e below (s₁.setTop (mkF m 41 #[.val (.int p0), .val (.int p1), .val (.int p2), .val (.int r1), .val (.int j1), .val (.int r2), .unset, .unset, .unset, .unset, .unset] [(.int (p1 &&& (2 : Int32)))])) _
    by_cases q7 : (p1 &&& (2 : Int32)) = (0 : Int32)
    · refine XS.ifYes X0.here hx rfl (pc0 := 41) (pc' := 48) rfl (hb hby at_41) rfl ((if0 _ _).trans (teq q7).1) (by decide) (by decide) ?_
      show Steps p.tables e below (s₁.setTop (mkF m 48 #[.val (.int p0), .val (.int p1), .val (.int p2), .val (.int r1), .val (.int j1), .val (.int r2), .unset, .unset, .unset, .unset, .unset] [])) _
      refine XS.iconst X0.here hx rfl (hb hby at_48) ?_
      rw [show j2 = (0 : Int32) from hj2.trans (if_pos q7)] at kt
      exact kt
    · refine XS.ifNo X0.here hx rfl (hb hby at_41) rfl ((if0 _ _).trans (feq q7).1) ?_
      show Steps p.tables e below (s₁.setTop (mkF m 44 #[.val (.int p0), .val (.int p1), .val (.int p2), .val (.int r1), .val (.int j1), .val (.int r2), .unset, .unset, .unset, .unset, .unset] [])) _
      refine XS.iconst X0.here hx rfl (hb hby at_44) ?_
      show Steps p.tables e below (s₁.setTop (mkF m 45 #[.val (.int p0), .val (.int p1), .val (.int p2), .val (.int r1), .val (.int j1), .val (.int r2), .unset, .unset, .unset, .unset, .unset] [(.int (1 : Int32))])) _
      refine XS.goto X0.here hx rfl (pc0 := 45) (pc' := 49) rfl (hb hby at_45) (by decide) (by decide) ?_
      rw [show j2 = (1 : Int32) from hj2.trans (if_neg q7)] at kt
      exact kt
  obtain ⟨T9, h9, X9, e9, E9, A9, D9, -, st9⟩ := newO X0 hx hZ hown (hw _ (List.mem_of_getElem? (i := 0) rfl)) (hw _ (List.mem_of_getElem? (i := 1) rfl)) (hw _ (List.mem_of_getElem? (i := 2) rfl)) e0 (g := (mkF m 51 #[.val (.int p0), .val (.int p1), .val (.int p2), .val (.int r1), .val (.int j1), .val (.int r2), .val (.int j2), .unset, .unset, .unset, .unset] [])) rfl (hb hby at_51) (by decide) (by decide)
  obtain ⟨b9, g9⟩ : ∃ z, z = (h0).size := ⟨_, rfl⟩
  rw [← g9] at A9 D9 st9
  have Zs10 : n0 ≤ (h9).size := Nat.le_trans Z0 E9.1
  have Os10 : Old Z n0 (h9) := O0.ext E9
  have Ks10 : Keep h0 (h9) [] := Kr.ext E9
  have D9_rollback : Fld Z h9 b9 "com/example/demarc/demarc/ApplicationExceptions$Designation" "rollback" "Z" (.int (0 : Int32)) := D9 (Or.inr (hw _ (List.mem_of_getElem? (i := 10) rfl))) (ty := .boolean) (by decide)
  have D9_inherited : Fld Z h9 b9 "com/example/demarc/demarc/ApplicationExceptions$Designation" "inherited" "Z" (.int (0 : Int32)) := D9 (Or.inr (hw _ (List.mem_of_getElem? (i := 12) rfl))) (ty := .boolean) (by decide)
  obtain ⟨_, _, ⟨T11, L11, k11, n11⟩, -, X11, ⟨Lc11, hQ11, l11, y11, z11⟩, st11⟩ := X9.specialBack hx (y := (⟨"com/example/demarc/demarc/ApplicationExceptions$Designation", "<init>", "(ZZ)V"⟩ : MethodName)) rfl hown (mvT hZ (hw _ (List.mem_of_getElem? (i := 3) rfl))) (mvT hZ (hw _ (List.mem_of_getElem? (i := 4) rfl))) (mvT hZ (hw _ (List.mem_of_getElem? (i := 5) rfl))) (by decide) (backOf (W := 1) (rm1_1 l Z a0 hw [] w_cache cl_cache b9 r1 j1 h9 n0 Os10 P A9 D9_rollback hb_r1 (Nat.le_trans Z0 (Nat.le_of_eq g9.symm)) D9_inherited hb_j1) hZ (hw _ (List.mem_of_getElem? (i := 5) rfl)) (hw _ (List.mem_of_getElem? (i := 2) rfl)) (by decide) (by decide)) (g := (mkF m 58 #[.val (.int p0), .val (.int p1), .val (.int p2), .val (.int r1), .val (.int j1), .val (.int r2), .val (.int j2), .unset, .unset, .unset, .unset] [(.int j1), (.int r1), (.ref b9), (.ref b9)])) rfl (by rw [hml]; rfl) (Steps.refl _) (a := b9) (argsL := [(.int r1), (.int j1)]) (rest := [(.ref b9)]) (lenOf pd_0 rfl) rfl (by show 2 * 0 + _ ≤ _; exact Nat.le_of_eq rfl) (hb hby at_58) (fun _ _ => ⟨rfl, e9, (by decide : 1 + 0 ≤ _), (by decide : 2 + 0 ≤ _)⟩)
  dsimp only [Pt.U, Pt.locs, Pt.cells, Pt.slots] at X11 l11 y11 z11 st11 hQ11
  subst l11 y11 z11
  obtain ⟨rfl, N11q, K11, q11_0, q11_1⟩ := hQ11
  have N11 := Fr.app N0 N11q
  have Ks12 : Keep h0 (T11.heap) [] := Ks10.trans K11 (allS (Or.inr (Nat.le_trans Kr.1 (Nat.le_of_eq g9.symm))) all0)
  have Zs12 : n0 ≤ (T11.heap).size := Nat.le_trans Zs10 K11.1
  have Os12 : Old Z n0 (T11.heap) := Os10.keep K11 (allS (Nat.le_trans Z0 (Nat.le_of_eq g9.symm)) all0)
  obtain ⟨T13, h13, X13, e13, E13, A13, D13, -, st13⟩ := newO X11 hx hZ hown (hw _ (List.mem_of_getElem? (i := 0) rfl)) (hw _ (List.mem_of_getElem? (i := 1) rfl)) (hw _ (List.mem_of_getElem? (i := 2) rfl)) rfl (g := (mkF m 63 #[.val (.int p0), .val (.int p1), .val (.int p2), .val (.int r1), .val (.int j1), .val (.int r2), .val (.int j2), .val (.ref b9), .unset, .unset, .unset] [])) rfl (hb hby at_63) (by decide) (by decide)
  obtain ⟨b13, g13⟩ : ∃ z, z = (T11.heap).size := ⟨_, rfl⟩
  rw [← g13] at A13 D13 st13
  have Zs14 : n0 ≤ (h13).size := Nat.le_trans Zs12 E13.1
  have Os14 : Old Z n0 (h13) := Os12.ext E13
  have Ks14 : Keep h0 (h13) [] := Ks12.ext E13
  have D13_rollback : Fld Z h13 b13 "com/example/demarc/demarc/ApplicationExceptions$Designation" "rollback" "Z" (.int (0 : Int32)) := D13 (Or.inr (hw _ (List.mem_of_getElem? (i := 10) rfl))) (ty := .boolean) (by decide)
  have D13_inherited : Fld Z h13 b13 "com/example/demarc/demarc/ApplicationExceptions$Designation" "inherited" "Z" (.int (0 : Int32)) := D13 (Or.inr (hw _ (List.mem_of_getElem? (i := 12) rfl))) (ty := .boolean) (by decide)
  obtain ⟨_, _, ⟨T15, L15, k15, n15⟩, -, X15, ⟨Lc15, hQ15, l15, y15, z15⟩, st15⟩ := X13.specialBack hx (y := (⟨"com/example/demarc/demarc/ApplicationExceptions$Designation", "<init>", "(ZZ)V"⟩ : MethodName)) rfl hown (mvT hZ (hw _ (List.mem_of_getElem? (i := 3) rfl))) (mvT hZ (hw _ (List.mem_of_getElem? (i := 4) rfl))) (mvT hZ (hw _ (List.mem_of_getElem? (i := 5) rfl))) (by decide) (backOf (W := 1) (rm1_1 l Z a0 hw [] w_cache cl_cache b13 r2 j2 h13 n0 Os14 P A13 D13_rollback hb_r2 (Nat.le_trans Zs12 (Nat.le_of_eq g13.symm)) D13_inherited hb_j2) hZ (hw _ (List.mem_of_getElem? (i := 5) rfl)) (hw _ (List.mem_of_getElem? (i := 2) rfl)) (by decide) (by decide)) (g := (mkF m 71 #[.val (.int p0), .val (.int p1), .val (.int p2), .val (.int r1), .val (.int j1), .val (.int r2), .val (.int j2), .val (.ref b9), .unset, .unset, .unset] [(.int j2), (.int r2), (.ref b13), (.ref b13)])) rfl (by rw [hml]; rfl) (Steps.refl _) (a := b13) (argsL := [(.int r2), (.int j2)]) (rest := [(.ref b13)]) (lenOf pd_0 rfl) rfl (by show 2 * 0 + _ ≤ _; exact Nat.le_of_eq rfl) (hb hby at_71) (fun _ _ => ⟨rfl, e13, (by decide : 2 + 0 ≤ _), (by decide : 4 + 0 ≤ _)⟩)
  dsimp only [Pt.U, Pt.locs, Pt.cells, Pt.slots] at X15 l15 y15 z15 st15 hQ15
  subst l15 y15 z15
  obtain ⟨rfl, N15q, K15, q15_0, q15_1⟩ := hQ15
  have N15 := Fr.app N11 N15q
  have Ks16 : Keep h0 (T15.heap) [] := Ks14.trans K15 (allS (Or.inr (Nat.le_trans Ks12.1 (Nat.le_of_eq g13.symm))) all0)
  have Zs16 : n0 ≤ (T15.heap).size := Nat.le_trans Zs14 K15.1
  have Os16 : Old Z n0 (T15.heap) := Os14.keep K15 (allS (Nat.le_trans Zs12 (Nat.le_of_eq g13.symm)) all0)
  obtain ⟨_, _, ⟨T17, L17, k17, n17⟩, -, X17, ⟨Lc17, hQ17, l17, y17, z17⟩, st17⟩ := Jvm.LawKit.callS X15 hx (y := (⟨"java/lang/Integer", "valueOf", "(I)Ljava/lang/Integer;"⟩ : MethodName)) hown (mvT hZ (hw _ (List.mem_of_getElem? (i := 13) rfl))) (mvT hZ (hw _ (List.mem_of_getElem? (i := 14) rfl))) (mvT hZ (hw _ (List.mem_of_getElem? (i := 15) rfl))) (mvT hZ (hw _ (List.mem_of_getElem? (i := 16) rfl))) (by decide) (backOf (W := 0) (rm3_18 l Z a0 hw [] w_cache cl_cache p2 T15.heap n0 Os16 P c0 c1) hZ (hw _ (List.mem_of_getElem? (i := 16) rfl)) (hw _ (List.mem_of_getElem? (i := 15) rfl)) (by decide) (by decide)) (g := (mkF m 168 #[.val (.int p0), .val (.int p1), .val (.int p2), .val (.int r1), .val (.int j1), .val (.int r2), .val (.int j2), .val (.ref b9), .val (.ref b13), .val (.int (2 : Int32)), .unset] [(.int p2)])) rfl (by rw [hml]; rfl) (argsL := [(.int p2)]) (rest := []) (lenOf pd_4 rfl) rfl (by show 2 * 0 + _ ≤ _; exact Nat.le_of_eq rfl) (hb hby at_168) (fun _ _ => ⟨rfl, rfl, (by decide : 2 + 1 ≤ _), (by decide : 4 + 1 ≤ _)⟩)
  dsimp only [Pt.U, Pt.locs, Pt.cells, Pt.slots] at X17 l17 y17 z17 st17 hQ17
  subst l17 y17 z17
  obtain ⟨b17_0, rfl, N17q, K17, l17_0, q17_0, q17_1⟩ := hQ17
  have N17 := Fr.app N15 N17q
  have Ks18 : Keep h0 (T17.heap) [] := Ks16.trans K17 all0
  have Zs18 : n0 ≤ (T17.heap).size := Nat.le_trans Zs16 K17.1
  have Os18 : Old Z n0 (T17.heap) := Os16.keep K17 all0
  have f19 := ((((A9.keep K11).ext E13).keep K15).keep K17)
  obtain ⟨cq20, kq20, q20a, q20b, q20c⟩ := isOf hZ rfl f19
  obtain ⟨_, _, ⟨T20, L20, k20, n20⟩, -, X20, ⟨Lc20, hQ20, l20, y20, z20⟩, st20⟩ := X17.virtualBack hx (y := (⟨"com/example/demarc/demarc/ApplicationExceptions$Designation", "equals", "(Ljava/lang/Object;)Z"⟩ : MethodName)) (z := (⟨"com/example/demarc/demarc/ApplicationExceptions$Designation", "equals", "(Ljava/lang/Object;)Z"⟩ : MethodName)) hown (mvT hZ (hw _ (List.mem_of_getElem? (i := 20) rfl))) (mvT hZ (hw _ (List.mem_of_getElem? (i := 21) rfl))) (notFace_of_selects (args := #[]) (mvT hZ (hw _ (List.mem_of_getElem? (i := 23) rfl)))) (mvT hZ (hw _ (List.mem_of_getElem? (i := 23) rfl))) (mvT hZ (hw _ (List.mem_of_getElem? (i := 22) rfl))) (by decide) (backOf (W := 0) (rm4_16 l Z a0 hw [] w_cache cl_cache b9 b17_0 T17.heap n0 Os18 P q17_0) hZ (hw _ (List.mem_of_getElem? (i := 24) rfl)) (hw _ (List.mem_of_getElem? (i := 2) rfl)) (by decide) (by decide)) q20a q20c (g := (mkF m 177 #[.val (.int p0), .val (.int p1), .val (.int p2), .val (.int r1), .val (.int j1), .val (.int r2), .val (.int j2), .val (.ref b9), .val (.ref b13), .val (.int (2 : Int32)), .val (.ref b17_0)] [(.ref b17_0), (.ref b9)])) rfl (by rw [hml]; rfl) (Steps.refl _) (argsL := [(.ref b17_0)]) (rest := []) (lenOf pd_1 rfl) rfl (by show 2 * 0 + _ ≤ _; exact Nat.le_of_eq rfl) (hb hby at_177) (fun _ _ => ⟨rfl, rfl, (by decide : 3 + 0 ≤ _), (by decide : 5 + 0 ≤ _)⟩)
  dsimp only [Pt.U, Pt.locs, Pt.cells, Pt.slots] at X20 l20 y20 z20 st20 hQ20
  subst l20 y20 z20
  obtain ⟨rfl, N20q, e20⟩ := hQ20
  have N20 := Fr.app N17 N20q
  obtain ⟨fs, hr, hrun, hended, hW, hsame⟩ := X20.leave (v := some (.int (1 : Int32))) (fun h => by rw [Bd.returns] at h; cases h)
  refine ⟨_, _, pre0 _ ?_, hrun, hended, _, _, rfl, ?_, ⟨_, rfl⟩, hW, hsame.mono (by decide) (by decide)⟩
  · show Steps p.tables e below (s₁.setTop (mkF m 0 #[.val (.int p0), .val (.int p1), .val (.int p2), .unset, .unset, .unset, .unset, .unset, .unset, .unset, .unset] [])) _
    refine XS.iloadN X0.here hx rfl (hb hby at_0) rfl ?_
    show Steps p.tables e below (s₁.setTop (mkF m 1 #[.val (.int p0), .val (.int p1), .val (.int p2), .unset, .unset, .unset, .unset, .unset, .unset, .unset, .unset] [(.int p0)])) _
    refine XS.iconst X0.here hx rfl (hb hby at_1) ?_
    show Steps p.tables e below (s₁.setTop (mkF m 2 #[.val (.int p0), .val (.int p1), .val (.int p2), .unset, .unset, .unset, .unset, .unset, .unset, .unset, .unset] [(.int (1 : Int32)), (.int p0)])) _
    refine XS.iand X0.here hx rfl (hb hby at_2) rfl ?_
    refine sg2 _ ?_
    show Steps p.tables e below (s₁.setTop (mkF m 11 #[.val (.int p0), .val (.int p1), .val (.int p2), .unset, .unset, .unset, .unset, .unset, .unset, .unset, .unset] [(.int r1)])) _
    refine XS.istoreN X0.here hx rfl (hb hby at_11) rfl (l' := #[.val (.int p0), .val (.int p1), .val (.int p2), .val (.int r1), .unset, .unset, .unset, .unset, .unset, .unset, .unset]) rfl ?_
    show Steps p.tables e below (s₁.setTop (mkF m 12 #[.val (.int p0), .val (.int p1), .val (.int p2), .val (.int r1), .unset, .unset, .unset, .unset, .unset, .unset, .unset] [])) _
    refine XS.iloadN X0.here hx rfl (hb hby at_12) rfl ?_
    show Steps p.tables e below (s₁.setTop (mkF m 13 #[.val (.int p0), .val (.int p1), .val (.int p2), .val (.int r1), .unset, .unset, .unset, .unset, .unset, .unset, .unset] [(.int p0)])) _
    refine XS.iconst X0.here hx rfl (hb hby at_13) ?_
    show Steps p.tables e below (s₁.setTop (mkF m 14 #[.val (.int p0), .val (.int p1), .val (.int p2), .val (.int r1), .unset, .unset, .unset, .unset, .unset, .unset, .unset] [(.int (2 : Int32)), (.int p0)])) _
    refine XS.iand X0.here hx rfl (hb hby at_14) rfl ?_
    refine sg4 _ ?_
    show Steps p.tables e below (s₁.setTop (mkF m 23 #[.val (.int p0), .val (.int p1), .val (.int p2), .val (.int r1), .unset, .unset, .unset, .unset, .unset, .unset, .unset] [(.int j1)])) _
    refine XS.istore X0.here hx rfl (hb hby at_23) rfl (l' := #[.val (.int p0), .val (.int p1), .val (.int p2), .val (.int r1), .val (.int j1), .unset, .unset, .unset, .unset, .unset, .unset]) rfl ?_
    show Steps p.tables e below (s₁.setTop (mkF m 25 #[.val (.int p0), .val (.int p1), .val (.int p2), .val (.int r1), .val (.int j1), .unset, .unset, .unset, .unset, .unset, .unset] [])) _
    refine XS.iloadN X0.here hx rfl (hb hby at_25) rfl ?_
    show Steps p.tables e below (s₁.setTop (mkF m 26 #[.val (.int p0), .val (.int p1), .val (.int p2), .val (.int r1), .val (.int j1), .unset, .unset, .unset, .unset, .unset, .unset] [(.int p1)])) _
    refine XS.iconst X0.here hx rfl (hb hby at_26) ?_
    show Steps p.tables e below (s₁.setTop (mkF m 27 #[.val (.int p0), .val (.int p1), .val (.int p2), .val (.int r1), .val (.int j1), .unset, .unset, .unset, .unset, .unset, .unset] [(.int (1 : Int32)), (.int p1)])) _
    refine XS.iand X0.here hx rfl (hb hby at_27) rfl ?_
    refine sg6 _ ?_
    show Steps p.tables e below (s₁.setTop (mkF m 36 #[.val (.int p0), .val (.int p1), .val (.int p2), .val (.int r1), .val (.int j1), .unset, .unset, .unset, .unset, .unset, .unset] [(.int r2)])) _
    refine XS.istore X0.here hx rfl (hb hby at_36) rfl (l' := #[.val (.int p0), .val (.int p1), .val (.int p2), .val (.int r1), .val (.int j1), .val (.int r2), .unset, .unset, .unset, .unset, .unset]) rfl ?_
    show Steps p.tables e below (s₁.setTop (mkF m 38 #[.val (.int p0), .val (.int p1), .val (.int p2), .val (.int r1), .val (.int j1), .val (.int r2), .unset, .unset, .unset, .unset, .unset] [])) _
    refine XS.iloadN X0.here hx rfl (hb hby at_38) rfl ?_
    show Steps p.tables e below (s₁.setTop (mkF m 39 #[.val (.int p0), .val (.int p1), .val (.int p2), .val (.int r1), .val (.int j1), .val (.int r2), .unset, .unset, .unset, .unset, .unset] [(.int p1)])) _
    refine XS.iconst X0.here hx rfl (hb hby at_39) ?_
    show Steps p.tables e below (s₁.setTop (mkF m 40 #[.val (.int p0), .val (.int p1), .val (.int p2), .val (.int r1), .val (.int j1), .val (.int r2), .unset, .unset, .unset, .unset, .unset] [(.int (2 : Int32)), (.int p1)])) _
    refine XS.iand X0.here hx rfl (hb hby at_40) rfl ?_
    refine sg8 _ ?_
    show Steps p.tables e below (s₁.setTop (mkF m 49 #[.val (.int p0), .val (.int p1), .val (.int p2), .val (.int r1), .val (.int j1), .val (.int r2), .unset, .unset, .unset, .unset, .unset] [(.int j2)])) _
    refine XS.istore X0.here hx rfl (hb hby at_49) rfl (l' := #[.val (.int p0), .val (.int p1), .val (.int p2), .val (.int r1), .val (.int j1), .val (.int r2), .val (.int j2), .unset, .unset, .unset, .unset]) rfl ?_
    show Steps p.tables e below (s₁.setTop (mkF m 51 #[.val (.int p0), .val (.int p1), .val (.int p2), .val (.int r1), .val (.int j1), .val (.int r2), .val (.int j2), .unset, .unset, .unset, .unset] [])) _
    refine st9 _ ?_
    show Steps p.tables e below (T9.setTop (mkF m 54 #[.val (.int p0), .val (.int p1), .val (.int p2), .val (.int r1), .val (.int j1), .val (.int r2), .val (.int j2), .unset, .unset, .unset, .unset] [(.ref b9)])) _
    refine XS.dup X9.here hx rfl (hb hby at_54) rfl rfl ?_
    show Steps p.tables e below (T9.setTop (mkF m 55 #[.val (.int p0), .val (.int p1), .val (.int p2), .val (.int r1), .val (.int j1), .val (.int r2), .val (.int j2), .unset, .unset, .unset, .unset] [(.ref b9), (.ref b9)])) _
    refine XS.iloadN X9.here hx rfl (hb hby at_55) rfl ?_
    show Steps p.tables e below (T9.setTop (mkF m 56 #[.val (.int p0), .val (.int p1), .val (.int p2), .val (.int r1), .val (.int j1), .val (.int r2), .val (.int j2), .unset, .unset, .unset, .unset] [(.int r1), (.ref b9), (.ref b9)])) _
    refine XS.iload X9.here hx rfl (hb hby at_56) rfl ?_
    show Steps p.tables e below (T9.setTop (mkF m 58 #[.val (.int p0), .val (.int p1), .val (.int p2), .val (.int r1), .val (.int j1), .val (.int r2), .val (.int j2), .unset, .unset, .unset, .unset] [(.int j1), (.int r1), (.ref b9), (.ref b9)])) _
    refine st11.trans ?_
    show Steps p.tables e below (T11.setTop (mkF m 61 #[.val (.int p0), .val (.int p1), .val (.int p2), .val (.int r1), .val (.int j1), .val (.int r2), .val (.int j2), .unset, .unset, .unset, .unset] [(.ref b9)])) _
    refine XS.astore X11.here hx rfl (hb hby at_61) rfl rfl (l' := #[.val (.int p0), .val (.int p1), .val (.int p2), .val (.int r1), .val (.int j1), .val (.int r2), .val (.int j2), .val (.ref b9), .unset, .unset, .unset]) rfl ?_
    show Steps p.tables e below (T11.setTop (mkF m 63 #[.val (.int p0), .val (.int p1), .val (.int p2), .val (.int r1), .val (.int j1), .val (.int r2), .val (.int j2), .val (.ref b9), .unset, .unset, .unset] [])) _
    refine st13 _ ?_
    show Steps p.tables e below (T13.setTop (mkF m 66 #[.val (.int p0), .val (.int p1), .val (.int p2), .val (.int r1), .val (.int j1), .val (.int r2), .val (.int j2), .val (.ref b9), .unset, .unset, .unset] [(.ref b13)])) _
    refine XS.dup X13.here hx rfl (hb hby at_66) rfl rfl ?_
    show Steps p.tables e below (T13.setTop (mkF m 67 #[.val (.int p0), .val (.int p1), .val (.int p2), .val (.int r1), .val (.int j1), .val (.int r2), .val (.int j2), .val (.ref b9), .unset, .unset, .unset] [(.ref b13), (.ref b13)])) _
    refine XS.iload X13.here hx rfl (hb hby at_67) rfl ?_
    show Steps p.tables e below (T13.setTop (mkF m 69 #[.val (.int p0), .val (.int p1), .val (.int p2), .val (.int r1), .val (.int j1), .val (.int r2), .val (.int j2), .val (.ref b9), .unset, .unset, .unset] [(.int r2), (.ref b13), (.ref b13)])) _
    refine XS.iload X13.here hx rfl (hb hby at_69) rfl ?_
    show Steps p.tables e below (T13.setTop (mkF m 71 #[.val (.int p0), .val (.int p1), .val (.int p2), .val (.int r1), .val (.int j1), .val (.int r2), .val (.int j2), .val (.ref b9), .unset, .unset, .unset] [(.int j2), (.int r2), (.ref b13), (.ref b13)])) _
    refine st15.trans ?_
    show Steps p.tables e below (T15.setTop (mkF m 74 #[.val (.int p0), .val (.int p1), .val (.int p2), .val (.int r1), .val (.int j1), .val (.int r2), .val (.int j2), .val (.ref b9), .unset, .unset, .unset] [(.ref b13)])) _
    refine XS.astore X15.here hx rfl (hb hby at_74) rfl rfl (l' := #[.val (.int p0), .val (.int p1), .val (.int p2), .val (.int r1), .val (.int j1), .val (.int r2), .val (.int j2), .val (.ref b9), .val (.ref b13), .unset, .unset]) rfl ?_
    show Steps p.tables e below (T15.setTop (mkF m 76 #[.val (.int p0), .val (.int p1), .val (.int p2), .val (.int r1), .val (.int j1), .val (.int r2), .val (.int j2), .val (.ref b9), .val (.ref b13), .unset, .unset] [])) _
    refine XS.iloadN X15.here hx rfl (hb hby at_76) rfl ?_
    show Steps p.tables e below (T15.setTop (mkF m 77 #[.val (.int p0), .val (.int p1), .val (.int p2), .val (.int r1), .val (.int j1), .val (.int r2), .val (.int j2), .val (.ref b9), .val (.ref b13), .unset, .unset] [(.int p2)])) _
    refine XS.iconst X15.here hx rfl (hb hby at_77) ?_
    show Steps p.tables e below (T15.setTop (mkF m 78 #[.val (.int p0), .val (.int p1), .val (.int p2), .val (.int r1), .val (.int j1), .val (.int r2), .val (.int j2), .val (.ref b9), .val (.ref b13), .unset, .unset] [(.int (3 : Int32)), (.int p2)])) _
    refine XS.iand X15.here hx rfl (hb hby at_78) rfl ?_
    show Steps p.tables e below (T15.setTop (mkF m 79 #[.val (.int p0), .val (.int p1), .val (.int p2), .val (.int r1), .val (.int j1), .val (.int r2), .val (.int j2), .val (.ref b9), .val (.ref b13), .unset, .unset] [(.int (p2 &&& (3 : Int32)))])) _
    rw [k4]
    show Steps p.tables e below (T15.setTop (mkF m 79 #[.val (.int p0), .val (.int p1), .val (.int p2), .val (.int r1), .val (.int j1), .val (.int r2), .val (.int j2), .val (.ref b9), .val (.ref b13), .unset, .unset] [(.int (2 : Int32))])) _
    refine XS.istore X15.here hx rfl (hb hby at_79) rfl (l' := #[.val (.int p0), .val (.int p1), .val (.int p2), .val (.int r1), .val (.int j1), .val (.int r2), .val (.int j2), .val (.ref b9), .val (.ref b13), .val (.int (2 : Int32)), .unset]) rfl ?_
    show Steps p.tables e below (T15.setTop (mkF m 81 #[.val (.int p0), .val (.int p1), .val (.int p2), .val (.int r1), .val (.int j1), .val (.int r2), .val (.int j2), .val (.ref b9), .val (.ref b13), .val (.int (2 : Int32)), .unset] [])) _
    refine XS.iload X15.here hx rfl (hb hby at_81) rfl ?_
    show Steps p.tables e below (T15.setTop (mkF m 83 #[.val (.int p0), .val (.int p1), .val (.int p2), .val (.int r1), .val (.int j1), .val (.int r2), .val (.int j2), .val (.ref b9), .val (.ref b13), .val (.int (2 : Int32)), .unset] [(.int (2 : Int32))])) _
    refine XS.ifYes X15.here hx rfl (pc0 := 83) (pc' := 136) rfl (hb hby at_83) rfl (by decide) (by decide) (by decide) ?_
    show Steps p.tables e below (T15.setTop (mkF m 136 #[.val (.int p0), .val (.int p1), .val (.int p2), .val (.int r1), .val (.int j1), .val (.int r2), .val (.int j2), .val (.ref b9), .val (.ref b13), .val (.int (2 : Int32)), .unset] [])) _
    refine XS.iload X15.here hx rfl (hb hby at_136) rfl ?_
    show Steps p.tables e below (T15.setTop (mkF m 138 #[.val (.int p0), .val (.int p1), .val (.int p2), .val (.int r1), .val (.int j1), .val (.int r2), .val (.int j2), .val (.ref b9), .val (.ref b13), .val (.int (2 : Int32)), .unset] [(.int (2 : Int32))])) _
    refine XS.iconst X15.here hx rfl (hb hby at_138) ?_
    show Steps p.tables e below (T15.setTop (mkF m 139 #[.val (.int p0), .val (.int p1), .val (.int p2), .val (.int r1), .val (.int j1), .val (.int r2), .val (.int j2), .val (.ref b9), .val (.ref b13), .val (.int (2 : Int32)), .unset] [(.int (1 : Int32)), (.int (2 : Int32))])) _
    refine XS.icmpYes X15.here hx rfl (pc0 := 139) (pc' := 161) rfl (hb hby at_139) rfl (by decide) (by decide) (by decide) ?_
    show Steps p.tables e below (T15.setTop (mkF m 161 #[.val (.int p0), .val (.int p1), .val (.int p2), .val (.int r1), .val (.int j1), .val (.int r2), .val (.int j2), .val (.ref b9), .val (.ref b13), .val (.int (2 : Int32)), .unset] [])) _
    refine XS.iload X15.here hx rfl (hb hby at_161) rfl ?_
    show Steps p.tables e below (T15.setTop (mkF m 163 #[.val (.int p0), .val (.int p1), .val (.int p2), .val (.int r1), .val (.int j1), .val (.int r2), .val (.int j2), .val (.ref b9), .val (.ref b13), .val (.int (2 : Int32)), .unset] [(.int (2 : Int32))])) _
    refine XS.iconst X15.here hx rfl (hb hby at_163) ?_
    show Steps p.tables e below (T15.setTop (mkF m 164 #[.val (.int p0), .val (.int p1), .val (.int p2), .val (.int r1), .val (.int j1), .val (.int r2), .val (.int j2), .val (.ref b9), .val (.ref b13), .val (.int (2 : Int32)), .unset] [(.int (2 : Int32)), (.int (2 : Int32))])) _
    refine XS.icmpNo X15.here hx rfl (hb hby at_164) rfl (by decide) ?_
    show Steps p.tables e below (T15.setTop (mkF m 167 #[.val (.int p0), .val (.int p1), .val (.int p2), .val (.int r1), .val (.int j1), .val (.int r2), .val (.int j2), .val (.ref b9), .val (.ref b13), .val (.int (2 : Int32)), .unset] [])) _
    refine XS.iloadN X15.here hx rfl (hb hby at_167) rfl ?_
    show Steps p.tables e below (T15.setTop (mkF m 168 #[.val (.int p0), .val (.int p1), .val (.int p2), .val (.int r1), .val (.int j1), .val (.int r2), .val (.int j2), .val (.ref b9), .val (.ref b13), .val (.int (2 : Int32)), .unset] [(.int p2)])) _
    refine st17 _ ?_
    show Steps p.tables e below (T17.setTop (mkF m 171 #[.val (.int p0), .val (.int p1), .val (.int p2), .val (.int r1), .val (.int j1), .val (.int r2), .val (.int j2), .val (.ref b9), .val (.ref b13), .val (.int (2 : Int32)), .unset] [(.ref b17_0)])) _
    refine XS.astore X17.here hx rfl (hb hby at_171) rfl rfl (l' := #[.val (.int p0), .val (.int p1), .val (.int p2), .val (.int r1), .val (.int j1), .val (.int r2), .val (.int j2), .val (.ref b9), .val (.ref b13), .val (.int (2 : Int32)), .val (.ref b17_0)]) rfl ?_
    show Steps p.tables e below (T17.setTop (mkF m 173 #[.val (.int p0), .val (.int p1), .val (.int p2), .val (.int r1), .val (.int j1), .val (.int r2), .val (.int j2), .val (.ref b9), .val (.ref b13), .val (.int (2 : Int32)), .val (.ref b17_0)] [])) _
    refine XS.aload X17.here hx rfl (hb hby at_173) rfl rfl ?_
    show Steps p.tables e below (T17.setTop (mkF m 175 #[.val (.int p0), .val (.int p1), .val (.int p2), .val (.int r1), .val (.int j1), .val (.int r2), .val (.int j2), .val (.ref b9), .val (.ref b13), .val (.int (2 : Int32)), .val (.ref b17_0)] [(.ref b9)])) _
    refine XS.aload X17.here hx rfl (hb hby at_175) rfl rfl ?_
    show Steps p.tables e below (T17.setTop (mkF m 177 #[.val (.int p0), .val (.int p1), .val (.int p2), .val (.int r1), .val (.int j1), .val (.int r2), .val (.int j2), .val (.ref b9), .val (.ref b13), .val (.int (2 : Int32)), .val (.ref b17_0)] [(.ref b17_0), (.ref b9)])) _
    refine st20.trans ?_
    show Steps p.tables e below (T20.setTop (mkF m 180 #[.val (.int p0), .val (.int p1), .val (.int p2), .val (.int r1), .val (.int j1), .val (.int r2), .val (.int j2), .val (.ref b9), .val (.ref b13), .val (.int (2 : Int32)), .val (.ref b17_0)] [(.int (0 : Int32))])) _
    refine XS.ifNo X20.here hx rfl (hb hby at_180) rfl (by decide) ?_
    show Steps p.tables e below (T20.setTop (mkF m 183 #[.val (.int p0), .val (.int p1), .val (.int p2), .val (.int r1), .val (.int j1), .val (.int r2), .val (.int j2), .val (.ref b9), .val (.ref b13), .val (.int (2 : Int32)), .val (.ref b17_0)] [])) _
    refine XS.iconst X20.here hx rfl (hb hby at_183) ?_
    show Steps p.tables e below (T20.setTop (mkF m 184 #[.val (.int p0), .val (.int p1), .val (.int p2), .val (.int r1), .val (.int j1), .val (.int r2), .val (.int j2), .val (.ref b9), .val (.ref b13), .val (.int (2 : Int32)), .val (.ref b17_0)] [(.int (1 : Int32))])) _
    refine XS.goto X20.here hx rfl (pc0 := 184) (pc' := 188) rfl (hb hby at_184) (by decide) (by decide) ?_
    show Steps p.tables e below (T20.setTop (mkF m 188 #[.val (.int p0), .val (.int p1), .val (.int p2), .val (.int r1), .val (.int j1), .val (.int r2), .val (.int j2), .val (.ref b9), .val (.ref b13), .val (.int (2 : Int32)), .val (.ref b17_0)] [(.int (1 : Int32))])) _
    exact retN X20 hx (t := .boolean) Bd.returns (by simp) (hb hby at_188) hr
  · show Qrm0_5 Z w_cache cl_cache p0 p1 p2 r1 j1 r2 j2 h0 n0 _ T20.heap _
    rw [e20]
    exact ⟨rfl, N20, Ks18⟩
theorem d3_13 : decode jdk_33_method_22_code 13 = .ok (.getstatic 195, 3) := by decide +kernel
theorem d3_16 : decode jdk_33_method_22_code 16 = .ok (.iload_n 0, 1) := by decide +kernel
theorem d3_17 : decode jdk_33_method_22_code 17 = .ok (.sipush 128, 3) := by decide +kernel
theorem d3_20 : decode jdk_33_method_22_code 20 = .ok (.iadd, 1) := by decide +kernel
theorem d3_21 : decode jdk_33_method_22_code 21 = .ok (.aaload, 1) := by decide +kernel
theorem d3_22 : decode jdk_33_method_22_code 22 = .ok (.areturn, 1) := by decide +kernel
def Qrm3_20 (Z : State) (w_cache : Addr) (cl_cache : Cell) (i1 : Int32) (h0 : Heap) (n0 : Nat) (v : Option Value) (h : Heap) (L : List Loc) : Prop := ∃ y1 : Addr, v = some (.ref y1) ∧ Fr n0 L ∧ h = h0 ∧ Exa Z h0 y1 "java/lang/Integer"
set_option maxRecDepth 65536 in
set_option maxHeartbeats 40000000 in
theorem rm3_20 (l : Launch) (Z : State) (a0 : Array Value) (hw : ∀ d ∈ tables_1, d.before a0 Z = true) (ws : List Jvm.Cond) (w_cache : Addr) (cl_cache : Cell) (i1 : Int32) (h0 : Heap) (n0 : Nat) (O0 : Old Z n0 h0) (P : Pins Z w_cache cl_cache) (hc0 : ¬ (i1 < (-128 : Int32))) (hc1 : ¬ ((127 : Int32) < i1)) :
    MetFree l (⟨"java/lang/Integer", "valueOf", "(I)Ljava/lang/Integer;"⟩ : MethodName) (head1 (Jvm.Cond.code (⟨"java/lang/Integer", "valueOf", "(I)Ljava/lang/Integer;"⟩ : MethodName) jdk_33_method_22_code 1 (some (.object "java/lang/Integer")) :: ws) ({ frames := 0, cells := 0, slots := 0, locals := 0 } : Room)) (fun a U => a = #[(.int i1)] ∧ Z.Warmed39 U.vm ∧ U.heap = h0) (fun _ _ _ _ _ => True) (fun _ U o U' => ∃ v L, o = .returned v ∧ Qrm3_20 Z w_cache cl_cache i1 h0 n0 v U'.heap L ∧ FrameEnd U o U' L ({ frames := 0, cells := 0, slots := 0, locals := 0 } : Room).cells ({ frames := 0, cells := 0, slots := 0, locals := 0 } : Room).slots) := by
  refine MetFree.of_bodySF (plainFor_of_name pn_java_lang_Integer) hisR ?_
  intro p e s m args below meth c s₁ Bd hml0 hP hK
  obtain ⟨rfl, hZ, hh⟩ := hP
  have hx := Bd.exec
  have hby := Bd.bytes
  have hml : c.maxLocals = 1 := hml0
  have hown : s.vm.findClass "java/lang/Integer" = some m.cls := findClass_of_methodNamed Bd.named
  have hnm := (name_of_methodNamed Bd.named Bd.method).1
  have X0 : Stand p l e ({ frames := 0, cells := 0, slots := 0, locals := 0 } : Room) s m #[(.int i1)] below meth c s₁ [] 0 0 := Stand.of_body Bd
  have e0 : s₁.heap = h0 := by rw [← hh, Bd.state]; rfl
  have N0 := Fr.nil n0
  have Z0 : n0 ≤ h0.size := O0.1 ▸ O0.2.1
  have pre0 : ∀ t, Steps p.tables e below (s₁.setTop (mkF m 0 #[.val (.int i1)] [])) t → Steps p.tables e below (s₁.setTop (entryFrame m #[(.int i1)] 1)) t := fun t k => castTop (ef_3_I m i1) k
  have S_high : Sta Z Z.heap "java/lang/Integer$IntegerCache" "high" "I" (.int (127 : Int32)) := P.1
  have S_cache : Sta Z Z.heap "java/lang/Integer$IntegerCache" "cache" "[Ljava/lang/Integer;" (.ref w_cache) := P.2.1
  have G_cache : ∀ j : Int32, ¬ (j < (-128 : Int32)) → ¬ ((127 : Int32) < j) → ∃ w : Addr, cl_cache.slots[(j + (128 : Int32)).toNatClampNeg]? = some (.ref w) ∧ Exa Z Z.heap w "java/lang/Integer" ∧ ¬ ((j + (128 : Int32)) < 0 ∨ cl_cache.slots.size ≤ (j + (128 : Int32)).toNatClampNeg) := P.2.2.2
  have A_w_cache : Arr Z Z.heap w_cache cl_cache (.object "java/lang/Integer") := P.2.2.1
  obtain ⟨T1, X1, e1, st1⟩ := getS2 X0 hx hZ hown (host := "") (Or.inl (hw _ (List.mem_of_getElem? (i := 17) rfl))) Via.refl e0 (S_high.ext O0.2) (g := (mkF m 7 #[.val (.int i1)] [(.int i1)])) rfl (hb hby d3_7)
  obtain ⟨T2, X2, e2, st2⟩ := getS2 X1 hx hZ hown (host := "") (Or.inl (hw _ (List.mem_of_getElem? (i := 19) rfl))) Via.refl e1 (S_cache.ext O0.2) (g := (mkF m 13 #[.val (.int i1)] [])) rfl (hb hby d3_13)
  obtain ⟨w3, hat3, Ew3, hin3⟩ := G_cache i1 hc0 hc1
  have Aw3 := A_w_cache.ext O0.2
  have Ex3 := Ew3.ext O0.2
  obtain ⟨fs, hr, hrun, hended, hW, hsame⟩ := X2.leave (v := some (.ref w3)) (fun h => by rw [Bd.returns] at h; cases h)
  refine ⟨_, _, pre0 _ ?_, hrun, hended, _, _, rfl, ?_, ⟨_, rfl⟩, hW, hsame.mono (by decide) (by decide)⟩
  · show Steps p.tables e below (s₁.setTop (mkF m 0 #[.val (.int i1)] [])) _
    refine XS.iloadN X0.here hx rfl (hb hby d3_0) rfl ?_
    show Steps p.tables e below (s₁.setTop (mkF m 1 #[.val (.int i1)] [(.int i1)])) _
    refine XS.bipush X0.here hx rfl (hb hby d3_1) ?_
    show Steps p.tables e below (s₁.setTop (mkF m 3 #[.val (.int i1)] [(.int (-128 : Int32)), (.int i1)])) _
    refine XS.icmpNo X0.here hx rfl (hb hby d3_3) rfl (flt hc0).1 ?_
    show Steps p.tables e below (s₁.setTop (mkF m 6 #[.val (.int i1)] [])) _
    refine XS.iloadN X0.here hx rfl (hb hby d3_6) rfl ?_
    show Steps p.tables e below (s₁.setTop (mkF m 7 #[.val (.int i1)] [(.int i1)])) _
    refine st1 _ ?_
    show Steps p.tables e below (T1.setTop (mkF m 10 #[.val (.int i1)] [(.int (127 : Int32)), (.int i1)])) _
    refine XS.icmpNo X1.here hx rfl (hb hby d3_10) rfl (flt hc1).2.2.1 ?_
    show Steps p.tables e below (T1.setTop (mkF m 13 #[.val (.int i1)] [])) _
    refine st2 _ ?_
    show Steps p.tables e below (T2.setTop (mkF m 16 #[.val (.int i1)] [(.ref w_cache)])) _
    refine XS.iloadN X2.here hx rfl (hb hby d3_16) rfl ?_
    show Steps p.tables e below (T2.setTop (mkF m 17 #[.val (.int i1)] [(.int i1), (.ref w_cache)])) _
    refine XS.sipush X2.here hx rfl (hb hby d3_17) ?_
    show Steps p.tables e below (T2.setTop (mkF m 20 #[.val (.int i1)] [(.int (128 : Int32)), (.int i1), (.ref w_cache)])) _
    refine XS.iadd X2.here hx rfl (hb hby d3_20) rfl ?_
    show Steps p.tables e below (T2.setTop (mkF m 21 #[.val (.int i1)] [(.int (i1 + (128 : Int32))), (.ref w_cache)])) _
    refine X2.aaload hx (j := (i1 + (128 : Int32))) (v := (.ref w3)) (by rw [e2]; exact Aw3.1) (State.isArrayOf_alike hZ.alike Aw3.2.1) rfl Aw3.2.2 hin3 hat3 (g := (mkF m 21 #[.val (.int i1)] [(.int (i1 + (128 : Int32))), (.ref w_cache)])) rfl rfl (hb hby d3_21) _ ?_
    show Steps p.tables e below (T2.setTop (mkF m 22 #[.val (.int i1)] [(.ref w3)])) _
    exact retOut X2 hx Bd.returns rfl (Or.inr (Or.inr (Or.inr (Or.inr ⟨rfl, rfl, rfl⟩)))) (hb hby d3_22) hr
  · exact ⟨w3, rfl, N0, e2, Ex3⟩
def Qrm0_6 (Z : State) (w_cache : Addr) (cl_cache : Cell) (p0 : Int32) (p1 : Int32) (p2 : Int32) (r1 : Int32) (j1 : Int32) (r2 : Int32) (j2 : Int32) (h0 : Heap) (n0 : Nat) (v : Option Value) (h : Heap) (L : List Loc) : Prop := v = some (.int (1 : Int32)) ∧ Fr n0 L ∧ Keep h0 h []
set_option maxRecDepth 65536 in
set_option maxHeartbeats 40000000 in
theorem rm0_6 (l : Launch) (Z : State) (a0 : Array Value) (hw : ∀ d ∈ tables_1, d.before a0 Z = true) (ws : List Jvm.Cond) (w_cache : Addr) (cl_cache : Cell) (p0 : Int32) (p1 : Int32) (p2 : Int32) (r1 : Int32) (j1 : Int32) (r2 : Int32) (j2 : Int32) (h0 : Heap) (n0 : Nat) (O0 : Old Z n0 h0) (P : Pins Z w_cache cl_cache) (hr1 : r1 = (if (p0 &&& (1 : Int32)) = (0 : Int32) then (0 : Int32) else (1 : Int32))) (hj1 : j1 = (if (p0 &&& (2 : Int32)) = (0 : Int32) then (0 : Int32) else (1 : Int32))) (hr2 : r2 = (if (p1 &&& (1 : Int32)) = (0 : Int32) then (0 : Int32) else (1 : Int32))) (hj2 : j2 = (if (p1 &&& (2 : Int32)) = (0 : Int32) then (0 : Int32) else (1 : Int32))) (k4 : (p2 &&& (3 : Int32)) = (2 : Int32)) (c0 : ¬ (p2 < (-128 : Int32))) (c1 : ¬ ((127 : Int32) < p2)) :
    MetFree l x (head1 (Jvm.Cond.code x code maxLocals ret :: ws) room_1) (fun a U => a = #[(.int p0), (.int p1), (.int p2)] ∧ Z.Warmed39 U.vm ∧ U.heap = h0) (fun _ _ _ _ _ => True) (fun _ U o U' => ∃ v L, o = .returned v ∧ Qrm0_6 Z w_cache cl_cache p0 p1 p2 r1 j1 r2 j2 h0 n0 v U'.heap L ∧ FrameEnd U o U' L room_1.cells room_1.slots) := by
  refine MetFree.of_bodySF (plainFor_of_name pn_com_example_demarc_demarc_DesignationEqualsPinLaw) hisR ?_
  intro p e s m args below meth c s₁ Bd hml0 hP hK
  obtain ⟨rfl, hZ, hh⟩ := hP
  have hx := Bd.exec
  have hby := Bd.bytes
  have hml : c.maxLocals = 11 := hml0
  have hown : s.vm.findClass "com/example/demarc/demarc/DesignationEqualsPinLaw" = some m.cls := findClass_of_methodNamed Bd.named
  have hnm := (name_of_methodNamed Bd.named Bd.method).1
  have X0 : Stand p l e room_1 s m #[(.int p0), (.int p1), (.int p2)] below meth c s₁ [] 0 0 := Stand.of_body Bd
  have e0 : s₁.heap = h0 := by rw [← hh, Bd.state]; rfl
  have N0 := Fr.nil n0
  have Z0 : n0 ≤ h0.size := O0.1 ▸ O0.2.1
  have pre0 : ∀ t, Steps p.tables e below (s₁.setTop (mkF m 0 #[.val (.int p0), .val (.int p1), .val (.int p2), .unset, .unset, .unset, .unset, .unset, .unset, .unset, .unset] [])) t → Steps p.tables e below (s₁.setTop (entryFrame m #[(.int p0), (.int p1), (.int p2)] maxLocals)) t := fun t k => castTop (ef_0_III m p0 p1 p2) k
  have Kr : Keep h0 h0 [] := Keep.refl h0 _
  have hb_r1 : r1 = (0 : Int32) ∨ r1 = (1 : Int32) := by rw [hr1]; (repeat' split) <;> simp
  have sg2 : ∀ t, Steps p.tables e below (s₁.setTop (mkF m 11 #[.val (.int p0), .val (.int p1), .val (.int p2), .unset, .unset, .unset, .unset, .unset, .unset, .unset, .unset] [(.int r1)])) t → Steps p.tables e below (s₁.setTop (mkF m 3 #[.val (.int p0), .val (.int p1), .val (.int p2), .unset, .unset, .unset, .unset, .unset, .unset, .unset, .unset] [(.int (p0 &&& (1 : Int32)))])) t := by
    intro t kt
    show Steps p.tables e below (s₁.setTop (mkF m 3 #[.val (.int p0), .val (.int p1), .val (.int p2), .unset, .unset, .unset, .unset, .unset, .unset, .unset, .unset] [(.int (p0 &&& (1 : Int32)))])) _
    by_cases q1 : (p0 &&& (1 : Int32)) = (0 : Int32)
    · refine XS.ifYes X0.here hx rfl (pc0 := 3) (pc' := 10) rfl (hb hby at_3) rfl ((if0 _ _).trans (teq q1).1) (by decide) (by decide) ?_
      show Steps p.tables e below (s₁.setTop (mkF m 10 #[.val (.int p0), .val (.int p1), .val (.int p2), .unset, .unset, .unset, .unset, .unset, .unset, .unset, .unset] [])) _
      refine XS.iconst X0.here hx rfl (hb hby at_10) ?_
      rw [show r1 = (0 : Int32) from hr1.trans (if_pos q1)] at kt
      exact kt
    · refine XS.ifNo X0.here hx rfl (hb hby at_3) rfl ((if0 _ _).trans (feq q1).1) ?_
      show Steps p.tables e below (s₁.setTop (mkF m 6 #[.val (.int p0), .val (.int p1), .val (.int p2), .unset, .unset, .unset, .unset, .unset, .unset, .unset, .unset] [])) _
      refine XS.iconst X0.here hx rfl (hb hby at_6) ?_
      show Steps p.tables e below (s₁.setTop (mkF m 7 #[.val (.int p0), .val (.int p1), .val (.int p2), .unset, .unset, .unset, .unset, .unset, .unset, .unset, .unset] [(.int (1 : Int32))])) _
      refine XS.goto X0.here hx rfl (pc0 := 7) (pc' := 11) rfl (hb hby at_7) (by decide) (by decide) ?_
      rw [show r1 = (1 : Int32) from hr1.trans (if_neg q1)] at kt
      exact kt
  have hb_j1 : j1 = (0 : Int32) ∨ j1 = (1 : Int32) := by rw [hj1]; (repeat' split) <;> simp
  have sg4 : ∀ t, Steps p.tables e below (s₁.setTop (mkF m 23 #[.val (.int p0), .val (.int p1), .val (.int p2), .val (.int r1), .unset, .unset, .unset, .unset, .unset, .unset, .unset] [(.int j1)])) t → Steps p.tables e below (s₁.setTop (mkF m 15 #[.val (.int p0), .val (.int p1), .val (.int p2), .val (.int r1), .unset, .unset, .unset, .unset, .unset, .unset, .unset] [(.int (p0 &&& (2 : Int32)))])) t := by
    intro t kt
    show Steps p.tables e below (s₁.setTop (mkF m 15 #[.val (.int p0), .val (.int p1), .val (.int p2), .val (.int r1), .unset, .unset, .unset, .unset, .unset, .unset, .unset] [(.int (p0 &&& (2 : Int32)))])) _
    by_cases q3 : (p0 &&& (2 : Int32)) = (0 : Int32)
    · refine XS.ifYes X0.here hx rfl (pc0 := 15) (pc' := 22) rfl (hb hby at_15) rfl ((if0 _ _).trans (teq q3).1) (by decide) (by decide) ?_
      show Steps p.tables e below (s₁.setTop (mkF m 22 #[.val (.int p0), .val (.int p1), .val (.int p2), .val (.int r1), .unset, .unset, .unset, .unset, .unset, .unset, .unset] [])) _
      refine XS.iconst X0.here hx rfl (hb hby at_22) ?_
      rw [show j1 = (0 : Int32) from hj1.trans (if_pos q3)] at kt
      exact kt
    · refine XS.ifNo X0.here hx rfl (hb hby at_15) rfl ((if0 _ _).trans (feq q3).1) ?_
      show Steps p.tables e below (s₁.setTop (mkF m 18 #[.val (.int p0), .val (.int p1), .val (.int p2), .val (.int r1), .unset, .unset, .unset, .unset, .unset, .unset, .unset] [])) _
      refine XS.iconst X0.here hx rfl (hb hby at_18) ?_
      show Steps p.tables e below (s₁.setTop (mkF m 19 #[.val (.int p0), .val (.int p1), .val (.int p2), .val (.int r1), .unset, .unset, .unset, .unset, .unset, .unset, .unset] [(.int (1 : Int32))])) _
      refine XS.goto X0.here hx rfl (pc0 := 19) (pc' := 23) rfl (hb hby at_19) (by decide) (by decide) ?_
      rw [show j1 = (1 : Int32) from hj1.trans (if_neg q3)] at kt
      exact kt
  have hb_r2 : r2 = (0 : Int32) ∨ r2 = (1 : Int32) := by rw [hr2]; (repeat' split) <;> simp
  have sg6 : ∀ t, Steps p.tables e below (s₁.setTop (mkF m 36 #[.val (.int p0), .val (.int p1), .val (.int p2), .val (.int r1), .val (.int j1), .unset, .unset, .unset, .unset, .unset, .unset] [(.int r2)])) t → Steps p.tables e below (s₁.setTop (mkF m 28 #[.val (.int p0), .val (.int p1), .val (.int p2), .val (.int r1), .val (.int j1), .unset, .unset, .unset, .unset, .unset, .unset] [(.int (p1 &&& (1 : Int32)))])) t := by
    intro t kt
    show Steps p.tables e below (s₁.setTop (mkF m 28 #[.val (.int p0), .val (.int p1), .val (.int p2), .val (.int r1), .val (.int j1), .unset, .unset, .unset, .unset, .unset, .unset] [(.int (p1 &&& (1 : Int32)))])) _
    by_cases q5 : (p1 &&& (1 : Int32)) = (0 : Int32)
    · refine XS.ifYes X0.here hx rfl (pc0 := 28) (pc' := 35) rfl (hb hby at_28) rfl ((if0 _ _).trans (teq q5).1) (by decide) (by decide) ?_
      show Steps p.tables e below (s₁.setTop (mkF m 35 #[.val (.int p0), .val (.int p1), .val (.int p2), .val (.int r1), .val (.int j1), .unset, .unset, .unset, .unset, .unset, .unset] [])) _
      refine XS.iconst X0.here hx rfl (hb hby at_35) ?_
      rw [show r2 = (0 : Int32) from hr2.trans (if_pos q5)] at kt
      exact kt
    · refine XS.ifNo X0.here hx rfl (hb hby at_28) rfl ((if0 _ _).trans (feq q5).1) ?_
      show Steps p.tables e below (s₁.setTop (mkF m 31 #[.val (.int p0), .val (.int p1), .val (.int p2), .val (.int r1), .val (.int j1), .unset, .unset, .unset, .unset, .unset, .unset] [])) _
      refine XS.iconst X0.here hx rfl (hb hby at_31) ?_
      show Steps p.tables e below (s₁.setTop (mkF m 32 #[.val (.int p0), .val (.int p1), .val (.int p2), .val (.int r1), .val (.int j1), .unset, .unset, .unset, .unset, .unset, .unset] [(.int (1 : Int32))])) _
      refine XS.goto X0.here hx rfl (pc0 := 32) (pc' := 36) rfl (hb hby at_32) (by decide) (by decide) ?_
      rw [show r2 = (1 : Int32) from hr2.trans (if_neg q5)] at kt
      exact kt
  have hb_j2 : j2 = (0 : Int32) ∨ j2 = (1 : Int32) := by rw [hj2]; (repeat' split) <;> simp
  have sg8 : ∀ t, Steps p.tables e below (s₁.setTop (mkF m 49 #[.val (.int p0), .val (.int p1), .val (.int p2), .val (.int r1), .val (.int j1), .val (.int r2), .unset, .unset, .unset, .unset, .unset] [(.int j2)])) t → Steps p.tables e below (s₁.setTop (mkF m 41 #[.val (.int p0), .val (.int p1), .val (.int p2), .val (.int r1), .val (.int j1), .val (.int r2), .unset, .unset, .unset, .unset, .unset] [(.int (p1 &&& (2 : Int32)))])) t := by
    intro t kt
    show Steps p.tables e below (s₁.setTop (mkF m 41 #[.val (.int p0), .val (.int p1), .val (.int p2), .val (.int r1), .val (.int j1), .val (.int r2), .unset, .unset, .unset, .unset, .unset] [(.int (p1 &&& (2 : Int32)))])) _
    by_cases q7 : (p1 &&& (2 : Int32)) = (0 : Int32)
    · refine XS.ifYes X0.here hx rfl (pc0 := 41) (pc' := 48) rfl (hb hby at_41) rfl ((if0 _ _).trans (teq q7).1) (by decide) (by decide) ?_
      show Steps p.tables e below (s₁.setTop (mkF m 48 #[.val (.int p0), .val (.int p1), .val (.int p2), .val (.int r1), .val (.int j1), .val (.int r2), .unset, .unset, .unset, .unset, .unset] [])) _
      refine XS.iconst X0.here hx rfl (hb hby at_48) ?_
      rw [show j2 = (0 : Int32) from hj2.trans (if_pos q7)] at kt
      exact kt
    · refine XS.ifNo X0.here hx rfl (hb hby at_41) rfl ((if0 _ _).trans (feq q7).1) ?_
      show Steps p.tables e below (s₁.setTop (mkF m 44 #[.val (.int p0), .val (.int p1), .val (.int p2), .val (.int r1), .val (.int j1), .val (.int r2), .unset, .unset, .unset, .unset, .unset] [])) _
      refine XS.iconst X0.here hx rfl (hb hby at_44) ?_
      show Steps p.tables e below (s₁.setTop (mkF m 45 #[.val (.int p0), .val (.int p1), .val (.int p2), .val (.int r1), .val (.int j1), .val (.int r2), .unset, .unset, .unset, .unset, .unset] [(.int (1 : Int32))])) _
      refine XS.goto X0.here hx rfl (pc0 := 45) (pc' := 49) rfl (hb hby at_45) (by decide) (by decide) ?_
      rw [show j2 = (1 : Int32) from hj2.trans (if_neg q7)] at kt
      exact kt
  obtain ⟨T9, h9, X9, e9, E9, A9, D9, -, st9⟩ := newO X0 hx hZ hown (hw _ (List.mem_of_getElem? (i := 0) rfl)) (hw _ (List.mem_of_getElem? (i := 1) rfl)) (hw _ (List.mem_of_getElem? (i := 2) rfl)) e0 (g := (mkF m 51 #[.val (.int p0), .val (.int p1), .val (.int p2), .val (.int r1), .val (.int j1), .val (.int r2), .val (.int j2), .unset, .unset, .unset, .unset] [])) rfl (hb hby at_51) (by decide) (by decide)
  obtain ⟨b9, g9⟩ : ∃ z, z = (h0).size := ⟨_, rfl⟩
  rw [← g9] at A9 D9 st9
  have Zs10 : n0 ≤ (h9).size := Nat.le_trans Z0 E9.1
  have Os10 : Old Z n0 (h9) := O0.ext E9
  have Ks10 : Keep h0 (h9) [] := Kr.ext E9
  have D9_rollback : Fld Z h9 b9 "com/example/demarc/demarc/ApplicationExceptions$Designation" "rollback" "Z" (.int (0 : Int32)) := D9 (Or.inr (hw _ (List.mem_of_getElem? (i := 10) rfl))) (ty := .boolean) (by decide)
  have D9_inherited : Fld Z h9 b9 "com/example/demarc/demarc/ApplicationExceptions$Designation" "inherited" "Z" (.int (0 : Int32)) := D9 (Or.inr (hw _ (List.mem_of_getElem? (i := 12) rfl))) (ty := .boolean) (by decide)
  obtain ⟨_, _, ⟨T11, L11, k11, n11⟩, -, X11, ⟨Lc11, hQ11, l11, y11, z11⟩, st11⟩ := X9.specialBack hx (y := (⟨"com/example/demarc/demarc/ApplicationExceptions$Designation", "<init>", "(ZZ)V"⟩ : MethodName)) rfl hown (mvT hZ (hw _ (List.mem_of_getElem? (i := 3) rfl))) (mvT hZ (hw _ (List.mem_of_getElem? (i := 4) rfl))) (mvT hZ (hw _ (List.mem_of_getElem? (i := 5) rfl))) (by decide) (backOf (W := 1) (rm1_1 l Z a0 hw [] w_cache cl_cache b9 r1 j1 h9 n0 Os10 P A9 D9_rollback hb_r1 (Nat.le_trans Z0 (Nat.le_of_eq g9.symm)) D9_inherited hb_j1) hZ (hw _ (List.mem_of_getElem? (i := 5) rfl)) (hw _ (List.mem_of_getElem? (i := 2) rfl)) (by decide) (by decide)) (g := (mkF m 58 #[.val (.int p0), .val (.int p1), .val (.int p2), .val (.int r1), .val (.int j1), .val (.int r2), .val (.int j2), .unset, .unset, .unset, .unset] [(.int j1), (.int r1), (.ref b9), (.ref b9)])) rfl (by rw [hml]; rfl) (Steps.refl _) (a := b9) (argsL := [(.int r1), (.int j1)]) (rest := [(.ref b9)]) (lenOf pd_0 rfl) rfl (by show 2 * 0 + _ ≤ _; exact Nat.le_of_eq rfl) (hb hby at_58) (fun _ _ => ⟨rfl, e9, (by decide : 1 + 0 ≤ _), (by decide : 2 + 0 ≤ _)⟩)
  dsimp only [Pt.U, Pt.locs, Pt.cells, Pt.slots] at X11 l11 y11 z11 st11 hQ11
  subst l11 y11 z11
  obtain ⟨rfl, N11q, K11, q11_0, q11_1⟩ := hQ11
  have N11 := Fr.app N0 N11q
  have Ks12 : Keep h0 (T11.heap) [] := Ks10.trans K11 (allS (Or.inr (Nat.le_trans Kr.1 (Nat.le_of_eq g9.symm))) all0)
  have Zs12 : n0 ≤ (T11.heap).size := Nat.le_trans Zs10 K11.1
  have Os12 : Old Z n0 (T11.heap) := Os10.keep K11 (allS (Nat.le_trans Z0 (Nat.le_of_eq g9.symm)) all0)
  obtain ⟨T13, h13, X13, e13, E13, A13, D13, -, st13⟩ := newO X11 hx hZ hown (hw _ (List.mem_of_getElem? (i := 0) rfl)) (hw _ (List.mem_of_getElem? (i := 1) rfl)) (hw _ (List.mem_of_getElem? (i := 2) rfl)) rfl (g := (mkF m 63 #[.val (.int p0), .val (.int p1), .val (.int p2), .val (.int r1), .val (.int j1), .val (.int r2), .val (.int j2), .val (.ref b9), .unset, .unset, .unset] [])) rfl (hb hby at_63) (by decide) (by decide)
  obtain ⟨b13, g13⟩ : ∃ z, z = (T11.heap).size := ⟨_, rfl⟩
  rw [← g13] at A13 D13 st13
  have Zs14 : n0 ≤ (h13).size := Nat.le_trans Zs12 E13.1
  have Os14 : Old Z n0 (h13) := Os12.ext E13
  have Ks14 : Keep h0 (h13) [] := Ks12.ext E13
  have D13_rollback : Fld Z h13 b13 "com/example/demarc/demarc/ApplicationExceptions$Designation" "rollback" "Z" (.int (0 : Int32)) := D13 (Or.inr (hw _ (List.mem_of_getElem? (i := 10) rfl))) (ty := .boolean) (by decide)
  have D13_inherited : Fld Z h13 b13 "com/example/demarc/demarc/ApplicationExceptions$Designation" "inherited" "Z" (.int (0 : Int32)) := D13 (Or.inr (hw _ (List.mem_of_getElem? (i := 12) rfl))) (ty := .boolean) (by decide)
  obtain ⟨_, _, ⟨T15, L15, k15, n15⟩, -, X15, ⟨Lc15, hQ15, l15, y15, z15⟩, st15⟩ := X13.specialBack hx (y := (⟨"com/example/demarc/demarc/ApplicationExceptions$Designation", "<init>", "(ZZ)V"⟩ : MethodName)) rfl hown (mvT hZ (hw _ (List.mem_of_getElem? (i := 3) rfl))) (mvT hZ (hw _ (List.mem_of_getElem? (i := 4) rfl))) (mvT hZ (hw _ (List.mem_of_getElem? (i := 5) rfl))) (by decide) (backOf (W := 1) (rm1_1 l Z a0 hw [] w_cache cl_cache b13 r2 j2 h13 n0 Os14 P A13 D13_rollback hb_r2 (Nat.le_trans Zs12 (Nat.le_of_eq g13.symm)) D13_inherited hb_j2) hZ (hw _ (List.mem_of_getElem? (i := 5) rfl)) (hw _ (List.mem_of_getElem? (i := 2) rfl)) (by decide) (by decide)) (g := (mkF m 71 #[.val (.int p0), .val (.int p1), .val (.int p2), .val (.int r1), .val (.int j1), .val (.int r2), .val (.int j2), .val (.ref b9), .unset, .unset, .unset] [(.int j2), (.int r2), (.ref b13), (.ref b13)])) rfl (by rw [hml]; rfl) (Steps.refl _) (a := b13) (argsL := [(.int r2), (.int j2)]) (rest := [(.ref b13)]) (lenOf pd_0 rfl) rfl (by show 2 * 0 + _ ≤ _; exact Nat.le_of_eq rfl) (hb hby at_71) (fun _ _ => ⟨rfl, e13, (by decide : 2 + 0 ≤ _), (by decide : 4 + 0 ≤ _)⟩)
  dsimp only [Pt.U, Pt.locs, Pt.cells, Pt.slots] at X15 l15 y15 z15 st15 hQ15
  subst l15 y15 z15
  obtain ⟨rfl, N15q, K15, q15_0, q15_1⟩ := hQ15
  have N15 := Fr.app N11 N15q
  have Ks16 : Keep h0 (T15.heap) [] := Ks14.trans K15 (allS (Or.inr (Nat.le_trans Ks12.1 (Nat.le_of_eq g13.symm))) all0)
  have Zs16 : n0 ≤ (T15.heap).size := Nat.le_trans Zs14 K15.1
  have Os16 : Old Z n0 (T15.heap) := Os14.keep K15 (allS (Nat.le_trans Zs12 (Nat.le_of_eq g13.symm)) all0)
  obtain ⟨_, _, ⟨T17, L17, k17, n17⟩, -, X17, ⟨Lc17, hQ17, l17, y17, z17⟩, st17⟩ := Jvm.LawKit.callS X15 hx (y := (⟨"java/lang/Integer", "valueOf", "(I)Ljava/lang/Integer;"⟩ : MethodName)) hown (mvT hZ (hw _ (List.mem_of_getElem? (i := 13) rfl))) (mvT hZ (hw _ (List.mem_of_getElem? (i := 14) rfl))) (mvT hZ (hw _ (List.mem_of_getElem? (i := 15) rfl))) (mvT hZ (hw _ (List.mem_of_getElem? (i := 16) rfl))) (by decide) (backOf (W := 0) (rm3_20 l Z a0 hw [] w_cache cl_cache p2 T15.heap n0 Os16 P c0 c1) hZ (hw _ (List.mem_of_getElem? (i := 16) rfl)) (hw _ (List.mem_of_getElem? (i := 15) rfl)) (by decide) (by decide)) (g := (mkF m 168 #[.val (.int p0), .val (.int p1), .val (.int p2), .val (.int r1), .val (.int j1), .val (.int r2), .val (.int j2), .val (.ref b9), .val (.ref b13), .val (.int (2 : Int32)), .unset] [(.int p2)])) rfl (by rw [hml]; rfl) (argsL := [(.int p2)]) (rest := []) (lenOf pd_4 rfl) rfl (by show 2 * 0 + _ ≤ _; exact Nat.le_of_eq rfl) (hb hby at_168) (fun _ _ => ⟨rfl, rfl, (by decide : 2 + 0 ≤ _), (by decide : 4 + 0 ≤ _)⟩)
  dsimp only [Pt.U, Pt.locs, Pt.cells, Pt.slots] at X17 l17 y17 z17 st17 hQ17
  subst l17 y17 z17
  obtain ⟨w17_0, rfl, N17q, e17, q17_0⟩ := hQ17
  have N17 := Fr.app N15 N17q
  have f18 := (((A9.keep K11).ext E13).keep K15)
  obtain ⟨cq19, kq19, q19a, q19b, q19c⟩ := isOf hZ e17 f18
  obtain ⟨_, _, ⟨T19, L19, k19, n19⟩, -, X19, ⟨Lc19, hQ19, l19, y19, z19⟩, st19⟩ := X17.virtualBack hx (y := (⟨"com/example/demarc/demarc/ApplicationExceptions$Designation", "equals", "(Ljava/lang/Object;)Z"⟩ : MethodName)) (z := (⟨"com/example/demarc/demarc/ApplicationExceptions$Designation", "equals", "(Ljava/lang/Object;)Z"⟩ : MethodName)) hown (mvT hZ (hw _ (List.mem_of_getElem? (i := 20) rfl))) (mvT hZ (hw _ (List.mem_of_getElem? (i := 21) rfl))) (notFace_of_selects (args := #[]) (mvT hZ (hw _ (List.mem_of_getElem? (i := 23) rfl)))) (mvT hZ (hw _ (List.mem_of_getElem? (i := 23) rfl))) (mvT hZ (hw _ (List.mem_of_getElem? (i := 22) rfl))) (by decide) (backOf (W := 0) (rm4_16 l Z a0 hw [] w_cache cl_cache b9 w17_0 T15.heap n0 Os16 P q17_0) hZ (hw _ (List.mem_of_getElem? (i := 24) rfl)) (hw _ (List.mem_of_getElem? (i := 2) rfl)) (by decide) (by decide)) q19a q19c (g := (mkF m 177 #[.val (.int p0), .val (.int p1), .val (.int p2), .val (.int r1), .val (.int j1), .val (.int r2), .val (.int j2), .val (.ref b9), .val (.ref b13), .val (.int (2 : Int32)), .val (.ref w17_0)] [(.ref w17_0), (.ref b9)])) rfl (by rw [hml]; rfl) (Steps.refl _) (argsL := [(.ref w17_0)]) (rest := []) (lenOf pd_1 rfl) rfl (by show 2 * 0 + _ ≤ _; exact Nat.le_of_eq rfl) (hb hby at_177) (fun _ _ => ⟨rfl, e17, (by decide : 2 + 0 ≤ _), (by decide : 4 + 0 ≤ _)⟩)
  dsimp only [Pt.U, Pt.locs, Pt.cells, Pt.slots] at X19 l19 y19 z19 st19 hQ19
  subst l19 y19 z19
  obtain ⟨rfl, N19q, e19⟩ := hQ19
  have N19 := Fr.app N17 N19q
  obtain ⟨fs, hr, hrun, hended, hW, hsame⟩ := X19.leave (v := some (.int (1 : Int32))) (fun h => by rw [Bd.returns] at h; cases h)
  refine ⟨_, _, pre0 _ ?_, hrun, hended, _, _, rfl, ?_, ⟨_, rfl⟩, hW, hsame.mono (by decide) (by decide)⟩
  · show Steps p.tables e below (s₁.setTop (mkF m 0 #[.val (.int p0), .val (.int p1), .val (.int p2), .unset, .unset, .unset, .unset, .unset, .unset, .unset, .unset] [])) _
    refine XS.iloadN X0.here hx rfl (hb hby at_0) rfl ?_
    show Steps p.tables e below (s₁.setTop (mkF m 1 #[.val (.int p0), .val (.int p1), .val (.int p2), .unset, .unset, .unset, .unset, .unset, .unset, .unset, .unset] [(.int p0)])) _
    refine XS.iconst X0.here hx rfl (hb hby at_1) ?_
    show Steps p.tables e below (s₁.setTop (mkF m 2 #[.val (.int p0), .val (.int p1), .val (.int p2), .unset, .unset, .unset, .unset, .unset, .unset, .unset, .unset] [(.int (1 : Int32)), (.int p0)])) _
    refine XS.iand X0.here hx rfl (hb hby at_2) rfl ?_
    refine sg2 _ ?_
    show Steps p.tables e below (s₁.setTop (mkF m 11 #[.val (.int p0), .val (.int p1), .val (.int p2), .unset, .unset, .unset, .unset, .unset, .unset, .unset, .unset] [(.int r1)])) _
    refine XS.istoreN X0.here hx rfl (hb hby at_11) rfl (l' := #[.val (.int p0), .val (.int p1), .val (.int p2), .val (.int r1), .unset, .unset, .unset, .unset, .unset, .unset, .unset]) rfl ?_
    show Steps p.tables e below (s₁.setTop (mkF m 12 #[.val (.int p0), .val (.int p1), .val (.int p2), .val (.int r1), .unset, .unset, .unset, .unset, .unset, .unset, .unset] [])) _
    refine XS.iloadN X0.here hx rfl (hb hby at_12) rfl ?_
    show Steps p.tables e below (s₁.setTop (mkF m 13 #[.val (.int p0), .val (.int p1), .val (.int p2), .val (.int r1), .unset, .unset, .unset, .unset, .unset, .unset, .unset] [(.int p0)])) _
    refine XS.iconst X0.here hx rfl (hb hby at_13) ?_
    show Steps p.tables e below (s₁.setTop (mkF m 14 #[.val (.int p0), .val (.int p1), .val (.int p2), .val (.int r1), .unset, .unset, .unset, .unset, .unset, .unset, .unset] [(.int (2 : Int32)), (.int p0)])) _
    refine XS.iand X0.here hx rfl (hb hby at_14) rfl ?_
    refine sg4 _ ?_
    show Steps p.tables e below (s₁.setTop (mkF m 23 #[.val (.int p0), .val (.int p1), .val (.int p2), .val (.int r1), .unset, .unset, .unset, .unset, .unset, .unset, .unset] [(.int j1)])) _
    refine XS.istore X0.here hx rfl (hb hby at_23) rfl (l' := #[.val (.int p0), .val (.int p1), .val (.int p2), .val (.int r1), .val (.int j1), .unset, .unset, .unset, .unset, .unset, .unset]) rfl ?_
    show Steps p.tables e below (s₁.setTop (mkF m 25 #[.val (.int p0), .val (.int p1), .val (.int p2), .val (.int r1), .val (.int j1), .unset, .unset, .unset, .unset, .unset, .unset] [])) _
    refine XS.iloadN X0.here hx rfl (hb hby at_25) rfl ?_
    show Steps p.tables e below (s₁.setTop (mkF m 26 #[.val (.int p0), .val (.int p1), .val (.int p2), .val (.int r1), .val (.int j1), .unset, .unset, .unset, .unset, .unset, .unset] [(.int p1)])) _
    refine XS.iconst X0.here hx rfl (hb hby at_26) ?_
    show Steps p.tables e below (s₁.setTop (mkF m 27 #[.val (.int p0), .val (.int p1), .val (.int p2), .val (.int r1), .val (.int j1), .unset, .unset, .unset, .unset, .unset, .unset] [(.int (1 : Int32)), (.int p1)])) _
    refine XS.iand X0.here hx rfl (hb hby at_27) rfl ?_
    refine sg6 _ ?_
    show Steps p.tables e below (s₁.setTop (mkF m 36 #[.val (.int p0), .val (.int p1), .val (.int p2), .val (.int r1), .val (.int j1), .unset, .unset, .unset, .unset, .unset, .unset] [(.int r2)])) _
    refine XS.istore X0.here hx rfl (hb hby at_36) rfl (l' := #[.val (.int p0), .val (.int p1), .val (.int p2), .val (.int r1), .val (.int j1), .val (.int r2), .unset, .unset, .unset, .unset, .unset]) rfl ?_
    show Steps p.tables e below (s₁.setTop (mkF m 38 #[.val (.int p0), .val (.int p1), .val (.int p2), .val (.int r1), .val (.int j1), .val (.int r2), .unset, .unset, .unset, .unset, .unset] [])) _
    refine XS.iloadN X0.here hx rfl (hb hby at_38) rfl ?_
    show Steps p.tables e below (s₁.setTop (mkF m 39 #[.val (.int p0), .val (.int p1), .val (.int p2), .val (.int r1), .val (.int j1), .val (.int r2), .unset, .unset, .unset, .unset, .unset] [(.int p1)])) _
    refine XS.iconst X0.here hx rfl (hb hby at_39) ?_
    show Steps p.tables e below (s₁.setTop (mkF m 40 #[.val (.int p0), .val (.int p1), .val (.int p2), .val (.int r1), .val (.int j1), .val (.int r2), .unset, .unset, .unset, .unset, .unset] [(.int (2 : Int32)), (.int p1)])) _
    refine XS.iand X0.here hx rfl (hb hby at_40) rfl ?_
    refine sg8 _ ?_
    show Steps p.tables e below (s₁.setTop (mkF m 49 #[.val (.int p0), .val (.int p1), .val (.int p2), .val (.int r1), .val (.int j1), .val (.int r2), .unset, .unset, .unset, .unset, .unset] [(.int j2)])) _
    refine XS.istore X0.here hx rfl (hb hby at_49) rfl (l' := #[.val (.int p0), .val (.int p1), .val (.int p2), .val (.int r1), .val (.int j1), .val (.int r2), .val (.int j2), .unset, .unset, .unset, .unset]) rfl ?_
    show Steps p.tables e below (s₁.setTop (mkF m 51 #[.val (.int p0), .val (.int p1), .val (.int p2), .val (.int r1), .val (.int j1), .val (.int r2), .val (.int j2), .unset, .unset, .unset, .unset] [])) _
    refine st9 _ ?_
    show Steps p.tables e below (T9.setTop (mkF m 54 #[.val (.int p0), .val (.int p1), .val (.int p2), .val (.int r1), .val (.int j1), .val (.int r2), .val (.int j2), .unset, .unset, .unset, .unset] [(.ref b9)])) _
    refine XS.dup X9.here hx rfl (hb hby at_54) rfl rfl ?_
    show Steps p.tables e below (T9.setTop (mkF m 55 #[.val (.int p0), .val (.int p1), .val (.int p2), .val (.int r1), .val (.int j1), .val (.int r2), .val (.int j2), .unset, .unset, .unset, .unset] [(.ref b9), (.ref b9)])) _
    refine XS.iloadN X9.here hx rfl (hb hby at_55) rfl ?_
    show Steps p.tables e below (T9.setTop (mkF m 56 #[.val (.int p0), .val (.int p1), .val (.int p2), .val (.int r1), .val (.int j1), .val (.int r2), .val (.int j2), .unset, .unset, .unset, .unset] [(.int r1), (.ref b9), (.ref b9)])) _
    refine XS.iload X9.here hx rfl (hb hby at_56) rfl ?_
    show Steps p.tables e below (T9.setTop (mkF m 58 #[.val (.int p0), .val (.int p1), .val (.int p2), .val (.int r1), .val (.int j1), .val (.int r2), .val (.int j2), .unset, .unset, .unset, .unset] [(.int j1), (.int r1), (.ref b9), (.ref b9)])) _
    refine st11.trans ?_
    show Steps p.tables e below (T11.setTop (mkF m 61 #[.val (.int p0), .val (.int p1), .val (.int p2), .val (.int r1), .val (.int j1), .val (.int r2), .val (.int j2), .unset, .unset, .unset, .unset] [(.ref b9)])) _
    refine XS.astore X11.here hx rfl (hb hby at_61) rfl rfl (l' := #[.val (.int p0), .val (.int p1), .val (.int p2), .val (.int r1), .val (.int j1), .val (.int r2), .val (.int j2), .val (.ref b9), .unset, .unset, .unset]) rfl ?_
    show Steps p.tables e below (T11.setTop (mkF m 63 #[.val (.int p0), .val (.int p1), .val (.int p2), .val (.int r1), .val (.int j1), .val (.int r2), .val (.int j2), .val (.ref b9), .unset, .unset, .unset] [])) _
    refine st13 _ ?_
    show Steps p.tables e below (T13.setTop (mkF m 66 #[.val (.int p0), .val (.int p1), .val (.int p2), .val (.int r1), .val (.int j1), .val (.int r2), .val (.int j2), .val (.ref b9), .unset, .unset, .unset] [(.ref b13)])) _
    refine XS.dup X13.here hx rfl (hb hby at_66) rfl rfl ?_
    show Steps p.tables e below (T13.setTop (mkF m 67 #[.val (.int p0), .val (.int p1), .val (.int p2), .val (.int r1), .val (.int j1), .val (.int r2), .val (.int j2), .val (.ref b9), .unset, .unset, .unset] [(.ref b13), (.ref b13)])) _
    refine XS.iload X13.here hx rfl (hb hby at_67) rfl ?_
    show Steps p.tables e below (T13.setTop (mkF m 69 #[.val (.int p0), .val (.int p1), .val (.int p2), .val (.int r1), .val (.int j1), .val (.int r2), .val (.int j2), .val (.ref b9), .unset, .unset, .unset] [(.int r2), (.ref b13), (.ref b13)])) _
    refine XS.iload X13.here hx rfl (hb hby at_69) rfl ?_
    show Steps p.tables e below (T13.setTop (mkF m 71 #[.val (.int p0), .val (.int p1), .val (.int p2), .val (.int r1), .val (.int j1), .val (.int r2), .val (.int j2), .val (.ref b9), .unset, .unset, .unset] [(.int j2), (.int r2), (.ref b13), (.ref b13)])) _
    refine st15.trans ?_
    show Steps p.tables e below (T15.setTop (mkF m 74 #[.val (.int p0), .val (.int p1), .val (.int p2), .val (.int r1), .val (.int j1), .val (.int r2), .val (.int j2), .val (.ref b9), .unset, .unset, .unset] [(.ref b13)])) _
    refine XS.astore X15.here hx rfl (hb hby at_74) rfl rfl (l' := #[.val (.int p0), .val (.int p1), .val (.int p2), .val (.int r1), .val (.int j1), .val (.int r2), .val (.int j2), .val (.ref b9), .val (.ref b13), .unset, .unset]) rfl ?_
    show Steps p.tables e below (T15.setTop (mkF m 76 #[.val (.int p0), .val (.int p1), .val (.int p2), .val (.int r1), .val (.int j1), .val (.int r2), .val (.int j2), .val (.ref b9), .val (.ref b13), .unset, .unset] [])) _
    refine XS.iloadN X15.here hx rfl (hb hby at_76) rfl ?_
    show Steps p.tables e below (T15.setTop (mkF m 77 #[.val (.int p0), .val (.int p1), .val (.int p2), .val (.int r1), .val (.int j1), .val (.int r2), .val (.int j2), .val (.ref b9), .val (.ref b13), .unset, .unset] [(.int p2)])) _
    refine XS.iconst X15.here hx rfl (hb hby at_77) ?_
    show Steps p.tables e below (T15.setTop (mkF m 78 #[.val (.int p0), .val (.int p1), .val (.int p2), .val (.int r1), .val (.int j1), .val (.int r2), .val (.int j2), .val (.ref b9), .val (.ref b13), .unset, .unset] [(.int (3 : Int32)), (.int p2)])) _
    refine XS.iand X15.here hx rfl (hb hby at_78) rfl ?_
    show Steps p.tables e below (T15.setTop (mkF m 79 #[.val (.int p0), .val (.int p1), .val (.int p2), .val (.int r1), .val (.int j1), .val (.int r2), .val (.int j2), .val (.ref b9), .val (.ref b13), .unset, .unset] [(.int (p2 &&& (3 : Int32)))])) _
    rw [k4]
    show Steps p.tables e below (T15.setTop (mkF m 79 #[.val (.int p0), .val (.int p1), .val (.int p2), .val (.int r1), .val (.int j1), .val (.int r2), .val (.int j2), .val (.ref b9), .val (.ref b13), .unset, .unset] [(.int (2 : Int32))])) _
    refine XS.istore X15.here hx rfl (hb hby at_79) rfl (l' := #[.val (.int p0), .val (.int p1), .val (.int p2), .val (.int r1), .val (.int j1), .val (.int r2), .val (.int j2), .val (.ref b9), .val (.ref b13), .val (.int (2 : Int32)), .unset]) rfl ?_
    show Steps p.tables e below (T15.setTop (mkF m 81 #[.val (.int p0), .val (.int p1), .val (.int p2), .val (.int r1), .val (.int j1), .val (.int r2), .val (.int j2), .val (.ref b9), .val (.ref b13), .val (.int (2 : Int32)), .unset] [])) _
    refine XS.iload X15.here hx rfl (hb hby at_81) rfl ?_
    show Steps p.tables e below (T15.setTop (mkF m 83 #[.val (.int p0), .val (.int p1), .val (.int p2), .val (.int r1), .val (.int j1), .val (.int r2), .val (.int j2), .val (.ref b9), .val (.ref b13), .val (.int (2 : Int32)), .unset] [(.int (2 : Int32))])) _
    refine XS.ifYes X15.here hx rfl (pc0 := 83) (pc' := 136) rfl (hb hby at_83) rfl (by decide) (by decide) (by decide) ?_
    show Steps p.tables e below (T15.setTop (mkF m 136 #[.val (.int p0), .val (.int p1), .val (.int p2), .val (.int r1), .val (.int j1), .val (.int r2), .val (.int j2), .val (.ref b9), .val (.ref b13), .val (.int (2 : Int32)), .unset] [])) _
    refine XS.iload X15.here hx rfl (hb hby at_136) rfl ?_
    show Steps p.tables e below (T15.setTop (mkF m 138 #[.val (.int p0), .val (.int p1), .val (.int p2), .val (.int r1), .val (.int j1), .val (.int r2), .val (.int j2), .val (.ref b9), .val (.ref b13), .val (.int (2 : Int32)), .unset] [(.int (2 : Int32))])) _
    refine XS.iconst X15.here hx rfl (hb hby at_138) ?_
    show Steps p.tables e below (T15.setTop (mkF m 139 #[.val (.int p0), .val (.int p1), .val (.int p2), .val (.int r1), .val (.int j1), .val (.int r2), .val (.int j2), .val (.ref b9), .val (.ref b13), .val (.int (2 : Int32)), .unset] [(.int (1 : Int32)), (.int (2 : Int32))])) _
    refine XS.icmpYes X15.here hx rfl (pc0 := 139) (pc' := 161) rfl (hb hby at_139) rfl (by decide) (by decide) (by decide) ?_
    show Steps p.tables e below (T15.setTop (mkF m 161 #[.val (.int p0), .val (.int p1), .val (.int p2), .val (.int r1), .val (.int j1), .val (.int r2), .val (.int j2), .val (.ref b9), .val (.ref b13), .val (.int (2 : Int32)), .unset] [])) _
    refine XS.iload X15.here hx rfl (hb hby at_161) rfl ?_
    show Steps p.tables e below (T15.setTop (mkF m 163 #[.val (.int p0), .val (.int p1), .val (.int p2), .val (.int r1), .val (.int j1), .val (.int r2), .val (.int j2), .val (.ref b9), .val (.ref b13), .val (.int (2 : Int32)), .unset] [(.int (2 : Int32))])) _
    refine XS.iconst X15.here hx rfl (hb hby at_163) ?_
    show Steps p.tables e below (T15.setTop (mkF m 164 #[.val (.int p0), .val (.int p1), .val (.int p2), .val (.int r1), .val (.int j1), .val (.int r2), .val (.int j2), .val (.ref b9), .val (.ref b13), .val (.int (2 : Int32)), .unset] [(.int (2 : Int32)), (.int (2 : Int32))])) _
    refine XS.icmpNo X15.here hx rfl (hb hby at_164) rfl (by decide) ?_
    show Steps p.tables e below (T15.setTop (mkF m 167 #[.val (.int p0), .val (.int p1), .val (.int p2), .val (.int r1), .val (.int j1), .val (.int r2), .val (.int j2), .val (.ref b9), .val (.ref b13), .val (.int (2 : Int32)), .unset] [])) _
    refine XS.iloadN X15.here hx rfl (hb hby at_167) rfl ?_
    show Steps p.tables e below (T15.setTop (mkF m 168 #[.val (.int p0), .val (.int p1), .val (.int p2), .val (.int r1), .val (.int j1), .val (.int r2), .val (.int j2), .val (.ref b9), .val (.ref b13), .val (.int (2 : Int32)), .unset] [(.int p2)])) _
    refine st17 _ ?_
    show Steps p.tables e below (T17.setTop (mkF m 171 #[.val (.int p0), .val (.int p1), .val (.int p2), .val (.int r1), .val (.int j1), .val (.int r2), .val (.int j2), .val (.ref b9), .val (.ref b13), .val (.int (2 : Int32)), .unset] [(.ref w17_0)])) _
    refine XS.astore X17.here hx rfl (hb hby at_171) rfl rfl (l' := #[.val (.int p0), .val (.int p1), .val (.int p2), .val (.int r1), .val (.int j1), .val (.int r2), .val (.int j2), .val (.ref b9), .val (.ref b13), .val (.int (2 : Int32)), .val (.ref w17_0)]) rfl ?_
    show Steps p.tables e below (T17.setTop (mkF m 173 #[.val (.int p0), .val (.int p1), .val (.int p2), .val (.int r1), .val (.int j1), .val (.int r2), .val (.int j2), .val (.ref b9), .val (.ref b13), .val (.int (2 : Int32)), .val (.ref w17_0)] [])) _
    refine XS.aload X17.here hx rfl (hb hby at_173) rfl rfl ?_
    show Steps p.tables e below (T17.setTop (mkF m 175 #[.val (.int p0), .val (.int p1), .val (.int p2), .val (.int r1), .val (.int j1), .val (.int r2), .val (.int j2), .val (.ref b9), .val (.ref b13), .val (.int (2 : Int32)), .val (.ref w17_0)] [(.ref b9)])) _
    refine XS.aload X17.here hx rfl (hb hby at_175) rfl rfl ?_
    show Steps p.tables e below (T17.setTop (mkF m 177 #[.val (.int p0), .val (.int p1), .val (.int p2), .val (.int r1), .val (.int j1), .val (.int r2), .val (.int j2), .val (.ref b9), .val (.ref b13), .val (.int (2 : Int32)), .val (.ref w17_0)] [(.ref w17_0), (.ref b9)])) _
    refine st19.trans ?_
    show Steps p.tables e below (T19.setTop (mkF m 180 #[.val (.int p0), .val (.int p1), .val (.int p2), .val (.int r1), .val (.int j1), .val (.int r2), .val (.int j2), .val (.ref b9), .val (.ref b13), .val (.int (2 : Int32)), .val (.ref w17_0)] [(.int (0 : Int32))])) _
    refine XS.ifNo X19.here hx rfl (hb hby at_180) rfl (by decide) ?_
    show Steps p.tables e below (T19.setTop (mkF m 183 #[.val (.int p0), .val (.int p1), .val (.int p2), .val (.int r1), .val (.int j1), .val (.int r2), .val (.int j2), .val (.ref b9), .val (.ref b13), .val (.int (2 : Int32)), .val (.ref w17_0)] [])) _
    refine XS.iconst X19.here hx rfl (hb hby at_183) ?_
    show Steps p.tables e below (T19.setTop (mkF m 184 #[.val (.int p0), .val (.int p1), .val (.int p2), .val (.int r1), .val (.int j1), .val (.int r2), .val (.int j2), .val (.ref b9), .val (.ref b13), .val (.int (2 : Int32)), .val (.ref w17_0)] [(.int (1 : Int32))])) _
    refine XS.goto X19.here hx rfl (pc0 := 184) (pc' := 188) rfl (hb hby at_184) (by decide) (by decide) ?_
    show Steps p.tables e below (T19.setTop (mkF m 188 #[.val (.int p0), .val (.int p1), .val (.int p2), .val (.int r1), .val (.int j1), .val (.int r2), .val (.int j2), .val (.ref b9), .val (.ref b13), .val (.int (2 : Int32)), .val (.ref w17_0)] [(.int (1 : Int32))])) _
    exact retN X19 hx (t := .boolean) Bd.returns (by simp) (hb hby at_188) hr
  · show Qrm0_6 Z w_cache cl_cache p0 p1 p2 r1 j1 r2 j2 h0 n0 _ T19.heap _
    rw [e19]
    exact ⟨rfl, N19, Ks16⟩
def Qrm4_22 (Z : State) (w_cache : Addr) (cl_cache : Cell) (x1 : Addr) (i2 : Int32) (i3 : Int32) (h0 : Heap) (n0 : Nat) (v : Option Value) (h : Heap) (L : List Loc) : Prop := v = some (.int (1 : Int32)) ∧ Fr n0 L ∧ h = h0
set_option maxRecDepth 65536 in
set_option maxHeartbeats 40000000 in
theorem rm4_22 (l : Launch) (Z : State) (a0 : Array Value) (hw : ∀ d ∈ tables_1, d.before a0 Z = true) (ws : List Jvm.Cond) (w_cache : Addr) (cl_cache : Cell) (x1 : Addr) (i2 : Int32) (i3 : Int32) (h0 : Heap) (n0 : Nat) (O0 : Old Z n0 h0) (P : Pins Z w_cache cl_cache) (E_x1 : Exa Z h0 x1 "com/example/demarc/demarc/ApplicationExceptions$Designation") (F_x1_rollback : Fld Z h0 x1 "com/example/demarc/demarc/ApplicationExceptions$Designation" "rollback" "Z" (.int i2)) (F_x1_inherited : Fld Z h0 x1 "com/example/demarc/demarc/ApplicationExceptions$Designation" "inherited" "Z" (.int i3)) :
    MetFree l (⟨"com/example/demarc/demarc/ApplicationExceptions$Designation", "equals", "(Ljava/lang/Object;)Z"⟩ : MethodName) (head1 (Jvm.Cond.code (⟨"com/example/demarc/demarc/ApplicationExceptions$Designation", "equals", "(Ljava/lang/Object;)Z"⟩ : MethodName) prog_2_method_2_code 2 (some .boolean) :: ws) ({ frames := 0, cells := 0, slots := 0, locals := 0 } : Room)) (fun a U => a = #[(.ref x1), (.ref x1)] ∧ Z.Warmed39 U.vm ∧ U.heap = h0) (fun _ _ _ _ _ => True) (fun _ U o U' => ∃ v L, o = .returned v ∧ Qrm4_22 Z w_cache cl_cache x1 i2 i3 h0 n0 v U'.heap L ∧ FrameEnd U o U' L ({ frames := 0, cells := 0, slots := 0, locals := 0 } : Room).cells ({ frames := 0, cells := 0, slots := 0, locals := 0 } : Room).slots) := by
  refine MetFree.of_bodySF (plainFor_of_name pn_com_example_demarc_demarc_ApplicationExceptions_Designation) hisR ?_
  intro p e s m args below meth c s₁ Bd hml0 hP hK
  obtain ⟨rfl, hZ, hh⟩ := hP
  have hx := Bd.exec
  have hby := Bd.bytes
  have hml : c.maxLocals = 2 := hml0
  have hown : s.vm.findClass "com/example/demarc/demarc/ApplicationExceptions$Designation" = some m.cls := findClass_of_methodNamed Bd.named
  have hnm := (name_of_methodNamed Bd.named Bd.method).1
  have X0 : Stand p l e ({ frames := 0, cells := 0, slots := 0, locals := 0 } : Room) s m #[(.ref x1), (.ref x1)] below meth c s₁ [] 0 0 := Stand.of_body Bd
  have e0 : s₁.heap = h0 := by rw [← hh, Bd.state]; rfl
  have N0 := Fr.nil n0
  have Z0 : n0 ≤ h0.size := O0.1 ▸ O0.2.1
  have pre0 : ∀ t, Steps p.tables e below (s₁.setTop (mkF m 0 #[.val (.ref x1), .val (.ref x1)] [])) t → Steps p.tables e below (s₁.setTop (entryFrame m #[(.ref x1), (.ref x1)] 2)) t := fun t k => castTop (ef_4_RR m x1 x1) k
  obtain ⟨T1, X1, e1, st1⟩ := instY X0 hx hZ hown (hw _ (List.mem_of_getElem? (i := 25) rfl)) e0 (Ins.self E_x1) (g := (mkF m 1 #[.val (.ref x1), .val (.ref x1)] [(.ref x1)])) rfl rfl (hb hby d4_1)
  obtain ⟨T2, X2, e2, st2⟩ := castY X1 hx hZ hown (hw _ (List.mem_of_getElem? (i := 25) rfl)) e1 (Ins.self E_x1) (g := (mkF m 8 #[.val (.ref x1), .val (.ref x1)] [(.ref x1)])) rfl rfl (hb hby d4_8)
  obtain ⟨T3, X3, e3, st3⟩ := getF X2 hx hZ hown (host := "") (Or.inl (hw _ (List.mem_of_getElem? (i := 9) rfl))) Via.refl e2 F_x1_rollback (g := (mkF m 11 #[.val (.ref x1), .val (.ref x1)] [(.ref x1)])) rfl rfl (hb hby d4_11)
  obtain ⟨T4, X4, e4, st4⟩ := getF X3 hx hZ hown (host := "") (Or.inl (hw _ (List.mem_of_getElem? (i := 9) rfl))) Via.refl e3 F_x1_rollback (g := (mkF m 15 #[.val (.ref x1), .val (.ref x1)] [(.ref x1), (.int i2)])) rfl rfl (hb hby d4_15)
  obtain ⟨T5, X5, e5, st5⟩ := castY X4 hx hZ hown (hw _ (List.mem_of_getElem? (i := 25) rfl)) e4 (Ins.self E_x1) (g := (mkF m 22 #[.val (.ref x1), .val (.ref x1)] [(.ref x1)])) rfl rfl (hb hby d4_22)
  obtain ⟨T6, X6, e6, st6⟩ := getF X5 hx hZ hown (host := "") (Or.inl (hw _ (List.mem_of_getElem? (i := 11) rfl))) Via.refl e5 F_x1_inherited (g := (mkF m 25 #[.val (.ref x1), .val (.ref x1)] [(.ref x1)])) rfl rfl (hb hby d4_25)
  obtain ⟨T7, X7, e7, st7⟩ := getF X6 hx hZ hown (host := "") (Or.inl (hw _ (List.mem_of_getElem? (i := 11) rfl))) Via.refl e6 F_x1_inherited (g := (mkF m 29 #[.val (.ref x1), .val (.ref x1)] [(.ref x1), (.int i3)])) rfl rfl (hb hby d4_29)
  obtain ⟨fs, hr, hrun, hended, hW, hsame⟩ := X7.leave (v := some (.int (1 : Int32))) (fun h => by rw [Bd.returns] at h; cases h)
  refine ⟨_, _, pre0 _ ?_, hrun, hended, _, _, rfl, ?_, ⟨_, rfl⟩, hW, hsame.mono (by decide) (by decide)⟩
  · show Steps p.tables e below (s₁.setTop (mkF m 0 #[.val (.ref x1), .val (.ref x1)] [])) _
    refine XS.aloadN X0.here hx rfl (hb hby d4_0) rfl rfl ?_
    show Steps p.tables e below (s₁.setTop (mkF m 1 #[.val (.ref x1), .val (.ref x1)] [(.ref x1)])) _
    refine st1 _ ?_
    show Steps p.tables e below (T1.setTop (mkF m 4 #[.val (.ref x1), .val (.ref x1)] [(.int (1 : Int32))])) _
    refine XS.ifNo X1.here hx rfl (hb hby d4_4) rfl (by decide) ?_
    show Steps p.tables e below (T1.setTop (mkF m 7 #[.val (.ref x1), .val (.ref x1)] [])) _
    refine XS.aloadN X1.here hx rfl (hb hby d4_7) rfl rfl ?_
    show Steps p.tables e below (T1.setTop (mkF m 8 #[.val (.ref x1), .val (.ref x1)] [(.ref x1)])) _
    refine st2 _ ?_
    show Steps p.tables e below (T2.setTop (mkF m 11 #[.val (.ref x1), .val (.ref x1)] [(.ref x1)])) _
    refine st3 _ ?_
    show Steps p.tables e below (T3.setTop (mkF m 14 #[.val (.ref x1), .val (.ref x1)] [(.int i2)])) _
    refine XS.aloadN X3.here hx rfl (hb hby d4_14) rfl rfl ?_
    show Steps p.tables e below (T3.setTop (mkF m 15 #[.val (.ref x1), .val (.ref x1)] [(.ref x1), (.int i2)])) _
    refine st4 _ ?_
    show Steps p.tables e below (T4.setTop (mkF m 18 #[.val (.ref x1), .val (.ref x1)] [(.int i2), (.int i2)])) _
    refine XS.icmpNo X4.here hx rfl (hb hby d4_18) rfl (teq (rfl : i2 = i2)).2 ?_
    show Steps p.tables e below (T4.setTop (mkF m 21 #[.val (.ref x1), .val (.ref x1)] [])) _
    refine XS.aloadN X4.here hx rfl (hb hby d4_21) rfl rfl ?_
    show Steps p.tables e below (T4.setTop (mkF m 22 #[.val (.ref x1), .val (.ref x1)] [(.ref x1)])) _
    refine st5 _ ?_
    show Steps p.tables e below (T5.setTop (mkF m 25 #[.val (.ref x1), .val (.ref x1)] [(.ref x1)])) _
    refine st6 _ ?_
    show Steps p.tables e below (T6.setTop (mkF m 28 #[.val (.ref x1), .val (.ref x1)] [(.int i3)])) _
    refine XS.aloadN X6.here hx rfl (hb hby d4_28) rfl rfl ?_
    show Steps p.tables e below (T6.setTop (mkF m 29 #[.val (.ref x1), .val (.ref x1)] [(.ref x1), (.int i3)])) _
    refine st7 _ ?_
    show Steps p.tables e below (T7.setTop (mkF m 32 #[.val (.ref x1), .val (.ref x1)] [(.int i3), (.int i3)])) _
    refine XS.icmpNo X7.here hx rfl (hb hby d4_32) rfl (teq (rfl : i3 = i3)).2 ?_
    show Steps p.tables e below (T7.setTop (mkF m 35 #[.val (.ref x1), .val (.ref x1)] [])) _
    refine XS.iconst X7.here hx rfl (hb hby d4_35) ?_
    show Steps p.tables e below (T7.setTop (mkF m 36 #[.val (.ref x1), .val (.ref x1)] [(.int (1 : Int32))])) _
    refine XS.goto X7.here hx rfl (pc0 := 36) (pc' := 40) rfl (hb hby d4_36) (by decide) (by decide) ?_
    show Steps p.tables e below (T7.setTop (mkF m 40 #[.val (.ref x1), .val (.ref x1)] [(.int (1 : Int32))])) _
    exact retN X7 hx (t := .boolean) Bd.returns (by simp) (hb hby d4_40) hr
  · exact ⟨rfl, N0, e7⟩
def Qrm0_7 (Z : State) (w_cache : Addr) (cl_cache : Cell) (p0 : Int32) (p1 : Int32) (p2 : Int32) (r1 : Int32) (j1 : Int32) (r2 : Int32) (j2 : Int32) (h0 : Heap) (n0 : Nat) (v : Option Value) (h : Heap) (L : List Loc) : Prop := v = some (.int (1 : Int32)) ∧ Fr n0 L ∧ Keep h0 h []
set_option maxRecDepth 65536 in
set_option maxHeartbeats 40000000 in
theorem rm0_7 (l : Launch) (Z : State) (a0 : Array Value) (hw : ∀ d ∈ tables_1, d.before a0 Z = true) (ws : List Jvm.Cond) (w_cache : Addr) (cl_cache : Cell) (p0 : Int32) (p1 : Int32) (p2 : Int32) (r1 : Int32) (j1 : Int32) (r2 : Int32) (j2 : Int32) (h0 : Heap) (n0 : Nat) (O0 : Old Z n0 h0) (P : Pins Z w_cache cl_cache) (hr1 : r1 = (if (p0 &&& (1 : Int32)) = (0 : Int32) then (0 : Int32) else (1 : Int32))) (hj1 : j1 = (if (p0 &&& (2 : Int32)) = (0 : Int32) then (0 : Int32) else (1 : Int32))) (hr2 : r2 = (if (p1 &&& (1 : Int32)) = (0 : Int32) then (0 : Int32) else (1 : Int32))) (hj2 : j2 = (if (p1 &&& (2 : Int32)) = (0 : Int32) then (0 : Int32) else (1 : Int32))) (k4 : (p2 &&& (3 : Int32)) = (3 : Int32)) :
    MetFree l x (head1 (Jvm.Cond.code x code maxLocals ret :: ws) room_1) (fun a U => a = #[(.int p0), (.int p1), (.int p2)] ∧ Z.Warmed39 U.vm ∧ U.heap = h0) (fun _ _ _ _ _ => True) (fun _ U o U' => ∃ v L, o = .returned v ∧ Qrm0_7 Z w_cache cl_cache p0 p1 p2 r1 j1 r2 j2 h0 n0 v U'.heap L ∧ FrameEnd U o U' L room_1.cells room_1.slots) := by
  refine MetFree.of_bodySF (plainFor_of_name pn_com_example_demarc_demarc_DesignationEqualsPinLaw) hisR ?_
  intro p e s m args below meth c s₁ Bd hml0 hP hK
  obtain ⟨rfl, hZ, hh⟩ := hP
  have hx := Bd.exec
  have hby := Bd.bytes
  have hml : c.maxLocals = 11 := hml0
  have hown : s.vm.findClass "com/example/demarc/demarc/DesignationEqualsPinLaw" = some m.cls := findClass_of_methodNamed Bd.named
  have hnm := (name_of_methodNamed Bd.named Bd.method).1
  have X0 : Stand p l e room_1 s m #[(.int p0), (.int p1), (.int p2)] below meth c s₁ [] 0 0 := Stand.of_body Bd
  have e0 : s₁.heap = h0 := by rw [← hh, Bd.state]; rfl
  have N0 := Fr.nil n0
  have Z0 : n0 ≤ h0.size := O0.1 ▸ O0.2.1
  have pre0 : ∀ t, Steps p.tables e below (s₁.setTop (mkF m 0 #[.val (.int p0), .val (.int p1), .val (.int p2), .unset, .unset, .unset, .unset, .unset, .unset, .unset, .unset] [])) t → Steps p.tables e below (s₁.setTop (entryFrame m #[(.int p0), (.int p1), (.int p2)] maxLocals)) t := fun t k => castTop (ef_0_III m p0 p1 p2) k
  have Kr : Keep h0 h0 [] := Keep.refl h0 _
  have hb_r1 : r1 = (0 : Int32) ∨ r1 = (1 : Int32) := by rw [hr1]; (repeat' split) <;> simp
  have sg2 : ∀ t, Steps p.tables e below (s₁.setTop (mkF m 11 #[.val (.int p0), .val (.int p1), .val (.int p2), .unset, .unset, .unset, .unset, .unset, .unset, .unset, .unset] [(.int r1)])) t → Steps p.tables e below (s₁.setTop (mkF m 3 #[.val (.int p0), .val (.int p1), .val (.int p2), .unset, .unset, .unset, .unset, .unset, .unset, .unset, .unset] [(.int (p0 &&& (1 : Int32)))])) t := by
    intro t kt
    show Steps p.tables e below (s₁.setTop (mkF m 3 #[.val (.int p0), .val (.int p1), .val (.int p2), .unset, .unset, .unset, .unset, .unset, .unset, .unset, .unset] [(.int (p0 &&& (1 : Int32)))])) _
    by_cases q1 : (p0 &&& (1 : Int32)) = (0 : Int32)
    · refine XS.ifYes X0.here hx rfl (pc0 := 3) (pc' := 10) rfl (hb hby at_3) rfl ((if0 _ _).trans (teq q1).1) (by decide) (by decide) ?_
      show Steps p.tables e below (s₁.setTop (mkF m 10 #[.val (.int p0), .val (.int p1), .val (.int p2), .unset, .unset, .unset, .unset, .unset, .unset, .unset, .unset] [])) _
      refine XS.iconst X0.here hx rfl (hb hby at_10) ?_
      rw [show r1 = (0 : Int32) from hr1.trans (if_pos q1)] at kt
      exact kt
    · refine XS.ifNo X0.here hx rfl (hb hby at_3) rfl ((if0 _ _).trans (feq q1).1) ?_
      show Steps p.tables e below (s₁.setTop (mkF m 6 #[.val (.int p0), .val (.int p1), .val (.int p2), .unset, .unset, .unset, .unset, .unset, .unset, .unset, .unset] [])) _
      refine XS.iconst X0.here hx rfl (hb hby at_6) ?_
      show Steps p.tables e below (s₁.setTop (mkF m 7 #[.val (.int p0), .val (.int p1), .val (.int p2), .unset, .unset, .unset, .unset, .unset, .unset, .unset, .unset] [(.int (1 : Int32))])) _
      refine XS.goto X0.here hx rfl (pc0 := 7) (pc' := 11) rfl (hb hby at_7) (by decide) (by decide) ?_
      rw [show r1 = (1 : Int32) from hr1.trans (if_neg q1)] at kt
      exact kt
  have hb_j1 : j1 = (0 : Int32) ∨ j1 = (1 : Int32) := by rw [hj1]; (repeat' split) <;> simp
  have sg4 : ∀ t, Steps p.tables e below (s₁.setTop (mkF m 23 #[.val (.int p0), .val (.int p1), .val (.int p2), .val (.int r1), .unset, .unset, .unset, .unset, .unset, .unset, .unset] [(.int j1)])) t → Steps p.tables e below (s₁.setTop (mkF m 15 #[.val (.int p0), .val (.int p1), .val (.int p2), .val (.int r1), .unset, .unset, .unset, .unset, .unset, .unset, .unset] [(.int (p0 &&& (2 : Int32)))])) t := by
    intro t kt
    show Steps p.tables e below (s₁.setTop (mkF m 15 #[.val (.int p0), .val (.int p1), .val (.int p2), .val (.int r1), .unset, .unset, .unset, .unset, .unset, .unset, .unset] [(.int (p0 &&& (2 : Int32)))])) _
    by_cases q3 : (p0 &&& (2 : Int32)) = (0 : Int32)
    · refine XS.ifYes X0.here hx rfl (pc0 := 15) (pc' := 22) rfl (hb hby at_15) rfl ((if0 _ _).trans (teq q3).1) (by decide) (by decide) ?_
      show Steps p.tables e below (s₁.setTop (mkF m 22 #[.val (.int p0), .val (.int p1), .val (.int p2), .val (.int r1), .unset, .unset, .unset, .unset, .unset, .unset, .unset] [])) _
      refine XS.iconst X0.here hx rfl (hb hby at_22) ?_
      rw [show j1 = (0 : Int32) from hj1.trans (if_pos q3)] at kt
      exact kt
    · refine XS.ifNo X0.here hx rfl (hb hby at_15) rfl ((if0 _ _).trans (feq q3).1) ?_
      show Steps p.tables e below (s₁.setTop (mkF m 18 #[.val (.int p0), .val (.int p1), .val (.int p2), .val (.int r1), .unset, .unset, .unset, .unset, .unset, .unset, .unset] [])) _
      refine XS.iconst X0.here hx rfl (hb hby at_18) ?_
      show Steps p.tables e below (s₁.setTop (mkF m 19 #[.val (.int p0), .val (.int p1), .val (.int p2), .val (.int r1), .unset, .unset, .unset, .unset, .unset, .unset, .unset] [(.int (1 : Int32))])) _
      refine XS.goto X0.here hx rfl (pc0 := 19) (pc' := 23) rfl (hb hby at_19) (by decide) (by decide) ?_
      rw [show j1 = (1 : Int32) from hj1.trans (if_neg q3)] at kt
      exact kt
  have hb_r2 : r2 = (0 : Int32) ∨ r2 = (1 : Int32) := by rw [hr2]; (repeat' split) <;> simp
  have sg6 : ∀ t, Steps p.tables e below (s₁.setTop (mkF m 36 #[.val (.int p0), .val (.int p1), .val (.int p2), .val (.int r1), .val (.int j1), .unset, .unset, .unset, .unset, .unset, .unset] [(.int r2)])) t → Steps p.tables e below (s₁.setTop (mkF m 28 #[.val (.int p0), .val (.int p1), .val (.int p2), .val (.int r1), .val (.int j1), .unset, .unset, .unset, .unset, .unset, .unset] [(.int (p1 &&& (1 : Int32)))])) t := by
    intro t kt
    show Steps p.tables e below (s₁.setTop (mkF m 28 #[.val (.int p0), .val (.int p1), .val (.int p2), .val (.int r1), .val (.int j1), .unset, .unset, .unset, .unset, .unset, .unset] [(.int (p1 &&& (1 : Int32)))])) _
    by_cases q5 : (p1 &&& (1 : Int32)) = (0 : Int32)
    · refine XS.ifYes X0.here hx rfl (pc0 := 28) (pc' := 35) rfl (hb hby at_28) rfl ((if0 _ _).trans (teq q5).1) (by decide) (by decide) ?_
      show Steps p.tables e below (s₁.setTop (mkF m 35 #[.val (.int p0), .val (.int p1), .val (.int p2), .val (.int r1), .val (.int j1), .unset, .unset, .unset, .unset, .unset, .unset] [])) _
      refine XS.iconst X0.here hx rfl (hb hby at_35) ?_
      rw [show r2 = (0 : Int32) from hr2.trans (if_pos q5)] at kt
      exact kt
    · refine XS.ifNo X0.here hx rfl (hb hby at_28) rfl ((if0 _ _).trans (feq q5).1) ?_
      show Steps p.tables e below (s₁.setTop (mkF m 31 #[.val (.int p0), .val (.int p1), .val (.int p2), .val (.int r1), .val (.int j1), .unset, .unset, .unset, .unset, .unset, .unset] [])) _
      refine XS.iconst X0.here hx rfl (hb hby at_31) ?_
      show Steps p.tables e below (s₁.setTop (mkF m 32 #[.val (.int p0), .val (.int p1), .val (.int p2), .val (.int r1), .val (.int j1), .unset, .unset, .unset, .unset, .unset, .unset] [(.int (1 : Int32))])) _
      refine XS.goto X0.here hx rfl (pc0 := 32) (pc' := 36) rfl (hb hby at_32) (by decide) (by decide) ?_
      rw [show r2 = (1 : Int32) from hr2.trans (if_neg q5)] at kt
      exact kt
  have hb_j2 : j2 = (0 : Int32) ∨ j2 = (1 : Int32) := by rw [hj2]; (repeat' split) <;> simp
  have sg8 : ∀ t, Steps p.tables e below (s₁.setTop (mkF m 49 #[.val (.int p0), .val (.int p1), .val (.int p2), .val (.int r1), .val (.int j1), .val (.int r2), .unset, .unset, .unset, .unset, .unset] [(.int j2)])) t → Steps p.tables e below (s₁.setTop (mkF m 41 #[.val (.int p0), .val (.int p1), .val (.int p2), .val (.int r1), .val (.int j1), .val (.int r2), .unset, .unset, .unset, .unset, .unset] [(.int (p1 &&& (2 : Int32)))])) t := by
    intro t kt
    show Steps p.tables e below (s₁.setTop (mkF m 41 #[.val (.int p0), .val (.int p1), .val (.int p2), .val (.int r1), .val (.int j1), .val (.int r2), .unset, .unset, .unset, .unset, .unset] [(.int (p1 &&& (2 : Int32)))])) _
    by_cases q7 : (p1 &&& (2 : Int32)) = (0 : Int32)
    · refine XS.ifYes X0.here hx rfl (pc0 := 41) (pc' := 48) rfl (hb hby at_41) rfl ((if0 _ _).trans (teq q7).1) (by decide) (by decide) ?_
      show Steps p.tables e below (s₁.setTop (mkF m 48 #[.val (.int p0), .val (.int p1), .val (.int p2), .val (.int r1), .val (.int j1), .val (.int r2), .unset, .unset, .unset, .unset, .unset] [])) _
      refine XS.iconst X0.here hx rfl (hb hby at_48) ?_
      rw [show j2 = (0 : Int32) from hj2.trans (if_pos q7)] at kt
      exact kt
    · refine XS.ifNo X0.here hx rfl (hb hby at_41) rfl ((if0 _ _).trans (feq q7).1) ?_
      show Steps p.tables e below (s₁.setTop (mkF m 44 #[.val (.int p0), .val (.int p1), .val (.int p2), .val (.int r1), .val (.int j1), .val (.int r2), .unset, .unset, .unset, .unset, .unset] [])) _
      refine XS.iconst X0.here hx rfl (hb hby at_44) ?_
      show Steps p.tables e below (s₁.setTop (mkF m 45 #[.val (.int p0), .val (.int p1), .val (.int p2), .val (.int r1), .val (.int j1), .val (.int r2), .unset, .unset, .unset, .unset, .unset] [(.int (1 : Int32))])) _
      refine XS.goto X0.here hx rfl (pc0 := 45) (pc' := 49) rfl (hb hby at_45) (by decide) (by decide) ?_
      rw [show j2 = (1 : Int32) from hj2.trans (if_neg q7)] at kt
      exact kt
  obtain ⟨T9, h9, X9, e9, E9, A9, D9, -, st9⟩ := newO X0 hx hZ hown (hw _ (List.mem_of_getElem? (i := 0) rfl)) (hw _ (List.mem_of_getElem? (i := 1) rfl)) (hw _ (List.mem_of_getElem? (i := 2) rfl)) e0 (g := (mkF m 51 #[.val (.int p0), .val (.int p1), .val (.int p2), .val (.int r1), .val (.int j1), .val (.int r2), .val (.int j2), .unset, .unset, .unset, .unset] [])) rfl (hb hby at_51) (by decide) (by decide)
  obtain ⟨b9, g9⟩ : ∃ z, z = (h0).size := ⟨_, rfl⟩
  rw [← g9] at A9 D9 st9
  have Zs10 : n0 ≤ (h9).size := Nat.le_trans Z0 E9.1
  have Os10 : Old Z n0 (h9) := O0.ext E9
  have Ks10 : Keep h0 (h9) [] := Kr.ext E9
  have D9_rollback : Fld Z h9 b9 "com/example/demarc/demarc/ApplicationExceptions$Designation" "rollback" "Z" (.int (0 : Int32)) := D9 (Or.inr (hw _ (List.mem_of_getElem? (i := 10) rfl))) (ty := .boolean) (by decide)
  have D9_inherited : Fld Z h9 b9 "com/example/demarc/demarc/ApplicationExceptions$Designation" "inherited" "Z" (.int (0 : Int32)) := D9 (Or.inr (hw _ (List.mem_of_getElem? (i := 12) rfl))) (ty := .boolean) (by decide)
  obtain ⟨_, _, ⟨T11, L11, k11, n11⟩, -, X11, ⟨Lc11, hQ11, l11, y11, z11⟩, st11⟩ := X9.specialBack hx (y := (⟨"com/example/demarc/demarc/ApplicationExceptions$Designation", "<init>", "(ZZ)V"⟩ : MethodName)) rfl hown (mvT hZ (hw _ (List.mem_of_getElem? (i := 3) rfl))) (mvT hZ (hw _ (List.mem_of_getElem? (i := 4) rfl))) (mvT hZ (hw _ (List.mem_of_getElem? (i := 5) rfl))) (by decide) (backOf (W := 1) (rm1_1 l Z a0 hw [] w_cache cl_cache b9 r1 j1 h9 n0 Os10 P A9 D9_rollback hb_r1 (Nat.le_trans Z0 (Nat.le_of_eq g9.symm)) D9_inherited hb_j1) hZ (hw _ (List.mem_of_getElem? (i := 5) rfl)) (hw _ (List.mem_of_getElem? (i := 2) rfl)) (by decide) (by decide)) (g := (mkF m 58 #[.val (.int p0), .val (.int p1), .val (.int p2), .val (.int r1), .val (.int j1), .val (.int r2), .val (.int j2), .unset, .unset, .unset, .unset] [(.int j1), (.int r1), (.ref b9), (.ref b9)])) rfl (by rw [hml]; rfl) (Steps.refl _) (a := b9) (argsL := [(.int r1), (.int j1)]) (rest := [(.ref b9)]) (lenOf pd_0 rfl) rfl (by show 2 * 0 + _ ≤ _; exact Nat.le_of_eq rfl) (hb hby at_58) (fun _ _ => ⟨rfl, e9, (by decide : 1 + 0 ≤ _), (by decide : 2 + 0 ≤ _)⟩)
  dsimp only [Pt.U, Pt.locs, Pt.cells, Pt.slots] at X11 l11 y11 z11 st11 hQ11
  subst l11 y11 z11
  obtain ⟨rfl, N11q, K11, q11_0, q11_1⟩ := hQ11
  have N11 := Fr.app N0 N11q
  have Ks12 : Keep h0 (T11.heap) [] := Ks10.trans K11 (allS (Or.inr (Nat.le_trans Kr.1 (Nat.le_of_eq g9.symm))) all0)
  have Zs12 : n0 ≤ (T11.heap).size := Nat.le_trans Zs10 K11.1
  have Os12 : Old Z n0 (T11.heap) := Os10.keep K11 (allS (Nat.le_trans Z0 (Nat.le_of_eq g9.symm)) all0)
  obtain ⟨T13, h13, X13, e13, E13, A13, D13, -, st13⟩ := newO X11 hx hZ hown (hw _ (List.mem_of_getElem? (i := 0) rfl)) (hw _ (List.mem_of_getElem? (i := 1) rfl)) (hw _ (List.mem_of_getElem? (i := 2) rfl)) rfl (g := (mkF m 63 #[.val (.int p0), .val (.int p1), .val (.int p2), .val (.int r1), .val (.int j1), .val (.int r2), .val (.int j2), .val (.ref b9), .unset, .unset, .unset] [])) rfl (hb hby at_63) (by decide) (by decide)
  obtain ⟨b13, g13⟩ : ∃ z, z = (T11.heap).size := ⟨_, rfl⟩
  rw [← g13] at A13 D13 st13
  have Zs14 : n0 ≤ (h13).size := Nat.le_trans Zs12 E13.1
  have Os14 : Old Z n0 (h13) := Os12.ext E13
  have Ks14 : Keep h0 (h13) [] := Ks12.ext E13
  have D13_rollback : Fld Z h13 b13 "com/example/demarc/demarc/ApplicationExceptions$Designation" "rollback" "Z" (.int (0 : Int32)) := D13 (Or.inr (hw _ (List.mem_of_getElem? (i := 10) rfl))) (ty := .boolean) (by decide)
  have D13_inherited : Fld Z h13 b13 "com/example/demarc/demarc/ApplicationExceptions$Designation" "inherited" "Z" (.int (0 : Int32)) := D13 (Or.inr (hw _ (List.mem_of_getElem? (i := 12) rfl))) (ty := .boolean) (by decide)
  obtain ⟨_, _, ⟨T15, L15, k15, n15⟩, -, X15, ⟨Lc15, hQ15, l15, y15, z15⟩, st15⟩ := X13.specialBack hx (y := (⟨"com/example/demarc/demarc/ApplicationExceptions$Designation", "<init>", "(ZZ)V"⟩ : MethodName)) rfl hown (mvT hZ (hw _ (List.mem_of_getElem? (i := 3) rfl))) (mvT hZ (hw _ (List.mem_of_getElem? (i := 4) rfl))) (mvT hZ (hw _ (List.mem_of_getElem? (i := 5) rfl))) (by decide) (backOf (W := 1) (rm1_1 l Z a0 hw [] w_cache cl_cache b13 r2 j2 h13 n0 Os14 P A13 D13_rollback hb_r2 (Nat.le_trans Zs12 (Nat.le_of_eq g13.symm)) D13_inherited hb_j2) hZ (hw _ (List.mem_of_getElem? (i := 5) rfl)) (hw _ (List.mem_of_getElem? (i := 2) rfl)) (by decide) (by decide)) (g := (mkF m 71 #[.val (.int p0), .val (.int p1), .val (.int p2), .val (.int r1), .val (.int j1), .val (.int r2), .val (.int j2), .val (.ref b9), .unset, .unset, .unset] [(.int j2), (.int r2), (.ref b13), (.ref b13)])) rfl (by rw [hml]; rfl) (Steps.refl _) (a := b13) (argsL := [(.int r2), (.int j2)]) (rest := [(.ref b13)]) (lenOf pd_0 rfl) rfl (by show 2 * 0 + _ ≤ _; exact Nat.le_of_eq rfl) (hb hby at_71) (fun _ _ => ⟨rfl, e13, (by decide : 2 + 0 ≤ _), (by decide : 4 + 0 ≤ _)⟩)
  dsimp only [Pt.U, Pt.locs, Pt.cells, Pt.slots] at X15 l15 y15 z15 st15 hQ15
  subst l15 y15 z15
  obtain ⟨rfl, N15q, K15, q15_0, q15_1⟩ := hQ15
  have N15 := Fr.app N11 N15q
  have Ks16 : Keep h0 (T15.heap) [] := Ks14.trans K15 (allS (Or.inr (Nat.le_trans Ks12.1 (Nat.le_of_eq g13.symm))) all0)
  have Zs16 : n0 ≤ (T15.heap).size := Nat.le_trans Zs14 K15.1
  have Os16 : Old Z n0 (T15.heap) := Os14.keep K15 (allS (Nat.le_trans Zs12 (Nat.le_of_eq g13.symm)) all0)
  have f17 := (((A9.keep K11).ext E13).keep K15)
  have f18 := ((q11_0.ext E13).keep K15 (ninS (Nat.ne_of_lt (Nat.lt_of_lt_of_le (q11_0).lt (Nat.le_of_eq g13.symm))) nin0))
  have f19 := ((q11_1.ext E13).keep K15 (ninS (Nat.ne_of_lt (Nat.lt_of_lt_of_le (q11_0).lt (Nat.le_of_eq g13.symm))) nin0))
  obtain ⟨cq20, kq20, q20a, q20b, q20c⟩ := isOf hZ rfl f17
  obtain ⟨_, _, ⟨T20, L20, k20, n20⟩, -, X20, ⟨Lc20, hQ20, l20, y20, z20⟩, st20⟩ := X15.virtualBack hx (y := (⟨"com/example/demarc/demarc/ApplicationExceptions$Designation", "equals", "(Ljava/lang/Object;)Z"⟩ : MethodName)) (z := (⟨"com/example/demarc/demarc/ApplicationExceptions$Designation", "equals", "(Ljava/lang/Object;)Z"⟩ : MethodName)) hown (mvT hZ (hw _ (List.mem_of_getElem? (i := 20) rfl))) (mvT hZ (hw _ (List.mem_of_getElem? (i := 21) rfl))) (notFace_of_selects (args := #[]) (mvT hZ (hw _ (List.mem_of_getElem? (i := 23) rfl)))) (mvT hZ (hw _ (List.mem_of_getElem? (i := 23) rfl))) (mvT hZ (hw _ (List.mem_of_getElem? (i := 22) rfl))) (by decide) (backOf (W := 0) (rm4_22 l Z a0 hw [] w_cache cl_cache b9 r1 j1 T15.heap n0 Os16 P f17 f18 f19) hZ (hw _ (List.mem_of_getElem? (i := 24) rfl)) (hw _ (List.mem_of_getElem? (i := 2) rfl)) (by decide) (by decide)) q20a q20c (g := (mkF m 197 #[.val (.int p0), .val (.int p1), .val (.int p2), .val (.int r1), .val (.int j1), .val (.int r2), .val (.int j2), .val (.ref b9), .val (.ref b13), .val (.int (3 : Int32)), .val (.ref b9)] [(.ref b9), (.ref b9)])) rfl (by rw [hml]; rfl) (Steps.refl _) (argsL := [(.ref b9)]) (rest := []) (lenOf pd_1 rfl) rfl (by show 2 * 0 + _ ≤ _; exact Nat.le_of_eq rfl) (hb hby at_197) (fun _ _ => ⟨rfl, rfl, (by decide : 2 + 0 ≤ _), (by decide : 4 + 0 ≤ _)⟩)
  dsimp only [Pt.U, Pt.locs, Pt.cells, Pt.slots] at X20 l20 y20 z20 st20 hQ20
  subst l20 y20 z20
  obtain ⟨rfl, N20q, e20⟩ := hQ20
  have N20 := Fr.app N15 N20q
  obtain ⟨fs, hr, hrun, hended, hW, hsame⟩ := X20.leave (v := some (.int (1 : Int32))) (fun h => by rw [Bd.returns] at h; cases h)
  refine ⟨_, _, pre0 _ ?_, hrun, hended, _, _, rfl, ?_, ⟨_, rfl⟩, hW, hsame.mono (by decide) (by decide)⟩
  · show Steps p.tables e below (s₁.setTop (mkF m 0 #[.val (.int p0), .val (.int p1), .val (.int p2), .unset, .unset, .unset, .unset, .unset, .unset, .unset, .unset] [])) _
    refine XS.iloadN X0.here hx rfl (hb hby at_0) rfl ?_
    show Steps p.tables e below (s₁.setTop (mkF m 1 #[.val (.int p0), .val (.int p1), .val (.int p2), .unset, .unset, .unset, .unset, .unset, .unset, .unset, .unset] [(.int p0)])) _
    refine XS.iconst X0.here hx rfl (hb hby at_1) ?_
    show Steps p.tables e below (s₁.setTop (mkF m 2 #[.val (.int p0), .val (.int p1), .val (.int p2), .unset, .unset, .unset, .unset, .unset, .unset, .unset, .unset] [(.int (1 : Int32)), (.int p0)])) _
    refine XS.iand X0.here hx rfl (hb hby at_2) rfl ?_
    refine sg2 _ ?_
    show Steps p.tables e below (s₁.setTop (mkF m 11 #[.val (.int p0), .val (.int p1), .val (.int p2), .unset, .unset, .unset, .unset, .unset, .unset, .unset, .unset] [(.int r1)])) _
    refine XS.istoreN X0.here hx rfl (hb hby at_11) rfl (l' := #[.val (.int p0), .val (.int p1), .val (.int p2), .val (.int r1), .unset, .unset, .unset, .unset, .unset, .unset, .unset]) rfl ?_
    show Steps p.tables e below (s₁.setTop (mkF m 12 #[.val (.int p0), .val (.int p1), .val (.int p2), .val (.int r1), .unset, .unset, .unset, .unset, .unset, .unset, .unset] [])) _
    refine XS.iloadN X0.here hx rfl (hb hby at_12) rfl ?_
    show Steps p.tables e below (s₁.setTop (mkF m 13 #[.val (.int p0), .val (.int p1), .val (.int p2), .val (.int r1), .unset, .unset, .unset, .unset, .unset, .unset, .unset] [(.int p0)])) _
    refine XS.iconst X0.here hx rfl (hb hby at_13) ?_
    show Steps p.tables e below (s₁.setTop (mkF m 14 #[.val (.int p0), .val (.int p1), .val (.int p2), .val (.int r1), .unset, .unset, .unset, .unset, .unset, .unset, .unset] [(.int (2 : Int32)), (.int p0)])) _
    refine XS.iand X0.here hx rfl (hb hby at_14) rfl ?_
    refine sg4 _ ?_
    show Steps p.tables e below (s₁.setTop (mkF m 23 #[.val (.int p0), .val (.int p1), .val (.int p2), .val (.int r1), .unset, .unset, .unset, .unset, .unset, .unset, .unset] [(.int j1)])) _
    refine XS.istore X0.here hx rfl (hb hby at_23) rfl (l' := #[.val (.int p0), .val (.int p1), .val (.int p2), .val (.int r1), .val (.int j1), .unset, .unset, .unset, .unset, .unset, .unset]) rfl ?_
    show Steps p.tables e below (s₁.setTop (mkF m 25 #[.val (.int p0), .val (.int p1), .val (.int p2), .val (.int r1), .val (.int j1), .unset, .unset, .unset, .unset, .unset, .unset] [])) _
    refine XS.iloadN X0.here hx rfl (hb hby at_25) rfl ?_
    show Steps p.tables e below (s₁.setTop (mkF m 26 #[.val (.int p0), .val (.int p1), .val (.int p2), .val (.int r1), .val (.int j1), .unset, .unset, .unset, .unset, .unset, .unset] [(.int p1)])) _
    refine XS.iconst X0.here hx rfl (hb hby at_26) ?_
    show Steps p.tables e below (s₁.setTop (mkF m 27 #[.val (.int p0), .val (.int p1), .val (.int p2), .val (.int r1), .val (.int j1), .unset, .unset, .unset, .unset, .unset, .unset] [(.int (1 : Int32)), (.int p1)])) _
    refine XS.iand X0.here hx rfl (hb hby at_27) rfl ?_
    refine sg6 _ ?_
    show Steps p.tables e below (s₁.setTop (mkF m 36 #[.val (.int p0), .val (.int p1), .val (.int p2), .val (.int r1), .val (.int j1), .unset, .unset, .unset, .unset, .unset, .unset] [(.int r2)])) _
    refine XS.istore X0.here hx rfl (hb hby at_36) rfl (l' := #[.val (.int p0), .val (.int p1), .val (.int p2), .val (.int r1), .val (.int j1), .val (.int r2), .unset, .unset, .unset, .unset, .unset]) rfl ?_
    show Steps p.tables e below (s₁.setTop (mkF m 38 #[.val (.int p0), .val (.int p1), .val (.int p2), .val (.int r1), .val (.int j1), .val (.int r2), .unset, .unset, .unset, .unset, .unset] [])) _
    refine XS.iloadN X0.here hx rfl (hb hby at_38) rfl ?_
    show Steps p.tables e below (s₁.setTop (mkF m 39 #[.val (.int p0), .val (.int p1), .val (.int p2), .val (.int r1), .val (.int j1), .val (.int r2), .unset, .unset, .unset, .unset, .unset] [(.int p1)])) _
    refine XS.iconst X0.here hx rfl (hb hby at_39) ?_
    show Steps p.tables e below (s₁.setTop (mkF m 40 #[.val (.int p0), .val (.int p1), .val (.int p2), .val (.int r1), .val (.int j1), .val (.int r2), .unset, .unset, .unset, .unset, .unset] [(.int (2 : Int32)), (.int p1)])) _
    refine XS.iand X0.here hx rfl (hb hby at_40) rfl ?_
    refine sg8 _ ?_
    show Steps p.tables e below (s₁.setTop (mkF m 49 #[.val (.int p0), .val (.int p1), .val (.int p2), .val (.int r1), .val (.int j1), .val (.int r2), .unset, .unset, .unset, .unset, .unset] [(.int j2)])) _
    refine XS.istore X0.here hx rfl (hb hby at_49) rfl (l' := #[.val (.int p0), .val (.int p1), .val (.int p2), .val (.int r1), .val (.int j1), .val (.int r2), .val (.int j2), .unset, .unset, .unset, .unset]) rfl ?_
    show Steps p.tables e below (s₁.setTop (mkF m 51 #[.val (.int p0), .val (.int p1), .val (.int p2), .val (.int r1), .val (.int j1), .val (.int r2), .val (.int j2), .unset, .unset, .unset, .unset] [])) _
    refine st9 _ ?_
    show Steps p.tables e below (T9.setTop (mkF m 54 #[.val (.int p0), .val (.int p1), .val (.int p2), .val (.int r1), .val (.int j1), .val (.int r2), .val (.int j2), .unset, .unset, .unset, .unset] [(.ref b9)])) _
    refine XS.dup X9.here hx rfl (hb hby at_54) rfl rfl ?_
    show Steps p.tables e below (T9.setTop (mkF m 55 #[.val (.int p0), .val (.int p1), .val (.int p2), .val (.int r1), .val (.int j1), .val (.int r2), .val (.int j2), .unset, .unset, .unset, .unset] [(.ref b9), (.ref b9)])) _
    refine XS.iloadN X9.here hx rfl (hb hby at_55) rfl ?_
    show Steps p.tables e below (T9.setTop (mkF m 56 #[.val (.int p0), .val (.int p1), .val (.int p2), .val (.int r1), .val (.int j1), .val (.int r2), .val (.int j2), .unset, .unset, .unset, .unset] [(.int r1), (.ref b9), (.ref b9)])) _
    refine XS.iload X9.here hx rfl (hb hby at_56) rfl ?_
    show Steps p.tables e below (T9.setTop (mkF m 58 #[.val (.int p0), .val (.int p1), .val (.int p2), .val (.int r1), .val (.int j1), .val (.int r2), .val (.int j2), .unset, .unset, .unset, .unset] [(.int j1), (.int r1), (.ref b9), (.ref b9)])) _
    refine st11.trans ?_
    show Steps p.tables e below (T11.setTop (mkF m 61 #[.val (.int p0), .val (.int p1), .val (.int p2), .val (.int r1), .val (.int j1), .val (.int r2), .val (.int j2), .unset, .unset, .unset, .unset] [(.ref b9)])) _
    refine XS.astore X11.here hx rfl (hb hby at_61) rfl rfl (l' := #[.val (.int p0), .val (.int p1), .val (.int p2), .val (.int r1), .val (.int j1), .val (.int r2), .val (.int j2), .val (.ref b9), .unset, .unset, .unset]) rfl ?_
    show Steps p.tables e below (T11.setTop (mkF m 63 #[.val (.int p0), .val (.int p1), .val (.int p2), .val (.int r1), .val (.int j1), .val (.int r2), .val (.int j2), .val (.ref b9), .unset, .unset, .unset] [])) _
    refine st13 _ ?_
    show Steps p.tables e below (T13.setTop (mkF m 66 #[.val (.int p0), .val (.int p1), .val (.int p2), .val (.int r1), .val (.int j1), .val (.int r2), .val (.int j2), .val (.ref b9), .unset, .unset, .unset] [(.ref b13)])) _
    refine XS.dup X13.here hx rfl (hb hby at_66) rfl rfl ?_
    show Steps p.tables e below (T13.setTop (mkF m 67 #[.val (.int p0), .val (.int p1), .val (.int p2), .val (.int r1), .val (.int j1), .val (.int r2), .val (.int j2), .val (.ref b9), .unset, .unset, .unset] [(.ref b13), (.ref b13)])) _
    refine XS.iload X13.here hx rfl (hb hby at_67) rfl ?_
    show Steps p.tables e below (T13.setTop (mkF m 69 #[.val (.int p0), .val (.int p1), .val (.int p2), .val (.int r1), .val (.int j1), .val (.int r2), .val (.int j2), .val (.ref b9), .unset, .unset, .unset] [(.int r2), (.ref b13), (.ref b13)])) _
    refine XS.iload X13.here hx rfl (hb hby at_69) rfl ?_
    show Steps p.tables e below (T13.setTop (mkF m 71 #[.val (.int p0), .val (.int p1), .val (.int p2), .val (.int r1), .val (.int j1), .val (.int r2), .val (.int j2), .val (.ref b9), .unset, .unset, .unset] [(.int j2), (.int r2), (.ref b13), (.ref b13)])) _
    refine st15.trans ?_
    show Steps p.tables e below (T15.setTop (mkF m 74 #[.val (.int p0), .val (.int p1), .val (.int p2), .val (.int r1), .val (.int j1), .val (.int r2), .val (.int j2), .val (.ref b9), .unset, .unset, .unset] [(.ref b13)])) _
    refine XS.astore X15.here hx rfl (hb hby at_74) rfl rfl (l' := #[.val (.int p0), .val (.int p1), .val (.int p2), .val (.int r1), .val (.int j1), .val (.int r2), .val (.int j2), .val (.ref b9), .val (.ref b13), .unset, .unset]) rfl ?_
    show Steps p.tables e below (T15.setTop (mkF m 76 #[.val (.int p0), .val (.int p1), .val (.int p2), .val (.int r1), .val (.int j1), .val (.int r2), .val (.int j2), .val (.ref b9), .val (.ref b13), .unset, .unset] [])) _
    refine XS.iloadN X15.here hx rfl (hb hby at_76) rfl ?_
    show Steps p.tables e below (T15.setTop (mkF m 77 #[.val (.int p0), .val (.int p1), .val (.int p2), .val (.int r1), .val (.int j1), .val (.int r2), .val (.int j2), .val (.ref b9), .val (.ref b13), .unset, .unset] [(.int p2)])) _
    refine XS.iconst X15.here hx rfl (hb hby at_77) ?_
    show Steps p.tables e below (T15.setTop (mkF m 78 #[.val (.int p0), .val (.int p1), .val (.int p2), .val (.int r1), .val (.int j1), .val (.int r2), .val (.int j2), .val (.ref b9), .val (.ref b13), .unset, .unset] [(.int (3 : Int32)), (.int p2)])) _
    refine XS.iand X15.here hx rfl (hb hby at_78) rfl ?_
    show Steps p.tables e below (T15.setTop (mkF m 79 #[.val (.int p0), .val (.int p1), .val (.int p2), .val (.int r1), .val (.int j1), .val (.int r2), .val (.int j2), .val (.ref b9), .val (.ref b13), .unset, .unset] [(.int (p2 &&& (3 : Int32)))])) _
    rw [k4]
    show Steps p.tables e below (T15.setTop (mkF m 79 #[.val (.int p0), .val (.int p1), .val (.int p2), .val (.int r1), .val (.int j1), .val (.int r2), .val (.int j2), .val (.ref b9), .val (.ref b13), .unset, .unset] [(.int (3 : Int32))])) _
    refine XS.istore X15.here hx rfl (hb hby at_79) rfl (l' := #[.val (.int p0), .val (.int p1), .val (.int p2), .val (.int r1), .val (.int j1), .val (.int r2), .val (.int j2), .val (.ref b9), .val (.ref b13), .val (.int (3 : Int32)), .unset]) rfl ?_
    show Steps p.tables e below (T15.setTop (mkF m 81 #[.val (.int p0), .val (.int p1), .val (.int p2), .val (.int r1), .val (.int j1), .val (.int r2), .val (.int j2), .val (.ref b9), .val (.ref b13), .val (.int (3 : Int32)), .unset] [])) _
    refine XS.iload X15.here hx rfl (hb hby at_81) rfl ?_
    show Steps p.tables e below (T15.setTop (mkF m 83 #[.val (.int p0), .val (.int p1), .val (.int p2), .val (.int r1), .val (.int j1), .val (.int r2), .val (.int j2), .val (.ref b9), .val (.ref b13), .val (.int (3 : Int32)), .unset] [(.int (3 : Int32))])) _
    refine XS.ifYes X15.here hx rfl (pc0 := 83) (pc' := 136) rfl (hb hby at_83) rfl (by decide) (by decide) (by decide) ?_
    show Steps p.tables e below (T15.setTop (mkF m 136 #[.val (.int p0), .val (.int p1), .val (.int p2), .val (.int r1), .val (.int j1), .val (.int r2), .val (.int j2), .val (.ref b9), .val (.ref b13), .val (.int (3 : Int32)), .unset] [])) _
    refine XS.iload X15.here hx rfl (hb hby at_136) rfl ?_
    show Steps p.tables e below (T15.setTop (mkF m 138 #[.val (.int p0), .val (.int p1), .val (.int p2), .val (.int r1), .val (.int j1), .val (.int r2), .val (.int j2), .val (.ref b9), .val (.ref b13), .val (.int (3 : Int32)), .unset] [(.int (3 : Int32))])) _
    refine XS.iconst X15.here hx rfl (hb hby at_138) ?_
    show Steps p.tables e below (T15.setTop (mkF m 139 #[.val (.int p0), .val (.int p1), .val (.int p2), .val (.int r1), .val (.int j1), .val (.int r2), .val (.int j2), .val (.ref b9), .val (.ref b13), .val (.int (3 : Int32)), .unset] [(.int (1 : Int32)), (.int (3 : Int32))])) _
    refine XS.icmpYes X15.here hx rfl (pc0 := 139) (pc' := 161) rfl (hb hby at_139) rfl (by decide) (by decide) (by decide) ?_
    show Steps p.tables e below (T15.setTop (mkF m 161 #[.val (.int p0), .val (.int p1), .val (.int p2), .val (.int r1), .val (.int j1), .val (.int r2), .val (.int j2), .val (.ref b9), .val (.ref b13), .val (.int (3 : Int32)), .unset] [])) _
    refine XS.iload X15.here hx rfl (hb hby at_161) rfl ?_
    show Steps p.tables e below (T15.setTop (mkF m 163 #[.val (.int p0), .val (.int p1), .val (.int p2), .val (.int r1), .val (.int j1), .val (.int r2), .val (.int j2), .val (.ref b9), .val (.ref b13), .val (.int (3 : Int32)), .unset] [(.int (3 : Int32))])) _
    refine XS.iconst X15.here hx rfl (hb hby at_163) ?_
    show Steps p.tables e below (T15.setTop (mkF m 164 #[.val (.int p0), .val (.int p1), .val (.int p2), .val (.int r1), .val (.int j1), .val (.int r2), .val (.int j2), .val (.ref b9), .val (.ref b13), .val (.int (3 : Int32)), .unset] [(.int (2 : Int32)), (.int (3 : Int32))])) _
    refine XS.icmpYes X15.here hx rfl (pc0 := 164) (pc' := 189) rfl (hb hby at_164) rfl (by decide) (by decide) (by decide) ?_
    show Steps p.tables e below (T15.setTop (mkF m 189 #[.val (.int p0), .val (.int p1), .val (.int p2), .val (.int r1), .val (.int j1), .val (.int r2), .val (.int j2), .val (.ref b9), .val (.ref b13), .val (.int (3 : Int32)), .unset] [])) _
    refine XS.aload X15.here hx rfl (hb hby at_189) rfl rfl ?_
    show Steps p.tables e below (T15.setTop (mkF m 191 #[.val (.int p0), .val (.int p1), .val (.int p2), .val (.int r1), .val (.int j1), .val (.int r2), .val (.int j2), .val (.ref b9), .val (.ref b13), .val (.int (3 : Int32)), .unset] [(.ref b9)])) _
    refine XS.astore X15.here hx rfl (hb hby at_191) rfl rfl (l' := #[.val (.int p0), .val (.int p1), .val (.int p2), .val (.int r1), .val (.int j1), .val (.int r2), .val (.int j2), .val (.ref b9), .val (.ref b13), .val (.int (3 : Int32)), .val (.ref b9)]) rfl ?_
    show Steps p.tables e below (T15.setTop (mkF m 193 #[.val (.int p0), .val (.int p1), .val (.int p2), .val (.int r1), .val (.int j1), .val (.int r2), .val (.int j2), .val (.ref b9), .val (.ref b13), .val (.int (3 : Int32)), .val (.ref b9)] [])) _
    refine XS.aload X15.here hx rfl (hb hby at_193) rfl rfl ?_
    show Steps p.tables e below (T15.setTop (mkF m 195 #[.val (.int p0), .val (.int p1), .val (.int p2), .val (.int r1), .val (.int j1), .val (.int r2), .val (.int j2), .val (.ref b9), .val (.ref b13), .val (.int (3 : Int32)), .val (.ref b9)] [(.ref b9)])) _
    refine XS.aload X15.here hx rfl (hb hby at_195) rfl rfl ?_
    show Steps p.tables e below (T15.setTop (mkF m 197 #[.val (.int p0), .val (.int p1), .val (.int p2), .val (.int r1), .val (.int j1), .val (.int r2), .val (.int j2), .val (.ref b9), .val (.ref b13), .val (.int (3 : Int32)), .val (.ref b9)] [(.ref b9), (.ref b9)])) _
    refine st20.trans ?_
    show Steps p.tables e below (T20.setTop (mkF m 200 #[.val (.int p0), .val (.int p1), .val (.int p2), .val (.int r1), .val (.int j1), .val (.int r2), .val (.int j2), .val (.ref b9), .val (.ref b13), .val (.int (3 : Int32)), .val (.ref b9)] [(.int (1 : Int32))])) _
    exact retN X20 hx (t := .boolean) Bd.returns (by simp) (hb hby at_200) hr
  · show Qrm0_7 Z w_cache cl_cache p0 p1 p2 r1 j1 r2 j2 h0 n0 _ T20.heap _
    rw [e20]
    exact ⟨rfl, N20, Ks16⟩
theorem own_q {l : Launch} {y : MethodName} {S : Spec} {P : Array Value → State → Prop} {k n : Nat} {Q : Option Value → Heap → List Loc → Prop} {Q2 : Option Value → List Loc → Prop} (h : MetFree l y S P (fun _ _ _ _ _ => True) (fun _ U o U' => ∃ v L, o = .returned v ∧ Q v U'.heap L ∧ FrameEnd U o U' L k n)) (hq : ∀ v h L, Q v h L → Q2 v L) :
    MetFree l y S P (fun _ _ _ _ _ => True) (fun _ U o U' => ∃ v L, o = .returned v ∧ Q2 v L ∧ FrameEnd U o U' L k n) := by
  intro p e ha hc hk s m args below hf happ hP hK
  obtain ⟨n', o, h1, h2, h3, v, L, e1, e2, e3⟩ := h p e ha hc hk s m args below hf happ hP hK
  exact ⟨n', o, h1, h2, h3, v, L, e1, hq _ _ _ e2, e3⟩
def QL (n0 : Nat) (v : Option Value) (L : List Loc) : Prop := v = some (.int (1 : Int32)) ∧ Fr n0 L
theorem rm0_all (l : Launch) (Z : State) (a0 : Array Value) (hw : ∀ d ∈ tables_1, d.before a0 Z = true) (ws : List Jvm.Cond) (w_cache : Addr) (cl_cache : Cell) (p0 p1 p2 : Int32) (h0 : Heap) (n0 : Nat) (O0 : Old Z n0 h0) (P : Pins Z w_cache cl_cache) :
    MetFree l x (head1 (Jvm.Cond.code x code maxLocals ret :: ws) room_1) (fun a U => a = #[(.int p0), (.int p1), (.int p2)] ∧ Z.Warmed39 U.vm ∧ U.heap = h0) (fun _ _ _ _ _ => True) (fun _ U o U' => ∃ v L, o = .returned v ∧ QL n0 v L ∧ FrameEnd U o U' L room_1.cells room_1.slots) := by
  rcases own_m3 p2 with k | k | k | k
  · by_cases c0 : (if (p0 &&& (1 : Int32)) = (0 : Int32) then (0 : Int32) else (1 : Int32)) = (if (p1 &&& (1 : Int32)) = (0 : Int32) then (0 : Int32) else (1 : Int32))
    · by_cases c1 : (if (p0 &&& (2 : Int32)) = (0 : Int32) then (0 : Int32) else (1 : Int32)) = (if (p1 &&& (2 : Int32)) = (0 : Int32) then (0 : Int32) else (1 : Int32))
      · exact own_q (rm0_2 l Z a0 hw ws w_cache cl_cache p0 p1 p2 _ _ _ _ h0 n0 O0 P rfl rfl rfl rfl k c0 c1) (fun _ _ _ q => ⟨q.1, q.2.1⟩)
      · exact own_q (rm0_1 l Z a0 hw ws w_cache cl_cache p0 p1 p2 _ _ _ _ h0 n0 O0 P rfl rfl rfl rfl k c0 c1) (fun _ _ _ q => ⟨q.1, q.2.1⟩)
    · exact own_q (rm0_0 l Z a0 hw ws w_cache cl_cache p0 p1 p2 _ _ _ _ h0 n0 O0 P rfl rfl rfl rfl k c0) (fun _ _ _ q => ⟨q.1, q.2.1⟩)
  · exact own_q (rm0_3 l Z a0 hw ws w_cache cl_cache p0 p1 p2 _ _ _ _ h0 n0 O0 P rfl rfl rfl rfl k) (fun _ _ _ q => ⟨q.1, q.2.1⟩)
  · by_cases c0 : p2 < (-128 : Int32)
    · exact own_q (rm0_4 l Z a0 hw ws w_cache cl_cache p0 p1 p2 _ _ _ _ h0 n0 O0 P rfl rfl rfl rfl k c0) (fun _ _ _ q => ⟨q.1, q.2.1⟩)
    · by_cases c1 : (127 : Int32) < p2
      · exact own_q (rm0_5 l Z a0 hw ws w_cache cl_cache p0 p1 p2 _ _ _ _ h0 n0 O0 P rfl rfl rfl rfl k c0 c1) (fun _ _ _ q => ⟨q.1, q.2.1⟩)
      · exact own_q (rm0_6 l Z a0 hw ws w_cache cl_cache p0 p1 p2 _ _ _ _ h0 n0 O0 P rfl rfl rfl rfl k c0 c1) (fun _ _ _ q => ⟨q.1, q.2.1⟩)
  · exact own_q (rm0_7 l Z a0 hw ws w_cache cl_cache p0 p1 p2 _ _ _ _ h0 n0 O0 P rfl rfl rfl rfl k) (fun _ _ _ q => ⟨q.1, q.2.1⟩)
set_option maxRecDepth 65536 in
set_option maxHeartbeats 40000000 in
theorem comes_1 {Post : Tables → Env → Array Value → State → Outcome → State → Prop} (hpost : ∀ tb e args s v u, (limb_1_1.after args s (.returned v) u = true ∧ limb_1_2.after args s (.returned v) u = true ∧ True) → FrameEnd s (.returned v) u (Jvm.fieldLocs frame_1_writes args s ++ Jvm.arrayLocs frame_1_arrays args s ++ Jvm.staticLocs frame_1_statics s) 16 128 → Post tb e args s (.returned v) u) :
    ArmFor flags0 classFile x code maxLocals ret World_1 tables_1 room_1 Calls_1 rest_1 Pre_1 Post := by
  intro l hfl _ _ p e ha hc hk s m args below hf hA hF happ hP
  obtain ⟨hcalls, hrest, hpre⟩ := hP
  obtain ⟨-, -, -, hnamed, -, -, -, hat⟩ := (Spec.applies_iff hf).mp happ
  obtain ⟨hg, hn⟩ := and_e (Cond.before_iff.mp (show (Jvm.Cond.and given_1 narrow_1).before args s = true from hpre))
  obtain ⟨g0, gr0⟩ := and_e hg
  obtain ⟨g1, gr1⟩ := and_e gr0
  obtain ⟨g2, gr2⟩ := and_e gr1
  obtain ⟨v0, v1, v2, rfl⟩ : ∃ v0 v1 v2 : Value, args = #[v0, v1, v2] := by
    have hs : args.size = 3 := by simpa [Cond.value, given_1] using g0
    obtain ⟨L⟩ := args
    match L, hs with
    | [v0, v1, v2], _ => exact ⟨v0, v1, v2, rfl⟩
  have hw := fun d (hd : d ∈ tables_1) => atoms_spec (ws := Jvm.Cond.code x code maxLocals ret :: tables_1) hat d (List.mem_cons_of_mem _ hd)
  have hfit : Fit s := fun {y c} hc i hi => by
    obtain ⟨ha, rfl⟩ := Array.getElem?_eq_some_iff.mp hc
    have q := List.all_eq_true.mp ((Array.all_eq_true_iff_forall_mem.mp hF) _ (Array.getElem_mem ha)) i (List.mem_range.mpr hi)
    simpa [Array.getElem?_eq_getElem hi] using q
  obtain ⟨i0, ei0⟩ := is_v g1
  obtain rfl : v0 = (.int i0) := Option.some.inj ei0
  obtain ⟨i1, ei1⟩ := is_v g2
  obtain rfl : v1 = (.int i1) := Option.some.inj ei1
  obtain ⟨i2, ei2⟩ := is_v gr2
  obtain rfl : v2 = (.int i2) := Option.some.inj ei2
  obtain ⟨hsets, hown0⟩ := atoms_of _ (rest_1_c_eq ▸ (show rest_1_c.before _ s = true from hrest))
  have hs0 := hsets _ (List.mem_of_getElem? (i := 0) rfl)
  have hs1 := hsets _ (List.mem_of_getElem? (i := 1) rfl)
  have hs2 := hsets _ (List.mem_of_getElem? (i := 2) rfl)
  have hs3 := Cond.before_iff.mp (hsets _ (List.mem_of_getElem? (i := 3) rfl))
  have hs4 := Cond.before_iff.mp (hsets _ (List.mem_of_getElem? (i := 4) rfl))
  have hs6 := Cond.before_iff.mp (hsets _ (List.mem_of_getElem? (i := 6) rfl))
  have hs7 := Cond.before_iff.mp (hsets _ (List.mem_of_getElem? (i := 7) rfl))
  have S_high := Sta.start (eqv_i (Term.int_eval (127 : Int32)) hs3) (Or.inl hs1)
  obtain ⟨w_cache, ev_cache⟩ := arr_v hs4
  obtain ⟨cl_cache, A_w_cache⟩ := Arr.start ev_cache hs4
  have S_cache := Sta.start ev_cache (Or.inr ⟨(hw _ (List.mem_of_getElem? (i := 18) rfl)), hs2⟩)
  have Z_cache : cl_cache.slots.size = 256 := own_len ev_cache A_w_cache hs6 (by decide)
  have G_cache := own_cache (fun idx => ev_cache) A_w_cache Z_cache hs7
  have P : Pins s w_cache cl_cache := ⟨S_high, S_cache, A_w_cache, G_cache⟩
  obtain ⟨n, o, h1, h2, h3, _, L, rfl, ⟨rfl, N⟩, hq⟩ := rm0_all l s _ hw tables_1 w_cache cl_cache i0 i1 i2 s.heap s.heap.size (Old.start s) P p e ha hc hk s m _ below hf ((Spec.applies_iff_loose hf).mp happ).1 ⟨rfl, State.Warmed39.refl s, rfl⟩ trivial
  refine ⟨n, _, h1, h2, h3, hpost _ _ _ _ _ _ ⟨Cond.after_iff.mpr rfl, Cond.after_iff.mpr (eq_i res_at (Term.int_eval (1)) rfl), trivial⟩ ⟨hq.1, hq.2.1, (hq.2.2.sift fun y hy => Or.inr (N y hy)).mono (by decide) (by decide)⟩⟩
theorem main_1_1 : Claimed_1_1 := comes_1 fun _ _ _ _ _ _ h hF => ⟨h.1, hF⟩
theorem main_1_2 : Claimed_1_2 := comes_1 fun _ _ _ _ _ _ h hF => ⟨h.2.1, hF⟩
end Jvm.Pilot.@@N@@
namespace Jvm.Pilot.@@N@@
open Jvm Jvm.ClassFile Sem Op Lib Jvm.Free Jvm.Stand Jvm.Pilot.@@N@@.Jvm.D
/-! MADE BY PROGRAM (witnessworld.py) out of the Statement's table words and the real class files: 16 classes; the members and pool entries that the words name. The judged class is class 1, her method 1. -/
namespace start1
open Jvm.ClassFile
def u (s : String) : CpInfo := .utf8 (stringToUtf16 s)
/-- a pool by its gaps: so many unusable entries, then the entry; so many at the end -/
def gap : Nat → List CpInfo → List CpInfo
  | 0, r => r
  | n + 1, r => .unusable :: gap n r
def poolList (es : List (Nat × CpInfo)) (last : Nat) : List CpInfo := es.foldr (fun e r => gap e.1 (e.2 :: r)) (gap last [])
def pool (es : List (Nat × CpInfo)) (last : Nat) : Array CpInfo := ⟨poolList es last⟩
def fileOf (pool : Array CpInfo) (this : Nat) (attrs : Array Attribute := #[]) (ms : Array MethodInfo := #[]) (fl : Nat := 33) (sup : Nat := 0) (ifs : Array Nat := #[]) (fds : Array FieldInfo := #[]) : ClassFile where
  minorVersion := 0
  majorVersion := 65
  constantPool := pool
  accessFlags := fl
  thisClass := this
  superClass := sup
  interfaces := ifs
  fields := fds
  methods := ms
  attributes := attrs
def plain (name : String) (sup : Option ClassId) : Class where
  name := name
  kind := .ordinary
  loader := none
  accessFlags := 33
  super := sup
  interfaces := #[]
  cf := none
  fields := #[]
  methods := #[]
  instanceTypes := #[]
  staticTypes := #[]
  resolved := #[]
  callSites := []
  init := .initialized
  statics := none
  mirror := none

def pool0 : Array CpInfo := pool [(5, u "<init>"), (0, u "()V"), (1, .class_ 10), (1, u "java/lang/Object")] 113

def k0c0 : Code := { maxStack := 0, maxLocals := 1, code := object_method_1_code, exceptionTable := #[], attributes := #[] }
def k0m0 : Method := { name := "<init>", desc := "()V", sig := { parameters := [], returnType := none }, accessFlags := 1, code := some k0c0 }
/-- java/lang/Object -/
def k0 : Class := { plain "java/lang/Object" none with
  accessFlags := 33
  interfaces := #[]
  cf := some (fileOf pool0 8 #[] #[{ accessFlags := 1, nameIndex := 5, descriptorIndex := 6, attributes := #[] }] 33 0 #[] #[])
  fields := #[]
  methods := #[k0m0]
  instanceTypes := #[]
  staticTypes := #[]
  resolved := Array.replicate 124 none
  statics := none }

def pool1 : Array CpInfo := pool [(2, .class_ 4), (1, u "java/lang/Object"), (0, u "<init>"), (0, u "()V"), (0, .class_ 8), (0, u "com/example/demarc/demarc/ApplicationExceptions$Designation"), (0, .methodref 7 10), (0, .nameAndType 5 11), (0, u "(ZZ)V"), (0, .methodref 7 13), (0, .nameAndType 14 15), (0, u "equals"), (0, u "(Ljava/lang/Object;)Z"), (0, .methodref 17 18), (0, .class_ 19), (0, .nameAndType 20 21), (0, u "java/lang/Integer"), (0, u "valueOf"), (0, u "(I)Ljava/lang/Integer;"), (0, .class_ 23), (0, u "com/example/demarc/demarc/DesignationEqualsPinLaw"), (2, u "law"), (0, u "(III)Z")] 7

def k1m0 : Method := { name := "<init>", desc := "()V", sig := { parameters := [], returnType := none }, accessFlags := 2, code := none }
def k1c1 : Code := { maxStack := 4, maxLocals := 11, code := code, exceptionTable := #[], attributes := #[] }
def k1m1 : Method := { name := "law", desc := "(III)Z", sig := { parameters := [.int, .int, .int], returnType := some .boolean }, accessFlags := 9, code := some k1c1 }
/-- com/example/demarc/demarc/DesignationEqualsPinLaw -/
def k1 : Class := { plain "com/example/demarc/demarc/DesignationEqualsPinLaw" (some 0) with
  accessFlags := 49
  interfaces := #[]
  cf := some (fileOf pool1 22 #[] #[{ accessFlags := 2, nameIndex := 5, descriptorIndex := 6, attributes := #[] }, { accessFlags := 9, nameIndex := 26, descriptorIndex := 27, attributes := #[] }] 49 2 #[] #[])
  fields := #[]
  methods := #[k1m0, k1m1]
  instanceTypes := #[]
  staticTypes := #[]
  resolved := Array.replicate 35 none
  statics := none }

def pool2 : Array CpInfo := pool [(1, .methodref 2 3), (0, .class_ 4), (0, .nameAndType 5 6), (0, u "java/lang/Object"), (0, u "<init>"), (0, u "()V"), (0, .fieldref 8 9), (0, .class_ 10), (0, .nameAndType 11 12), (0, u "com/example/demarc/demarc/ApplicationExceptions$Designation"), (0, u "rollback"), (0, u "Z"), (0, .fieldref 8 14), (0, .nameAndType 15 12), (0, u "inherited"), (16, u "(ZZ)V"), (2, u "equals"), (0, u "(Ljava/lang/Object;)Z"), (8, .class_ 46), (0, u "com/example/demarc/demarc/ApplicationExceptions")] 16

def k2c0 : Code := { maxStack := 2, maxLocals := 3, code := prog_2_method_1_code, exceptionTable := #[], attributes := #[] }
def k2m0 : Method := { name := "<init>", desc := "(ZZ)V", sig := { parameters := [.boolean, .boolean], returnType := none }, accessFlags := 0, code := some k2c0 }
def k2c1 : Code := { maxStack := 2, maxLocals := 2, code := prog_2_method_2_code, exceptionTable := #[], attributes := #[] }
def k2m1 : Method := { name := "equals", desc := "(Ljava/lang/Object;)Z", sig := { parameters := [(.object "java/lang/Object")], returnType := some .boolean }, accessFlags := 1, code := some k2c1 }
/-- com/example/demarc/demarc/ApplicationExceptions$Designation -/
def k2 : Class := { plain "com/example/demarc/demarc/ApplicationExceptions$Designation" (some 0) with
  accessFlags := 32
  interfaces := #[]
  cf := some (fileOf pool2 8 #[.nestHost 45] #[{ accessFlags := 0, nameIndex := 5, descriptorIndex := 32, attributes := #[] }, { accessFlags := 1, nameIndex := 35, descriptorIndex := 36, attributes := #[] }] 32 2 #[] #[{ accessFlags := 18, nameIndex := 11, descriptorIndex := 12, attributes := #[] }, { accessFlags := 18, nameIndex := 15, descriptorIndex := 12, attributes := #[] }])
  fields := #[{ name := "rollback", type := .boolean, accessFlags := 18, slot := 0, constantValue := 0 }, { name := "inherited", type := .boolean, accessFlags := 18, slot := 1, constantValue := 0 }]
  methods := #[k2m0, k2m1]
  instanceTypes := #[.boolean, .boolean]
  staticTypes := #[]
  resolved := Array.replicate 63 none
  statics := none }

def pool3 : Array CpInfo := pool [(1, .class_ 2), (0, u "java/io/Serializable"), (0, .class_ 4), (0, u "java/lang/Object")] 2

/-- java/io/Serializable -/
def k3 : Class := { plain "java/io/Serializable" (some 0) with
  accessFlags := 1537
  interfaces := #[]
  cf := some (fileOf pool3 1 #[] #[] 1537 3 #[] #[])
  fields := #[]
  methods := #[]
  instanceTypes := #[]
  staticTypes := #[]
  resolved := Array.replicate 7 none
  statics := none }

def pool4 : Array CpInfo := pool [(1, .methodref 2 3), (0, .class_ 4), (0, .nameAndType 5 6), (0, u "java/lang/Object"), (0, u "<init>"), (0, u "()V"), (1, .class_ 10), (1, u "java/lang/Number"), (2, .class_ 14), (0, u "java/io/Serializable"), (0, u "serialVersionUID"), (0, u "J")] 20

def k4c0 : Code := { maxStack := 1, maxLocals := 1, code := jdk_18_method_1_code, exceptionTable := #[], attributes := #[] }
def k4m0 : Method := { name := "<init>", desc := "()V", sig := { parameters := [], returnType := none }, accessFlags := 1, code := some k4c0 }
/-- java/lang/Number -/
def k4 : Class := { plain "java/lang/Number" (some 0) with
  accessFlags := 1057
  interfaces := #[3]
  cf := some (fileOf pool4 8 #[] #[{ accessFlags := 1, nameIndex := 5, descriptorIndex := 6, attributes := #[] }] 1057 2 #[13] #[{ accessFlags := 26, nameIndex := 15, descriptorIndex := 16, attributes := #[] }])
  fields := #[{ name := "serialVersionUID", type := .long, accessFlags := 26, slot := 0, constantValue := 0 }]
  methods := #[k4m0]
  instanceTypes := #[]
  staticTypes := #[.long]
  resolved := Array.replicate 37 none
  statics := none }

def pool5 : Array CpInfo := pool [(1, .class_ 2), (0, u "java/lang/Comparable"), (0, .class_ 4), (0, u "java/lang/Object")] 7

/-- java/lang/Comparable -/
def k5 : Class := { plain "java/lang/Comparable" (some 0) with
  accessFlags := 1537
  interfaces := #[]
  cf := some (fileOf pool5 1 #[] #[] 1537 3 #[] #[])
  fields := #[]
  methods := #[]
  instanceTypes := #[]
  staticTypes := #[]
  resolved := Array.replicate 12 none
  statics := none }

def pool6 : Array CpInfo := pool [(1, .class_ 2), (0, u "java/lang/constant/Constable"), (0, .class_ 4), (0, u "java/lang/Object")] 6

/-- java/lang/constant/Constable -/
def k6 : Class := { plain "java/lang/constant/Constable" (some 0) with
  accessFlags := 1537
  interfaces := #[]
  cf := some (fileOf pool6 1 #[] #[] 1537 3 #[] #[])
  fields := #[]
  methods := #[]
  instanceTypes := #[]
  staticTypes := #[]
  resolved := Array.replicate 11 none
  statics := none }

def pool7 : Array CpInfo := pool [(1, .class_ 2), (0, u "java/lang/constant/ConstantDesc"), (0, .class_ 4), (0, u "java/lang/Object")] 32

/-- java/lang/constant/ConstantDesc -/
def k7 : Class := { plain "java/lang/constant/ConstantDesc" (some 0) with
  accessFlags := 1537
  interfaces := #[]
  cf := some (fileOf pool7 1 #[] #[] 1537 3 #[] #[])
  fields := #[]
  methods := #[]
  instanceTypes := #[]
  staticTypes := #[]
  resolved := Array.replicate 37 none
  statics := none }

def pool8 : Array CpInfo := pool [(1, .class_ 2), (0, u "java/lang/Integer"), (16, u "digits"), (0, u "[C"), (46, u "<init>"), (17, u "DigitOnes"), (0, u "[B"), (2, u "DigitTens"), (10, .nameAndType 67 101), (0, u "()V"), (85, u "valueOf"), (0, u "(I)Ljava/lang/Integer;"), (0, .class_ 190), (0, u "java/lang/Integer$IntegerCache"), (0, .fieldref 189 192), (0, .nameAndType 193 194), (0, u "high"), (0, u "I"), (0, .fieldref 189 196), (0, .nameAndType 197 198), (0, u "cache"), (0, u "[Ljava/lang/Integer;"), (0, .methodref 1 200), (0, .nameAndType 67 201), (0, u "(I)V"), (0, .methodref 203 100), (0, .class_ 204), (0, u "java/lang/Number"), (0, .fieldref 1 206), (0, .nameAndType 207 194), (0, u "value"), (94, u "TYPE"), (0, u "Ljava/lang/Class;"), (0, .class_ 305), (0, u "java/lang/Comparable"), (0, .class_ 307), (0, u "java/lang/constant/Constable"), (0, .class_ 309), (0, u "java/lang/constant/ConstantDesc"), (0, u "MIN_VALUE"), (1, u "MAX_VALUE"), (3, u "SIZE"), (1, u "BYTES"), (1, u "serialVersionUID"), (0, u "J")] 131

def k8c0 : Code := { maxStack := 3, maxLocals := 1, code := jdk_33_method_22_code, exceptionTable := #[], attributes := #[] }
def k8m0 : Method := { name := "valueOf", desc := "(I)Ljava/lang/Integer;", sig := { parameters := [.int], returnType := some (.object "java/lang/Integer") }, accessFlags := 9, code := some k8c0 }
def k8c1 : Code := { maxStack := 2, maxLocals := 2, code := jdk_33_method_23_code, exceptionTable := #[], attributes := #[] }
def k8m1 : Method := { name := "<init>", desc := "(I)V", sig := { parameters := [.int], returnType := none }, accessFlags := 1, code := some k8c1 }
/-- java/lang/Integer -/
def k8 : Class := { plain "java/lang/Integer" (some 4) with
  accessFlags := 49
  interfaces := #[5, 6, 7]
  cf := some (fileOf pool8 1 #[.nestMembers #[189]] #[{ accessFlags := 9, nameIndex := 187, descriptorIndex := 188, attributes := #[] }, { accessFlags := 1, nameIndex := 67, descriptorIndex := 201, attributes := #[] }] 49 203 #[304, 306, 308] #[{ accessFlags := 25, nameIndex := 310, descriptorIndex := 194, attributes := #[] }, { accessFlags := 25, nameIndex := 312, descriptorIndex := 194, attributes := #[] }, { accessFlags := 25, nameIndex := 302, descriptorIndex := 303, attributes := #[] }, { accessFlags := 24, nameIndex := 19, descriptorIndex := 20, attributes := #[] }, { accessFlags := 24, nameIndex := 89, descriptorIndex := 86, attributes := #[] }, { accessFlags := 24, nameIndex := 85, descriptorIndex := 86, attributes := #[] }, { accessFlags := 18, nameIndex := 207, descriptorIndex := 194, attributes := #[] }, { accessFlags := 25, nameIndex := 316, descriptorIndex := 194, attributes := #[] }, { accessFlags := 25, nameIndex := 318, descriptorIndex := 194, attributes := #[] }, { accessFlags := 26, nameIndex := 320, descriptorIndex := 321, attributes := #[] }])
  fields := #[{ name := "MIN_VALUE", type := .int, accessFlags := 25, slot := 0, constantValue := 0 }, { name := "MAX_VALUE", type := .int, accessFlags := 25, slot := 1, constantValue := 0 }, { name := "TYPE", type := (.object "java/lang/Class"), accessFlags := 25, slot := 2, constantValue := 0 }, { name := "digits", type := (.array .char), accessFlags := 24, slot := 3, constantValue := 0 }, { name := "DigitTens", type := (.array .byte), accessFlags := 24, slot := 4, constantValue := 0 }, { name := "DigitOnes", type := (.array .byte), accessFlags := 24, slot := 5, constantValue := 0 }, { name := "value", type := .int, accessFlags := 18, slot := 0, constantValue := 0 }, { name := "SIZE", type := .int, accessFlags := 25, slot := 6, constantValue := 0 }, { name := "BYTES", type := .int, accessFlags := 25, slot := 7, constantValue := 0 }, { name := "serialVersionUID", type := .long, accessFlags := 26, slot := 8, constantValue := 0 }]
  methods := #[k8m0, k8m1]
  instanceTypes := #[.int]
  staticTypes := #[.int, .int, (.object "java/lang/Class"), (.array .char), (.array .byte), (.array .byte), .int, .int, .long]
  resolved := Array.replicate 453 none
  statics := none }

def pool9 : Array CpInfo := pool [(2, .class_ 4), (1, u "java/lang/Object"), (0, u "<init>"), (0, u "()V"), (0, .class_ 8), (0, u "java/lang/Integer"), (7, .class_ 18), (1, u "java/lang/Integer$IntegerCache"), (0, u "$assertionsDisabled"), (0, u "Z"), (26, u "high"), (0, u "I"), (8, u "archivedCache"), (0, u "[Ljava/lang/Integer;"), (12, u "cache"), (0, u "low")] 27

def k9m0 : Method := { name := "<init>", desc := "()V", sig := { parameters := [], returnType := none }, accessFlags := 2, code := none }
/-- java/lang/Integer$IntegerCache -/
def k9 : Class := { plain "java/lang/Integer$IntegerCache" (some 0) with
  accessFlags := 48
  interfaces := #[]
  cf := some (fileOf pool9 16 #[.nestHost 7] #[{ accessFlags := 2, nameIndex := 5, descriptorIndex := 6, attributes := #[] }] 48 2 #[] #[{ accessFlags := 24, nameIndex := 72, descriptorIndex := 48, attributes := #[] }, { accessFlags := 24, nameIndex := 47, descriptorIndex := 48, attributes := #[] }, { accessFlags := 24, nameIndex := 71, descriptorIndex := 58, attributes := #[] }, { accessFlags := 8, nameIndex := 57, descriptorIndex := 58, attributes := #[] }, { accessFlags := 4120, nameIndex := 19, descriptorIndex := 20, attributes := #[] }])
  fields := #[{ name := "low", type := .int, accessFlags := 24, slot := 0, constantValue := 0 }, { name := "high", type := .int, accessFlags := 24, slot := 1, constantValue := 0 }, { name := "cache", type := (.array (.object "java/lang/Integer")), accessFlags := 24, slot := 2, constantValue := 0 }, { name := "archivedCache", type := (.array (.object "java/lang/Integer")), accessFlags := 8, slot := 3, constantValue := 0 }, { name := "$assertionsDisabled", type := .boolean, accessFlags := 4120, slot := 4, constantValue := 0 }]
  methods := #[k9m0]
  instanceTypes := #[]
  staticTypes := #[.int, .int, (.array (.object "java/lang/Integer")), (.array (.object "java/lang/Integer")), .boolean]
  resolved := Array.replicate 100 none
  statics := some 0 }

def pool10 : Array CpInfo := pool [(1, u "java/lang/Cloneable"), (0, .class_ 1), (0, u "java/lang/Object"), (0, .class_ 3)] 3

/-- java/lang/Cloneable -/
def k10 : Class := { plain "java/lang/Cloneable" (some 0) with
  accessFlags := 1537
  interfaces := #[]
  cf := some (fileOf pool10 2 #[] #[] 1537 4 #[] #[])
  fields := #[]
  methods := #[]
  instanceTypes := #[]
  staticTypes := #[]
  resolved := Array.replicate 8 none
  statics := none }

/-- the primitive byte -/
def k11 : Class := { plain "byte" none with kind := .primitive 'B', accessFlags := 0x411 }
/-- [B -/
def k12 : Class := { plain "[B" (some 0) with kind := .array 11 .byte, interfaces := #[10, 3], accessFlags := 1041 }

/-- the primitive int -/
def k13 : Class := { plain "int" none with kind := .primitive 'I', accessFlags := 0x411 }
/-- [I -/
def k14 : Class := { plain "[I" (some 0) with kind := .array 13 .int, interfaces := #[10, 3], accessFlags := 1041 }

/-- [Ljava/lang/Integer; -/
def k15 : Class := { plain "[Ljava/lang/Integer;" (some 0) with kind := .array 8 (.object "java/lang/Integer"), interfaces := #[10, 3], accessFlags := 1041 }

def heap : Heap := #[{ cls := 9, slots := #[.int 0, .int 127, .ref 1, .null, .int 0], vm := .statics 9 },
  { cls := 15, slots := #[.ref 2, .ref 3, .ref 4, .ref 5, .ref 6, .ref 7, .ref 8, .ref 9, .ref 10, .ref 11, .ref 12, .ref 13, .ref 14, .ref 15, .ref 16, .ref 17, .ref 18, .ref 19, .ref 20, .ref 21, .ref 22, .ref 23, .ref 24, .ref 25, .ref 26, .ref 27, .ref 28, .ref 29, .ref 30, .ref 31, .ref 32, .ref 33, .ref 34, .ref 35, .ref 36, .ref 37, .ref 38, .ref 39, .ref 40, .ref 41, .ref 42, .ref 43, .ref 44, .ref 45, .ref 46, .ref 47, .ref 48, .ref 49, .ref 50, .ref 51, .ref 52, .ref 53, .ref 54, .ref 55, .ref 56, .ref 57, .ref 58, .ref 59, .ref 60, .ref 61, .ref 62, .ref 63, .ref 64, .ref 65, .ref 66, .ref 67, .ref 68, .ref 69, .ref 70, .ref 71, .ref 72, .ref 73, .ref 74, .ref 75, .ref 76, .ref 77, .ref 78, .ref 79, .ref 80, .ref 81, .ref 82, .ref 83, .ref 84, .ref 85, .ref 86, .ref 87, .ref 88, .ref 89, .ref 90, .ref 91, .ref 92, .ref 93, .ref 94, .ref 95, .ref 96, .ref 97, .ref 98, .ref 99, .ref 100, .ref 101, .ref 102, .ref 103, .ref 104, .ref 105, .ref 106, .ref 107, .ref 108, .ref 109, .ref 110, .ref 111, .ref 112, .ref 113, .ref 114, .ref 115, .ref 116, .ref 117, .ref 118, .ref 119, .ref 120, .ref 121, .ref 122, .ref 123, .ref 124, .ref 125, .ref 126, .ref 127, .ref 128, .ref 129, .ref 130, .ref 131, .ref 132, .ref 133, .ref 134, .ref 135, .ref 136, .ref 137, .ref 138, .ref 139, .ref 140, .ref 141, .ref 142, .ref 143, .ref 144, .ref 145, .ref 146, .ref 147, .ref 148, .ref 149, .ref 150, .ref 151, .ref 152, .ref 153, .ref 154, .ref 155, .ref 156, .ref 157, .ref 158, .ref 159, .ref 160, .ref 161, .ref 162, .ref 163, .ref 164, .ref 165, .ref 166, .ref 167, .ref 168, .ref 169, .ref 170, .ref 171, .ref 172, .ref 173, .ref 174, .ref 175, .ref 176, .ref 177, .ref 178, .ref 179, .ref 180, .ref 181, .ref 182, .ref 183, .ref 184, .ref 185, .ref 186, .ref 187, .ref 188, .ref 189, .ref 190, .ref 191, .ref 192, .ref 193, .ref 194, .ref 195, .ref 196, .ref 197, .ref 198, .ref 199, .ref 200, .ref 201, .ref 202, .ref 203, .ref 204, .ref 205, .ref 206, .ref 207, .ref 208, .ref 209, .ref 210, .ref 211, .ref 212, .ref 213, .ref 214, .ref 215, .ref 216, .ref 217, .ref 218, .ref 219, .ref 220, .ref 221, .ref 222, .ref 223, .ref 224, .ref 225, .ref 226, .ref 227, .ref 228, .ref 229, .ref 230, .ref 231, .ref 232, .ref 233, .ref 234, .ref 235, .ref 236, .ref 237, .ref 238, .ref 239, .ref 240, .ref 241, .ref 242, .ref 243, .ref 244, .ref 245, .ref 246, .ref 247, .ref 248, .ref 249, .ref 250, .ref 251, .ref 252, .ref 253, .ref 254, .ref 255, .ref 256, .ref 257], vm := .none },
  { cls := 8, slots := #[.int (-128)], vm := .none },
  { cls := 8, slots := #[.int (-127)], vm := .none },
  { cls := 8, slots := #[.int (-126)], vm := .none },
  { cls := 8, slots := #[.int (-125)], vm := .none },
  { cls := 8, slots := #[.int (-124)], vm := .none },
  { cls := 8, slots := #[.int (-123)], vm := .none },
  { cls := 8, slots := #[.int (-122)], vm := .none },
  { cls := 8, slots := #[.int (-121)], vm := .none },
  { cls := 8, slots := #[.int (-120)], vm := .none },
  { cls := 8, slots := #[.int (-119)], vm := .none },
  { cls := 8, slots := #[.int (-118)], vm := .none },
  { cls := 8, slots := #[.int (-117)], vm := .none },
  { cls := 8, slots := #[.int (-116)], vm := .none },
  { cls := 8, slots := #[.int (-115)], vm := .none },
  { cls := 8, slots := #[.int (-114)], vm := .none },
  { cls := 8, slots := #[.int (-113)], vm := .none },
  { cls := 8, slots := #[.int (-112)], vm := .none },
  { cls := 8, slots := #[.int (-111)], vm := .none },
  { cls := 8, slots := #[.int (-110)], vm := .none },
  { cls := 8, slots := #[.int (-109)], vm := .none },
  { cls := 8, slots := #[.int (-108)], vm := .none },
  { cls := 8, slots := #[.int (-107)], vm := .none },
  { cls := 8, slots := #[.int (-106)], vm := .none },
  { cls := 8, slots := #[.int (-105)], vm := .none },
  { cls := 8, slots := #[.int (-104)], vm := .none },
  { cls := 8, slots := #[.int (-103)], vm := .none },
  { cls := 8, slots := #[.int (-102)], vm := .none },
  { cls := 8, slots := #[.int (-101)], vm := .none },
  { cls := 8, slots := #[.int (-100)], vm := .none },
  { cls := 8, slots := #[.int (-99)], vm := .none },
  { cls := 8, slots := #[.int (-98)], vm := .none },
  { cls := 8, slots := #[.int (-97)], vm := .none },
  { cls := 8, slots := #[.int (-96)], vm := .none },
  { cls := 8, slots := #[.int (-95)], vm := .none },
  { cls := 8, slots := #[.int (-94)], vm := .none },
  { cls := 8, slots := #[.int (-93)], vm := .none },
  { cls := 8, slots := #[.int (-92)], vm := .none },
  { cls := 8, slots := #[.int (-91)], vm := .none },
  { cls := 8, slots := #[.int (-90)], vm := .none },
  { cls := 8, slots := #[.int (-89)], vm := .none },
  { cls := 8, slots := #[.int (-88)], vm := .none },
  { cls := 8, slots := #[.int (-87)], vm := .none },
  { cls := 8, slots := #[.int (-86)], vm := .none },
  { cls := 8, slots := #[.int (-85)], vm := .none },
  { cls := 8, slots := #[.int (-84)], vm := .none },
  { cls := 8, slots := #[.int (-83)], vm := .none },
  { cls := 8, slots := #[.int (-82)], vm := .none },
  { cls := 8, slots := #[.int (-81)], vm := .none },
  { cls := 8, slots := #[.int (-80)], vm := .none },
  { cls := 8, slots := #[.int (-79)], vm := .none },
  { cls := 8, slots := #[.int (-78)], vm := .none },
  { cls := 8, slots := #[.int (-77)], vm := .none },
  { cls := 8, slots := #[.int (-76)], vm := .none },
  { cls := 8, slots := #[.int (-75)], vm := .none },
  { cls := 8, slots := #[.int (-74)], vm := .none },
  { cls := 8, slots := #[.int (-73)], vm := .none },
  { cls := 8, slots := #[.int (-72)], vm := .none },
  { cls := 8, slots := #[.int (-71)], vm := .none },
  { cls := 8, slots := #[.int (-70)], vm := .none },
  { cls := 8, slots := #[.int (-69)], vm := .none },
  { cls := 8, slots := #[.int (-68)], vm := .none },
  { cls := 8, slots := #[.int (-67)], vm := .none },
  { cls := 8, slots := #[.int (-66)], vm := .none },
  { cls := 8, slots := #[.int (-65)], vm := .none },
  { cls := 8, slots := #[.int (-64)], vm := .none },
  { cls := 8, slots := #[.int (-63)], vm := .none },
  { cls := 8, slots := #[.int (-62)], vm := .none },
  { cls := 8, slots := #[.int (-61)], vm := .none },
  { cls := 8, slots := #[.int (-60)], vm := .none },
  { cls := 8, slots := #[.int (-59)], vm := .none },
  { cls := 8, slots := #[.int (-58)], vm := .none },
  { cls := 8, slots := #[.int (-57)], vm := .none },
  { cls := 8, slots := #[.int (-56)], vm := .none },
  { cls := 8, slots := #[.int (-55)], vm := .none },
  { cls := 8, slots := #[.int (-54)], vm := .none },
  { cls := 8, slots := #[.int (-53)], vm := .none },
  { cls := 8, slots := #[.int (-52)], vm := .none },
  { cls := 8, slots := #[.int (-51)], vm := .none },
  { cls := 8, slots := #[.int (-50)], vm := .none },
  { cls := 8, slots := #[.int (-49)], vm := .none },
  { cls := 8, slots := #[.int (-48)], vm := .none },
  { cls := 8, slots := #[.int (-47)], vm := .none },
  { cls := 8, slots := #[.int (-46)], vm := .none },
  { cls := 8, slots := #[.int (-45)], vm := .none },
  { cls := 8, slots := #[.int (-44)], vm := .none },
  { cls := 8, slots := #[.int (-43)], vm := .none },
  { cls := 8, slots := #[.int (-42)], vm := .none },
  { cls := 8, slots := #[.int (-41)], vm := .none },
  { cls := 8, slots := #[.int (-40)], vm := .none },
  { cls := 8, slots := #[.int (-39)], vm := .none },
  { cls := 8, slots := #[.int (-38)], vm := .none },
  { cls := 8, slots := #[.int (-37)], vm := .none },
  { cls := 8, slots := #[.int (-36)], vm := .none },
  { cls := 8, slots := #[.int (-35)], vm := .none },
  { cls := 8, slots := #[.int (-34)], vm := .none },
  { cls := 8, slots := #[.int (-33)], vm := .none },
  { cls := 8, slots := #[.int (-32)], vm := .none },
  { cls := 8, slots := #[.int (-31)], vm := .none },
  { cls := 8, slots := #[.int (-30)], vm := .none },
  { cls := 8, slots := #[.int (-29)], vm := .none },
  { cls := 8, slots := #[.int (-28)], vm := .none },
  { cls := 8, slots := #[.int (-27)], vm := .none },
  { cls := 8, slots := #[.int (-26)], vm := .none },
  { cls := 8, slots := #[.int (-25)], vm := .none },
  { cls := 8, slots := #[.int (-24)], vm := .none },
  { cls := 8, slots := #[.int (-23)], vm := .none },
  { cls := 8, slots := #[.int (-22)], vm := .none },
  { cls := 8, slots := #[.int (-21)], vm := .none },
  { cls := 8, slots := #[.int (-20)], vm := .none },
  { cls := 8, slots := #[.int (-19)], vm := .none },
  { cls := 8, slots := #[.int (-18)], vm := .none },
  { cls := 8, slots := #[.int (-17)], vm := .none },
  { cls := 8, slots := #[.int (-16)], vm := .none },
  { cls := 8, slots := #[.int (-15)], vm := .none },
  { cls := 8, slots := #[.int (-14)], vm := .none },
  { cls := 8, slots := #[.int (-13)], vm := .none },
  { cls := 8, slots := #[.int (-12)], vm := .none },
  { cls := 8, slots := #[.int (-11)], vm := .none },
  { cls := 8, slots := #[.int (-10)], vm := .none },
  { cls := 8, slots := #[.int (-9)], vm := .none },
  { cls := 8, slots := #[.int (-8)], vm := .none },
  { cls := 8, slots := #[.int (-7)], vm := .none },
  { cls := 8, slots := #[.int (-6)], vm := .none },
  { cls := 8, slots := #[.int (-5)], vm := .none },
  { cls := 8, slots := #[.int (-4)], vm := .none },
  { cls := 8, slots := #[.int (-3)], vm := .none },
  { cls := 8, slots := #[.int (-2)], vm := .none },
  { cls := 8, slots := #[.int (-1)], vm := .none },
  { cls := 8, slots := #[.int 0], vm := .none },
  { cls := 8, slots := #[.int 1], vm := .none },
  { cls := 8, slots := #[.int 2], vm := .none },
  { cls := 8, slots := #[.int 3], vm := .none },
  { cls := 8, slots := #[.int 4], vm := .none },
  { cls := 8, slots := #[.int 5], vm := .none },
  { cls := 8, slots := #[.int 6], vm := .none },
  { cls := 8, slots := #[.int 7], vm := .none },
  { cls := 8, slots := #[.int 8], vm := .none },
  { cls := 8, slots := #[.int 9], vm := .none },
  { cls := 8, slots := #[.int 10], vm := .none },
  { cls := 8, slots := #[.int 11], vm := .none },
  { cls := 8, slots := #[.int 12], vm := .none },
  { cls := 8, slots := #[.int 13], vm := .none },
  { cls := 8, slots := #[.int 14], vm := .none },
  { cls := 8, slots := #[.int 15], vm := .none },
  { cls := 8, slots := #[.int 16], vm := .none },
  { cls := 8, slots := #[.int 17], vm := .none },
  { cls := 8, slots := #[.int 18], vm := .none },
  { cls := 8, slots := #[.int 19], vm := .none },
  { cls := 8, slots := #[.int 20], vm := .none },
  { cls := 8, slots := #[.int 21], vm := .none },
  { cls := 8, slots := #[.int 22], vm := .none },
  { cls := 8, slots := #[.int 23], vm := .none },
  { cls := 8, slots := #[.int 24], vm := .none },
  { cls := 8, slots := #[.int 25], vm := .none },
  { cls := 8, slots := #[.int 26], vm := .none },
  { cls := 8, slots := #[.int 27], vm := .none },
  { cls := 8, slots := #[.int 28], vm := .none },
  { cls := 8, slots := #[.int 29], vm := .none },
  { cls := 8, slots := #[.int 30], vm := .none },
  { cls := 8, slots := #[.int 31], vm := .none },
  { cls := 8, slots := #[.int 32], vm := .none },
  { cls := 8, slots := #[.int 33], vm := .none },
  { cls := 8, slots := #[.int 34], vm := .none },
  { cls := 8, slots := #[.int 35], vm := .none },
  { cls := 8, slots := #[.int 36], vm := .none },
  { cls := 8, slots := #[.int 37], vm := .none },
  { cls := 8, slots := #[.int 38], vm := .none },
  { cls := 8, slots := #[.int 39], vm := .none },
  { cls := 8, slots := #[.int 40], vm := .none },
  { cls := 8, slots := #[.int 41], vm := .none },
  { cls := 8, slots := #[.int 42], vm := .none },
  { cls := 8, slots := #[.int 43], vm := .none },
  { cls := 8, slots := #[.int 44], vm := .none },
  { cls := 8, slots := #[.int 45], vm := .none },
  { cls := 8, slots := #[.int 46], vm := .none },
  { cls := 8, slots := #[.int 47], vm := .none },
  { cls := 8, slots := #[.int 48], vm := .none },
  { cls := 8, slots := #[.int 49], vm := .none },
  { cls := 8, slots := #[.int 50], vm := .none },
  { cls := 8, slots := #[.int 51], vm := .none },
  { cls := 8, slots := #[.int 52], vm := .none },
  { cls := 8, slots := #[.int 53], vm := .none },
  { cls := 8, slots := #[.int 54], vm := .none },
  { cls := 8, slots := #[.int 55], vm := .none },
  { cls := 8, slots := #[.int 56], vm := .none },
  { cls := 8, slots := #[.int 57], vm := .none },
  { cls := 8, slots := #[.int 58], vm := .none },
  { cls := 8, slots := #[.int 59], vm := .none },
  { cls := 8, slots := #[.int 60], vm := .none },
  { cls := 8, slots := #[.int 61], vm := .none },
  { cls := 8, slots := #[.int 62], vm := .none },
  { cls := 8, slots := #[.int 63], vm := .none },
  { cls := 8, slots := #[.int 64], vm := .none },
  { cls := 8, slots := #[.int 65], vm := .none },
  { cls := 8, slots := #[.int 66], vm := .none },
  { cls := 8, slots := #[.int 67], vm := .none },
  { cls := 8, slots := #[.int 68], vm := .none },
  { cls := 8, slots := #[.int 69], vm := .none },
  { cls := 8, slots := #[.int 70], vm := .none },
  { cls := 8, slots := #[.int 71], vm := .none },
  { cls := 8, slots := #[.int 72], vm := .none },
  { cls := 8, slots := #[.int 73], vm := .none },
  { cls := 8, slots := #[.int 74], vm := .none },
  { cls := 8, slots := #[.int 75], vm := .none },
  { cls := 8, slots := #[.int 76], vm := .none },
  { cls := 8, slots := #[.int 77], vm := .none },
  { cls := 8, slots := #[.int 78], vm := .none },
  { cls := 8, slots := #[.int 79], vm := .none },
  { cls := 8, slots := #[.int 80], vm := .none },
  { cls := 8, slots := #[.int 81], vm := .none },
  { cls := 8, slots := #[.int 82], vm := .none },
  { cls := 8, slots := #[.int 83], vm := .none },
  { cls := 8, slots := #[.int 84], vm := .none },
  { cls := 8, slots := #[.int 85], vm := .none },
  { cls := 8, slots := #[.int 86], vm := .none },
  { cls := 8, slots := #[.int 87], vm := .none },
  { cls := 8, slots := #[.int 88], vm := .none },
  { cls := 8, slots := #[.int 89], vm := .none },
  { cls := 8, slots := #[.int 90], vm := .none },
  { cls := 8, slots := #[.int 91], vm := .none },
  { cls := 8, slots := #[.int 92], vm := .none },
  { cls := 8, slots := #[.int 93], vm := .none },
  { cls := 8, slots := #[.int 94], vm := .none },
  { cls := 8, slots := #[.int 95], vm := .none },
  { cls := 8, slots := #[.int 96], vm := .none },
  { cls := 8, slots := #[.int 97], vm := .none },
  { cls := 8, slots := #[.int 98], vm := .none },
  { cls := 8, slots := #[.int 99], vm := .none },
  { cls := 8, slots := #[.int 100], vm := .none },
  { cls := 8, slots := #[.int 101], vm := .none },
  { cls := 8, slots := #[.int 102], vm := .none },
  { cls := 8, slots := #[.int 103], vm := .none },
  { cls := 8, slots := #[.int 104], vm := .none },
  { cls := 8, slots := #[.int 105], vm := .none },
  { cls := 8, slots := #[.int 106], vm := .none },
  { cls := 8, slots := #[.int 107], vm := .none },
  { cls := 8, slots := #[.int 108], vm := .none },
  { cls := 8, slots := #[.int 109], vm := .none },
  { cls := 8, slots := #[.int 110], vm := .none },
  { cls := 8, slots := #[.int 111], vm := .none },
  { cls := 8, slots := #[.int 112], vm := .none },
  { cls := 8, slots := #[.int 113], vm := .none },
  { cls := 8, slots := #[.int 114], vm := .none },
  { cls := 8, slots := #[.int 115], vm := .none },
  { cls := 8, slots := #[.int 116], vm := .none },
  { cls := 8, slots := #[.int 117], vm := .none },
  { cls := 8, slots := #[.int 118], vm := .none },
  { cls := 8, slots := #[.int 119], vm := .none },
  { cls := 8, slots := #[.int 120], vm := .none },
  { cls := 8, slots := #[.int 121], vm := .none },
  { cls := 8, slots := #[.int 122], vm := .none },
  { cls := 8, slots := #[.int 123], vm := .none },
  { cls := 8, slots := #[.int 124], vm := .none },
  { cls := 8, slots := #[.int 125], vm := .none },
  { cls := 8, slots := #[.int 126], vm := .none },
  { cls := 8, slots := #[.int 127], vm := .none }]
def classes : Array Class := #[k0, k1, k2, k3, k4, k5, k6, k7, k8, k9, k10, k11, k12, k13, k14, k15]
def interned : List (Array UInt16 × Addr) := []
def slotsUsed : Nat := 517
def theMethod : MethodId := ⟨1, 1⟩
def args0 : Array Value := #[.int 5, .int 4, .int 3]
def aboutOver (below : List Frame) : State where
  vm := { classes := classes, interned := interned.toArray }
  heap := heap
  slotsUsed := slotsUsed
  threads := #[{ frames := .invoking theMethod args0 :: below }]
def below0 : List Frame := [.native { method := ⟨0, 0⟩, args := #[] }]
def about1 : State := aboutOver below0
def p0 : Program := .bare "" "" ""
def e0 : Env := launch0.env 0 0 0
theorem w_frames : about1.frames = Frame.invoking theMethod args0 :: below0 := rfl
set_option maxRecDepth 65536 in
theorem w_args : argsFit about1.vm theMethod args0 = true := by decide +kernel
set_option maxRecDepth 65536 in
theorem w_heap : heapFits about1 = true := by decide +kernel
set_option maxRecDepth 65536 in
theorem w_runnable : about1.curStatus? = some .runnable := by decide +kernel
set_option maxRecDepth 65536 in
theorem w_alone : about1.alone = true := by decide +kernel
set_option maxRecDepth 65536 in
theorem w_named : about1.methodNamed? x = some theMethod := by decide +kernel
set_option maxRecDepth 65536 in
theorem w_hears : about1.hears theMethod below0 = true := by decide +kernel
set_option maxRecDepth 65536 in
theorem w_ripe : about1.ripe theMethod args0 below0 = true := by decide +kernel
theorem w_running : about1.status = .running := rfl
set_option maxRecDepth 65536 in
theorem w_room : about1.hasRoom e0.platform room_1 = true :=
  launch0.hasRoom_least _ room_1 (by decide +kernel) (by decide +kernel) (by decide +kernel) (by decide +kernel) (by decide +kernel) (by decide +kernel)
theorem allAtoms_all (ts : List Jvm.Cond) (a : Array Jvm.Value) (st : Jvm.State) : (allAtoms ts).before a st = ts.all (fun c => c.before a st) := by
  induction ts with
  | nil => rfl
  | cons c t ih =>
    show (Jvm.Cond.and c (allAtoms t)).before a st = _
    rw [Jvm.Cond.before_and, ih, List.all_cons]
def words1 : List Jvm.Cond := Jvm.Cond.code x code maxLocals ret :: tables_1
/-- a 'code' word, met by the world's own term for the bytes: nothing is compared byte by byte -/
theorem code_word {y : MethodName} {bytes : ByteArray} {mx : Nat} {rt : Option FieldType} {a : Array Value} {s : State} {m : MethodId} {meth : Method} {c : Code} (h1 : s.methodNamed? y = some m) (h2 : s.vm.method? m = some meth) (h3 : meth.code = some c) (h4 : c.code = bytes)
    (h5 : (c.maxLocals == mx && c.exceptionTable.isEmpty && decide (c.maxStack ≤ mostOperands) && decide (meth.sig.returnType = rt) && !meth.locks && decide (parseMethodDescriptor y.desc = some meth.sig)) = true) : (Jvm.Cond.code y bytes mx rt).before a s = true := by
  simp only [Bool.and_eq_true, beq_iff_eq, Bool.not_eq_true', decide_eq_true_eq] at h5
  obtain ⟨⟨⟨⟨⟨g1, g2⟩, g3⟩, g4⟩, g5⟩, g6⟩ := h5
  simp [Cond.before, Cond.holds, Cond.value, h1, h2, h3, h4, g1, g2, g3, g4, g5, g6]
def isCode : Jvm.Cond → Bool
  | .code _ _ _ _ => true
  | _ => false
theorem all_split {L : List Jvm.Cond} {P : Jvm.Cond → Bool} (h1 : L.all (fun c => isCode c || P c) = true) (h2 : ∀ c ∈ L.filter isCode, P c = true) : L.all P = true := by
  refine List.all_eq_true.mpr fun c hc => ?_
  have h := List.all_eq_true.mp h1 c hc
  rcases Bool.eq_false_or_eq_true (isCode c) with hi | hi
  · exact h2 c (List.mem_filter.mpr ⟨hc, hi⟩)
  · simpa [hi] using h
set_option maxRecDepth 65536 in
theorem w_c0 : (Jvm.Cond.code x code maxLocals ret).before args0 about1 = true := code_word (m := ⟨1, 1⟩) (meth := k1m1) (c := k1c1) (by decide +kernel) rfl rfl rfl (by decide +kernel)
set_option maxRecDepth 65536 in
theorem w_c1 : (Jvm.Cond.code ({ cls := "com/example/demarc/demarc/ApplicationExceptions$Designation", name := "<init>", desc := "(ZZ)V" } : Jvm.MethodName) prog_2_method_1_code (3 : Nat) (Option.none : Option Jvm.ClassFile.FieldType)).before args0 about1 = true := code_word (m := ⟨2, 0⟩) (meth := k2m0) (c := k2c0) (by decide +kernel) rfl rfl rfl (by decide +kernel)
set_option maxRecDepth 65536 in
theorem w_c2 : (Jvm.Cond.code ({ cls := "java/lang/Object", name := "<init>", desc := "()V" } : Jvm.MethodName) object_method_1_code (1 : Nat) (Option.none : Option Jvm.ClassFile.FieldType)).before args0 about1 = true := code_word (m := ⟨0, 0⟩) (meth := k0m0) (c := k0c0) (by decide +kernel) rfl rfl rfl (by decide +kernel)
set_option maxRecDepth 65536 in
theorem w_c3 : (Jvm.Cond.code ({ cls := "java/lang/Integer", name := "valueOf", desc := "(I)Ljava/lang/Integer;" } : Jvm.MethodName) jdk_33_method_22_code (1 : Nat) (Option.some (Jvm.ClassFile.FieldType.object "java/lang/Integer"))).before args0 about1 = true := code_word (m := ⟨8, 0⟩) (meth := k8m0) (c := k8c0) (by decide +kernel) rfl rfl rfl (by decide +kernel)
set_option maxRecDepth 65536 in
theorem w_c4 : (Jvm.Cond.code ({ cls := "com/example/demarc/demarc/ApplicationExceptions$Designation", name := "equals", desc := "(Ljava/lang/Object;)Z" } : Jvm.MethodName) prog_2_method_2_code (2 : Nat) (Option.some Jvm.ClassFile.FieldType.boolean)).before args0 about1 = true := code_word (m := ⟨2, 1⟩) (meth := k2m1) (c := k2c1) (by decide +kernel) rfl rfl rfl (by decide +kernel)
set_option maxRecDepth 65536 in
theorem w_c5 : (Jvm.Cond.code ({ cls := "java/lang/Integer", name := "<init>", desc := "(I)V" } : Jvm.MethodName) jdk_33_method_23_code (2 : Nat) (Option.none : Option Jvm.ClassFile.FieldType)).before args0 about1 = true := code_word (m := ⟨8, 1⟩) (meth := k8m1) (c := k8c1) (by decide +kernel) rfl rfl rfl (by decide +kernel)
set_option maxRecDepth 65536 in
theorem w_c6 : (Jvm.Cond.code ({ cls := "java/lang/Number", name := "<init>", desc := "()V" } : Jvm.MethodName) jdk_18_method_1_code (1 : Nat) (Option.none : Option Jvm.ClassFile.FieldType)).before args0 about1 = true := code_word (m := ⟨4, 0⟩) (meth := k4m0) (c := k4c0) (by decide +kernel) rfl rfl rfl (by decide +kernel)
def codes1 : List Jvm.Cond := [Jvm.Cond.code x code maxLocals ret, Jvm.Cond.code ({ cls := "com/example/demarc/demarc/ApplicationExceptions$Designation", name := "<init>", desc := "(ZZ)V" } : Jvm.MethodName) prog_2_method_1_code (3 : Nat) (Option.none : Option Jvm.ClassFile.FieldType), Jvm.Cond.code ({ cls := "java/lang/Object", name := "<init>", desc := "()V" } : Jvm.MethodName) object_method_1_code (1 : Nat) (Option.none : Option Jvm.ClassFile.FieldType), Jvm.Cond.code ({ cls := "java/lang/Integer", name := "valueOf", desc := "(I)Ljava/lang/Integer;" } : Jvm.MethodName) jdk_33_method_22_code (1 : Nat) (Option.some (Jvm.ClassFile.FieldType.object "java/lang/Integer")), Jvm.Cond.code ({ cls := "com/example/demarc/demarc/ApplicationExceptions$Designation", name := "equals", desc := "(Ljava/lang/Object;)Z" } : Jvm.MethodName) prog_2_method_2_code (2 : Nat) (Option.some Jvm.ClassFile.FieldType.boolean), Jvm.Cond.code ({ cls := "java/lang/Integer", name := "<init>", desc := "(I)V" } : Jvm.MethodName) jdk_33_method_23_code (2 : Nat) (Option.none : Option Jvm.ClassFile.FieldType), Jvm.Cond.code ({ cls := "java/lang/Number", name := "<init>", desc := "()V" } : Jvm.MethodName) jdk_18_method_1_code (1 : Nat) (Option.none : Option Jvm.ClassFile.FieldType)]
set_option maxRecDepth 65536 in
theorem codes_eq : words1.filter isCode = codes1 := rfl
theorem w_codes : ∀ c ∈ words1.filter isCode, c.before args0 about1 = true := by
  rw [codes_eq]
  intro c hc
  simp only [codes1, List.mem_cons, List.not_mem_nil, or_false] at hc
  rcases hc with rfl | rfl | rfl | rfl | rfl | rfl | rfl
  · exact w_c0
  · exact w_c1
  · exact w_c2
  · exact w_c3
  · exact w_c4
  · exact w_c5
  · exact w_c6
set_option maxRecDepth 65536 in
theorem w_t1 : (words1.take 24).all (fun c => isCode c || c.before args0 about1) = true := by decide +kernel
set_option maxRecDepth 65536 in
theorem w_t2 : (words1.drop 24).all (fun c => isCode c || c.before args0 about1) = true := by decide +kernel
theorem w_tables : (allAtoms (Jvm.Cond.code x code maxLocals ret :: tables_1)).before args0 about1 = true := by
  rw [allAtoms_all]
  show words1.all (fun c => c.before args0 about1) = true
  refine all_split ?_ w_codes
  rw [← List.take_append_drop 24 words1, List.all_append, w_t1, w_t2]
  rfl
set_option maxRecDepth 65536 in
theorem w_rest : rest_1_c.before args0 about1 = true := by decide +kernel
set_option maxRecDepth 65536 in
theorem w_case : (Jvm.Cond.and given_1 narrow_1).before args0 about1 = true := by decide +kernel
theorem w_applies : (headSpec (Jvm.Cond.code x code maxLocals ret :: tables_1) room_1).applies x e0.platform about1 = true :=
  (Spec.applies_iff w_frames).mpr ⟨w_running, w_runnable, w_alone, w_named, w_hears, w_ripe, w_room, w_tables⟩
theorem atStart : AtStart classFile x code maxLocals ret World_1 tables_1 room_1 Calls_1 rest_1 Pre_1 launch0 p0 e0 about1 theMethod args0 below0 :=
  ⟨lists_1, trivial, launch0.admits_env _ _ _, launch0.least_env, fairChoices_fair.cas, fairChoices_fair.clock, w_frames, w_args, w_heap, w_applies, trivial, w_rest, w_case⟩
end start1
theorem witness_1 : WitnessClaimed_1 := ⟨start1.p0, start1.e0, start1.about1, start1.theMethod, start1.args0, start1.below0, start1.atStart⟩
end Jvm.Pilot.@@N@@
