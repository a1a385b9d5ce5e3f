import JvmDerived
import JvmDerived.Pilot.@@N@@Statement
import JvmDerived.Pilot.@@N@@Code
set_option linter.unusedVariables false
set_option linter.unusedSimpArgs false
namespace Jvm.RoadKit
open Sem ClassFile Op Lib Jvm.Stand Jvm.Free Jvm.LawKit
section New
variable {p : Program} {l : Launch} {e : Env} {R : Room} {s : State} {m : MethodId} {args : Array Value} {below : List Frame} {meth : Method} {c : Code} {T : State} {locs : List Loc} {cells slots : Nat}
theorem retI (X : Stand p l e R s m args below meth c T locs cells slots) (hx : p.tables.exec = Jvm.exec) {pc : Nat} {Ls : Array Slot} {z : Int32} {rest : List Value} (hret : meth.sig.returnType = some .int) (hd : decode c.code pc = .ok (.ireturn, 1)) {fs : List Frame}
    (hl : ∀ (f : JFrame) (acts : List Action), f.method = m → f.locked = none → f.entered = [] → (doReturn e (T.setTop f) acts (some (.int z))).1 = T.setFrames fs) : Steps p.tables e below (T.setTop (mkF m pc Ls (.int z :: rest))) (T.setFrames fs) := by
  have hm' : T.vm.method? m = some meth := X.method'
  have hn : narrow .int (.int z) = .int z := rfl
  show Steps p.tables e below (T.setTop { method := m, pc := pc, locals := Ls, stack := _ :: rest, locked := none }) _
  jvm_step X.here [X.here.top, hx, hd, hm', hret, hn]
  first | (intro acts; rw [hl _ acts rfl rfl rfl]) | rw [hl _ _ rfl rfl rfl]
  exact Steps.refl _
end New
end Jvm.RoadKit
namespace Jvm.Pilot.@@N@@
open Jvm Jvm.ClassFile Sem Op Lib Jvm.Free Jvm.Stand Jvm.LawKit Jvm.RoadKit Bundle Jvm.Pilot.@@N@@.Jvm.D
/-! the contracts' end: what is returned; nothing old is written; the heap stands as it stood -/
def QP (h0 : Heap) (n0 : Nat) (r : Option Value) (v : Option Value) (h : Heap) (L : List Loc) : Prop := v = r ∧ Fr n0 L ∧ h = h0
theorem own_fi {Z : State} {args : Array Value} {t : Term} {C n d : String} {k : Int32} {w : Addr} (ev : t.eval args Z none [] Z = some (.ref w)) (h : (Jvm.Cond.eq (.field t C n d) (.int k)).value args Z none Z [] = some true) : Fld Z Z.heap w C n d (.int k) :=
  Fld.start ((fld_at ev).symm.trans (eqv_i (Term.int_eval k) h))
theorem own_fr {Z : State} {args : Array Value} {t u : Term} {C n d : String} {w y : Addr} (ev : t.eval args Z none [] Z = some (.ref w)) (eu : u.eval args Z none [] Z = some (.ref y)) (h : (Jvm.Cond.eq (.field t C n d) u).value args Z none Z [] = some true) : Fld Z Z.heap w C n d (.ref y) := by
  obtain ⟨a, b, h1, h2, k1, k2⟩ := cmp_v (Or.inl h)
  cases eu.symm.trans h2
  have ra : a.isRef = true := k2.2
  have q : a = .ref y := gotT (eq_R h1 h2 ra rfl) h
  subst q
  exact Fld.start ((fld_at ev).symm.trans h1)
theorem own_getSR {p : Program} {l : Launch} {e : Env} {R : Room} {s : State} {m : MethodId} {args : Array Value} {below : List Frame} {meth : Method} {c : Code} {T : State} {locs : List Loc} {cells slots : Nat} {Z : State} {h : Heap} (X : Stand p l e R s m args below meth c T locs cells slots) (hx : p.tables.exec = Jvm.exec) (hZ : Z.Warmed39 s.vm) {a0 : Array Value} {own O n d : String} {index : Nat} (hown : s.vm.findClass own = some m.cls)
    (w : (Cond.fieldRef own index O n d).before a0 Z = true) (eT : T.heap = h) {v : Value} (F : Sta Z h O n d v) {g : JFrame} (hg : g.method = m) (hd : decode c.code g.pc = .ok (.getstatic index, 3)) :
    ∃ T', Stand p l e R s m args below meth c T' locs cells slots ∧ T'.heap = h ∧ ∀ target, Steps p.tables e below (T'.setTop { g with pc := g.pc + 3, stack := v :: g.stack }) target → Steps p.tables e below (T.setTop g) target := by
  have hT : Z.Warmed39 T.vm := wtrans hZ X.warmed
  have w' := Cond.fieldRef_warmed39 hT w
  obtain ⟨cf, i, k, f, st, cell, h1, h2, h3, h4, h5, h6, h7⟩ := F
  have hownT : (Z.setVm T.vm).vm.findClass own = some m.cls := by
    show T.vm.findClass own = some m.cls
    rw [X.warmed.alike.findClass]; exact hown
  obtain ⟨c1, k1, i1, f1, q1, q2⟩ := Cond.fieldRef_spec hownT w'
  obtain ⟨k', hi, ek⟩ := State.fieldFound?_setVm (s := Z) hT.alike h1
  cases hi.symm.trans q1
  have hk' := State.fieldFound?_class hi
  refine ⟨T, X, eT, fun target hr => ?_⟩
  subst hg
  jvm_step X.here [hx, hd, getstatic.wp_ready (e := e) (s := T) (f := g) X.here.top q2 h2 hk' (by rw [ek]; exact h3) (by rw [ek]; exact h4) (show T.heap[st]? = some cell by rw [eT]; exact h5) (fun q => by rw [q] at h6; cases h6) h7]
  exact hr
theorem own_len {Z : State} {args : Array Value} {t : Term} {w : Addr} {cl : Cell} {ty : FieldType} {k : Int32} {n : Nat} (ev : t.eval args Z none [] Z = some (.ref w)) (A : Arr Z Z.heap w cl ty) (h : (Jvm.Cond.eq (.length t) (.int k)).value args Z none Z [] = some true) (hk : k.toInt = n) : cl.slots.size = n := by
  have e := eqv_i (Term.int_eval k) h
  have ha := A.fin (Vm.Alike.refl Z.vm)
  by_cases hl : cl.slots.size < 2 ^ 31
  · rw [len_f ev ha hl] at e
    have h5 : cl.slots.size.toInt32 = k := Value.int.inj (Option.some.inj e)
    have h6 := len_toInt hl
    rw [h5] at h6
    omega
  · simp [Term.eval, ev, ha, hl] at e
theorem own_el {Z : State} {args : Array Value} {t u : Term} {w y : Addr} {cl : Cell} {ty : FieldType} {j : Int32} (ev : t.eval args Z none [] Z = some (.ref w)) (A : Arr Z Z.heap w cl ty) (eu : u.eval args Z none [] Z = some (.ref y)) (h : (Jvm.Cond.eq (.elem t (.int j)) u).value args Z none Z [] = some true) : cl.slots[j.toNatClampNeg]? = some (.ref y) := by
  obtain ⟨a, b, h1, h2, k1, k2⟩ := cmp_v (Or.inl h)
  cases eu.symm.trans h2
  have q : a = .ref y := gotT (eq_R h1 h2 k2.2 rfl) h
  subst q
  exact (elem_in h1 ev (Term.int_eval j) A.1).2
theorem own_r10 (x : Int32) : ((x &&& (2147483647 : Int32)) % (10 : Int32)) = (0 : Int32) ∨ ((x &&& (2147483647 : Int32)) % (10 : Int32)) = (1 : Int32) ∨ ((x &&& (2147483647 : Int32)) % (10 : Int32)) = (2 : Int32) ∨ ((x &&& (2147483647 : Int32)) % (10 : Int32)) = (3 : Int32) ∨ ((x &&& (2147483647 : Int32)) % (10 : Int32)) = (4 : Int32) ∨ ((x &&& (2147483647 : Int32)) % (10 : Int32)) = (5 : Int32) ∨ ((x &&& (2147483647 : Int32)) % (10 : Int32)) = (6 : Int32) ∨ ((x &&& (2147483647 : Int32)) % (10 : Int32)) = (7 : Int32) ∨ ((x &&& (2147483647 : Int32)) % (10 : Int32)) = (8 : Int32) ∨ ((x &&& (2147483647 : Int32)) % (10 : Int32)) = (9 : Int32) := by
  have h1 := c_mask x (2147483647 : Int32) 31 (by decide) (by decide)
  have h2 := (c_irem (x &&& (2147483647 : Int32)) (10 : Int32) 10 (by decide)).1 (by omega)
  generalize hz : (x &&& (2147483647 : Int32)) % (10 : Int32) = z at *
  have h3 : z.toInt = 0 ∨ z.toInt = 1 ∨ z.toInt = 2 ∨ z.toInt = 3 ∨ z.toInt = 4 ∨ z.toInt = 5 ∨ z.toInt = 6 ∨ z.toInt = 7 ∨ z.toInt = 8 ∨ z.toInt = 9 := by omega
  rcases h3 with h | h | h | h | h | h | h | h | h | h
  · exact Or.inl (Int32.toInt_inj.mp h)
  · exact Or.inr (Or.inl (Int32.toInt_inj.mp h))
  · exact Or.inr (Or.inr (Or.inl (Int32.toInt_inj.mp h)))
  · exact Or.inr (Or.inr (Or.inr (Or.inl (Int32.toInt_inj.mp h))))
  · exact Or.inr (Or.inr (Or.inr (Or.inr (Or.inl (Int32.toInt_inj.mp h)))))
  · exact Or.inr (Or.inr (Or.inr (Or.inr (Or.inr (Or.inl (Int32.toInt_inj.mp h))))))
  · exact Or.inr (Or.inr (Or.inr (Or.inr (Or.inr (Or.inr (Or.inl (Int32.toInt_inj.mp h)))))))
  · exact Or.inr (Or.inr (Or.inr (Or.inr (Or.inr (Or.inr (Or.inr (Or.inl (Int32.toInt_inj.mp h))))))))
  · exact Or.inr (Or.inr (Or.inr (Or.inr (Or.inr (Or.inr (Or.inr (Or.inr (Or.inl (Int32.toInt_inj.mp h)))))))))
  · exact Or.inr (Or.inr (Or.inr (Or.inr (Or.inr (Or.inr (Or.inr (Or.inr (Or.inr (Int32.toInt_inj.mp h)))))))))
def Pins (Z : State) (h0 : Heap) (w_MESSAGE : Addr) (w_OFFER : Addr) (w_SHARE : Addr) (w_DECLINE : Addr) (w_ANNOUNCE : Addr) (w_DATA : Addr) (w_GRANT : Addr) (w_TAKEN : Addr) (w_REFUSE : Addr) (w_LEAVE : Addr) (w_CODES : Addr) (cl_CODES : Cell) : Prop :=
  (Sta Z h0 "swiftwire/FrameHeader$Kind" "MESSAGE" "Lswiftwire/FrameHeader$Kind;" (.ref w_MESSAGE)) ∧
  (Exa Z h0 w_MESSAGE "swiftwire/FrameHeader$Kind") ∧
  (Sta Z h0 "swiftwire/FrameHeader$Kind" "OFFER" "Lswiftwire/FrameHeader$Kind;" (.ref w_OFFER)) ∧
  (Exa Z h0 w_OFFER "swiftwire/FrameHeader$Kind") ∧
  (Sta Z h0 "swiftwire/FrameHeader$Kind" "SHARE" "Lswiftwire/FrameHeader$Kind;" (.ref w_SHARE)) ∧
  (Exa Z h0 w_SHARE "swiftwire/FrameHeader$Kind") ∧
  (Sta Z h0 "swiftwire/FrameHeader$Kind" "DECLINE" "Lswiftwire/FrameHeader$Kind;" (.ref w_DECLINE)) ∧
  (Exa Z h0 w_DECLINE "swiftwire/FrameHeader$Kind") ∧
  (Sta Z h0 "swiftwire/FrameHeader$Kind" "ANNOUNCE" "Lswiftwire/FrameHeader$Kind;" (.ref w_ANNOUNCE)) ∧
  (Exa Z h0 w_ANNOUNCE "swiftwire/FrameHeader$Kind") ∧
  (Sta Z h0 "swiftwire/FrameHeader$Kind" "DATA" "Lswiftwire/FrameHeader$Kind;" (.ref w_DATA)) ∧
  (Exa Z h0 w_DATA "swiftwire/FrameHeader$Kind") ∧
  (Sta Z h0 "swiftwire/FrameHeader$Kind" "GRANT" "Lswiftwire/FrameHeader$Kind;" (.ref w_GRANT)) ∧
  (Exa Z h0 w_GRANT "swiftwire/FrameHeader$Kind") ∧
  (Sta Z h0 "swiftwire/FrameHeader$Kind" "TAKEN" "Lswiftwire/FrameHeader$Kind;" (.ref w_TAKEN)) ∧
  (Exa Z h0 w_TAKEN "swiftwire/FrameHeader$Kind") ∧
  (Sta Z h0 "swiftwire/FrameHeader$Kind" "REFUSE" "Lswiftwire/FrameHeader$Kind;" (.ref w_REFUSE)) ∧
  (Exa Z h0 w_REFUSE "swiftwire/FrameHeader$Kind") ∧
  (Sta Z h0 "swiftwire/FrameHeader$Kind" "LEAVE" "Lswiftwire/FrameHeader$Kind;" (.ref w_LEAVE)) ∧
  (Exa Z h0 w_LEAVE "swiftwire/FrameHeader$Kind") ∧
  (Fld Z h0 w_MESSAGE "java/lang/Enum" "ordinal" "I" (.int (0 : Int32))) ∧
  (Fld Z h0 w_OFFER "java/lang/Enum" "ordinal" "I" (.int (7 : Int32))) ∧
  (Fld Z h0 w_SHARE "java/lang/Enum" "ordinal" "I" (.int (9 : Int32))) ∧
  (Fld Z h0 w_DECLINE "java/lang/Enum" "ordinal" "I" (.int (3 : Int32))) ∧
  (Fld Z h0 w_ANNOUNCE "java/lang/Enum" "ordinal" "I" (.int (1 : Int32))) ∧
  (Fld Z h0 w_DATA "java/lang/Enum" "ordinal" "I" (.int (4 : Int32))) ∧
  (Fld Z h0 w_GRANT "java/lang/Enum" "ordinal" "I" (.int (2 : Int32))) ∧
  (Fld Z h0 w_TAKEN "java/lang/Enum" "ordinal" "I" (.int (8 : Int32))) ∧
  (Fld Z h0 w_REFUSE "java/lang/Enum" "ordinal" "I" (.int (5 : Int32))) ∧
  (Fld Z h0 w_LEAVE "java/lang/Enum" "ordinal" "I" (.int (6 : Int32))) ∧
  (Sta Z h0 "swiftwire/FrameHeader$Kind" "CODES" "[Lswiftwire/FrameHeader$Kind;" (.ref w_CODES)) ∧
  (Arr Z h0 w_CODES cl_CODES (.object "swiftwire/FrameHeader$Kind")) ∧
  (cl_CODES.slots.size = 10) ∧
  (cl_CODES.slots[(0 : Int32).toNatClampNeg]? = some (.ref w_MESSAGE)) ∧
  (cl_CODES.slots[(3 : Int32).toNatClampNeg]? = some (.ref w_DECLINE)) ∧
  (cl_CODES.slots[(1 : Int32).toNatClampNeg]? = some (.ref w_ANNOUNCE)) ∧
  (cl_CODES.slots[(4 : Int32).toNatClampNeg]? = some (.ref w_DATA)) ∧
  (cl_CODES.slots[(7 : Int32).toNatClampNeg]? = some (.ref w_OFFER)) ∧
  (cl_CODES.slots[(2 : Int32).toNatClampNeg]? = some (.ref w_GRANT)) ∧
  (cl_CODES.slots[(8 : Int32).toNatClampNeg]? = some (.ref w_TAKEN)) ∧
  (cl_CODES.slots[(9 : Int32).toNatClampNeg]? = some (.ref w_SHARE)) ∧
  (cl_CODES.slots[(5 : Int32).toNatClampNeg]? = some (.ref w_REFUSE)) ∧
  (cl_CODES.slots[(6 : Int32).toNatClampNeg]? = some (.ref w_LEAVE))
theorem d1_0 : decode prog_50_method_7_code 0 = .ok (.iload_n 0, 1) := by decide +kernel
theorem d1_1 : decode prog_50_method_7_code 1 = .ok (.ifCond .lt 11, 3) := by decide +kernel
theorem d1_4 : decode prog_50_method_7_code 4 = .ok (.iload_n 0, 1) := by decide +kernel
theorem d1_5 : decode prog_50_method_7_code 5 = .ok (.getstatic 33, 3) := by decide +kernel
theorem d1_8 : decode prog_50_method_7_code 8 = .ok (.arraylength, 1) := by decide +kernel
theorem d1_9 : decode prog_50_method_7_code 9 = .ok (.if_icmp .lt 17, 3) := by decide +kernel
theorem d1_26 : decode prog_50_method_7_code 26 = .ok (.iload_n 1, 1) := by decide +kernel
theorem d1_27 : decode prog_50_method_7_code 27 = .ok (.ifCond .ge 17, 3) := by decide +kernel
theorem d1_44 : decode prog_50_method_7_code 44 = .ok (.getstatic 33, 3) := by decide +kernel
theorem d1_47 : decode prog_50_method_7_code 47 = .ok (.iload_n 0, 1) := by decide +kernel
theorem d1_48 : decode prog_50_method_7_code 48 = .ok (.aaload, 1) := by decide +kernel
theorem d1_49 : decode prog_50_method_7_code 49 = .ok (.areturn, 1) := by decide +kernel
theorem ef_1_II (m : MethodId) (x0 : Int32) (x1 : Int32) : entryFrame m #[(.int x0), (.int x1)] 2 = mkF m 0 #[.val (.int x0), .val (.int x1)] [] := by first | (simp [entryFrame, mkF, argsToLocals, Value.category]; done) | rfl
theorem pn_swiftwire_FrameHeader : plainName "swiftwire/FrameHeader" = true := by first | (simp [plainName, overriddenIn]; done) | decide +kernel
set_option maxRecDepth 65536 in
set_option maxHeartbeats 40000000 in
theorem rm1 (l : Launch) (Z : State) (a0 : Array Value) (hw : ∀ d ∈ tables_1, d.before a0 Z = true) (ws : List Jvm.Cond) (w_MESSAGE : Addr) (w_OFFER : Addr) (w_SHARE : Addr) (w_DECLINE : Addr) (w_ANNOUNCE : Addr) (w_DATA : Addr) (w_GRANT : Addr) (w_TAKEN : Addr) (w_REFUSE : Addr) (w_LEAVE : Addr) (w_CODES : Addr) (cl_CODES : Cell) (h0 : Heap) (n0 : Nat) (Z0 : n0 ≤ h0.size) (P : Pins Z h0 w_MESSAGE w_OFFER w_SHARE w_DECLINE w_ANNOUNCE w_DATA w_GRANT w_TAKEN w_REFUSE w_LEAVE w_CODES cl_CODES) :
    MetFree l (⟨"swiftwire/FrameHeader", "kind", "(II)Lswiftwire/FrameHeader$Kind;"⟩ : MethodName) (head1 (Jvm.Cond.code (⟨"swiftwire/FrameHeader", "kind", "(II)Lswiftwire/FrameHeader$Kind;"⟩ : MethodName) prog_50_method_7_code 2 (some (.object "swiftwire/FrameHeader$Kind")) :: ws) ({ frames := 0, cells := 0, slots := 0, locals := 0 } : Room)) (fun a U => a = #[(.int (0 : Int32)), (.int (0 : Int32))] ∧ Z.Warmed39 U.vm ∧ U.heap = h0) (fun _ _ _ _ _ => True) (fun _ U o U' => ∃ v L, o = .returned v ∧ QP h0 n0 (some (.ref w_MESSAGE)) v U'.heap L ∧ FrameEnd U o U' L ({ frames := 0, cells := 0, slots := 0, locals := 0 } : Room).cells ({ frames := 0, cells := 0, slots := 0, locals := 0 } : Room).slots) := by
  refine MetFree.of_bodySF (plainFor_of_name pn_swiftwire_FrameHeader) hisR ?_
  intro p e s m args below meth c s₁ Bd hml0 hP hK
  obtain ⟨rfl, hZ, hh⟩ := hP
  have hx := Bd.exec
  have hby := Bd.bytes
  have hml : c.maxLocals = 2 := hml0
  have hown : s.vm.findClass "swiftwire/FrameHeader" = some m.cls := findClass_of_methodNamed Bd.named
  have X0 : Stand p l e ({ frames := 0, cells := 0, slots := 0, locals := 0 } : Room) s m #[(.int (0 : Int32)), (.int (0 : Int32))] below meth c s₁ [] 0 0 := Stand.of_body Bd
  have e0 : s₁.heap = h0 := by rw [← hh, Bd.state]; rfl
  have N0 := Fr.nil n0
  have pre0 : ∀ t, Steps p.tables e below (s₁.setTop (mkF m 0 #[.val (.int (0 : Int32)), .val (.int (0 : Int32))] [])) t → Steps p.tables e below (s₁.setTop (entryFrame m #[(.int (0 : Int32)), (.int (0 : Int32))] 2)) t := fun t k => castTop (ef_1_II m (0 : Int32) (0 : Int32)) k
  have S_w_CODES : Sta Z h0 "swiftwire/FrameHeader$Kind" "CODES" "[Lswiftwire/FrameHeader$Kind;" (.ref w_CODES) := P.2.2.2.2.2.2.2.2.2.2.2.2.2.2.2.2.2.2.2.2.2.2.2.2.2.2.2.2.2.2.1
  have A_w_CODES : Arr Z h0 w_CODES cl_CODES (.object "swiftwire/FrameHeader$Kind") := P.2.2.2.2.2.2.2.2.2.2.2.2.2.2.2.2.2.2.2.2.2.2.2.2.2.2.2.2.2.2.2.1
  have Z_w_CODES : cl_CODES.slots.size = 10 := P.2.2.2.2.2.2.2.2.2.2.2.2.2.2.2.2.2.2.2.2.2.2.2.2.2.2.2.2.2.2.2.2.1
  have G_0 : cl_CODES.slots[(0 : Int32).toNatClampNeg]? = some (.ref w_MESSAGE) := P.2.2.2.2.2.2.2.2.2.2.2.2.2.2.2.2.2.2.2.2.2.2.2.2.2.2.2.2.2.2.2.2.2.1
  obtain ⟨T1, X1, e1, st1⟩ := own_getSR X0 hx hZ hown (hw _ (List.mem_of_getElem? (i := 5) rfl)) e0 S_w_CODES (g := (mkF m 5 #[.val (.int (0 : Int32)), .val (.int (0 : Int32))] [(.int (0 : Int32))])) rfl (hb hby d1_5)
  obtain ⟨T2, X2, e2, st2⟩ := own_getSR X1 hx hZ hown (hw _ (List.mem_of_getElem? (i := 5) rfl)) e1 S_w_CODES (g := (mkF m 44 #[.val (.int (0 : Int32)), .val (.int (0 : Int32))] [])) rfl (hb hby d1_44)
  obtain ⟨fs, hr, hrun, hended, hW, hsame⟩ := X2.leave (v := some (.ref w_MESSAGE)) (fun h => by rw [Bd.returns] at h; cases h)
  refine ⟨_, _, pre0 _ ?_, hrun, hended, _, _, rfl, ?_, ⟨_, rfl⟩, hW, hsame.mono (by decide) (by decide)⟩
  · show Steps p.tables e below (s₁.setTop (mkF m 0 #[.val (.int (0 : Int32)), .val (.int (0 : Int32))] [])) _
    refine XS.iloadN X0.here hx rfl (hb hby d1_0) rfl ?_
    show Steps p.tables e below (s₁.setTop (mkF m 1 #[.val (.int (0 : Int32)), .val (.int (0 : Int32))] [(.int (0 : Int32))])) _
    refine XS.ifNo X0.here hx rfl (hb hby d1_1) rfl (by decide) ?_
    show Steps p.tables e below (s₁.setTop (mkF m 4 #[.val (.int (0 : Int32)), .val (.int (0 : Int32))] [])) _
    refine XS.iloadN X0.here hx rfl (hb hby d1_4) rfl ?_
    show Steps p.tables e below (s₁.setTop (mkF m 5 #[.val (.int (0 : Int32)), .val (.int (0 : Int32))] [(.int (0 : Int32))])) _
    refine st1 _ ?_
    show Steps p.tables e below (T1.setTop (mkF m 8 #[.val (.int (0 : Int32)), .val (.int (0 : Int32))] [(.ref w_CODES), (.int (0 : Int32))])) _
    refine X1.arraylength hx (by rw [e1]; exact A_w_CODES.1) (State.isArrayOf_alike hZ.alike A_w_CODES.2.1) (g := (mkF m 8 #[.val (.int (0 : Int32)), .val (.int (0 : Int32))] [(.ref w_CODES), (.int (0 : Int32))])) rfl rfl (hb hby d1_8) _ ?_
    rw [show cl_CODES.slots.size.toInt32 = (10 : Int32) from by rw [Z_w_CODES]; decide]
    show Steps p.tables e below (T1.setTop (mkF m 9 #[.val (.int (0 : Int32)), .val (.int (0 : Int32))] [(.int (10 : Int32)), (.int (0 : Int32))])) _
    refine XS.icmpYes X1.here hx rfl (pc0 := 9) (pc' := 26) rfl (hb hby d1_9) rfl (by decide) (by decide) (by decide) ?_
    show Steps p.tables e below (T1.setTop (mkF m 26 #[.val (.int (0 : Int32)), .val (.int (0 : Int32))] [])) _
    refine XS.iloadN X1.here hx rfl (hb hby d1_26) rfl ?_
    show Steps p.tables e below (T1.setTop (mkF m 27 #[.val (.int (0 : Int32)), .val (.int (0 : Int32))] [(.int (0 : Int32))])) _
    refine XS.ifYes X1.here hx rfl (pc0 := 27) (pc' := 44) rfl (hb hby d1_27) rfl (by decide) (by decide) (by decide) ?_
    show Steps p.tables e below (T1.setTop (mkF m 44 #[.val (.int (0 : Int32)), .val (.int (0 : Int32))] [])) _
    refine st2 _ ?_
    show Steps p.tables e below (T2.setTop (mkF m 47 #[.val (.int (0 : Int32)), .val (.int (0 : Int32))] [(.ref w_CODES)])) _
    refine XS.iloadN X2.here hx rfl (hb hby d1_47) rfl ?_
    show Steps p.tables e below (T2.setTop (mkF m 48 #[.val (.int (0 : Int32)), .val (.int (0 : Int32))] [(.int (0 : Int32)), (.ref w_CODES)])) _
    refine X2.aaload hx (j := (0 : Int32)) (v := (.ref w_MESSAGE)) (by rw [e2]; exact A_w_CODES.1) (State.isArrayOf_alike hZ.alike A_w_CODES.2.1) rfl A_w_CODES.2.2 (by rw [Z_w_CODES]; decide) G_0 (g := (mkF m 48 #[.val (.int (0 : Int32)), .val (.int (0 : Int32))] [(.int (0 : Int32)), (.ref w_CODES)])) rfl rfl (hb hby d1_48) _ ?_
    show Steps p.tables e below (T2.setTop (mkF m 49 #[.val (.int (0 : Int32)), .val (.int (0 : Int32))] [(.ref w_MESSAGE)])) _
    exact retOut X2 hx Bd.returns rfl (Or.inr (Or.inr (Or.inr (Or.inr ⟨rfl, rfl, rfl⟩)))) (hb hby d1_49) hr
  · exact ⟨rfl, N0, e2⟩
theorem pd_0 : parseMethodDescriptor "(II)Lswiftwire/FrameHeader$Kind;" = some ⟨[.int, .int], some (.object "swiftwire/FrameHeader$Kind")⟩ := by decide +kernel
theorem d2_0 : decode jdk_37_method_2_code 0 = .ok (.aload_n 0, 1) := by decide +kernel
theorem d2_1 : decode jdk_37_method_2_code 1 = .ok (.getfield 7, 3) := by decide +kernel
theorem d2_4 : decode jdk_37_method_2_code 4 = .ok (.ireturn, 1) := by decide +kernel
theorem ef_2_R (m : MethodId) (x0 : Addr) : entryFrame m #[(.ref x0)] 1 = mkF m 0 #[.val (.ref x0)] [] := by first | (simp [entryFrame, mkF, argsToLocals, Value.category]; done) | rfl
theorem pn_java_lang_Enum : plainName "java/lang/Enum" = true := by first | (simp [plainName, overriddenIn]; done) | decide +kernel
set_option maxRecDepth 65536 in
set_option maxHeartbeats 40000000 in
theorem rm2 (l : Launch) (Z : State) (a0 : Array Value) (hw : ∀ d ∈ tables_1, d.before a0 Z = true) (ws : List Jvm.Cond) (w_MESSAGE : Addr) (w_OFFER : Addr) (w_SHARE : Addr) (w_DECLINE : Addr) (w_ANNOUNCE : Addr) (w_DATA : Addr) (w_GRANT : Addr) (w_TAKEN : Addr) (w_REFUSE : Addr) (w_LEAVE : Addr) (w_CODES : Addr) (cl_CODES : Cell) (h0 : Heap) (n0 : Nat) (Z0 : n0 ≤ h0.size) (P : Pins Z h0 w_MESSAGE w_OFFER w_SHARE w_DECLINE w_ANNOUNCE w_DATA w_GRANT w_TAKEN w_REFUSE w_LEAVE w_CODES cl_CODES) :
    MetFree l (⟨"java/lang/Enum", "ordinal", "()I"⟩ : MethodName) (head1 (Jvm.Cond.code (⟨"java/lang/Enum", "ordinal", "()I"⟩ : MethodName) jdk_37_method_2_code 1 (some .int) :: ws) ({ frames := 0, cells := 0, slots := 0, locals := 0 } : Room)) (fun a U => a = #[(.ref w_MESSAGE)] ∧ Z.Warmed39 U.vm ∧ U.heap = h0) (fun _ _ _ _ _ => True) (fun _ U o U' => ∃ v L, o = .returned v ∧ QP h0 n0 (some (.int (0 : Int32))) v U'.heap L ∧ FrameEnd U o U' L ({ frames := 0, cells := 0, slots := 0, locals := 0 } : Room).cells ({ frames := 0, cells := 0, slots := 0, locals := 0 } : Room).slots) := by
  refine MetFree.of_bodySF (plainFor_of_name pn_java_lang_Enum) hisR ?_
  intro p e s m args below meth c s₁ Bd hml0 hP hK
  obtain ⟨rfl, hZ, hh⟩ := hP
  have hx := Bd.exec
  have hby := Bd.bytes
  have hml : c.maxLocals = 1 := hml0
  have hown : s.vm.findClass "java/lang/Enum" = some m.cls := findClass_of_methodNamed Bd.named
  have X0 : Stand p l e ({ frames := 0, cells := 0, slots := 0, locals := 0 } : Room) s m #[(.ref w_MESSAGE)] below meth c s₁ [] 0 0 := Stand.of_body Bd
  have e0 : s₁.heap = h0 := by rw [← hh, Bd.state]; rfl
  have N0 := Fr.nil n0
  have pre0 : ∀ t, Steps p.tables e below (s₁.setTop (mkF m 0 #[.val (.ref w_MESSAGE)] [])) t → Steps p.tables e below (s₁.setTop (entryFrame m #[(.ref w_MESSAGE)] 1)) t := fun t k => castTop (ef_2_R m w_MESSAGE) k
  have F_w_MESSAGE_ordinal : Fld Z h0 w_MESSAGE "java/lang/Enum" "ordinal" "I" (.int (0 : Int32)) := P.2.2.2.2.2.2.2.2.2.2.2.2.2.2.2.2.2.2.2.2.1
  obtain ⟨T1, X1, e1, st1⟩ := getF X0 hx hZ hown (host := "") (Or.inl (hw _ (List.mem_of_getElem? (i := 16) rfl))) Via.refl e0 F_w_MESSAGE_ordinal (g := (mkF m 1 #[.val (.ref w_MESSAGE)] [(.ref w_MESSAGE)])) rfl rfl (hb hby d2_1)
  obtain ⟨fs, hr, hrun, hended, hW, hsame⟩ := X1.leave (v := some (.int (0 : Int32))) (fun h => by rw [Bd.returns] at h; cases h)
  refine ⟨_, _, pre0 _ ?_, hrun, hended, _, _, rfl, ?_, ⟨_, rfl⟩, hW, hsame.mono (by decide) (by decide)⟩
  · show Steps p.tables e below (s₁.setTop (mkF m 0 #[.val (.ref w_MESSAGE)] [])) _
    refine XS.aloadN X0.here hx rfl (hb hby d2_0) rfl rfl ?_
    show Steps p.tables e below (s₁.setTop (mkF m 1 #[.val (.ref w_MESSAGE)] [(.ref w_MESSAGE)])) _
    refine st1 _ ?_
    show Steps p.tables e below (T1.setTop (mkF m 4 #[.val (.ref w_MESSAGE)] [(.int (0 : Int32))])) _
    exact retI X1 hx Bd.returns (hb hby d2_4) hr
  · exact ⟨rfl, N0, e1⟩
theorem pd_1 : parseMethodDescriptor "()I" = some ⟨[], some .int⟩ := by decide +kernel
theorem d3_0 : decode prog_51_method_6_code 0 = .ok (.iconst 0, 1) := by decide +kernel
theorem d3_1 : decode prog_51_method_6_code 1 = .ok (.istore_n 1, 1) := by decide +kernel
theorem d3_2 : decode prog_51_method_6_code 2 = .ok (.aload_n 0, 1) := by decide +kernel
theorem d3_3 : decode prog_51_method_6_code 3 = .ok (.getstatic 27, 3) := by decide +kernel
theorem d3_6 : decode prog_51_method_6_code 6 = .ok (.if_acmp .ne 9, 3) := by decide +kernel
theorem d3_15 : decode prog_51_method_6_code 15 = .ok (.aload_n 0, 1) := by decide +kernel
theorem d3_16 : decode prog_51_method_6_code 16 = .ok (.getstatic 33, 3) := by decide +kernel
theorem d3_19 : decode prog_51_method_6_code 19 = .ok (.if_acmp .ne 6, 3) := by decide +kernel
theorem d3_25 : decode prog_51_method_6_code 25 = .ok (.iload_n 1, 1) := by decide +kernel
theorem d3_26 : decode prog_51_method_6_code 26 = .ok (.ireturn, 1) := by decide +kernel
theorem ef_3_R (m : MethodId) (x0 : Addr) : entryFrame m #[(.ref x0)] 2 = mkF m 0 #[.val (.ref x0), .unset] [] := by first | (simp [entryFrame, mkF, argsToLocals, Value.category]; done) | rfl
theorem pn_swiftwire_FrameHeader_Kind : plainName "swiftwire/FrameHeader$Kind" = true := by first | (simp [plainName, overriddenIn]; done) | decide +kernel
set_option maxRecDepth 65536 in
set_option maxHeartbeats 40000000 in
theorem rm3 (l : Launch) (Z : State) (a0 : Array Value) (hw : ∀ d ∈ tables_1, d.before a0 Z = true) (ws : List Jvm.Cond) (w_MESSAGE : Addr) (w_OFFER : Addr) (w_SHARE : Addr) (w_DECLINE : Addr) (w_ANNOUNCE : Addr) (w_DATA : Addr) (w_GRANT : Addr) (w_TAKEN : Addr) (w_REFUSE : Addr) (w_LEAVE : Addr) (w_CODES : Addr) (cl_CODES : Cell) (h0 : Heap) (n0 : Nat) (Z0 : n0 ≤ h0.size) (P : Pins Z h0 w_MESSAGE w_OFFER w_SHARE w_DECLINE w_ANNOUNCE w_DATA w_GRANT w_TAKEN w_REFUSE w_LEAVE w_CODES cl_CODES) :
    MetFree l (⟨"swiftwire/FrameHeader$Kind", "tailBytes", "()I"⟩ : MethodName) (head1 (Jvm.Cond.code (⟨"swiftwire/FrameHeader$Kind", "tailBytes", "()I"⟩ : MethodName) prog_51_method_6_code 2 (some .int) :: ws) ({ frames := 0, cells := 0, slots := 0, locals := 0 } : Room)) (fun a U => a = #[(.ref w_MESSAGE)] ∧ Z.Warmed39 U.vm ∧ U.heap = h0) (fun _ _ _ _ _ => True) (fun _ U o U' => ∃ v L, o = .returned v ∧ QP h0 n0 (some (.int (0 : Int32))) v U'.heap L ∧ FrameEnd U o U' L ({ frames := 0, cells := 0, slots := 0, locals := 0 } : Room).cells ({ frames := 0, cells := 0, slots := 0, locals := 0 } : Room).slots) := by
  refine MetFree.of_bodySF (plainFor_of_name pn_swiftwire_FrameHeader_Kind) hisR ?_
  intro p e s m args below meth c s₁ Bd hml0 hP hK
  obtain ⟨rfl, hZ, hh⟩ := hP
  have hx := Bd.exec
  have hby := Bd.bytes
  have hml : c.maxLocals = 2 := hml0
  have hown : s.vm.findClass "swiftwire/FrameHeader$Kind" = some m.cls := findClass_of_methodNamed Bd.named
  have X0 : Stand p l e ({ frames := 0, cells := 0, slots := 0, locals := 0 } : Room) s m #[(.ref w_MESSAGE)] below meth c s₁ [] 0 0 := Stand.of_body Bd
  have e0 : s₁.heap = h0 := by rw [← hh, Bd.state]; rfl
  have N0 := Fr.nil n0
  have pre0 : ∀ t, Steps p.tables e below (s₁.setTop (mkF m 0 #[.val (.ref w_MESSAGE), .unset] [])) t → Steps p.tables e below (s₁.setTop (entryFrame m #[(.ref w_MESSAGE)] 2)) t := fun t k => castTop (ef_3_R m w_MESSAGE) k
  have S_w_OFFER : Sta Z h0 "swiftwire/FrameHeader$Kind" "OFFER" "Lswiftwire/FrameHeader$Kind;" (.ref w_OFFER) := P.2.2.1
  have F_w_MESSAGE_ordinal : Fld Z h0 w_MESSAGE "java/lang/Enum" "ordinal" "I" (.int (0 : Int32)) := P.2.2.2.2.2.2.2.2.2.2.2.2.2.2.2.2.2.2.2.2.1
  have F_w_OFFER_ordinal : Fld Z h0 w_OFFER "java/lang/Enum" "ordinal" "I" (.int (7 : Int32)) := P.2.2.2.2.2.2.2.2.2.2.2.2.2.2.2.2.2.2.2.2.2.1
  have S_w_SHARE : Sta Z h0 "swiftwire/FrameHeader$Kind" "SHARE" "Lswiftwire/FrameHeader$Kind;" (.ref w_SHARE) := P.2.2.2.2.1
  have F_w_SHARE_ordinal : Fld Z h0 w_SHARE "java/lang/Enum" "ordinal" "I" (.int (9 : Int32)) := P.2.2.2.2.2.2.2.2.2.2.2.2.2.2.2.2.2.2.2.2.2.2.1
  obtain ⟨T1, X1, e1, st1⟩ := getS2 X0 hx hZ hown (host := "") (Or.inl (hw _ (List.mem_of_getElem? (i := 23) rfl))) Via.refl e0 S_w_OFFER (g := (mkF m 3 #[.val (.ref w_MESSAGE), .val (.int (0 : Int32))] [(.ref w_MESSAGE)])) rfl (hb hby d3_3)
  obtain ⟨T2, X2, e2, st2⟩ := getS2 X1 hx hZ hown (host := "") (Or.inl (hw _ (List.mem_of_getElem? (i := 25) rfl))) Via.refl e1 S_w_SHARE (g := (mkF m 16 #[.val (.ref w_MESSAGE), .val (.int (0 : Int32))] [(.ref w_MESSAGE)])) rfl (hb hby d3_16)
  obtain ⟨fs, hr, hrun, hended, hW, hsame⟩ := X2.leave (v := some (.int (0 : Int32))) (fun h => by rw [Bd.returns] at h; cases h)
  refine ⟨_, _, pre0 _ ?_, hrun, hended, _, _, rfl, ?_, ⟨_, rfl⟩, hW, hsame.mono (by decide) (by decide)⟩
  · show Steps p.tables e below (s₁.setTop (mkF m 0 #[.val (.ref w_MESSAGE), .unset] [])) _
    refine XS.iconst X0.here hx rfl (hb hby d3_0) ?_
    show Steps p.tables e below (s₁.setTop (mkF m 1 #[.val (.ref w_MESSAGE), .unset] [(.int (0 : Int32))])) _
    refine XS.istoreN X0.here hx rfl (hb hby d3_1) rfl (l' := #[.val (.ref w_MESSAGE), .val (.int (0 : Int32))]) rfl ?_
    show Steps p.tables e below (s₁.setTop (mkF m 2 #[.val (.ref w_MESSAGE), .val (.int (0 : Int32))] [])) _
    refine XS.aloadN X0.here hx rfl (hb hby d3_2) rfl rfl ?_
    show Steps p.tables e below (s₁.setTop (mkF m 3 #[.val (.ref w_MESSAGE), .val (.int (0 : Int32))] [(.ref w_MESSAGE)])) _
    refine st1 _ ?_
    show Steps p.tables e below (T1.setTop (mkF m 6 #[.val (.ref w_MESSAGE), .val (.int (0 : Int32))] [(.ref w_OFFER), (.ref w_MESSAGE)])) _
    refine Jvm.RoadKit.acmp (g := (mkF m 6 #[.val (.ref w_MESSAGE), .val (.int (0 : Int32))] [(.ref w_OFFER), (.ref w_MESSAGE)])) X1 hx rfl rfl rfl (pc0 := 6) (pc' := 15) (same := false) rfl (hb hby d3_6) rfl (decide_eq_false fun q => (Fld.ne F_w_MESSAGE_ordinal F_w_OFFER_ordinal (by decide)) (Value.ref.inj q)) (by decide) (by decide) ?_
    show Steps p.tables e below (T1.setTop (mkF m 15 #[.val (.ref w_MESSAGE), .val (.int (0 : Int32))] [])) _
    refine XS.aloadN X1.here hx rfl (hb hby d3_15) rfl rfl ?_
    show Steps p.tables e below (T1.setTop (mkF m 16 #[.val (.ref w_MESSAGE), .val (.int (0 : Int32))] [(.ref w_MESSAGE)])) _
    refine st2 _ ?_
    show Steps p.tables e below (T2.setTop (mkF m 19 #[.val (.ref w_MESSAGE), .val (.int (0 : Int32))] [(.ref w_SHARE), (.ref w_MESSAGE)])) _
    refine Jvm.RoadKit.acmp (g := (mkF m 19 #[.val (.ref w_MESSAGE), .val (.int (0 : Int32))] [(.ref w_SHARE), (.ref w_MESSAGE)])) X2 hx rfl rfl rfl (pc0 := 19) (pc' := 25) (same := false) rfl (hb hby d3_19) rfl (decide_eq_false fun q => (Fld.ne F_w_MESSAGE_ordinal F_w_SHARE_ordinal (by decide)) (Value.ref.inj q)) (by decide) (by decide) ?_
    show Steps p.tables e below (T2.setTop (mkF m 25 #[.val (.ref w_MESSAGE), .val (.int (0 : Int32))] [])) _
    refine XS.iloadN X2.here hx rfl (hb hby d3_25) rfl ?_
    show Steps p.tables e below (T2.setTop (mkF m 26 #[.val (.ref w_MESSAGE), .val (.int (0 : Int32))] [(.int (0 : Int32))])) _
    exact retI X2 hx Bd.returns (hb hby d3_26) hr
  · exact ⟨rfl, N0, e2⟩
theorem ef_0_I (m : MethodId) (x0 : Int32) : entryFrame m #[(.int x0)] maxLocals = mkF m 0 #[.val (.int x0), .unset, .unset, .unset] [] := by first | (simp [entryFrame, mkF, argsToLocals, Value.category, maxLocals]; done) | rfl
theorem pn_swiftwire_KindTailBytesPinLaw : plainName "swiftwire/KindTailBytesPinLaw" = true := by first | (simp [plainName, overriddenIn]; done) | decide +kernel
set_option maxRecDepth 65536 in
set_option maxHeartbeats 40000000 in
theorem rm0_c0 (l : Launch) (Z : State) (a0 : Array Value) (hw : ∀ d ∈ tables_1, d.before a0 Z = true) (ws : List Jvm.Cond) (w_MESSAGE : Addr) (w_OFFER : Addr) (w_SHARE : Addr) (w_DECLINE : Addr) (w_ANNOUNCE : Addr) (w_DATA : Addr) (w_GRANT : Addr) (w_TAKEN : Addr) (w_REFUSE : Addr) (w_LEAVE : Addr) (w_CODES : Addr) (cl_CODES : Cell) (p0 : Int32) (h0 : Heap) (n0 : Nat) (Z0 : n0 ≤ h0.size) (P : Pins Z h0 w_MESSAGE w_OFFER w_SHARE w_DECLINE w_ANNOUNCE w_DATA w_GRANT w_TAKEN w_REFUSE w_LEAVE w_CODES cl_CODES) (k0 : ((p0 &&& (2147483647 : Int32)) % (10 : Int32)) = (0 : Int32)) :
    MetFree l x (head1 (Jvm.Cond.code x code maxLocals ret :: ws) room_1) (fun a U => a = #[(.int p0)] ∧ Z.Warmed39 U.vm ∧ U.heap = h0) (fun _ _ _ _ _ => True) (fun _ U o U' => ∃ v L, o = .returned v ∧ QP h0 n0 (some (.int (1 : Int32))) v U'.heap L ∧ FrameEnd U o U' L room_1.cells room_1.slots) := by
  refine MetFree.of_bodySF (plainFor_of_name pn_swiftwire_KindTailBytesPinLaw) hisR ?_
  intro p e s m args below meth c s₁ Bd hml0 hP hK
  obtain ⟨rfl, hZ, hh⟩ := hP
  have hx := Bd.exec
  have hby := Bd.bytes
  have hml : c.maxLocals = 4 := hml0
  have hown : s.vm.findClass "swiftwire/KindTailBytesPinLaw" = some m.cls := findClass_of_methodNamed Bd.named
  have X0 : Stand p l e room_1 s m #[(.int p0)] below meth c s₁ [] 0 0 := Stand.of_body Bd
  have e0 : s₁.heap = h0 := by rw [← hh, Bd.state]; rfl
  have N0 := Fr.nil n0
  have pre0 : ∀ t, Steps p.tables e below (s₁.setTop (mkF m 0 #[.val (.int p0), .unset, .unset, .unset] [])) t → Steps p.tables e below (s₁.setTop (entryFrame m #[(.int p0)] maxLocals)) t := fun t k => castTop (ef_0_I m p0) k
  have E_w_MESSAGE : Exa Z h0 w_MESSAGE "swiftwire/FrameHeader$Kind" := P.2.1
  obtain ⟨_, _, ⟨T1, L1, k1, n1⟩, -, X1, ⟨Lc1, hQ1, l1, y1, z1⟩, st1⟩ := Jvm.LawKit.callS X0 hx (y := (⟨"swiftwire/FrameHeader", "kind", "(II)Lswiftwire/FrameHeader$Kind;"⟩ : MethodName)) hown (mvT hZ (hw _ (List.mem_of_getElem? (i := 1) rfl))) (mvT hZ (hw _ (List.mem_of_getElem? (i := 2) rfl))) (mvT hZ (hw _ (List.mem_of_getElem? (i := 3) rfl))) (mvT hZ (hw _ (List.mem_of_getElem? (i := 4) rfl))) (by decide) (backOf (W := 0) (rm1 l Z a0 hw [] w_MESSAGE w_OFFER w_SHARE w_DECLINE w_ANNOUNCE w_DATA w_GRANT w_TAKEN w_REFUSE w_LEAVE w_CODES cl_CODES h0 n0 Z0 P) hZ (hw _ (List.mem_of_getElem? (i := 4) rfl)) (hw _ (List.mem_of_getElem? (i := 3) rfl)) (by decide) (by decide)) (g := (mkF m 10 #[.val (.int p0), .val (.int (0 : Int32)), .unset, .unset] [(.int (0 : Int32)), (.int (0 : Int32))])) rfl (by rw [hml]; rfl) (argsL := [(.int (0 : Int32)), (.int (0 : Int32))]) (rest := []) (lenOf pd_0 rfl) rfl (by show 2 * 0 + _ ≤ _; exact Nat.le_of_eq rfl) (hb hby at_10) (fun _ _ => ⟨rfl, e0, (by decide : 0 + 0 ≤ _), (by decide : 0 + 0 ≤ _)⟩)
  dsimp only [Pt.U, Pt.locs, Pt.cells, Pt.slots] at X1 l1 y1 z1 st1 hQ1
  subst l1 y1 z1
  obtain ⟨rfl, N1q, e1⟩ := hQ1
  have N1 := Fr.app N0 N1q
  obtain ⟨cq2, kq2, q2a, q2b, q2c⟩ := isOf hZ e1 E_w_MESSAGE
  obtain ⟨_, _, ⟨T2, L2, k2, n2⟩, -, X2, ⟨Lc2, hQ2, l2, y2, z2⟩, st2⟩ := X1.virtualBackUp hx (owner := "java/lang/Enum") (x := (⟨"swiftwire/FrameHeader$Kind", "ordinal", "()I"⟩ : MethodName)) (y := (⟨"java/lang/Enum", "ordinal", "()I"⟩ : MethodName)) hown (mvT hZ (hw _ (List.mem_of_getElem? (i := 9) rfl))) (mvT hZ (hw _ (List.mem_of_getElem? (i := 10) rfl))) (mvT hZ (hw _ (List.mem_of_getElem? (i := 11) rfl))) (by decide) (mvT hZ (hw _ (List.mem_of_getElem? (i := 13) rfl))) (mvT hZ (hw _ (List.mem_of_getElem? (i := 12) rfl))) (backOf (W := 0) (rm2 l Z a0 hw [] w_MESSAGE w_OFFER w_SHARE w_DECLINE w_ANNOUNCE w_DATA w_GRANT w_TAKEN w_REFUSE w_LEAVE w_CODES cl_CODES h0 n0 Z0 P) hZ (hw _ (List.mem_of_getElem? (i := 15) rfl)) (hw _ (List.mem_of_getElem? (i := 14) rfl)) (by decide) (by decide)) q2a q2c (g := (mkF m 38 #[.val (.int p0), .val (.int (0 : Int32)), .val (.ref w_MESSAGE), .val (.int (0 : Int32))] [(.ref w_MESSAGE)])) rfl (by rw [hml]; rfl) (Steps.refl _) (argsL := []) (rest := []) (lenOf pd_1 rfl) rfl (by show 2 * 0 + _ ≤ _; exact Nat.le_of_eq rfl) (hb hby at_38) (fun _ _ => ⟨rfl, e1, (by decide : 0 + 0 ≤ _), (by decide : 0 + 0 ≤ _)⟩)
  dsimp only [Pt.U, Pt.locs, Pt.cells, Pt.slots] at X2 l2 y2 z2 st2 hQ2
  subst l2 y2 z2
  obtain ⟨rfl, N2q, e2⟩ := hQ2
  have N2 := Fr.app N1 N2q
  obtain ⟨cq3, kq3, q3a, q3b, q3c⟩ := isOf hZ e2 E_w_MESSAGE
  obtain ⟨_, _, ⟨T3, L3, k3, n3⟩, -, X3, ⟨Lc3, hQ3, l3, y3, z3⟩, st3⟩ := X2.virtualBack hx (y := (⟨"swiftwire/FrameHeader$Kind", "tailBytes", "()I"⟩ : MethodName)) (z := (⟨"swiftwire/FrameHeader$Kind", "tailBytes", "()I"⟩ : MethodName)) hown (mvT hZ (hw _ (List.mem_of_getElem? (i := 18) rfl))) (mvT hZ (hw _ (List.mem_of_getElem? (i := 19) rfl))) (notFace_of_selects (args := #[]) (mvT hZ (hw _ (List.mem_of_getElem? (i := 21) rfl)))) (mvT hZ (hw _ (List.mem_of_getElem? (i := 21) rfl))) (mvT hZ (hw _ (List.mem_of_getElem? (i := 20) rfl))) (by decide) (backOf (W := 0) (rm3 l Z a0 hw [] w_MESSAGE w_OFFER w_SHARE w_DECLINE w_ANNOUNCE w_DATA w_GRANT w_TAKEN w_REFUSE w_LEAVE w_CODES cl_CODES h0 n0 Z0 P) hZ (hw _ (List.mem_of_getElem? (i := 22) rfl)) (hw _ (List.mem_of_getElem? (i := 6) rfl)) (by decide) (by decide)) q3a q3c (g := (mkF m 46 #[.val (.int p0), .val (.int (0 : Int32)), .val (.ref w_MESSAGE), .val (.int (0 : Int32))] [(.ref w_MESSAGE)])) rfl (by rw [hml]; rfl) (Steps.refl _) (argsL := []) (rest := []) (lenOf pd_1 rfl) rfl (by show 2 * 0 + _ ≤ _; exact Nat.le_of_eq rfl) (hb hby at_46) (fun _ _ => ⟨rfl, e2, (by decide : 0 + 0 ≤ _), (by decide : 0 + 0 ≤ _)⟩)
  dsimp only [Pt.U, Pt.locs, Pt.cells, Pt.slots] at X3 l3 y3 z3 st3 hQ3
  subst l3 y3 z3
  obtain ⟨rfl, N3q, e3⟩ := hQ3
  have N3 := Fr.app N2 N3q
  obtain ⟨fs, hr, hrun, hended, hW, hsame⟩ := X3.leave (v := some (.int (1 : Int32))) (fun h => by rw [Bd.returns] at h; cases h)
  refine ⟨_, _, pre0 _ ?_, hrun, hended, _, _, rfl, ?_, ⟨_, rfl⟩, hW, hsame.mono (by decide) (by decide)⟩
  · show Steps p.tables e below (s₁.setTop (mkF m 0 #[.val (.int p0), .unset, .unset, .unset] [])) _
    refine XS.iloadN X0.here hx rfl (hb hby at_0) rfl ?_
    show Steps p.tables e below (s₁.setTop (mkF m 1 #[.val (.int p0), .unset, .unset, .unset] [(.int p0)])) _
    refine Jvm.Stand.ldcI X0 hx hown (mvT hZ (hw _ (List.mem_of_getElem? (i := 0) rfl))) rfl (hb hby at_1) ?_
    show Steps p.tables e below (s₁.setTop (mkF m 3 #[.val (.int p0), .unset, .unset, .unset] [(.int (2147483647 : Int32)), (.int p0)])) _
    refine XS.iand X0.here hx rfl (hb hby at_3) rfl ?_
    show Steps p.tables e below (s₁.setTop (mkF m 4 #[.val (.int p0), .unset, .unset, .unset] [(.int (p0 &&& (2147483647 : Int32)))])) _
    refine XS.bipush X0.here hx rfl (hb hby at_4) ?_
    show Steps p.tables e below (s₁.setTop (mkF m 6 #[.val (.int p0), .unset, .unset, .unset] [(.int (10 : Int32)), (.int (p0 &&& (2147483647 : Int32)))])) _
    refine iremM X0 hx rfl (hb hby at_6) rfl (by decide) ?_
    show Steps p.tables e below (s₁.setTop (mkF m 7 #[.val (.int p0), .unset, .unset, .unset] [(.int ((p0 &&& (2147483647 : Int32)) % (10 : Int32)))])) _
    rw [k0]
    show Steps p.tables e below (s₁.setTop (mkF m 7 #[.val (.int p0), .unset, .unset, .unset] [(.int (0 : Int32))])) _
    refine XS.istoreN X0.here hx rfl (hb hby at_7) rfl (l' := #[.val (.int p0), .val (.int (0 : Int32)), .unset, .unset]) rfl ?_
    show Steps p.tables e below (s₁.setTop (mkF m 8 #[.val (.int p0), .val (.int (0 : Int32)), .unset, .unset] [])) _
    refine XS.iloadN X0.here hx rfl (hb hby at_8) rfl ?_
    show Steps p.tables e below (s₁.setTop (mkF m 9 #[.val (.int p0), .val (.int (0 : Int32)), .unset, .unset] [(.int (0 : Int32))])) _
    refine XS.iconst X0.here hx rfl (hb hby at_9) ?_
    show Steps p.tables e below (s₁.setTop (mkF m 10 #[.val (.int p0), .val (.int (0 : Int32)), .unset, .unset] [(.int (0 : Int32)), (.int (0 : Int32))])) _
    refine st1 _ ?_
    show Steps p.tables e below (T1.setTop (mkF m 13 #[.val (.int p0), .val (.int (0 : Int32)), .unset, .unset] [(.ref w_MESSAGE)])) _
    refine XS.astoreN X1.here hx rfl (hb hby at_13) rfl rfl (l' := #[.val (.int p0), .val (.int (0 : Int32)), .val (.ref w_MESSAGE), .unset]) rfl ?_
    show Steps p.tables e below (T1.setTop (mkF m 14 #[.val (.int p0), .val (.int (0 : Int32)), .val (.ref w_MESSAGE), .unset] [])) _
    refine XS.iconst X1.here hx rfl (hb hby at_14) ?_
    show Steps p.tables e below (T1.setTop (mkF m 15 #[.val (.int p0), .val (.int (0 : Int32)), .val (.ref w_MESSAGE), .unset] [(.int (0 : Int32))])) _
    refine XS.istoreN X1.here hx rfl (hb hby at_15) rfl (l' := #[.val (.int p0), .val (.int (0 : Int32)), .val (.ref w_MESSAGE), .val (.int (0 : Int32))]) rfl ?_
    show Steps p.tables e below (T1.setTop (mkF m 16 #[.val (.int p0), .val (.int (0 : Int32)), .val (.ref w_MESSAGE), .val (.int (0 : Int32))] [])) _
    refine XS.iloadN X1.here hx rfl (hb hby at_16) rfl ?_
    show Steps p.tables e below (T1.setTop (mkF m 17 #[.val (.int p0), .val (.int (0 : Int32)), .val (.ref w_MESSAGE), .val (.int (0 : Int32))] [(.int (0 : Int32))])) _
    refine XS.bipush X1.here hx rfl (hb hby at_17) ?_
    show Steps p.tables e below (T1.setTop (mkF m 19 #[.val (.int p0), .val (.int (0 : Int32)), .val (.ref w_MESSAGE), .val (.int (0 : Int32))] [(.int (7 : Int32)), (.int (0 : Int32))])) _
    refine XS.icmpYes X1.here hx rfl (pc0 := 19) (pc' := 28) rfl (hb hby at_19) rfl (by decide) (by decide) (by decide) ?_
    show Steps p.tables e below (T1.setTop (mkF m 28 #[.val (.int p0), .val (.int (0 : Int32)), .val (.ref w_MESSAGE), .val (.int (0 : Int32))] [])) _
    refine XS.iloadN X1.here hx rfl (hb hby at_28) rfl ?_
    show Steps p.tables e below (T1.setTop (mkF m 29 #[.val (.int p0), .val (.int (0 : Int32)), .val (.ref w_MESSAGE), .val (.int (0 : Int32))] [(.int (0 : Int32))])) _
    refine XS.bipush X1.here hx rfl (hb hby at_29) ?_
    show Steps p.tables e below (T1.setTop (mkF m 31 #[.val (.int p0), .val (.int (0 : Int32)), .val (.ref w_MESSAGE), .val (.int (0 : Int32))] [(.int (9 : Int32)), (.int (0 : Int32))])) _
    refine XS.icmpYes X1.here hx rfl (pc0 := 31) (pc' := 37) rfl (hb hby at_31) rfl (by decide) (by decide) (by decide) ?_
    show Steps p.tables e below (T1.setTop (mkF m 37 #[.val (.int p0), .val (.int (0 : Int32)), .val (.ref w_MESSAGE), .val (.int (0 : Int32))] [])) _
    refine XS.aloadN X1.here hx rfl (hb hby at_37) rfl rfl ?_
    show Steps p.tables e below (T1.setTop (mkF m 38 #[.val (.int p0), .val (.int (0 : Int32)), .val (.ref w_MESSAGE), .val (.int (0 : Int32))] [(.ref w_MESSAGE)])) _
    refine st2.trans ?_
    show Steps p.tables e below (T2.setTop (mkF m 41 #[.val (.int p0), .val (.int (0 : Int32)), .val (.ref w_MESSAGE), .val (.int (0 : Int32))] [(.int (0 : Int32))])) _
    refine XS.iloadN X2.here hx rfl (hb hby at_41) rfl ?_
    show Steps p.tables e below (T2.setTop (mkF m 42 #[.val (.int p0), .val (.int (0 : Int32)), .val (.ref w_MESSAGE), .val (.int (0 : Int32))] [(.int (0 : Int32)), (.int (0 : Int32))])) _
    refine XS.icmpNo X2.here hx rfl (hb hby at_42) rfl (by decide) ?_
    show Steps p.tables e below (T2.setTop (mkF m 45 #[.val (.int p0), .val (.int (0 : Int32)), .val (.ref w_MESSAGE), .val (.int (0 : Int32))] [])) _
    refine XS.aloadN X2.here hx rfl (hb hby at_45) rfl rfl ?_
    show Steps p.tables e below (T2.setTop (mkF m 46 #[.val (.int p0), .val (.int (0 : Int32)), .val (.ref w_MESSAGE), .val (.int (0 : Int32))] [(.ref w_MESSAGE)])) _
    refine st3.trans ?_
    show Steps p.tables e below (T3.setTop (mkF m 49 #[.val (.int p0), .val (.int (0 : Int32)), .val (.ref w_MESSAGE), .val (.int (0 : Int32))] [(.int (0 : Int32))])) _
    refine XS.iloadN X3.here hx rfl (hb hby at_49) rfl ?_
    show Steps p.tables e below (T3.setTop (mkF m 50 #[.val (.int p0), .val (.int (0 : Int32)), .val (.ref w_MESSAGE), .val (.int (0 : Int32))] [(.int (0 : Int32)), (.int (0 : Int32))])) _
    refine XS.icmpNo X3.here hx rfl (hb hby at_50) rfl (by decide) ?_
    show Steps p.tables e below (T3.setTop (mkF m 53 #[.val (.int p0), .val (.int (0 : Int32)), .val (.ref w_MESSAGE), .val (.int (0 : Int32))] [])) _
    refine XS.iconst X3.here hx rfl (hb hby at_53) ?_
    show Steps p.tables e below (T3.setTop (mkF m 54 #[.val (.int p0), .val (.int (0 : Int32)), .val (.ref w_MESSAGE), .val (.int (0 : Int32))] [(.int (1 : Int32))])) _
    refine XS.goto X3.here hx rfl (pc0 := 54) (pc' := 58) rfl (hb hby at_54) (by decide) (by decide) ?_
    show Steps p.tables e below (T3.setTop (mkF m 58 #[.val (.int p0), .val (.int (0 : Int32)), .val (.ref w_MESSAGE), .val (.int (0 : Int32))] [(.int (1 : Int32))])) _
    exact retN X3 hx (t := .boolean) Bd.returns (by simp) (hb hby at_58) hr
  · exact ⟨rfl, N3, e3⟩
set_option maxRecDepth 65536 in
set_option maxHeartbeats 40000000 in
theorem rm1_1 (l : Launch) (Z : State) (a0 : Array Value) (hw : ∀ d ∈ tables_1, d.before a0 Z = true) (ws : List Jvm.Cond) (w_MESSAGE : Addr) (w_OFFER : Addr) (w_SHARE : Addr) (w_DECLINE : Addr) (w_ANNOUNCE : Addr) (w_DATA : Addr) (w_GRANT : Addr) (w_TAKEN : Addr) (w_REFUSE : Addr) (w_LEAVE : Addr) (w_CODES : Addr) (cl_CODES : Cell) (h0 : Heap) (n0 : Nat) (Z0 : n0 ≤ h0.size) (P : Pins Z h0 w_MESSAGE w_OFFER w_SHARE w_DECLINE w_ANNOUNCE w_DATA w_GRANT w_TAKEN w_REFUSE w_LEAVE w_CODES cl_CODES) :
    MetFree l (⟨"swiftwire/FrameHeader", "kind", "(II)Lswiftwire/FrameHeader$Kind;"⟩ : MethodName) (head1 (Jvm.Cond.code (⟨"swiftwire/FrameHeader", "kind", "(II)Lswiftwire/FrameHeader$Kind;"⟩ : MethodName) prog_50_method_7_code 2 (some (.object "swiftwire/FrameHeader$Kind")) :: ws) ({ frames := 0, cells := 0, slots := 0, locals := 0 } : Room)) (fun a U => a = #[(.int (1 : Int32)), (.int (0 : Int32))] ∧ Z.Warmed39 U.vm ∧ U.heap = h0) (fun _ _ _ _ _ => True) (fun _ U o U' => ∃ v L, o = .returned v ∧ QP h0 n0 (some (.ref w_ANNOUNCE)) v U'.heap L ∧ FrameEnd U o U' L ({ frames := 0, cells := 0, slots := 0, locals := 0 } : Room).cells ({ frames := 0, cells := 0, slots := 0, locals := 0 } : Room).slots) := by
  refine MetFree.of_bodySF (plainFor_of_name pn_swiftwire_FrameHeader) hisR ?_
  intro p e s m args below meth c s₁ Bd hml0 hP hK
  obtain ⟨rfl, hZ, hh⟩ := hP
  have hx := Bd.exec
  have hby := Bd.bytes
  have hml : c.maxLocals = 2 := hml0
  have hown : s.vm.findClass "swiftwire/FrameHeader" = some m.cls := findClass_of_methodNamed Bd.named
  have X0 : Stand p l e ({ frames := 0, cells := 0, slots := 0, locals := 0 } : Room) s m #[(.int (1 : Int32)), (.int (0 : Int32))] below meth c s₁ [] 0 0 := Stand.of_body Bd
  have e0 : s₁.heap = h0 := by rw [← hh, Bd.state]; rfl
  have N0 := Fr.nil n0
  have pre0 : ∀ t, Steps p.tables e below (s₁.setTop (mkF m 0 #[.val (.int (1 : Int32)), .val (.int (0 : Int32))] [])) t → Steps p.tables e below (s₁.setTop (entryFrame m #[(.int (1 : Int32)), (.int (0 : Int32))] 2)) t := fun t k => castTop (ef_1_II m (1 : Int32) (0 : Int32)) k
  have S_w_CODES : Sta Z h0 "swiftwire/FrameHeader$Kind" "CODES" "[Lswiftwire/FrameHeader$Kind;" (.ref w_CODES) := P.2.2.2.2.2.2.2.2.2.2.2.2.2.2.2.2.2.2.2.2.2.2.2.2.2.2.2.2.2.2.1
  have A_w_CODES : Arr Z h0 w_CODES cl_CODES (.object "swiftwire/FrameHeader$Kind") := P.2.2.2.2.2.2.2.2.2.2.2.2.2.2.2.2.2.2.2.2.2.2.2.2.2.2.2.2.2.2.2.1
  have Z_w_CODES : cl_CODES.slots.size = 10 := P.2.2.2.2.2.2.2.2.2.2.2.2.2.2.2.2.2.2.2.2.2.2.2.2.2.2.2.2.2.2.2.2.1
  have G_1 : cl_CODES.slots[(1 : Int32).toNatClampNeg]? = some (.ref w_ANNOUNCE) := P.2.2.2.2.2.2.2.2.2.2.2.2.2.2.2.2.2.2.2.2.2.2.2.2.2.2.2.2.2.2.2.2.2.2.2.1
  obtain ⟨T1, X1, e1, st1⟩ := own_getSR X0 hx hZ hown (hw _ (List.mem_of_getElem? (i := 5) rfl)) e0 S_w_CODES (g := (mkF m 5 #[.val (.int (1 : Int32)), .val (.int (0 : Int32))] [(.int (1 : Int32))])) rfl (hb hby d1_5)
  obtain ⟨T2, X2, e2, st2⟩ := own_getSR X1 hx hZ hown (hw _ (List.mem_of_getElem? (i := 5) rfl)) e1 S_w_CODES (g := (mkF m 44 #[.val (.int (1 : Int32)), .val (.int (0 : Int32))] [])) rfl (hb hby d1_44)
  obtain ⟨fs, hr, hrun, hended, hW, hsame⟩ := X2.leave (v := some (.ref w_ANNOUNCE)) (fun h => by rw [Bd.returns] at h; cases h)
  refine ⟨_, _, pre0 _ ?_, hrun, hended, _, _, rfl, ?_, ⟨_, rfl⟩, hW, hsame.mono (by decide) (by decide)⟩
  · show Steps p.tables e below (s₁.setTop (mkF m 0 #[.val (.int (1 : Int32)), .val (.int (0 : Int32))] [])) _
    refine XS.iloadN X0.here hx rfl (hb hby d1_0) rfl ?_
    show Steps p.tables e below (s₁.setTop (mkF m 1 #[.val (.int (1 : Int32)), .val (.int (0 : Int32))] [(.int (1 : Int32))])) _
    refine XS.ifNo X0.here hx rfl (hb hby d1_1) rfl (by decide) ?_
    show Steps p.tables e below (s₁.setTop (mkF m 4 #[.val (.int (1 : Int32)), .val (.int (0 : Int32))] [])) _
    refine XS.iloadN X0.here hx rfl (hb hby d1_4) rfl ?_
    show Steps p.tables e below (s₁.setTop (mkF m 5 #[.val (.int (1 : Int32)), .val (.int (0 : Int32))] [(.int (1 : Int32))])) _
    refine st1 _ ?_
    show Steps p.tables e below (T1.setTop (mkF m 8 #[.val (.int (1 : Int32)), .val (.int (0 : Int32))] [(.ref w_CODES), (.int (1 : Int32))])) _
    refine X1.arraylength hx (by rw [e1]; exact A_w_CODES.1) (State.isArrayOf_alike hZ.alike A_w_CODES.2.1) (g := (mkF m 8 #[.val (.int (1 : Int32)), .val (.int (0 : Int32))] [(.ref w_CODES), (.int (1 : Int32))])) rfl rfl (hb hby d1_8) _ ?_
    rw [show cl_CODES.slots.size.toInt32 = (10 : Int32) from by rw [Z_w_CODES]; decide]
    show Steps p.tables e below (T1.setTop (mkF m 9 #[.val (.int (1 : Int32)), .val (.int (0 : Int32))] [(.int (10 : Int32)), (.int (1 : Int32))])) _
    refine XS.icmpYes X1.here hx rfl (pc0 := 9) (pc' := 26) rfl (hb hby d1_9) rfl (by decide) (by decide) (by decide) ?_
    show Steps p.tables e below (T1.setTop (mkF m 26 #[.val (.int (1 : Int32)), .val (.int (0 : Int32))] [])) _
    refine XS.iloadN X1.here hx rfl (hb hby d1_26) rfl ?_
    show Steps p.tables e below (T1.setTop (mkF m 27 #[.val (.int (1 : Int32)), .val (.int (0 : Int32))] [(.int (0 : Int32))])) _
    refine XS.ifYes X1.here hx rfl (pc0 := 27) (pc' := 44) rfl (hb hby d1_27) rfl (by decide) (by decide) (by decide) ?_
    show Steps p.tables e below (T1.setTop (mkF m 44 #[.val (.int (1 : Int32)), .val (.int (0 : Int32))] [])) _
    refine st2 _ ?_
    show Steps p.tables e below (T2.setTop (mkF m 47 #[.val (.int (1 : Int32)), .val (.int (0 : Int32))] [(.ref w_CODES)])) _
    refine XS.iloadN X2.here hx rfl (hb hby d1_47) rfl ?_
    show Steps p.tables e below (T2.setTop (mkF m 48 #[.val (.int (1 : Int32)), .val (.int (0 : Int32))] [(.int (1 : Int32)), (.ref w_CODES)])) _
    refine X2.aaload hx (j := (1 : Int32)) (v := (.ref w_ANNOUNCE)) (by rw [e2]; exact A_w_CODES.1) (State.isArrayOf_alike hZ.alike A_w_CODES.2.1) rfl A_w_CODES.2.2 (by rw [Z_w_CODES]; decide) G_1 (g := (mkF m 48 #[.val (.int (1 : Int32)), .val (.int (0 : Int32))] [(.int (1 : Int32)), (.ref w_CODES)])) rfl rfl (hb hby d1_48) _ ?_
    show Steps p.tables e below (T2.setTop (mkF m 49 #[.val (.int (1 : Int32)), .val (.int (0 : Int32))] [(.ref w_ANNOUNCE)])) _
    exact retOut X2 hx Bd.returns rfl (Or.inr (Or.inr (Or.inr (Or.inr ⟨rfl, rfl, rfl⟩)))) (hb hby d1_49) hr
  · exact ⟨rfl, N0, e2⟩
set_option maxRecDepth 65536 in
set_option maxHeartbeats 40000000 in
theorem rm2_1 (l : Launch) (Z : State) (a0 : Array Value) (hw : ∀ d ∈ tables_1, d.before a0 Z = true) (ws : List Jvm.Cond) (w_MESSAGE : Addr) (w_OFFER : Addr) (w_SHARE : Addr) (w_DECLINE : Addr) (w_ANNOUNCE : Addr) (w_DATA : Addr) (w_GRANT : Addr) (w_TAKEN : Addr) (w_REFUSE : Addr) (w_LEAVE : Addr) (w_CODES : Addr) (cl_CODES : Cell) (h0 : Heap) (n0 : Nat) (Z0 : n0 ≤ h0.size) (P : Pins Z h0 w_MESSAGE w_OFFER w_SHARE w_DECLINE w_ANNOUNCE w_DATA w_GRANT w_TAKEN w_REFUSE w_LEAVE w_CODES cl_CODES) :
    MetFree l (⟨"java/lang/Enum", "ordinal", "()I"⟩ : MethodName) (head1 (Jvm.Cond.code (⟨"java/lang/Enum", "ordinal", "()I"⟩ : MethodName) jdk_37_method_2_code 1 (some .int) :: ws) ({ frames := 0, cells := 0, slots := 0, locals := 0 } : Room)) (fun a U => a = #[(.ref w_ANNOUNCE)] ∧ Z.Warmed39 U.vm ∧ U.heap = h0) (fun _ _ _ _ _ => True) (fun _ U o U' => ∃ v L, o = .returned v ∧ QP h0 n0 (some (.int (1 : Int32))) v U'.heap L ∧ FrameEnd U o U' L ({ frames := 0, cells := 0, slots := 0, locals := 0 } : Room).cells ({ frames := 0, cells := 0, slots := 0, locals := 0 } : Room).slots) := by
  refine MetFree.of_bodySF (plainFor_of_name pn_java_lang_Enum) hisR ?_
  intro p e s m args below meth c s₁ Bd hml0 hP hK
  obtain ⟨rfl, hZ, hh⟩ := hP
  have hx := Bd.exec
  have hby := Bd.bytes
  have hml : c.maxLocals = 1 := hml0
  have hown : s.vm.findClass "java/lang/Enum" = some m.cls := findClass_of_methodNamed Bd.named
  have X0 : Stand p l e ({ frames := 0, cells := 0, slots := 0, locals := 0 } : Room) s m #[(.ref w_ANNOUNCE)] below meth c s₁ [] 0 0 := Stand.of_body Bd
  have e0 : s₁.heap = h0 := by rw [← hh, Bd.state]; rfl
  have N0 := Fr.nil n0
  have pre0 : ∀ t, Steps p.tables e below (s₁.setTop (mkF m 0 #[.val (.ref w_ANNOUNCE)] [])) t → Steps p.tables e below (s₁.setTop (entryFrame m #[(.ref w_ANNOUNCE)] 1)) t := fun t k => castTop (ef_2_R m w_ANNOUNCE) k
  have F_w_ANNOUNCE_ordinal : Fld Z h0 w_ANNOUNCE "java/lang/Enum" "ordinal" "I" (.int (1 : Int32)) := P.2.2.2.2.2.2.2.2.2.2.2.2.2.2.2.2.2.2.2.2.2.2.2.2.1
  obtain ⟨T1, X1, e1, st1⟩ := getF X0 hx hZ hown (host := "") (Or.inl (hw _ (List.mem_of_getElem? (i := 16) rfl))) Via.refl e0 F_w_ANNOUNCE_ordinal (g := (mkF m 1 #[.val (.ref w_ANNOUNCE)] [(.ref w_ANNOUNCE)])) rfl rfl (hb hby d2_1)
  obtain ⟨fs, hr, hrun, hended, hW, hsame⟩ := X1.leave (v := some (.int (1 : Int32))) (fun h => by rw [Bd.returns] at h; cases h)
  refine ⟨_, _, pre0 _ ?_, hrun, hended, _, _, rfl, ?_, ⟨_, rfl⟩, hW, hsame.mono (by decide) (by decide)⟩
  · show Steps p.tables e below (s₁.setTop (mkF m 0 #[.val (.ref w_ANNOUNCE)] [])) _
    refine XS.aloadN X0.here hx rfl (hb hby d2_0) rfl rfl ?_
    show Steps p.tables e below (s₁.setTop (mkF m 1 #[.val (.ref w_ANNOUNCE)] [(.ref w_ANNOUNCE)])) _
    refine st1 _ ?_
    show Steps p.tables e below (T1.setTop (mkF m 4 #[.val (.ref w_ANNOUNCE)] [(.int (1 : Int32))])) _
    exact retI X1 hx Bd.returns (hb hby d2_4) hr
  · exact ⟨rfl, N0, e1⟩
set_option maxRecDepth 65536 in
set_option maxHeartbeats 40000000 in
theorem rm3_1 (l : Launch) (Z : State) (a0 : Array Value) (hw : ∀ d ∈ tables_1, d.before a0 Z = true) (ws : List Jvm.Cond) (w_MESSAGE : Addr) (w_OFFER : Addr) (w_SHARE : Addr) (w_DECLINE : Addr) (w_ANNOUNCE : Addr) (w_DATA : Addr) (w_GRANT : Addr) (w_TAKEN : Addr) (w_REFUSE : Addr) (w_LEAVE : Addr) (w_CODES : Addr) (cl_CODES : Cell) (h0 : Heap) (n0 : Nat) (Z0 : n0 ≤ h0.size) (P : Pins Z h0 w_MESSAGE w_OFFER w_SHARE w_DECLINE w_ANNOUNCE w_DATA w_GRANT w_TAKEN w_REFUSE w_LEAVE w_CODES cl_CODES) :
    MetFree l (⟨"swiftwire/FrameHeader$Kind", "tailBytes", "()I"⟩ : MethodName) (head1 (Jvm.Cond.code (⟨"swiftwire/FrameHeader$Kind", "tailBytes", "()I"⟩ : MethodName) prog_51_method_6_code 2 (some .int) :: ws) ({ frames := 0, cells := 0, slots := 0, locals := 0 } : Room)) (fun a U => a = #[(.ref w_ANNOUNCE)] ∧ Z.Warmed39 U.vm ∧ U.heap = h0) (fun _ _ _ _ _ => True) (fun _ U o U' => ∃ v L, o = .returned v ∧ QP h0 n0 (some (.int (0 : Int32))) v U'.heap L ∧ FrameEnd U o U' L ({ frames := 0, cells := 0, slots := 0, locals := 0 } : Room).cells ({ frames := 0, cells := 0, slots := 0, locals := 0 } : Room).slots) := by
  refine MetFree.of_bodySF (plainFor_of_name pn_swiftwire_FrameHeader_Kind) hisR ?_
  intro p e s m args below meth c s₁ Bd hml0 hP hK
  obtain ⟨rfl, hZ, hh⟩ := hP
  have hx := Bd.exec
  have hby := Bd.bytes
  have hml : c.maxLocals = 2 := hml0
  have hown : s.vm.findClass "swiftwire/FrameHeader$Kind" = some m.cls := findClass_of_methodNamed Bd.named
  have X0 : Stand p l e ({ frames := 0, cells := 0, slots := 0, locals := 0 } : Room) s m #[(.ref w_ANNOUNCE)] below meth c s₁ [] 0 0 := Stand.of_body Bd
  have e0 : s₁.heap = h0 := by rw [← hh, Bd.state]; rfl
  have N0 := Fr.nil n0
  have pre0 : ∀ t, Steps p.tables e below (s₁.setTop (mkF m 0 #[.val (.ref w_ANNOUNCE), .unset] [])) t → Steps p.tables e below (s₁.setTop (entryFrame m #[(.ref w_ANNOUNCE)] 2)) t := fun t k => castTop (ef_3_R m w_ANNOUNCE) k
  have S_w_OFFER : Sta Z h0 "swiftwire/FrameHeader$Kind" "OFFER" "Lswiftwire/FrameHeader$Kind;" (.ref w_OFFER) := P.2.2.1
  have F_w_ANNOUNCE_ordinal : Fld Z h0 w_ANNOUNCE "java/lang/Enum" "ordinal" "I" (.int (1 : Int32)) := P.2.2.2.2.2.2.2.2.2.2.2.2.2.2.2.2.2.2.2.2.2.2.2.2.1
  have F_w_OFFER_ordinal : Fld Z h0 w_OFFER "java/lang/Enum" "ordinal" "I" (.int (7 : Int32)) := P.2.2.2.2.2.2.2.2.2.2.2.2.2.2.2.2.2.2.2.2.2.1
  have S_w_SHARE : Sta Z h0 "swiftwire/FrameHeader$Kind" "SHARE" "Lswiftwire/FrameHeader$Kind;" (.ref w_SHARE) := P.2.2.2.2.1
  have F_w_SHARE_ordinal : Fld Z h0 w_SHARE "java/lang/Enum" "ordinal" "I" (.int (9 : Int32)) := P.2.2.2.2.2.2.2.2.2.2.2.2.2.2.2.2.2.2.2.2.2.2.1
  obtain ⟨T1, X1, e1, st1⟩ := getS2 X0 hx hZ hown (host := "") (Or.inl (hw _ (List.mem_of_getElem? (i := 23) rfl))) Via.refl e0 S_w_OFFER (g := (mkF m 3 #[.val (.ref w_ANNOUNCE), .val (.int (0 : Int32))] [(.ref w_ANNOUNCE)])) rfl (hb hby d3_3)
  obtain ⟨T2, X2, e2, st2⟩ := getS2 X1 hx hZ hown (host := "") (Or.inl (hw _ (List.mem_of_getElem? (i := 25) rfl))) Via.refl e1 S_w_SHARE (g := (mkF m 16 #[.val (.ref w_ANNOUNCE), .val (.int (0 : Int32))] [(.ref w_ANNOUNCE)])) rfl (hb hby d3_16)
  obtain ⟨fs, hr, hrun, hended, hW, hsame⟩ := X2.leave (v := some (.int (0 : Int32))) (fun h => by rw [Bd.returns] at h; cases h)
  refine ⟨_, _, pre0 _ ?_, hrun, hended, _, _, rfl, ?_, ⟨_, rfl⟩, hW, hsame.mono (by decide) (by decide)⟩
  · show Steps p.tables e below (s₁.setTop (mkF m 0 #[.val (.ref w_ANNOUNCE), .unset] [])) _
    refine XS.iconst X0.here hx rfl (hb hby d3_0) ?_
    show Steps p.tables e below (s₁.setTop (mkF m 1 #[.val (.ref w_ANNOUNCE), .unset] [(.int (0 : Int32))])) _
    refine XS.istoreN X0.here hx rfl (hb hby d3_1) rfl (l' := #[.val (.ref w_ANNOUNCE), .val (.int (0 : Int32))]) rfl ?_
    show Steps p.tables e below (s₁.setTop (mkF m 2 #[.val (.ref w_ANNOUNCE), .val (.int (0 : Int32))] [])) _
    refine XS.aloadN X0.here hx rfl (hb hby d3_2) rfl rfl ?_
    show Steps p.tables e below (s₁.setTop (mkF m 3 #[.val (.ref w_ANNOUNCE), .val (.int (0 : Int32))] [(.ref w_ANNOUNCE)])) _
    refine st1 _ ?_
    show Steps p.tables e below (T1.setTop (mkF m 6 #[.val (.ref w_ANNOUNCE), .val (.int (0 : Int32))] [(.ref w_OFFER), (.ref w_ANNOUNCE)])) _
    refine Jvm.RoadKit.acmp (g := (mkF m 6 #[.val (.ref w_ANNOUNCE), .val (.int (0 : Int32))] [(.ref w_OFFER), (.ref w_ANNOUNCE)])) X1 hx rfl rfl rfl (pc0 := 6) (pc' := 15) (same := false) rfl (hb hby d3_6) rfl (decide_eq_false fun q => (Fld.ne F_w_ANNOUNCE_ordinal F_w_OFFER_ordinal (by decide)) (Value.ref.inj q)) (by decide) (by decide) ?_
    show Steps p.tables e below (T1.setTop (mkF m 15 #[.val (.ref w_ANNOUNCE), .val (.int (0 : Int32))] [])) _
    refine XS.aloadN X1.here hx rfl (hb hby d3_15) rfl rfl ?_
    show Steps p.tables e below (T1.setTop (mkF m 16 #[.val (.ref w_ANNOUNCE), .val (.int (0 : Int32))] [(.ref w_ANNOUNCE)])) _
    refine st2 _ ?_
    show Steps p.tables e below (T2.setTop (mkF m 19 #[.val (.ref w_ANNOUNCE), .val (.int (0 : Int32))] [(.ref w_SHARE), (.ref w_ANNOUNCE)])) _
    refine Jvm.RoadKit.acmp (g := (mkF m 19 #[.val (.ref w_ANNOUNCE), .val (.int (0 : Int32))] [(.ref w_SHARE), (.ref w_ANNOUNCE)])) X2 hx rfl rfl rfl (pc0 := 19) (pc' := 25) (same := false) rfl (hb hby d3_19) rfl (decide_eq_false fun q => (Fld.ne F_w_ANNOUNCE_ordinal F_w_SHARE_ordinal (by decide)) (Value.ref.inj q)) (by decide) (by decide) ?_
    show Steps p.tables e below (T2.setTop (mkF m 25 #[.val (.ref w_ANNOUNCE), .val (.int (0 : Int32))] [])) _
    refine XS.iloadN X2.here hx rfl (hb hby d3_25) rfl ?_
    show Steps p.tables e below (T2.setTop (mkF m 26 #[.val (.ref w_ANNOUNCE), .val (.int (0 : Int32))] [(.int (0 : Int32))])) _
    exact retI X2 hx Bd.returns (hb hby d3_26) hr
  · exact ⟨rfl, N0, e2⟩
set_option maxRecDepth 65536 in
set_option maxHeartbeats 40000000 in
theorem rm0_c1 (l : Launch) (Z : State) (a0 : Array Value) (hw : ∀ d ∈ tables_1, d.before a0 Z = true) (ws : List Jvm.Cond) (w_MESSAGE : Addr) (w_OFFER : Addr) (w_SHARE : Addr) (w_DECLINE : Addr) (w_ANNOUNCE : Addr) (w_DATA : Addr) (w_GRANT : Addr) (w_TAKEN : Addr) (w_REFUSE : Addr) (w_LEAVE : Addr) (w_CODES : Addr) (cl_CODES : Cell) (p0 : Int32) (h0 : Heap) (n0 : Nat) (Z0 : n0 ≤ h0.size) (P : Pins Z h0 w_MESSAGE w_OFFER w_SHARE w_DECLINE w_ANNOUNCE w_DATA w_GRANT w_TAKEN w_REFUSE w_LEAVE w_CODES cl_CODES) (k0 : ((p0 &&& (2147483647 : Int32)) % (10 : Int32)) = (1 : Int32)) :
    MetFree l x (head1 (Jvm.Cond.code x code maxLocals ret :: ws) room_1) (fun a U => a = #[(.int p0)] ∧ Z.Warmed39 U.vm ∧ U.heap = h0) (fun _ _ _ _ _ => True) (fun _ U o U' => ∃ v L, o = .returned v ∧ QP h0 n0 (some (.int (1 : Int32))) v U'.heap L ∧ FrameEnd U o U' L room_1.cells room_1.slots) := by
  refine MetFree.of_bodySF (plainFor_of_name pn_swiftwire_KindTailBytesPinLaw) hisR ?_
  intro p e s m args below meth c s₁ Bd hml0 hP hK
  obtain ⟨rfl, hZ, hh⟩ := hP
  have hx := Bd.exec
  have hby := Bd.bytes
  have hml : c.maxLocals = 4 := hml0
  have hown : s.vm.findClass "swiftwire/KindTailBytesPinLaw" = some m.cls := findClass_of_methodNamed Bd.named
  have X0 : Stand p l e room_1 s m #[(.int p0)] below meth c s₁ [] 0 0 := Stand.of_body Bd
  have e0 : s₁.heap = h0 := by rw [← hh, Bd.state]; rfl
  have N0 := Fr.nil n0
  have pre0 : ∀ t, Steps p.tables e below (s₁.setTop (mkF m 0 #[.val (.int p0), .unset, .unset, .unset] [])) t → Steps p.tables e below (s₁.setTop (entryFrame m #[(.int p0)] maxLocals)) t := fun t k => castTop (ef_0_I m p0) k
  have E_w_ANNOUNCE : Exa Z h0 w_ANNOUNCE "swiftwire/FrameHeader$Kind" := P.2.2.2.2.2.2.2.2.2.1
  obtain ⟨_, _, ⟨T1, L1, k1, n1⟩, -, X1, ⟨Lc1, hQ1, l1, y1, z1⟩, st1⟩ := Jvm.LawKit.callS X0 hx (y := (⟨"swiftwire/FrameHeader", "kind", "(II)Lswiftwire/FrameHeader$Kind;"⟩ : MethodName)) hown (mvT hZ (hw _ (List.mem_of_getElem? (i := 1) rfl))) (mvT hZ (hw _ (List.mem_of_getElem? (i := 2) rfl))) (mvT hZ (hw _ (List.mem_of_getElem? (i := 3) rfl))) (mvT hZ (hw _ (List.mem_of_getElem? (i := 4) rfl))) (by decide) (backOf (W := 0) (rm1_1 l Z a0 hw [] w_MESSAGE w_OFFER w_SHARE w_DECLINE w_ANNOUNCE w_DATA w_GRANT w_TAKEN w_REFUSE w_LEAVE w_CODES cl_CODES h0 n0 Z0 P) hZ (hw _ (List.mem_of_getElem? (i := 4) rfl)) (hw _ (List.mem_of_getElem? (i := 3) rfl)) (by decide) (by decide)) (g := (mkF m 10 #[.val (.int p0), .val (.int (1 : Int32)), .unset, .unset] [(.int (0 : Int32)), (.int (1 : Int32))])) rfl (by rw [hml]; rfl) (argsL := [(.int (1 : Int32)), (.int (0 : Int32))]) (rest := []) (lenOf pd_0 rfl) rfl (by show 2 * 0 + _ ≤ _; exact Nat.le_of_eq rfl) (hb hby at_10) (fun _ _ => ⟨rfl, e0, (by decide : 0 + 0 ≤ _), (by decide : 0 + 0 ≤ _)⟩)
  dsimp only [Pt.U, Pt.locs, Pt.cells, Pt.slots] at X1 l1 y1 z1 st1 hQ1
  subst l1 y1 z1
  obtain ⟨rfl, N1q, e1⟩ := hQ1
  have N1 := Fr.app N0 N1q
  obtain ⟨cq2, kq2, q2a, q2b, q2c⟩ := isOf hZ e1 E_w_ANNOUNCE
  obtain ⟨_, _, ⟨T2, L2, k2, n2⟩, -, X2, ⟨Lc2, hQ2, l2, y2, z2⟩, st2⟩ := X1.virtualBackUp hx (owner := "java/lang/Enum") (x := (⟨"swiftwire/FrameHeader$Kind", "ordinal", "()I"⟩ : MethodName)) (y := (⟨"java/lang/Enum", "ordinal", "()I"⟩ : MethodName)) hown (mvT hZ (hw _ (List.mem_of_getElem? (i := 9) rfl))) (mvT hZ (hw _ (List.mem_of_getElem? (i := 10) rfl))) (mvT hZ (hw _ (List.mem_of_getElem? (i := 11) rfl))) (by decide) (mvT hZ (hw _ (List.mem_of_getElem? (i := 13) rfl))) (mvT hZ (hw _ (List.mem_of_getElem? (i := 12) rfl))) (backOf (W := 0) (rm2_1 l Z a0 hw [] w_MESSAGE w_OFFER w_SHARE w_DECLINE w_ANNOUNCE w_DATA w_GRANT w_TAKEN w_REFUSE w_LEAVE w_CODES cl_CODES h0 n0 Z0 P) hZ (hw _ (List.mem_of_getElem? (i := 15) rfl)) (hw _ (List.mem_of_getElem? (i := 14) rfl)) (by decide) (by decide)) q2a q2c (g := (mkF m 38 #[.val (.int p0), .val (.int (1 : Int32)), .val (.ref w_ANNOUNCE), .val (.int (0 : Int32))] [(.ref w_ANNOUNCE)])) rfl (by rw [hml]; rfl) (Steps.refl _) (argsL := []) (rest := []) (lenOf pd_1 rfl) rfl (by show 2 * 0 + _ ≤ _; exact Nat.le_of_eq rfl) (hb hby at_38) (fun _ _ => ⟨rfl, e1, (by decide : 0 + 0 ≤ _), (by decide : 0 + 0 ≤ _)⟩)
  dsimp only [Pt.U, Pt.locs, Pt.cells, Pt.slots] at X2 l2 y2 z2 st2 hQ2
  subst l2 y2 z2
  obtain ⟨rfl, N2q, e2⟩ := hQ2
  have N2 := Fr.app N1 N2q
  obtain ⟨cq3, kq3, q3a, q3b, q3c⟩ := isOf hZ e2 E_w_ANNOUNCE
  obtain ⟨_, _, ⟨T3, L3, k3, n3⟩, -, X3, ⟨Lc3, hQ3, l3, y3, z3⟩, st3⟩ := X2.virtualBack hx (y := (⟨"swiftwire/FrameHeader$Kind", "tailBytes", "()I"⟩ : MethodName)) (z := (⟨"swiftwire/FrameHeader$Kind", "tailBytes", "()I"⟩ : MethodName)) hown (mvT hZ (hw _ (List.mem_of_getElem? (i := 18) rfl))) (mvT hZ (hw _ (List.mem_of_getElem? (i := 19) rfl))) (notFace_of_selects (args := #[]) (mvT hZ (hw _ (List.mem_of_getElem? (i := 21) rfl)))) (mvT hZ (hw _ (List.mem_of_getElem? (i := 21) rfl))) (mvT hZ (hw _ (List.mem_of_getElem? (i := 20) rfl))) (by decide) (backOf (W := 0) (rm3_1 l Z a0 hw [] w_MESSAGE w_OFFER w_SHARE w_DECLINE w_ANNOUNCE w_DATA w_GRANT w_TAKEN w_REFUSE w_LEAVE w_CODES cl_CODES h0 n0 Z0 P) hZ (hw _ (List.mem_of_getElem? (i := 22) rfl)) (hw _ (List.mem_of_getElem? (i := 6) rfl)) (by decide) (by decide)) q3a q3c (g := (mkF m 46 #[.val (.int p0), .val (.int (1 : Int32)), .val (.ref w_ANNOUNCE), .val (.int (0 : Int32))] [(.ref w_ANNOUNCE)])) rfl (by rw [hml]; rfl) (Steps.refl _) (argsL := []) (rest := []) (lenOf pd_1 rfl) rfl (by show 2 * 0 + _ ≤ _; exact Nat.le_of_eq rfl) (hb hby at_46) (fun _ _ => ⟨rfl, e2, (by decide : 0 + 0 ≤ _), (by decide : 0 + 0 ≤ _)⟩)
  dsimp only [Pt.U, Pt.locs, Pt.cells, Pt.slots] at X3 l3 y3 z3 st3 hQ3
  subst l3 y3 z3
  obtain ⟨rfl, N3q, e3⟩ := hQ3
  have N3 := Fr.app N2 N3q
  obtain ⟨fs, hr, hrun, hended, hW, hsame⟩ := X3.leave (v := some (.int (1 : Int32))) (fun h => by rw [Bd.returns] at h; cases h)
  refine ⟨_, _, pre0 _ ?_, hrun, hended, _, _, rfl, ?_, ⟨_, rfl⟩, hW, hsame.mono (by decide) (by decide)⟩
  · show Steps p.tables e below (s₁.setTop (mkF m 0 #[.val (.int p0), .unset, .unset, .unset] [])) _
    refine XS.iloadN X0.here hx rfl (hb hby at_0) rfl ?_
    show Steps p.tables e below (s₁.setTop (mkF m 1 #[.val (.int p0), .unset, .unset, .unset] [(.int p0)])) _
    refine Jvm.Stand.ldcI X0 hx hown (mvT hZ (hw _ (List.mem_of_getElem? (i := 0) rfl))) rfl (hb hby at_1) ?_
    show Steps p.tables e below (s₁.setTop (mkF m 3 #[.val (.int p0), .unset, .unset, .unset] [(.int (2147483647 : Int32)), (.int p0)])) _
    refine XS.iand X0.here hx rfl (hb hby at_3) rfl ?_
    show Steps p.tables e below (s₁.setTop (mkF m 4 #[.val (.int p0), .unset, .unset, .unset] [(.int (p0 &&& (2147483647 : Int32)))])) _
    refine XS.bipush X0.here hx rfl (hb hby at_4) ?_
    show Steps p.tables e below (s₁.setTop (mkF m 6 #[.val (.int p0), .unset, .unset, .unset] [(.int (10 : Int32)), (.int (p0 &&& (2147483647 : Int32)))])) _
    refine iremM X0 hx rfl (hb hby at_6) rfl (by decide) ?_
    show Steps p.tables e below (s₁.setTop (mkF m 7 #[.val (.int p0), .unset, .unset, .unset] [(.int ((p0 &&& (2147483647 : Int32)) % (10 : Int32)))])) _
    rw [k0]
    show Steps p.tables e below (s₁.setTop (mkF m 7 #[.val (.int p0), .unset, .unset, .unset] [(.int (1 : Int32))])) _
    refine XS.istoreN X0.here hx rfl (hb hby at_7) rfl (l' := #[.val (.int p0), .val (.int (1 : Int32)), .unset, .unset]) rfl ?_
    show Steps p.tables e below (s₁.setTop (mkF m 8 #[.val (.int p0), .val (.int (1 : Int32)), .unset, .unset] [])) _
    refine XS.iloadN X0.here hx rfl (hb hby at_8) rfl ?_
    show Steps p.tables e below (s₁.setTop (mkF m 9 #[.val (.int p0), .val (.int (1 : Int32)), .unset, .unset] [(.int (1 : Int32))])) _
    refine XS.iconst X0.here hx rfl (hb hby at_9) ?_
    show Steps p.tables e below (s₁.setTop (mkF m 10 #[.val (.int p0), .val (.int (1 : Int32)), .unset, .unset] [(.int (0 : Int32)), (.int (1 : Int32))])) _
    refine st1 _ ?_
    show Steps p.tables e below (T1.setTop (mkF m 13 #[.val (.int p0), .val (.int (1 : Int32)), .unset, .unset] [(.ref w_ANNOUNCE)])) _
    refine XS.astoreN X1.here hx rfl (hb hby at_13) rfl rfl (l' := #[.val (.int p0), .val (.int (1 : Int32)), .val (.ref w_ANNOUNCE), .unset]) rfl ?_
    show Steps p.tables e below (T1.setTop (mkF m 14 #[.val (.int p0), .val (.int (1 : Int32)), .val (.ref w_ANNOUNCE), .unset] [])) _
    refine XS.iconst X1.here hx rfl (hb hby at_14) ?_
    show Steps p.tables e below (T1.setTop (mkF m 15 #[.val (.int p0), .val (.int (1 : Int32)), .val (.ref w_ANNOUNCE), .unset] [(.int (0 : Int32))])) _
    refine XS.istoreN X1.here hx rfl (hb hby at_15) rfl (l' := #[.val (.int p0), .val (.int (1 : Int32)), .val (.ref w_ANNOUNCE), .val (.int (0 : Int32))]) rfl ?_
    show Steps p.tables e below (T1.setTop (mkF m 16 #[.val (.int p0), .val (.int (1 : Int32)), .val (.ref w_ANNOUNCE), .val (.int (0 : Int32))] [])) _
    refine XS.iloadN X1.here hx rfl (hb hby at_16) rfl ?_
    show Steps p.tables e below (T1.setTop (mkF m 17 #[.val (.int p0), .val (.int (1 : Int32)), .val (.ref w_ANNOUNCE), .val (.int (0 : Int32))] [(.int (1 : Int32))])) _
    refine XS.bipush X1.here hx rfl (hb hby at_17) ?_
    show Steps p.tables e below (T1.setTop (mkF m 19 #[.val (.int p0), .val (.int (1 : Int32)), .val (.ref w_ANNOUNCE), .val (.int (0 : Int32))] [(.int (7 : Int32)), (.int (1 : Int32))])) _
    refine XS.icmpYes X1.here hx rfl (pc0 := 19) (pc' := 28) rfl (hb hby at_19) rfl (by decide) (by decide) (by decide) ?_
    show Steps p.tables e below (T1.setTop (mkF m 28 #[.val (.int p0), .val (.int (1 : Int32)), .val (.ref w_ANNOUNCE), .val (.int (0 : Int32))] [])) _
    refine XS.iloadN X1.here hx rfl (hb hby at_28) rfl ?_
    show Steps p.tables e below (T1.setTop (mkF m 29 #[.val (.int p0), .val (.int (1 : Int32)), .val (.ref w_ANNOUNCE), .val (.int (0 : Int32))] [(.int (1 : Int32))])) _
    refine XS.bipush X1.here hx rfl (hb hby at_29) ?_
    show Steps p.tables e below (T1.setTop (mkF m 31 #[.val (.int p0), .val (.int (1 : Int32)), .val (.ref w_ANNOUNCE), .val (.int (0 : Int32))] [(.int (9 : Int32)), (.int (1 : Int32))])) _
    refine XS.icmpYes X1.here hx rfl (pc0 := 31) (pc' := 37) rfl (hb hby at_31) rfl (by decide) (by decide) (by decide) ?_
    show Steps p.tables e below (T1.setTop (mkF m 37 #[.val (.int p0), .val (.int (1 : Int32)), .val (.ref w_ANNOUNCE), .val (.int (0 : Int32))] [])) _
    refine XS.aloadN X1.here hx rfl (hb hby at_37) rfl rfl ?_
    show Steps p.tables e below (T1.setTop (mkF m 38 #[.val (.int p0), .val (.int (1 : Int32)), .val (.ref w_ANNOUNCE), .val (.int (0 : Int32))] [(.ref w_ANNOUNCE)])) _
    refine st2.trans ?_
    show Steps p.tables e below (T2.setTop (mkF m 41 #[.val (.int p0), .val (.int (1 : Int32)), .val (.ref w_ANNOUNCE), .val (.int (0 : Int32))] [(.int (1 : Int32))])) _
    refine XS.iloadN X2.here hx rfl (hb hby at_41) rfl ?_
    show Steps p.tables e below (T2.setTop (mkF m 42 #[.val (.int p0), .val (.int (1 : Int32)), .val (.ref w_ANNOUNCE), .val (.int (0 : Int32))] [(.int (1 : Int32)), (.int (1 : Int32))])) _
    refine XS.icmpNo X2.here hx rfl (hb hby at_42) rfl (by decide) ?_
    show Steps p.tables e below (T2.setTop (mkF m 45 #[.val (.int p0), .val (.int (1 : Int32)), .val (.ref w_ANNOUNCE), .val (.int (0 : Int32))] [])) _
    refine XS.aloadN X2.here hx rfl (hb hby at_45) rfl rfl ?_
    show Steps p.tables e below (T2.setTop (mkF m 46 #[.val (.int p0), .val (.int (1 : Int32)), .val (.ref w_ANNOUNCE), .val (.int (0 : Int32))] [(.ref w_ANNOUNCE)])) _
    refine st3.trans ?_
    show Steps p.tables e below (T3.setTop (mkF m 49 #[.val (.int p0), .val (.int (1 : Int32)), .val (.ref w_ANNOUNCE), .val (.int (0 : Int32))] [(.int (0 : Int32))])) _
    refine XS.iloadN X3.here hx rfl (hb hby at_49) rfl ?_
    show Steps p.tables e below (T3.setTop (mkF m 50 #[.val (.int p0), .val (.int (1 : Int32)), .val (.ref w_ANNOUNCE), .val (.int (0 : Int32))] [(.int (0 : Int32)), (.int (0 : Int32))])) _
    refine XS.icmpNo X3.here hx rfl (hb hby at_50) rfl (by decide) ?_
    show Steps p.tables e below (T3.setTop (mkF m 53 #[.val (.int p0), .val (.int (1 : Int32)), .val (.ref w_ANNOUNCE), .val (.int (0 : Int32))] [])) _
    refine XS.iconst X3.here hx rfl (hb hby at_53) ?_
    show Steps p.tables e below (T3.setTop (mkF m 54 #[.val (.int p0), .val (.int (1 : Int32)), .val (.ref w_ANNOUNCE), .val (.int (0 : Int32))] [(.int (1 : Int32))])) _
    refine XS.goto X3.here hx rfl (pc0 := 54) (pc' := 58) rfl (hb hby at_54) (by decide) (by decide) ?_
    show Steps p.tables e below (T3.setTop (mkF m 58 #[.val (.int p0), .val (.int (1 : Int32)), .val (.ref w_ANNOUNCE), .val (.int (0 : Int32))] [(.int (1 : Int32))])) _
    exact retN X3 hx (t := .boolean) Bd.returns (by simp) (hb hby at_58) hr
  · exact ⟨rfl, N3, e3⟩
set_option maxRecDepth 65536 in
set_option maxHeartbeats 40000000 in
theorem rm1_2 (l : Launch) (Z : State) (a0 : Array Value) (hw : ∀ d ∈ tables_1, d.before a0 Z = true) (ws : List Jvm.Cond) (w_MESSAGE : Addr) (w_OFFER : Addr) (w_SHARE : Addr) (w_DECLINE : Addr) (w_ANNOUNCE : Addr) (w_DATA : Addr) (w_GRANT : Addr) (w_TAKEN : Addr) (w_REFUSE : Addr) (w_LEAVE : Addr) (w_CODES : Addr) (cl_CODES : Cell) (h0 : Heap) (n0 : Nat) (Z0 : n0 ≤ h0.size) (P : Pins Z h0 w_MESSAGE w_OFFER w_SHARE w_DECLINE w_ANNOUNCE w_DATA w_GRANT w_TAKEN w_REFUSE w_LEAVE w_CODES cl_CODES) :
    MetFree l (⟨"swiftwire/FrameHeader", "kind", "(II)Lswiftwire/FrameHeader$Kind;"⟩ : MethodName) (head1 (Jvm.Cond.code (⟨"swiftwire/FrameHeader", "kind", "(II)Lswiftwire/FrameHeader$Kind;"⟩ : MethodName) prog_50_method_7_code 2 (some (.object "swiftwire/FrameHeader$Kind")) :: ws) ({ frames := 0, cells := 0, slots := 0, locals := 0 } : Room)) (fun a U => a = #[(.int (2 : Int32)), (.int (0 : Int32))] ∧ Z.Warmed39 U.vm ∧ U.heap = h0) (fun _ _ _ _ _ => True) (fun _ U o U' => ∃ v L, o = .returned v ∧ QP h0 n0 (some (.ref w_GRANT)) v U'.heap L ∧ FrameEnd U o U' L ({ frames := 0, cells := 0, slots := 0, locals := 0 } : Room).cells ({ frames := 0, cells := 0, slots := 0, locals := 0 } : Room).slots) := by
  refine MetFree.of_bodySF (plainFor_of_name pn_swiftwire_FrameHeader) hisR ?_
  intro p e s m args below meth c s₁ Bd hml0 hP hK
  obtain ⟨rfl, hZ, hh⟩ := hP
  have hx := Bd.exec
  have hby := Bd.bytes
  have hml : c.maxLocals = 2 := hml0
  have hown : s.vm.findClass "swiftwire/FrameHeader" = some m.cls := findClass_of_methodNamed Bd.named
  have X0 : Stand p l e ({ frames := 0, cells := 0, slots := 0, locals := 0 } : Room) s m #[(.int (2 : Int32)), (.int (0 : Int32))] below meth c s₁ [] 0 0 := Stand.of_body Bd
  have e0 : s₁.heap = h0 := by rw [← hh, Bd.state]; rfl
  have N0 := Fr.nil n0
  have pre0 : ∀ t, Steps p.tables e below (s₁.setTop (mkF m 0 #[.val (.int (2 : Int32)), .val (.int (0 : Int32))] [])) t → Steps p.tables e below (s₁.setTop (entryFrame m #[(.int (2 : Int32)), (.int (0 : Int32))] 2)) t := fun t k => castTop (ef_1_II m (2 : Int32) (0 : Int32)) k
  have S_w_CODES : Sta Z h0 "swiftwire/FrameHeader$Kind" "CODES" "[Lswiftwire/FrameHeader$Kind;" (.ref w_CODES) := P.2.2.2.2.2.2.2.2.2.2.2.2.2.2.2.2.2.2.2.2.2.2.2.2.2.2.2.2.2.2.1
  have A_w_CODES : Arr Z h0 w_CODES cl_CODES (.object "swiftwire/FrameHeader$Kind") := P.2.2.2.2.2.2.2.2.2.2.2.2.2.2.2.2.2.2.2.2.2.2.2.2.2.2.2.2.2.2.2.1
  have Z_w_CODES : cl_CODES.slots.size = 10 := P.2.2.2.2.2.2.2.2.2.2.2.2.2.2.2.2.2.2.2.2.2.2.2.2.2.2.2.2.2.2.2.2.1
  have G_2 : cl_CODES.slots[(2 : Int32).toNatClampNeg]? = some (.ref w_GRANT) := P.2.2.2.2.2.2.2.2.2.2.2.2.2.2.2.2.2.2.2.2.2.2.2.2.2.2.2.2.2.2.2.2.2.2.2.2.2.2.1
  obtain ⟨T1, X1, e1, st1⟩ := own_getSR X0 hx hZ hown (hw _ (List.mem_of_getElem? (i := 5) rfl)) e0 S_w_CODES (g := (mkF m 5 #[.val (.int (2 : Int32)), .val (.int (0 : Int32))] [(.int (2 : Int32))])) rfl (hb hby d1_5)
  obtain ⟨T2, X2, e2, st2⟩ := own_getSR X1 hx hZ hown (hw _ (List.mem_of_getElem? (i := 5) rfl)) e1 S_w_CODES (g := (mkF m 44 #[.val (.int (2 : Int32)), .val (.int (0 : Int32))] [])) rfl (hb hby d1_44)
  obtain ⟨fs, hr, hrun, hended, hW, hsame⟩ := X2.leave (v := some (.ref w_GRANT)) (fun h => by rw [Bd.returns] at h; cases h)
  refine ⟨_, _, pre0 _ ?_, hrun, hended, _, _, rfl, ?_, ⟨_, rfl⟩, hW, hsame.mono (by decide) (by decide)⟩
  · show Steps p.tables e below (s₁.setTop (mkF m 0 #[.val (.int (2 : Int32)), .val (.int (0 : Int32))] [])) _
    refine XS.iloadN X0.here hx rfl (hb hby d1_0) rfl ?_
    show Steps p.tables e below (s₁.setTop (mkF m 1 #[.val (.int (2 : Int32)), .val (.int (0 : Int32))] [(.int (2 : Int32))])) _
    refine XS.ifNo X0.here hx rfl (hb hby d1_1) rfl (by decide) ?_
    show Steps p.tables e below (s₁.setTop (mkF m 4 #[.val (.int (2 : Int32)), .val (.int (0 : Int32))] [])) _
    refine XS.iloadN X0.here hx rfl (hb hby d1_4) rfl ?_
    show Steps p.tables e below (s₁.setTop (mkF m 5 #[.val (.int (2 : Int32)), .val (.int (0 : Int32))] [(.int (2 : Int32))])) _
    refine st1 _ ?_
    show Steps p.tables e below (T1.setTop (mkF m 8 #[.val (.int (2 : Int32)), .val (.int (0 : Int32))] [(.ref w_CODES), (.int (2 : Int32))])) _
    refine X1.arraylength hx (by rw [e1]; exact A_w_CODES.1) (State.isArrayOf_alike hZ.alike A_w_CODES.2.1) (g := (mkF m 8 #[.val (.int (2 : Int32)), .val (.int (0 : Int32))] [(.ref w_CODES), (.int (2 : Int32))])) rfl rfl (hb hby d1_8) _ ?_
    rw [show cl_CODES.slots.size.toInt32 = (10 : Int32) from by rw [Z_w_CODES]; decide]
    show Steps p.tables e below (T1.setTop (mkF m 9 #[.val (.int (2 : Int32)), .val (.int (0 : Int32))] [(.int (10 : Int32)), (.int (2 : Int32))])) _
    refine XS.icmpYes X1.here hx rfl (pc0 := 9) (pc' := 26) rfl (hb hby d1_9) rfl (by decide) (by decide) (by decide) ?_
    show Steps p.tables e below (T1.setTop (mkF m 26 #[.val (.int (2 : Int32)), .val (.int (0 : Int32))] [])) _
    refine XS.iloadN X1.here hx rfl (hb hby d1_26) rfl ?_
    show Steps p.tables e below (T1.setTop (mkF m 27 #[.val (.int (2 : Int32)), .val (.int (0 : Int32))] [(.int (0 : Int32))])) _
    refine XS.ifYes X1.here hx rfl (pc0 := 27) (pc' := 44) rfl (hb hby d1_27) rfl (by decide) (by decide) (by decide) ?_
    show Steps p.tables e below (T1.setTop (mkF m 44 #[.val (.int (2 : Int32)), .val (.int (0 : Int32))] [])) _
    refine st2 _ ?_
    show Steps p.tables e below (T2.setTop (mkF m 47 #[.val (.int (2 : Int32)), .val (.int (0 : Int32))] [(.ref w_CODES)])) _
    refine XS.iloadN X2.here hx rfl (hb hby d1_47) rfl ?_
    show Steps p.tables e below (T2.setTop (mkF m 48 #[.val (.int (2 : Int32)), .val (.int (0 : Int32))] [(.int (2 : Int32)), (.ref w_CODES)])) _
    refine X2.aaload hx (j := (2 : Int32)) (v := (.ref w_GRANT)) (by rw [e2]; exact A_w_CODES.1) (State.isArrayOf_alike hZ.alike A_w_CODES.2.1) rfl A_w_CODES.2.2 (by rw [Z_w_CODES]; decide) G_2 (g := (mkF m 48 #[.val (.int (2 : Int32)), .val (.int (0 : Int32))] [(.int (2 : Int32)), (.ref w_CODES)])) rfl rfl (hb hby d1_48) _ ?_
    show Steps p.tables e below (T2.setTop (mkF m 49 #[.val (.int (2 : Int32)), .val (.int (0 : Int32))] [(.ref w_GRANT)])) _
    exact retOut X2 hx Bd.returns rfl (Or.inr (Or.inr (Or.inr (Or.inr ⟨rfl, rfl, rfl⟩)))) (hb hby d1_49) hr
  · exact ⟨rfl, N0, e2⟩
set_option maxRecDepth 65536 in
set_option maxHeartbeats 40000000 in
theorem rm2_2 (l : Launch) (Z : State) (a0 : Array Value) (hw : ∀ d ∈ tables_1, d.before a0 Z = true) (ws : List Jvm.Cond) (w_MESSAGE : Addr) (w_OFFER : Addr) (w_SHARE : Addr) (w_DECLINE : Addr) (w_ANNOUNCE : Addr) (w_DATA : Addr) (w_GRANT : Addr) (w_TAKEN : Addr) (w_REFUSE : Addr) (w_LEAVE : Addr) (w_CODES : Addr) (cl_CODES : Cell) (h0 : Heap) (n0 : Nat) (Z0 : n0 ≤ h0.size) (P : Pins Z h0 w_MESSAGE w_OFFER w_SHARE w_DECLINE w_ANNOUNCE w_DATA w_GRANT w_TAKEN w_REFUSE w_LEAVE w_CODES cl_CODES) :
    MetFree l (⟨"java/lang/Enum", "ordinal", "()I"⟩ : MethodName) (head1 (Jvm.Cond.code (⟨"java/lang/Enum", "ordinal", "()I"⟩ : MethodName) jdk_37_method_2_code 1 (some .int) :: ws) ({ frames := 0, cells := 0, slots := 0, locals := 0 } : Room)) (fun a U => a = #[(.ref w_GRANT)] ∧ Z.Warmed39 U.vm ∧ U.heap = h0) (fun _ _ _ _ _ => True) (fun _ U o U' => ∃ v L, o = .returned v ∧ QP h0 n0 (some (.int (2 : Int32))) v U'.heap L ∧ FrameEnd U o U' L ({ frames := 0, cells := 0, slots := 0, locals := 0 } : Room).cells ({ frames := 0, cells := 0, slots := 0, locals := 0 } : Room).slots) := by
  refine MetFree.of_bodySF (plainFor_of_name pn_java_lang_Enum) hisR ?_
  intro p e s m args below meth c s₁ Bd hml0 hP hK
  obtain ⟨rfl, hZ, hh⟩ := hP
  have hx := Bd.exec
  have hby := Bd.bytes
  have hml : c.maxLocals = 1 := hml0
  have hown : s.vm.findClass "java/lang/Enum" = some m.cls := findClass_of_methodNamed Bd.named
  have X0 : Stand p l e ({ frames := 0, cells := 0, slots := 0, locals := 0 } : Room) s m #[(.ref w_GRANT)] below meth c s₁ [] 0 0 := Stand.of_body Bd
  have e0 : s₁.heap = h0 := by rw [← hh, Bd.state]; rfl
  have N0 := Fr.nil n0
  have pre0 : ∀ t, Steps p.tables e below (s₁.setTop (mkF m 0 #[.val (.ref w_GRANT)] [])) t → Steps p.tables e below (s₁.setTop (entryFrame m #[(.ref w_GRANT)] 1)) t := fun t k => castTop (ef_2_R m w_GRANT) k
  have F_w_GRANT_ordinal : Fld Z h0 w_GRANT "java/lang/Enum" "ordinal" "I" (.int (2 : Int32)) := P.2.2.2.2.2.2.2.2.2.2.2.2.2.2.2.2.2.2.2.2.2.2.2.2.2.2.1
  obtain ⟨T1, X1, e1, st1⟩ := getF X0 hx hZ hown (host := "") (Or.inl (hw _ (List.mem_of_getElem? (i := 16) rfl))) Via.refl e0 F_w_GRANT_ordinal (g := (mkF m 1 #[.val (.ref w_GRANT)] [(.ref w_GRANT)])) rfl rfl (hb hby d2_1)
  obtain ⟨fs, hr, hrun, hended, hW, hsame⟩ := X1.leave (v := some (.int (2 : Int32))) (fun h => by rw [Bd.returns] at h; cases h)
  refine ⟨_, _, pre0 _ ?_, hrun, hended, _, _, rfl, ?_, ⟨_, rfl⟩, hW, hsame.mono (by decide) (by decide)⟩
  · show Steps p.tables e below (s₁.setTop (mkF m 0 #[.val (.ref w_GRANT)] [])) _
    refine XS.aloadN X0.here hx rfl (hb hby d2_0) rfl rfl ?_
    show Steps p.tables e below (s₁.setTop (mkF m 1 #[.val (.ref w_GRANT)] [(.ref w_GRANT)])) _
    refine st1 _ ?_
    show Steps p.tables e below (T1.setTop (mkF m 4 #[.val (.ref w_GRANT)] [(.int (2 : Int32))])) _
    exact retI X1 hx Bd.returns (hb hby d2_4) hr
  · exact ⟨rfl, N0, e1⟩
set_option maxRecDepth 65536 in
set_option maxHeartbeats 40000000 in
theorem rm3_2 (l : Launch) (Z : State) (a0 : Array Value) (hw : ∀ d ∈ tables_1, d.before a0 Z = true) (ws : List Jvm.Cond) (w_MESSAGE : Addr) (w_OFFER : Addr) (w_SHARE : Addr) (w_DECLINE : Addr) (w_ANNOUNCE : Addr) (w_DATA : Addr) (w_GRANT : Addr) (w_TAKEN : Addr) (w_REFUSE : Addr) (w_LEAVE : Addr) (w_CODES : Addr) (cl_CODES : Cell) (h0 : Heap) (n0 : Nat) (Z0 : n0 ≤ h0.size) (P : Pins Z h0 w_MESSAGE w_OFFER w_SHARE w_DECLINE w_ANNOUNCE w_DATA w_GRANT w_TAKEN w_REFUSE w_LEAVE w_CODES cl_CODES) :
    MetFree l (⟨"swiftwire/FrameHeader$Kind", "tailBytes", "()I"⟩ : MethodName) (head1 (Jvm.Cond.code (⟨"swiftwire/FrameHeader$Kind", "tailBytes", "()I"⟩ : MethodName) prog_51_method_6_code 2 (some .int) :: ws) ({ frames := 0, cells := 0, slots := 0, locals := 0 } : Room)) (fun a U => a = #[(.ref w_GRANT)] ∧ Z.Warmed39 U.vm ∧ U.heap = h0) (fun _ _ _ _ _ => True) (fun _ U o U' => ∃ v L, o = .returned v ∧ QP h0 n0 (some (.int (0 : Int32))) v U'.heap L ∧ FrameEnd U o U' L ({ frames := 0, cells := 0, slots := 0, locals := 0 } : Room).cells ({ frames := 0, cells := 0, slots := 0, locals := 0 } : Room).slots) := by
  refine MetFree.of_bodySF (plainFor_of_name pn_swiftwire_FrameHeader_Kind) hisR ?_
  intro p e s m args below meth c s₁ Bd hml0 hP hK
  obtain ⟨rfl, hZ, hh⟩ := hP
  have hx := Bd.exec
  have hby := Bd.bytes
  have hml : c.maxLocals = 2 := hml0
  have hown : s.vm.findClass "swiftwire/FrameHeader$Kind" = some m.cls := findClass_of_methodNamed Bd.named
  have X0 : Stand p l e ({ frames := 0, cells := 0, slots := 0, locals := 0 } : Room) s m #[(.ref w_GRANT)] below meth c s₁ [] 0 0 := Stand.of_body Bd
  have e0 : s₁.heap = h0 := by rw [← hh, Bd.state]; rfl
  have N0 := Fr.nil n0
  have pre0 : ∀ t, Steps p.tables e below (s₁.setTop (mkF m 0 #[.val (.ref w_GRANT), .unset] [])) t → Steps p.tables e below (s₁.setTop (entryFrame m #[(.ref w_GRANT)] 2)) t := fun t k => castTop (ef_3_R m w_GRANT) k
  have S_w_OFFER : Sta Z h0 "swiftwire/FrameHeader$Kind" "OFFER" "Lswiftwire/FrameHeader$Kind;" (.ref w_OFFER) := P.2.2.1
  have F_w_GRANT_ordinal : Fld Z h0 w_GRANT "java/lang/Enum" "ordinal" "I" (.int (2 : Int32)) := P.2.2.2.2.2.2.2.2.2.2.2.2.2.2.2.2.2.2.2.2.2.2.2.2.2.2.1
  have F_w_OFFER_ordinal : Fld Z h0 w_OFFER "java/lang/Enum" "ordinal" "I" (.int (7 : Int32)) := P.2.2.2.2.2.2.2.2.2.2.2.2.2.2.2.2.2.2.2.2.2.1
  have S_w_SHARE : Sta Z h0 "swiftwire/FrameHeader$Kind" "SHARE" "Lswiftwire/FrameHeader$Kind;" (.ref w_SHARE) := P.2.2.2.2.1
  have F_w_SHARE_ordinal : Fld Z h0 w_SHARE "java/lang/Enum" "ordinal" "I" (.int (9 : Int32)) := P.2.2.2.2.2.2.2.2.2.2.2.2.2.2.2.2.2.2.2.2.2.2.1
  obtain ⟨T1, X1, e1, st1⟩ := getS2 X0 hx hZ hown (host := "") (Or.inl (hw _ (List.mem_of_getElem? (i := 23) rfl))) Via.refl e0 S_w_OFFER (g := (mkF m 3 #[.val (.ref w_GRANT), .val (.int (0 : Int32))] [(.ref w_GRANT)])) rfl (hb hby d3_3)
  obtain ⟨T2, X2, e2, st2⟩ := getS2 X1 hx hZ hown (host := "") (Or.inl (hw _ (List.mem_of_getElem? (i := 25) rfl))) Via.refl e1 S_w_SHARE (g := (mkF m 16 #[.val (.ref w_GRANT), .val (.int (0 : Int32))] [(.ref w_GRANT)])) rfl (hb hby d3_16)
  obtain ⟨fs, hr, hrun, hended, hW, hsame⟩ := X2.leave (v := some (.int (0 : Int32))) (fun h => by rw [Bd.returns] at h; cases h)
  refine ⟨_, _, pre0 _ ?_, hrun, hended, _, _, rfl, ?_, ⟨_, rfl⟩, hW, hsame.mono (by decide) (by decide)⟩
  · show Steps p.tables e below (s₁.setTop (mkF m 0 #[.val (.ref w_GRANT), .unset] [])) _
    refine XS.iconst X0.here hx rfl (hb hby d3_0) ?_
    show Steps p.tables e below (s₁.setTop (mkF m 1 #[.val (.ref w_GRANT), .unset] [(.int (0 : Int32))])) _
    refine XS.istoreN X0.here hx rfl (hb hby d3_1) rfl (l' := #[.val (.ref w_GRANT), .val (.int (0 : Int32))]) rfl ?_
    show Steps p.tables e below (s₁.setTop (mkF m 2 #[.val (.ref w_GRANT), .val (.int (0 : Int32))] [])) _
    refine XS.aloadN X0.here hx rfl (hb hby d3_2) rfl rfl ?_
    show Steps p.tables e below (s₁.setTop (mkF m 3 #[.val (.ref w_GRANT), .val (.int (0 : Int32))] [(.ref w_GRANT)])) _
    refine st1 _ ?_
    show Steps p.tables e below (T1.setTop (mkF m 6 #[.val (.ref w_GRANT), .val (.int (0 : Int32))] [(.ref w_OFFER), (.ref w_GRANT)])) _
    refine Jvm.RoadKit.acmp (g := (mkF m 6 #[.val (.ref w_GRANT), .val (.int (0 : Int32))] [(.ref w_OFFER), (.ref w_GRANT)])) X1 hx rfl rfl rfl (pc0 := 6) (pc' := 15) (same := false) rfl (hb hby d3_6) rfl (decide_eq_false fun q => (Fld.ne F_w_GRANT_ordinal F_w_OFFER_ordinal (by decide)) (Value.ref.inj q)) (by decide) (by decide) ?_
    show Steps p.tables e below (T1.setTop (mkF m 15 #[.val (.ref w_GRANT), .val (.int (0 : Int32))] [])) _
    refine XS.aloadN X1.here hx rfl (hb hby d3_15) rfl rfl ?_
    show Steps p.tables e below (T1.setTop (mkF m 16 #[.val (.ref w_GRANT), .val (.int (0 : Int32))] [(.ref w_GRANT)])) _
    refine st2 _ ?_
    show Steps p.tables e below (T2.setTop (mkF m 19 #[.val (.ref w_GRANT), .val (.int (0 : Int32))] [(.ref w_SHARE), (.ref w_GRANT)])) _
    refine Jvm.RoadKit.acmp (g := (mkF m 19 #[.val (.ref w_GRANT), .val (.int (0 : Int32))] [(.ref w_SHARE), (.ref w_GRANT)])) X2 hx rfl rfl rfl (pc0 := 19) (pc' := 25) (same := false) rfl (hb hby d3_19) rfl (decide_eq_false fun q => (Fld.ne F_w_GRANT_ordinal F_w_SHARE_ordinal (by decide)) (Value.ref.inj q)) (by decide) (by decide) ?_
    show Steps p.tables e below (T2.setTop (mkF m 25 #[.val (.ref w_GRANT), .val (.int (0 : Int32))] [])) _
    refine XS.iloadN X2.here hx rfl (hb hby d3_25) rfl ?_
    show Steps p.tables e below (T2.setTop (mkF m 26 #[.val (.ref w_GRANT), .val (.int (0 : Int32))] [(.int (0 : Int32))])) _
    exact retI X2 hx Bd.returns (hb hby d3_26) hr
  · exact ⟨rfl, N0, e2⟩
set_option maxRecDepth 65536 in
set_option maxHeartbeats 40000000 in
theorem rm0_c2 (l : Launch) (Z : State) (a0 : Array Value) (hw : ∀ d ∈ tables_1, d.before a0 Z = true) (ws : List Jvm.Cond) (w_MESSAGE : Addr) (w_OFFER : Addr) (w_SHARE : Addr) (w_DECLINE : Addr) (w_ANNOUNCE : Addr) (w_DATA : Addr) (w_GRANT : Addr) (w_TAKEN : Addr) (w_REFUSE : Addr) (w_LEAVE : Addr) (w_CODES : Addr) (cl_CODES : Cell) (p0 : Int32) (h0 : Heap) (n0 : Nat) (Z0 : n0 ≤ h0.size) (P : Pins Z h0 w_MESSAGE w_OFFER w_SHARE w_DECLINE w_ANNOUNCE w_DATA w_GRANT w_TAKEN w_REFUSE w_LEAVE w_CODES cl_CODES) (k0 : ((p0 &&& (2147483647 : Int32)) % (10 : Int32)) = (2 : Int32)) :
    MetFree l x (head1 (Jvm.Cond.code x code maxLocals ret :: ws) room_1) (fun a U => a = #[(.int p0)] ∧ Z.Warmed39 U.vm ∧ U.heap = h0) (fun _ _ _ _ _ => True) (fun _ U o U' => ∃ v L, o = .returned v ∧ QP h0 n0 (some (.int (1 : Int32))) v U'.heap L ∧ FrameEnd U o U' L room_1.cells room_1.slots) := by
  refine MetFree.of_bodySF (plainFor_of_name pn_swiftwire_KindTailBytesPinLaw) hisR ?_
  intro p e s m args below meth c s₁ Bd hml0 hP hK
  obtain ⟨rfl, hZ, hh⟩ := hP
  have hx := Bd.exec
  have hby := Bd.bytes
  have hml : c.maxLocals = 4 := hml0
  have hown : s.vm.findClass "swiftwire/KindTailBytesPinLaw" = some m.cls := findClass_of_methodNamed Bd.named
  have X0 : Stand p l e room_1 s m #[(.int p0)] below meth c s₁ [] 0 0 := Stand.of_body Bd
  have e0 : s₁.heap = h0 := by rw [← hh, Bd.state]; rfl
  have N0 := Fr.nil n0
  have pre0 : ∀ t, Steps p.tables e below (s₁.setTop (mkF m 0 #[.val (.int p0), .unset, .unset, .unset] [])) t → Steps p.tables e below (s₁.setTop (entryFrame m #[(.int p0)] maxLocals)) t := fun t k => castTop (ef_0_I m p0) k
  have E_w_GRANT : Exa Z h0 w_GRANT "swiftwire/FrameHeader$Kind" := P.2.2.2.2.2.2.2.2.2.2.2.2.2.1
  obtain ⟨_, _, ⟨T1, L1, k1, n1⟩, -, X1, ⟨Lc1, hQ1, l1, y1, z1⟩, st1⟩ := Jvm.LawKit.callS X0 hx (y := (⟨"swiftwire/FrameHeader", "kind", "(II)Lswiftwire/FrameHeader$Kind;"⟩ : MethodName)) hown (mvT hZ (hw _ (List.mem_of_getElem? (i := 1) rfl))) (mvT hZ (hw _ (List.mem_of_getElem? (i := 2) rfl))) (mvT hZ (hw _ (List.mem_of_getElem? (i := 3) rfl))) (mvT hZ (hw _ (List.mem_of_getElem? (i := 4) rfl))) (by decide) (backOf (W := 0) (rm1_2 l Z a0 hw [] w_MESSAGE w_OFFER w_SHARE w_DECLINE w_ANNOUNCE w_DATA w_GRANT w_TAKEN w_REFUSE w_LEAVE w_CODES cl_CODES h0 n0 Z0 P) hZ (hw _ (List.mem_of_getElem? (i := 4) rfl)) (hw _ (List.mem_of_getElem? (i := 3) rfl)) (by decide) (by decide)) (g := (mkF m 10 #[.val (.int p0), .val (.int (2 : Int32)), .unset, .unset] [(.int (0 : Int32)), (.int (2 : Int32))])) rfl (by rw [hml]; rfl) (argsL := [(.int (2 : Int32)), (.int (0 : Int32))]) (rest := []) (lenOf pd_0 rfl) rfl (by show 2 * 0 + _ ≤ _; exact Nat.le_of_eq rfl) (hb hby at_10) (fun _ _ => ⟨rfl, e0, (by decide : 0 + 0 ≤ _), (by decide : 0 + 0 ≤ _)⟩)
  dsimp only [Pt.U, Pt.locs, Pt.cells, Pt.slots] at X1 l1 y1 z1 st1 hQ1
  subst l1 y1 z1
  obtain ⟨rfl, N1q, e1⟩ := hQ1
  have N1 := Fr.app N0 N1q
  obtain ⟨cq2, kq2, q2a, q2b, q2c⟩ := isOf hZ e1 E_w_GRANT
  obtain ⟨_, _, ⟨T2, L2, k2, n2⟩, -, X2, ⟨Lc2, hQ2, l2, y2, z2⟩, st2⟩ := X1.virtualBackUp hx (owner := "java/lang/Enum") (x := (⟨"swiftwire/FrameHeader$Kind", "ordinal", "()I"⟩ : MethodName)) (y := (⟨"java/lang/Enum", "ordinal", "()I"⟩ : MethodName)) hown (mvT hZ (hw _ (List.mem_of_getElem? (i := 9) rfl))) (mvT hZ (hw _ (List.mem_of_getElem? (i := 10) rfl))) (mvT hZ (hw _ (List.mem_of_getElem? (i := 11) rfl))) (by decide) (mvT hZ (hw _ (List.mem_of_getElem? (i := 13) rfl))) (mvT hZ (hw _ (List.mem_of_getElem? (i := 12) rfl))) (backOf (W := 0) (rm2_2 l Z a0 hw [] w_MESSAGE w_OFFER w_SHARE w_DECLINE w_ANNOUNCE w_DATA w_GRANT w_TAKEN w_REFUSE w_LEAVE w_CODES cl_CODES h0 n0 Z0 P) hZ (hw _ (List.mem_of_getElem? (i := 15) rfl)) (hw _ (List.mem_of_getElem? (i := 14) rfl)) (by decide) (by decide)) q2a q2c (g := (mkF m 38 #[.val (.int p0), .val (.int (2 : Int32)), .val (.ref w_GRANT), .val (.int (0 : Int32))] [(.ref w_GRANT)])) rfl (by rw [hml]; rfl) (Steps.refl _) (argsL := []) (rest := []) (lenOf pd_1 rfl) rfl (by show 2 * 0 + _ ≤ _; exact Nat.le_of_eq rfl) (hb hby at_38) (fun _ _ => ⟨rfl, e1, (by decide : 0 + 0 ≤ _), (by decide : 0 + 0 ≤ _)⟩)
  dsimp only [Pt.U, Pt.locs, Pt.cells, Pt.slots] at X2 l2 y2 z2 st2 hQ2
  subst l2 y2 z2
  obtain ⟨rfl, N2q, e2⟩ := hQ2
  have N2 := Fr.app N1 N2q
  obtain ⟨cq3, kq3, q3a, q3b, q3c⟩ := isOf hZ e2 E_w_GRANT
  obtain ⟨_, _, ⟨T3, L3, k3, n3⟩, -, X3, ⟨Lc3, hQ3, l3, y3, z3⟩, st3⟩ := X2.virtualBack hx (y := (⟨"swiftwire/FrameHeader$Kind", "tailBytes", "()I"⟩ : MethodName)) (z := (⟨"swiftwire/FrameHeader$Kind", "tailBytes", "()I"⟩ : MethodName)) hown (mvT hZ (hw _ (List.mem_of_getElem? (i := 18) rfl))) (mvT hZ (hw _ (List.mem_of_getElem? (i := 19) rfl))) (notFace_of_selects (args := #[]) (mvT hZ (hw _ (List.mem_of_getElem? (i := 21) rfl)))) (mvT hZ (hw _ (List.mem_of_getElem? (i := 21) rfl))) (mvT hZ (hw _ (List.mem_of_getElem? (i := 20) rfl))) (by decide) (backOf (W := 0) (rm3_2 l Z a0 hw [] w_MESSAGE w_OFFER w_SHARE w_DECLINE w_ANNOUNCE w_DATA w_GRANT w_TAKEN w_REFUSE w_LEAVE w_CODES cl_CODES h0 n0 Z0 P) hZ (hw _ (List.mem_of_getElem? (i := 22) rfl)) (hw _ (List.mem_of_getElem? (i := 6) rfl)) (by decide) (by decide)) q3a q3c (g := (mkF m 46 #[.val (.int p0), .val (.int (2 : Int32)), .val (.ref w_GRANT), .val (.int (0 : Int32))] [(.ref w_GRANT)])) rfl (by rw [hml]; rfl) (Steps.refl _) (argsL := []) (rest := []) (lenOf pd_1 rfl) rfl (by show 2 * 0 + _ ≤ _; exact Nat.le_of_eq rfl) (hb hby at_46) (fun _ _ => ⟨rfl, e2, (by decide : 0 + 0 ≤ _), (by decide : 0 + 0 ≤ _)⟩)
  dsimp only [Pt.U, Pt.locs, Pt.cells, Pt.slots] at X3 l3 y3 z3 st3 hQ3
  subst l3 y3 z3
  obtain ⟨rfl, N3q, e3⟩ := hQ3
  have N3 := Fr.app N2 N3q
  obtain ⟨fs, hr, hrun, hended, hW, hsame⟩ := X3.leave (v := some (.int (1 : Int32))) (fun h => by rw [Bd.returns] at h; cases h)
  refine ⟨_, _, pre0 _ ?_, hrun, hended, _, _, rfl, ?_, ⟨_, rfl⟩, hW, hsame.mono (by decide) (by decide)⟩
  · show Steps p.tables e below (s₁.setTop (mkF m 0 #[.val (.int p0), .unset, .unset, .unset] [])) _
    refine XS.iloadN X0.here hx rfl (hb hby at_0) rfl ?_
    show Steps p.tables e below (s₁.setTop (mkF m 1 #[.val (.int p0), .unset, .unset, .unset] [(.int p0)])) _
    refine Jvm.Stand.ldcI X0 hx hown (mvT hZ (hw _ (List.mem_of_getElem? (i := 0) rfl))) rfl (hb hby at_1) ?_
    show Steps p.tables e below (s₁.setTop (mkF m 3 #[.val (.int p0), .unset, .unset, .unset] [(.int (2147483647 : Int32)), (.int p0)])) _
    refine XS.iand X0.here hx rfl (hb hby at_3) rfl ?_
    show Steps p.tables e below (s₁.setTop (mkF m 4 #[.val (.int p0), .unset, .unset, .unset] [(.int (p0 &&& (2147483647 : Int32)))])) _
    refine XS.bipush X0.here hx rfl (hb hby at_4) ?_
    show Steps p.tables e below (s₁.setTop (mkF m 6 #[.val (.int p0), .unset, .unset, .unset] [(.int (10 : Int32)), (.int (p0 &&& (2147483647 : Int32)))])) _
    refine iremM X0 hx rfl (hb hby at_6) rfl (by decide) ?_
    show Steps p.tables e below (s₁.setTop (mkF m 7 #[.val (.int p0), .unset, .unset, .unset] [(.int ((p0 &&& (2147483647 : Int32)) % (10 : Int32)))])) _
    rw [k0]
    show Steps p.tables e below (s₁.setTop (mkF m 7 #[.val (.int p0), .unset, .unset, .unset] [(.int (2 : Int32))])) _
    refine XS.istoreN X0.here hx rfl (hb hby at_7) rfl (l' := #[.val (.int p0), .val (.int (2 : Int32)), .unset, .unset]) rfl ?_
    show Steps p.tables e below (s₁.setTop (mkF m 8 #[.val (.int p0), .val (.int (2 : Int32)), .unset, .unset] [])) _
    refine XS.iloadN X0.here hx rfl (hb hby at_8) rfl ?_
    show Steps p.tables e below (s₁.setTop (mkF m 9 #[.val (.int p0), .val (.int (2 : Int32)), .unset, .unset] [(.int (2 : Int32))])) _
    refine XS.iconst X0.here hx rfl (hb hby at_9) ?_
    show Steps p.tables e below (s₁.setTop (mkF m 10 #[.val (.int p0), .val (.int (2 : Int32)), .unset, .unset] [(.int (0 : Int32)), (.int (2 : Int32))])) _
    refine st1 _ ?_
    show Steps p.tables e below (T1.setTop (mkF m 13 #[.val (.int p0), .val (.int (2 : Int32)), .unset, .unset] [(.ref w_GRANT)])) _
    refine XS.astoreN X1.here hx rfl (hb hby at_13) rfl rfl (l' := #[.val (.int p0), .val (.int (2 : Int32)), .val (.ref w_GRANT), .unset]) rfl ?_
    show Steps p.tables e below (T1.setTop (mkF m 14 #[.val (.int p0), .val (.int (2 : Int32)), .val (.ref w_GRANT), .unset] [])) _
    refine XS.iconst X1.here hx rfl (hb hby at_14) ?_
    show Steps p.tables e below (T1.setTop (mkF m 15 #[.val (.int p0), .val (.int (2 : Int32)), .val (.ref w_GRANT), .unset] [(.int (0 : Int32))])) _
    refine XS.istoreN X1.here hx rfl (hb hby at_15) rfl (l' := #[.val (.int p0), .val (.int (2 : Int32)), .val (.ref w_GRANT), .val (.int (0 : Int32))]) rfl ?_
    show Steps p.tables e below (T1.setTop (mkF m 16 #[.val (.int p0), .val (.int (2 : Int32)), .val (.ref w_GRANT), .val (.int (0 : Int32))] [])) _
    refine XS.iloadN X1.here hx rfl (hb hby at_16) rfl ?_
    show Steps p.tables e below (T1.setTop (mkF m 17 #[.val (.int p0), .val (.int (2 : Int32)), .val (.ref w_GRANT), .val (.int (0 : Int32))] [(.int (2 : Int32))])) _
    refine XS.bipush X1.here hx rfl (hb hby at_17) ?_
    show Steps p.tables e below (T1.setTop (mkF m 19 #[.val (.int p0), .val (.int (2 : Int32)), .val (.ref w_GRANT), .val (.int (0 : Int32))] [(.int (7 : Int32)), (.int (2 : Int32))])) _
    refine XS.icmpYes X1.here hx rfl (pc0 := 19) (pc' := 28) rfl (hb hby at_19) rfl (by decide) (by decide) (by decide) ?_
    show Steps p.tables e below (T1.setTop (mkF m 28 #[.val (.int p0), .val (.int (2 : Int32)), .val (.ref w_GRANT), .val (.int (0 : Int32))] [])) _
    refine XS.iloadN X1.here hx rfl (hb hby at_28) rfl ?_
    show Steps p.tables e below (T1.setTop (mkF m 29 #[.val (.int p0), .val (.int (2 : Int32)), .val (.ref w_GRANT), .val (.int (0 : Int32))] [(.int (2 : Int32))])) _
    refine XS.bipush X1.here hx rfl (hb hby at_29) ?_
    show Steps p.tables e below (T1.setTop (mkF m 31 #[.val (.int p0), .val (.int (2 : Int32)), .val (.ref w_GRANT), .val (.int (0 : Int32))] [(.int (9 : Int32)), (.int (2 : Int32))])) _
    refine XS.icmpYes X1.here hx rfl (pc0 := 31) (pc' := 37) rfl (hb hby at_31) rfl (by decide) (by decide) (by decide) ?_
    show Steps p.tables e below (T1.setTop (mkF m 37 #[.val (.int p0), .val (.int (2 : Int32)), .val (.ref w_GRANT), .val (.int (0 : Int32))] [])) _
    refine XS.aloadN X1.here hx rfl (hb hby at_37) rfl rfl ?_
    show Steps p.tables e below (T1.setTop (mkF m 38 #[.val (.int p0), .val (.int (2 : Int32)), .val (.ref w_GRANT), .val (.int (0 : Int32))] [(.ref w_GRANT)])) _
    refine st2.trans ?_
    show Steps p.tables e below (T2.setTop (mkF m 41 #[.val (.int p0), .val (.int (2 : Int32)), .val (.ref w_GRANT), .val (.int (0 : Int32))] [(.int (2 : Int32))])) _
    refine XS.iloadN X2.here hx rfl (hb hby at_41) rfl ?_
    show Steps p.tables e below (T2.setTop (mkF m 42 #[.val (.int p0), .val (.int (2 : Int32)), .val (.ref w_GRANT), .val (.int (0 : Int32))] [(.int (2 : Int32)), (.int (2 : Int32))])) _
    refine XS.icmpNo X2.here hx rfl (hb hby at_42) rfl (by decide) ?_
    show Steps p.tables e below (T2.setTop (mkF m 45 #[.val (.int p0), .val (.int (2 : Int32)), .val (.ref w_GRANT), .val (.int (0 : Int32))] [])) _
    refine XS.aloadN X2.here hx rfl (hb hby at_45) rfl rfl ?_
    show Steps p.tables e below (T2.setTop (mkF m 46 #[.val (.int p0), .val (.int (2 : Int32)), .val (.ref w_GRANT), .val (.int (0 : Int32))] [(.ref w_GRANT)])) _
    refine st3.trans ?_
    show Steps p.tables e below (T3.setTop (mkF m 49 #[.val (.int p0), .val (.int (2 : Int32)), .val (.ref w_GRANT), .val (.int (0 : Int32))] [(.int (0 : Int32))])) _
    refine XS.iloadN X3.here hx rfl (hb hby at_49) rfl ?_
    show Steps p.tables e below (T3.setTop (mkF m 50 #[.val (.int p0), .val (.int (2 : Int32)), .val (.ref w_GRANT), .val (.int (0 : Int32))] [(.int (0 : Int32)), (.int (0 : Int32))])) _
    refine XS.icmpNo X3.here hx rfl (hb hby at_50) rfl (by decide) ?_
    show Steps p.tables e below (T3.setTop (mkF m 53 #[.val (.int p0), .val (.int (2 : Int32)), .val (.ref w_GRANT), .val (.int (0 : Int32))] [])) _
    refine XS.iconst X3.here hx rfl (hb hby at_53) ?_
    show Steps p.tables e below (T3.setTop (mkF m 54 #[.val (.int p0), .val (.int (2 : Int32)), .val (.ref w_GRANT), .val (.int (0 : Int32))] [(.int (1 : Int32))])) _
    refine XS.goto X3.here hx rfl (pc0 := 54) (pc' := 58) rfl (hb hby at_54) (by decide) (by decide) ?_
    show Steps p.tables e below (T3.setTop (mkF m 58 #[.val (.int p0), .val (.int (2 : Int32)), .val (.ref w_GRANT), .val (.int (0 : Int32))] [(.int (1 : Int32))])) _
    exact retN X3 hx (t := .boolean) Bd.returns (by simp) (hb hby at_58) hr
  · exact ⟨rfl, N3, e3⟩
set_option maxRecDepth 65536 in
set_option maxHeartbeats 40000000 in
theorem rm1_3 (l : Launch) (Z : State) (a0 : Array Value) (hw : ∀ d ∈ tables_1, d.before a0 Z = true) (ws : List Jvm.Cond) (w_MESSAGE : Addr) (w_OFFER : Addr) (w_SHARE : Addr) (w_DECLINE : Addr) (w_ANNOUNCE : Addr) (w_DATA : Addr) (w_GRANT : Addr) (w_TAKEN : Addr) (w_REFUSE : Addr) (w_LEAVE : Addr) (w_CODES : Addr) (cl_CODES : Cell) (h0 : Heap) (n0 : Nat) (Z0 : n0 ≤ h0.size) (P : Pins Z h0 w_MESSAGE w_OFFER w_SHARE w_DECLINE w_ANNOUNCE w_DATA w_GRANT w_TAKEN w_REFUSE w_LEAVE w_CODES cl_CODES) :
    MetFree l (⟨"swiftwire/FrameHeader", "kind", "(II)Lswiftwire/FrameHeader$Kind;"⟩ : MethodName) (head1 (Jvm.Cond.code (⟨"swiftwire/FrameHeader", "kind", "(II)Lswiftwire/FrameHeader$Kind;"⟩ : MethodName) prog_50_method_7_code 2 (some (.object "swiftwire/FrameHeader$Kind")) :: ws) ({ frames := 0, cells := 0, slots := 0, locals := 0 } : Room)) (fun a U => a = #[(.int (3 : Int32)), (.int (0 : Int32))] ∧ Z.Warmed39 U.vm ∧ U.heap = h0) (fun _ _ _ _ _ => True) (fun _ U o U' => ∃ v L, o = .returned v ∧ QP h0 n0 (some (.ref w_DECLINE)) v U'.heap L ∧ FrameEnd U o U' L ({ frames := 0, cells := 0, slots := 0, locals := 0 } : Room).cells ({ frames := 0, cells := 0, slots := 0, locals := 0 } : Room).slots) := by
  refine MetFree.of_bodySF (plainFor_of_name pn_swiftwire_FrameHeader) hisR ?_
  intro p e s m args below meth c s₁ Bd hml0 hP hK
  obtain ⟨rfl, hZ, hh⟩ := hP
  have hx := Bd.exec
  have hby := Bd.bytes
  have hml : c.maxLocals = 2 := hml0
  have hown : s.vm.findClass "swiftwire/FrameHeader" = some m.cls := findClass_of_methodNamed Bd.named
  have X0 : Stand p l e ({ frames := 0, cells := 0, slots := 0, locals := 0 } : Room) s m #[(.int (3 : Int32)), (.int (0 : Int32))] below meth c s₁ [] 0 0 := Stand.of_body Bd
  have e0 : s₁.heap = h0 := by rw [← hh, Bd.state]; rfl
  have N0 := Fr.nil n0
  have pre0 : ∀ t, Steps p.tables e below (s₁.setTop (mkF m 0 #[.val (.int (3 : Int32)), .val (.int (0 : Int32))] [])) t → Steps p.tables e below (s₁.setTop (entryFrame m #[(.int (3 : Int32)), (.int (0 : Int32))] 2)) t := fun t k => castTop (ef_1_II m (3 : Int32) (0 : Int32)) k
  have S_w_CODES : Sta Z h0 "swiftwire/FrameHeader$Kind" "CODES" "[Lswiftwire/FrameHeader$Kind;" (.ref w_CODES) := P.2.2.2.2.2.2.2.2.2.2.2.2.2.2.2.2.2.2.2.2.2.2.2.2.2.2.2.2.2.2.1
  have A_w_CODES : Arr Z h0 w_CODES cl_CODES (.object "swiftwire/FrameHeader$Kind") := P.2.2.2.2.2.2.2.2.2.2.2.2.2.2.2.2.2.2.2.2.2.2.2.2.2.2.2.2.2.2.2.1
  have Z_w_CODES : cl_CODES.slots.size = 10 := P.2.2.2.2.2.2.2.2.2.2.2.2.2.2.2.2.2.2.2.2.2.2.2.2.2.2.2.2.2.2.2.2.1
  have G_3 : cl_CODES.slots[(3 : Int32).toNatClampNeg]? = some (.ref w_DECLINE) := P.2.2.2.2.2.2.2.2.2.2.2.2.2.2.2.2.2.2.2.2.2.2.2.2.2.2.2.2.2.2.2.2.2.2.1
  obtain ⟨T1, X1, e1, st1⟩ := own_getSR X0 hx hZ hown (hw _ (List.mem_of_getElem? (i := 5) rfl)) e0 S_w_CODES (g := (mkF m 5 #[.val (.int (3 : Int32)), .val (.int (0 : Int32))] [(.int (3 : Int32))])) rfl (hb hby d1_5)
  obtain ⟨T2, X2, e2, st2⟩ := own_getSR X1 hx hZ hown (hw _ (List.mem_of_getElem? (i := 5) rfl)) e1 S_w_CODES (g := (mkF m 44 #[.val (.int (3 : Int32)), .val (.int (0 : Int32))] [])) rfl (hb hby d1_44)
  obtain ⟨fs, hr, hrun, hended, hW, hsame⟩ := X2.leave (v := some (.ref w_DECLINE)) (fun h => by rw [Bd.returns] at h; cases h)
  refine ⟨_, _, pre0 _ ?_, hrun, hended, _, _, rfl, ?_, ⟨_, rfl⟩, hW, hsame.mono (by decide) (by decide)⟩
  · show Steps p.tables e below (s₁.setTop (mkF m 0 #[.val (.int (3 : Int32)), .val (.int (0 : Int32))] [])) _
    refine XS.iloadN X0.here hx rfl (hb hby d1_0) rfl ?_
    show Steps p.tables e below (s₁.setTop (mkF m 1 #[.val (.int (3 : Int32)), .val (.int (0 : Int32))] [(.int (3 : Int32))])) _
    refine XS.ifNo X0.here hx rfl (hb hby d1_1) rfl (by decide) ?_
    show Steps p.tables e below (s₁.setTop (mkF m 4 #[.val (.int (3 : Int32)), .val (.int (0 : Int32))] [])) _
    refine XS.iloadN X0.here hx rfl (hb hby d1_4) rfl ?_
    show Steps p.tables e below (s₁.setTop (mkF m 5 #[.val (.int (3 : Int32)), .val (.int (0 : Int32))] [(.int (3 : Int32))])) _
    refine st1 _ ?_
    show Steps p.tables e below (T1.setTop (mkF m 8 #[.val (.int (3 : Int32)), .val (.int (0 : Int32))] [(.ref w_CODES), (.int (3 : Int32))])) _
    refine X1.arraylength hx (by rw [e1]; exact A_w_CODES.1) (State.isArrayOf_alike hZ.alike A_w_CODES.2.1) (g := (mkF m 8 #[.val (.int (3 : Int32)), .val (.int (0 : Int32))] [(.ref w_CODES), (.int (3 : Int32))])) rfl rfl (hb hby d1_8) _ ?_
    rw [show cl_CODES.slots.size.toInt32 = (10 : Int32) from by rw [Z_w_CODES]; decide]
    show Steps p.tables e below (T1.setTop (mkF m 9 #[.val (.int (3 : Int32)), .val (.int (0 : Int32))] [(.int (10 : Int32)), (.int (3 : Int32))])) _
    refine XS.icmpYes X1.here hx rfl (pc0 := 9) (pc' := 26) rfl (hb hby d1_9) rfl (by decide) (by decide) (by decide) ?_
    show Steps p.tables e below (T1.setTop (mkF m 26 #[.val (.int (3 : Int32)), .val (.int (0 : Int32))] [])) _
    refine XS.iloadN X1.here hx rfl (hb hby d1_26) rfl ?_
    show Steps p.tables e below (T1.setTop (mkF m 27 #[.val (.int (3 : Int32)), .val (.int (0 : Int32))] [(.int (0 : Int32))])) _
    refine XS.ifYes X1.here hx rfl (pc0 := 27) (pc' := 44) rfl (hb hby d1_27) rfl (by decide) (by decide) (by decide) ?_
    show Steps p.tables e below (T1.setTop (mkF m 44 #[.val (.int (3 : Int32)), .val (.int (0 : Int32))] [])) _
    refine st2 _ ?_
    show Steps p.tables e below (T2.setTop (mkF m 47 #[.val (.int (3 : Int32)), .val (.int (0 : Int32))] [(.ref w_CODES)])) _
    refine XS.iloadN X2.here hx rfl (hb hby d1_47) rfl ?_
    show Steps p.tables e below (T2.setTop (mkF m 48 #[.val (.int (3 : Int32)), .val (.int (0 : Int32))] [(.int (3 : Int32)), (.ref w_CODES)])) _
    refine X2.aaload hx (j := (3 : Int32)) (v := (.ref w_DECLINE)) (by rw [e2]; exact A_w_CODES.1) (State.isArrayOf_alike hZ.alike A_w_CODES.2.1) rfl A_w_CODES.2.2 (by rw [Z_w_CODES]; decide) G_3 (g := (mkF m 48 #[.val (.int (3 : Int32)), .val (.int (0 : Int32))] [(.int (3 : Int32)), (.ref w_CODES)])) rfl rfl (hb hby d1_48) _ ?_
    show Steps p.tables e below (T2.setTop (mkF m 49 #[.val (.int (3 : Int32)), .val (.int (0 : Int32))] [(.ref w_DECLINE)])) _
    exact retOut X2 hx Bd.returns rfl (Or.inr (Or.inr (Or.inr (Or.inr ⟨rfl, rfl, rfl⟩)))) (hb hby d1_49) hr
  · exact ⟨rfl, N0, e2⟩
set_option maxRecDepth 65536 in
set_option maxHeartbeats 40000000 in
theorem rm2_3 (l : Launch) (Z : State) (a0 : Array Value) (hw : ∀ d ∈ tables_1, d.before a0 Z = true) (ws : List Jvm.Cond) (w_MESSAGE : Addr) (w_OFFER : Addr) (w_SHARE : Addr) (w_DECLINE : Addr) (w_ANNOUNCE : Addr) (w_DATA : Addr) (w_GRANT : Addr) (w_TAKEN : Addr) (w_REFUSE : Addr) (w_LEAVE : Addr) (w_CODES : Addr) (cl_CODES : Cell) (h0 : Heap) (n0 : Nat) (Z0 : n0 ≤ h0.size) (P : Pins Z h0 w_MESSAGE w_OFFER w_SHARE w_DECLINE w_ANNOUNCE w_DATA w_GRANT w_TAKEN w_REFUSE w_LEAVE w_CODES cl_CODES) :
    MetFree l (⟨"java/lang/Enum", "ordinal", "()I"⟩ : MethodName) (head1 (Jvm.Cond.code (⟨"java/lang/Enum", "ordinal", "()I"⟩ : MethodName) jdk_37_method_2_code 1 (some .int) :: ws) ({ frames := 0, cells := 0, slots := 0, locals := 0 } : Room)) (fun a U => a = #[(.ref w_DECLINE)] ∧ Z.Warmed39 U.vm ∧ U.heap = h0) (fun _ _ _ _ _ => True) (fun _ U o U' => ∃ v L, o = .returned v ∧ QP h0 n0 (some (.int (3 : Int32))) v U'.heap L ∧ FrameEnd U o U' L ({ frames := 0, cells := 0, slots := 0, locals := 0 } : Room).cells ({ frames := 0, cells := 0, slots := 0, locals := 0 } : Room).slots) := by
  refine MetFree.of_bodySF (plainFor_of_name pn_java_lang_Enum) hisR ?_
  intro p e s m args below meth c s₁ Bd hml0 hP hK
  obtain ⟨rfl, hZ, hh⟩ := hP
  have hx := Bd.exec
  have hby := Bd.bytes
  have hml : c.maxLocals = 1 := hml0
  have hown : s.vm.findClass "java/lang/Enum" = some m.cls := findClass_of_methodNamed Bd.named
  have X0 : Stand p l e ({ frames := 0, cells := 0, slots := 0, locals := 0 } : Room) s m #[(.ref w_DECLINE)] below meth c s₁ [] 0 0 := Stand.of_body Bd
  have e0 : s₁.heap = h0 := by rw [← hh, Bd.state]; rfl
  have N0 := Fr.nil n0
  have pre0 : ∀ t, Steps p.tables e below (s₁.setTop (mkF m 0 #[.val (.ref w_DECLINE)] [])) t → Steps p.tables e below (s₁.setTop (entryFrame m #[(.ref w_DECLINE)] 1)) t := fun t k => castTop (ef_2_R m w_DECLINE) k
  have F_w_DECLINE_ordinal : Fld Z h0 w_DECLINE "java/lang/Enum" "ordinal" "I" (.int (3 : Int32)) := P.2.2.2.2.2.2.2.2.2.2.2.2.2.2.2.2.2.2.2.2.2.2.2.1
  obtain ⟨T1, X1, e1, st1⟩ := getF X0 hx hZ hown (host := "") (Or.inl (hw _ (List.mem_of_getElem? (i := 16) rfl))) Via.refl e0 F_w_DECLINE_ordinal (g := (mkF m 1 #[.val (.ref w_DECLINE)] [(.ref w_DECLINE)])) rfl rfl (hb hby d2_1)
  obtain ⟨fs, hr, hrun, hended, hW, hsame⟩ := X1.leave (v := some (.int (3 : Int32))) (fun h => by rw [Bd.returns] at h; cases h)
  refine ⟨_, _, pre0 _ ?_, hrun, hended, _, _, rfl, ?_, ⟨_, rfl⟩, hW, hsame.mono (by decide) (by decide)⟩
  · show Steps p.tables e below (s₁.setTop (mkF m 0 #[.val (.ref w_DECLINE)] [])) _
    refine XS.aloadN X0.here hx rfl (hb hby d2_0) rfl rfl ?_
    show Steps p.tables e below (s₁.setTop (mkF m 1 #[.val (.ref w_DECLINE)] [(.ref w_DECLINE)])) _
    refine st1 _ ?_
    show Steps p.tables e below (T1.setTop (mkF m 4 #[.val (.ref w_DECLINE)] [(.int (3 : Int32))])) _
    exact retI X1 hx Bd.returns (hb hby d2_4) hr
  · exact ⟨rfl, N0, e1⟩
set_option maxRecDepth 65536 in
set_option maxHeartbeats 40000000 in
theorem rm3_3 (l : Launch) (Z : State) (a0 : Array Value) (hw : ∀ d ∈ tables_1, d.before a0 Z = true) (ws : List Jvm.Cond) (w_MESSAGE : Addr) (w_OFFER : Addr) (w_SHARE : Addr) (w_DECLINE : Addr) (w_ANNOUNCE : Addr) (w_DATA : Addr) (w_GRANT : Addr) (w_TAKEN : Addr) (w_REFUSE : Addr) (w_LEAVE : Addr) (w_CODES : Addr) (cl_CODES : Cell) (h0 : Heap) (n0 : Nat) (Z0 : n0 ≤ h0.size) (P : Pins Z h0 w_MESSAGE w_OFFER w_SHARE w_DECLINE w_ANNOUNCE w_DATA w_GRANT w_TAKEN w_REFUSE w_LEAVE w_CODES cl_CODES) :
    MetFree l (⟨"swiftwire/FrameHeader$Kind", "tailBytes", "()I"⟩ : MethodName) (head1 (Jvm.Cond.code (⟨"swiftwire/FrameHeader$Kind", "tailBytes", "()I"⟩ : MethodName) prog_51_method_6_code 2 (some .int) :: ws) ({ frames := 0, cells := 0, slots := 0, locals := 0 } : Room)) (fun a U => a = #[(.ref w_DECLINE)] ∧ Z.Warmed39 U.vm ∧ U.heap = h0) (fun _ _ _ _ _ => True) (fun _ U o U' => ∃ v L, o = .returned v ∧ QP h0 n0 (some (.int (0 : Int32))) v U'.heap L ∧ FrameEnd U o U' L ({ frames := 0, cells := 0, slots := 0, locals := 0 } : Room).cells ({ frames := 0, cells := 0, slots := 0, locals := 0 } : Room).slots) := by
  refine MetFree.of_bodySF (plainFor_of_name pn_swiftwire_FrameHeader_Kind) hisR ?_
  intro p e s m args below meth c s₁ Bd hml0 hP hK
  obtain ⟨rfl, hZ, hh⟩ := hP
  have hx := Bd.exec
  have hby := Bd.bytes
  have hml : c.maxLocals = 2 := hml0
  have hown : s.vm.findClass "swiftwire/FrameHeader$Kind" = some m.cls := findClass_of_methodNamed Bd.named
  have X0 : Stand p l e ({ frames := 0, cells := 0, slots := 0, locals := 0 } : Room) s m #[(.ref w_DECLINE)] below meth c s₁ [] 0 0 := Stand.of_body Bd
  have e0 : s₁.heap = h0 := by rw [← hh, Bd.state]; rfl
  have N0 := Fr.nil n0
  have pre0 : ∀ t, Steps p.tables e below (s₁.setTop (mkF m 0 #[.val (.ref w_DECLINE), .unset] [])) t → Steps p.tables e below (s₁.setTop (entryFrame m #[(.ref w_DECLINE)] 2)) t := fun t k => castTop (ef_3_R m w_DECLINE) k
  have S_w_OFFER : Sta Z h0 "swiftwire/FrameHeader$Kind" "OFFER" "Lswiftwire/FrameHeader$Kind;" (.ref w_OFFER) := P.2.2.1
  have F_w_DECLINE_ordinal : Fld Z h0 w_DECLINE "java/lang/Enum" "ordinal" "I" (.int (3 : Int32)) := P.2.2.2.2.2.2.2.2.2.2.2.2.2.2.2.2.2.2.2.2.2.2.2.1
  have F_w_OFFER_ordinal : Fld Z h0 w_OFFER "java/lang/Enum" "ordinal" "I" (.int (7 : Int32)) := P.2.2.2.2.2.2.2.2.2.2.2.2.2.2.2.2.2.2.2.2.2.1
  have S_w_SHARE : Sta Z h0 "swiftwire/FrameHeader$Kind" "SHARE" "Lswiftwire/FrameHeader$Kind;" (.ref w_SHARE) := P.2.2.2.2.1
  have F_w_SHARE_ordinal : Fld Z h0 w_SHARE "java/lang/Enum" "ordinal" "I" (.int (9 : Int32)) := P.2.2.2.2.2.2.2.2.2.2.2.2.2.2.2.2.2.2.2.2.2.2.1
  obtain ⟨T1, X1, e1, st1⟩ := getS2 X0 hx hZ hown (host := "") (Or.inl (hw _ (List.mem_of_getElem? (i := 23) rfl))) Via.refl e0 S_w_OFFER (g := (mkF m 3 #[.val (.ref w_DECLINE), .val (.int (0 : Int32))] [(.ref w_DECLINE)])) rfl (hb hby d3_3)
  obtain ⟨T2, X2, e2, st2⟩ := getS2 X1 hx hZ hown (host := "") (Or.inl (hw _ (List.mem_of_getElem? (i := 25) rfl))) Via.refl e1 S_w_SHARE (g := (mkF m 16 #[.val (.ref w_DECLINE), .val (.int (0 : Int32))] [(.ref w_DECLINE)])) rfl (hb hby d3_16)
  obtain ⟨fs, hr, hrun, hended, hW, hsame⟩ := X2.leave (v := some (.int (0 : Int32))) (fun h => by rw [Bd.returns] at h; cases h)
  refine ⟨_, _, pre0 _ ?_, hrun, hended, _, _, rfl, ?_, ⟨_, rfl⟩, hW, hsame.mono (by decide) (by decide)⟩
  · show Steps p.tables e below (s₁.setTop (mkF m 0 #[.val (.ref w_DECLINE), .unset] [])) _
    refine XS.iconst X0.here hx rfl (hb hby d3_0) ?_
    show Steps p.tables e below (s₁.setTop (mkF m 1 #[.val (.ref w_DECLINE), .unset] [(.int (0 : Int32))])) _
    refine XS.istoreN X0.here hx rfl (hb hby d3_1) rfl (l' := #[.val (.ref w_DECLINE), .val (.int (0 : Int32))]) rfl ?_
    show Steps p.tables e below (s₁.setTop (mkF m 2 #[.val (.ref w_DECLINE), .val (.int (0 : Int32))] [])) _
    refine XS.aloadN X0.here hx rfl (hb hby d3_2) rfl rfl ?_
    show Steps p.tables e below (s₁.setTop (mkF m 3 #[.val (.ref w_DECLINE), .val (.int (0 : Int32))] [(.ref w_DECLINE)])) _
    refine st1 _ ?_
    show Steps p.tables e below (T1.setTop (mkF m 6 #[.val (.ref w_DECLINE), .val (.int (0 : Int32))] [(.ref w_OFFER), (.ref w_DECLINE)])) _
    refine Jvm.RoadKit.acmp (g := (mkF m 6 #[.val (.ref w_DECLINE), .val (.int (0 : Int32))] [(.ref w_OFFER), (.ref w_DECLINE)])) X1 hx rfl rfl rfl (pc0 := 6) (pc' := 15) (same := false) rfl (hb hby d3_6) rfl (decide_eq_false fun q => (Fld.ne F_w_DECLINE_ordinal F_w_OFFER_ordinal (by decide)) (Value.ref.inj q)) (by decide) (by decide) ?_
    show Steps p.tables e below (T1.setTop (mkF m 15 #[.val (.ref w_DECLINE), .val (.int (0 : Int32))] [])) _
    refine XS.aloadN X1.here hx rfl (hb hby d3_15) rfl rfl ?_
    show Steps p.tables e below (T1.setTop (mkF m 16 #[.val (.ref w_DECLINE), .val (.int (0 : Int32))] [(.ref w_DECLINE)])) _
    refine st2 _ ?_
    show Steps p.tables e below (T2.setTop (mkF m 19 #[.val (.ref w_DECLINE), .val (.int (0 : Int32))] [(.ref w_SHARE), (.ref w_DECLINE)])) _
    refine Jvm.RoadKit.acmp (g := (mkF m 19 #[.val (.ref w_DECLINE), .val (.int (0 : Int32))] [(.ref w_SHARE), (.ref w_DECLINE)])) X2 hx rfl rfl rfl (pc0 := 19) (pc' := 25) (same := false) rfl (hb hby d3_19) rfl (decide_eq_false fun q => (Fld.ne F_w_DECLINE_ordinal F_w_SHARE_ordinal (by decide)) (Value.ref.inj q)) (by decide) (by decide) ?_
    show Steps p.tables e below (T2.setTop (mkF m 25 #[.val (.ref w_DECLINE), .val (.int (0 : Int32))] [])) _
    refine XS.iloadN X2.here hx rfl (hb hby d3_25) rfl ?_
    show Steps p.tables e below (T2.setTop (mkF m 26 #[.val (.ref w_DECLINE), .val (.int (0 : Int32))] [(.int (0 : Int32))])) _
    exact retI X2 hx Bd.returns (hb hby d3_26) hr
  · exact ⟨rfl, N0, e2⟩
set_option maxRecDepth 65536 in
set_option maxHeartbeats 40000000 in
theorem rm0_c3 (l : Launch) (Z : State) (a0 : Array Value) (hw : ∀ d ∈ tables_1, d.before a0 Z = true) (ws : List Jvm.Cond) (w_MESSAGE : Addr) (w_OFFER : Addr) (w_SHARE : Addr) (w_DECLINE : Addr) (w_ANNOUNCE : Addr) (w_DATA : Addr) (w_GRANT : Addr) (w_TAKEN : Addr) (w_REFUSE : Addr) (w_LEAVE : Addr) (w_CODES : Addr) (cl_CODES : Cell) (p0 : Int32) (h0 : Heap) (n0 : Nat) (Z0 : n0 ≤ h0.size) (P : Pins Z h0 w_MESSAGE w_OFFER w_SHARE w_DECLINE w_ANNOUNCE w_DATA w_GRANT w_TAKEN w_REFUSE w_LEAVE w_CODES cl_CODES) (k0 : ((p0 &&& (2147483647 : Int32)) % (10 : Int32)) = (3 : Int32)) :
    MetFree l x (head1 (Jvm.Cond.code x code maxLocals ret :: ws) room_1) (fun a U => a = #[(.int p0)] ∧ Z.Warmed39 U.vm ∧ U.heap = h0) (fun _ _ _ _ _ => True) (fun _ U o U' => ∃ v L, o = .returned v ∧ QP h0 n0 (some (.int (1 : Int32))) v U'.heap L ∧ FrameEnd U o U' L room_1.cells room_1.slots) := by
  refine MetFree.of_bodySF (plainFor_of_name pn_swiftwire_KindTailBytesPinLaw) hisR ?_
  intro p e s m args below meth c s₁ Bd hml0 hP hK
  obtain ⟨rfl, hZ, hh⟩ := hP
  have hx := Bd.exec
  have hby := Bd.bytes
  have hml : c.maxLocals = 4 := hml0
  have hown : s.vm.findClass "swiftwire/KindTailBytesPinLaw" = some m.cls := findClass_of_methodNamed Bd.named
  have X0 : Stand p l e room_1 s m #[(.int p0)] below meth c s₁ [] 0 0 := Stand.of_body Bd
  have e0 : s₁.heap = h0 := by rw [← hh, Bd.state]; rfl
  have N0 := Fr.nil n0
  have pre0 : ∀ t, Steps p.tables e below (s₁.setTop (mkF m 0 #[.val (.int p0), .unset, .unset, .unset] [])) t → Steps p.tables e below (s₁.setTop (entryFrame m #[(.int p0)] maxLocals)) t := fun t k => castTop (ef_0_I m p0) k
  have E_w_DECLINE : Exa Z h0 w_DECLINE "swiftwire/FrameHeader$Kind" := P.2.2.2.2.2.2.2.1
  obtain ⟨_, _, ⟨T1, L1, k1, n1⟩, -, X1, ⟨Lc1, hQ1, l1, y1, z1⟩, st1⟩ := Jvm.LawKit.callS X0 hx (y := (⟨"swiftwire/FrameHeader", "kind", "(II)Lswiftwire/FrameHeader$Kind;"⟩ : MethodName)) hown (mvT hZ (hw _ (List.mem_of_getElem? (i := 1) rfl))) (mvT hZ (hw _ (List.mem_of_getElem? (i := 2) rfl))) (mvT hZ (hw _ (List.mem_of_getElem? (i := 3) rfl))) (mvT hZ (hw _ (List.mem_of_getElem? (i := 4) rfl))) (by decide) (backOf (W := 0) (rm1_3 l Z a0 hw [] w_MESSAGE w_OFFER w_SHARE w_DECLINE w_ANNOUNCE w_DATA w_GRANT w_TAKEN w_REFUSE w_LEAVE w_CODES cl_CODES h0 n0 Z0 P) hZ (hw _ (List.mem_of_getElem? (i := 4) rfl)) (hw _ (List.mem_of_getElem? (i := 3) rfl)) (by decide) (by decide)) (g := (mkF m 10 #[.val (.int p0), .val (.int (3 : Int32)), .unset, .unset] [(.int (0 : Int32)), (.int (3 : Int32))])) rfl (by rw [hml]; rfl) (argsL := [(.int (3 : Int32)), (.int (0 : Int32))]) (rest := []) (lenOf pd_0 rfl) rfl (by show 2 * 0 + _ ≤ _; exact Nat.le_of_eq rfl) (hb hby at_10) (fun _ _ => ⟨rfl, e0, (by decide : 0 + 0 ≤ _), (by decide : 0 + 0 ≤ _)⟩)
  dsimp only [Pt.U, Pt.locs, Pt.cells, Pt.slots] at X1 l1 y1 z1 st1 hQ1
  subst l1 y1 z1
  obtain ⟨rfl, N1q, e1⟩ := hQ1
  have N1 := Fr.app N0 N1q
  obtain ⟨cq2, kq2, q2a, q2b, q2c⟩ := isOf hZ e1 E_w_DECLINE
  obtain ⟨_, _, ⟨T2, L2, k2, n2⟩, -, X2, ⟨Lc2, hQ2, l2, y2, z2⟩, st2⟩ := X1.virtualBackUp hx (owner := "java/lang/Enum") (x := (⟨"swiftwire/FrameHeader$Kind", "ordinal", "()I"⟩ : MethodName)) (y := (⟨"java/lang/Enum", "ordinal", "()I"⟩ : MethodName)) hown (mvT hZ (hw _ (List.mem_of_getElem? (i := 9) rfl))) (mvT hZ (hw _ (List.mem_of_getElem? (i := 10) rfl))) (mvT hZ (hw _ (List.mem_of_getElem? (i := 11) rfl))) (by decide) (mvT hZ (hw _ (List.mem_of_getElem? (i := 13) rfl))) (mvT hZ (hw _ (List.mem_of_getElem? (i := 12) rfl))) (backOf (W := 0) (rm2_3 l Z a0 hw [] w_MESSAGE w_OFFER w_SHARE w_DECLINE w_ANNOUNCE w_DATA w_GRANT w_TAKEN w_REFUSE w_LEAVE w_CODES cl_CODES h0 n0 Z0 P) hZ (hw _ (List.mem_of_getElem? (i := 15) rfl)) (hw _ (List.mem_of_getElem? (i := 14) rfl)) (by decide) (by decide)) q2a q2c (g := (mkF m 38 #[.val (.int p0), .val (.int (3 : Int32)), .val (.ref w_DECLINE), .val (.int (0 : Int32))] [(.ref w_DECLINE)])) rfl (by rw [hml]; rfl) (Steps.refl _) (argsL := []) (rest := []) (lenOf pd_1 rfl) rfl (by show 2 * 0 + _ ≤ _; exact Nat.le_of_eq rfl) (hb hby at_38) (fun _ _ => ⟨rfl, e1, (by decide : 0 + 0 ≤ _), (by decide : 0 + 0 ≤ _)⟩)
  dsimp only [Pt.U, Pt.locs, Pt.cells, Pt.slots] at X2 l2 y2 z2 st2 hQ2
  subst l2 y2 z2
  obtain ⟨rfl, N2q, e2⟩ := hQ2
  have N2 := Fr.app N1 N2q
  obtain ⟨cq3, kq3, q3a, q3b, q3c⟩ := isOf hZ e2 E_w_DECLINE
  obtain ⟨_, _, ⟨T3, L3, k3, n3⟩, -, X3, ⟨Lc3, hQ3, l3, y3, z3⟩, st3⟩ := X2.virtualBack hx (y := (⟨"swiftwire/FrameHeader$Kind", "tailBytes", "()I"⟩ : MethodName)) (z := (⟨"swiftwire/FrameHeader$Kind", "tailBytes", "()I"⟩ : MethodName)) hown (mvT hZ (hw _ (List.mem_of_getElem? (i := 18) rfl))) (mvT hZ (hw _ (List.mem_of_getElem? (i := 19) rfl))) (notFace_of_selects (args := #[]) (mvT hZ (hw _ (List.mem_of_getElem? (i := 21) rfl)))) (mvT hZ (hw _ (List.mem_of_getElem? (i := 21) rfl))) (mvT hZ (hw _ (List.mem_of_getElem? (i := 20) rfl))) (by decide) (backOf (W := 0) (rm3_3 l Z a0 hw [] w_MESSAGE w_OFFER w_SHARE w_DECLINE w_ANNOUNCE w_DATA w_GRANT w_TAKEN w_REFUSE w_LEAVE w_CODES cl_CODES h0 n0 Z0 P) hZ (hw _ (List.mem_of_getElem? (i := 22) rfl)) (hw _ (List.mem_of_getElem? (i := 6) rfl)) (by decide) (by decide)) q3a q3c (g := (mkF m 46 #[.val (.int p0), .val (.int (3 : Int32)), .val (.ref w_DECLINE), .val (.int (0 : Int32))] [(.ref w_DECLINE)])) rfl (by rw [hml]; rfl) (Steps.refl _) (argsL := []) (rest := []) (lenOf pd_1 rfl) rfl (by show 2 * 0 + _ ≤ _; exact Nat.le_of_eq rfl) (hb hby at_46) (fun _ _ => ⟨rfl, e2, (by decide : 0 + 0 ≤ _), (by decide : 0 + 0 ≤ _)⟩)
  dsimp only [Pt.U, Pt.locs, Pt.cells, Pt.slots] at X3 l3 y3 z3 st3 hQ3
  subst l3 y3 z3
  obtain ⟨rfl, N3q, e3⟩ := hQ3
  have N3 := Fr.app N2 N3q
  obtain ⟨fs, hr, hrun, hended, hW, hsame⟩ := X3.leave (v := some (.int (1 : Int32))) (fun h => by rw [Bd.returns] at h; cases h)
  refine ⟨_, _, pre0 _ ?_, hrun, hended, _, _, rfl, ?_, ⟨_, rfl⟩, hW, hsame.mono (by decide) (by decide)⟩
  · show Steps p.tables e below (s₁.setTop (mkF m 0 #[.val (.int p0), .unset, .unset, .unset] [])) _
    refine XS.iloadN X0.here hx rfl (hb hby at_0) rfl ?_
    show Steps p.tables e below (s₁.setTop (mkF m 1 #[.val (.int p0), .unset, .unset, .unset] [(.int p0)])) _
    refine Jvm.Stand.ldcI X0 hx hown (mvT hZ (hw _ (List.mem_of_getElem? (i := 0) rfl))) rfl (hb hby at_1) ?_
    show Steps p.tables e below (s₁.setTop (mkF m 3 #[.val (.int p0), .unset, .unset, .unset] [(.int (2147483647 : Int32)), (.int p0)])) _
    refine XS.iand X0.here hx rfl (hb hby at_3) rfl ?_
    show Steps p.tables e below (s₁.setTop (mkF m 4 #[.val (.int p0), .unset, .unset, .unset] [(.int (p0 &&& (2147483647 : Int32)))])) _
    refine XS.bipush X0.here hx rfl (hb hby at_4) ?_
    show Steps p.tables e below (s₁.setTop (mkF m 6 #[.val (.int p0), .unset, .unset, .unset] [(.int (10 : Int32)), (.int (p0 &&& (2147483647 : Int32)))])) _
    refine iremM X0 hx rfl (hb hby at_6) rfl (by decide) ?_
    show Steps p.tables e below (s₁.setTop (mkF m 7 #[.val (.int p0), .unset, .unset, .unset] [(.int ((p0 &&& (2147483647 : Int32)) % (10 : Int32)))])) _
    rw [k0]
    show Steps p.tables e below (s₁.setTop (mkF m 7 #[.val (.int p0), .unset, .unset, .unset] [(.int (3 : Int32))])) _
    refine XS.istoreN X0.here hx rfl (hb hby at_7) rfl (l' := #[.val (.int p0), .val (.int (3 : Int32)), .unset, .unset]) rfl ?_
    show Steps p.tables e below (s₁.setTop (mkF m 8 #[.val (.int p0), .val (.int (3 : Int32)), .unset, .unset] [])) _
    refine XS.iloadN X0.here hx rfl (hb hby at_8) rfl ?_
    show Steps p.tables e below (s₁.setTop (mkF m 9 #[.val (.int p0), .val (.int (3 : Int32)), .unset, .unset] [(.int (3 : Int32))])) _
    refine XS.iconst X0.here hx rfl (hb hby at_9) ?_
    show Steps p.tables e below (s₁.setTop (mkF m 10 #[.val (.int p0), .val (.int (3 : Int32)), .unset, .unset] [(.int (0 : Int32)), (.int (3 : Int32))])) _
    refine st1 _ ?_
    show Steps p.tables e below (T1.setTop (mkF m 13 #[.val (.int p0), .val (.int (3 : Int32)), .unset, .unset] [(.ref w_DECLINE)])) _
    refine XS.astoreN X1.here hx rfl (hb hby at_13) rfl rfl (l' := #[.val (.int p0), .val (.int (3 : Int32)), .val (.ref w_DECLINE), .unset]) rfl ?_
    show Steps p.tables e below (T1.setTop (mkF m 14 #[.val (.int p0), .val (.int (3 : Int32)), .val (.ref w_DECLINE), .unset] [])) _
    refine XS.iconst X1.here hx rfl (hb hby at_14) ?_
    show Steps p.tables e below (T1.setTop (mkF m 15 #[.val (.int p0), .val (.int (3 : Int32)), .val (.ref w_DECLINE), .unset] [(.int (0 : Int32))])) _
    refine XS.istoreN X1.here hx rfl (hb hby at_15) rfl (l' := #[.val (.int p0), .val (.int (3 : Int32)), .val (.ref w_DECLINE), .val (.int (0 : Int32))]) rfl ?_
    show Steps p.tables e below (T1.setTop (mkF m 16 #[.val (.int p0), .val (.int (3 : Int32)), .val (.ref w_DECLINE), .val (.int (0 : Int32))] [])) _
    refine XS.iloadN X1.here hx rfl (hb hby at_16) rfl ?_
    show Steps p.tables e below (T1.setTop (mkF m 17 #[.val (.int p0), .val (.int (3 : Int32)), .val (.ref w_DECLINE), .val (.int (0 : Int32))] [(.int (3 : Int32))])) _
    refine XS.bipush X1.here hx rfl (hb hby at_17) ?_
    show Steps p.tables e below (T1.setTop (mkF m 19 #[.val (.int p0), .val (.int (3 : Int32)), .val (.ref w_DECLINE), .val (.int (0 : Int32))] [(.int (7 : Int32)), (.int (3 : Int32))])) _
    refine XS.icmpYes X1.here hx rfl (pc0 := 19) (pc' := 28) rfl (hb hby at_19) rfl (by decide) (by decide) (by decide) ?_
    show Steps p.tables e below (T1.setTop (mkF m 28 #[.val (.int p0), .val (.int (3 : Int32)), .val (.ref w_DECLINE), .val (.int (0 : Int32))] [])) _
    refine XS.iloadN X1.here hx rfl (hb hby at_28) rfl ?_
    show Steps p.tables e below (T1.setTop (mkF m 29 #[.val (.int p0), .val (.int (3 : Int32)), .val (.ref w_DECLINE), .val (.int (0 : Int32))] [(.int (3 : Int32))])) _
    refine XS.bipush X1.here hx rfl (hb hby at_29) ?_
    show Steps p.tables e below (T1.setTop (mkF m 31 #[.val (.int p0), .val (.int (3 : Int32)), .val (.ref w_DECLINE), .val (.int (0 : Int32))] [(.int (9 : Int32)), (.int (3 : Int32))])) _
    refine XS.icmpYes X1.here hx rfl (pc0 := 31) (pc' := 37) rfl (hb hby at_31) rfl (by decide) (by decide) (by decide) ?_
    show Steps p.tables e below (T1.setTop (mkF m 37 #[.val (.int p0), .val (.int (3 : Int32)), .val (.ref w_DECLINE), .val (.int (0 : Int32))] [])) _
    refine XS.aloadN X1.here hx rfl (hb hby at_37) rfl rfl ?_
    show Steps p.tables e below (T1.setTop (mkF m 38 #[.val (.int p0), .val (.int (3 : Int32)), .val (.ref w_DECLINE), .val (.int (0 : Int32))] [(.ref w_DECLINE)])) _
    refine st2.trans ?_
    show Steps p.tables e below (T2.setTop (mkF m 41 #[.val (.int p0), .val (.int (3 : Int32)), .val (.ref w_DECLINE), .val (.int (0 : Int32))] [(.int (3 : Int32))])) _
    refine XS.iloadN X2.here hx rfl (hb hby at_41) rfl ?_
    show Steps p.tables e below (T2.setTop (mkF m 42 #[.val (.int p0), .val (.int (3 : Int32)), .val (.ref w_DECLINE), .val (.int (0 : Int32))] [(.int (3 : Int32)), (.int (3 : Int32))])) _
    refine XS.icmpNo X2.here hx rfl (hb hby at_42) rfl (by decide) ?_
    show Steps p.tables e below (T2.setTop (mkF m 45 #[.val (.int p0), .val (.int (3 : Int32)), .val (.ref w_DECLINE), .val (.int (0 : Int32))] [])) _
    refine XS.aloadN X2.here hx rfl (hb hby at_45) rfl rfl ?_
    show Steps p.tables e below (T2.setTop (mkF m 46 #[.val (.int p0), .val (.int (3 : Int32)), .val (.ref w_DECLINE), .val (.int (0 : Int32))] [(.ref w_DECLINE)])) _
    refine st3.trans ?_
    show Steps p.tables e below (T3.setTop (mkF m 49 #[.val (.int p0), .val (.int (3 : Int32)), .val (.ref w_DECLINE), .val (.int (0 : Int32))] [(.int (0 : Int32))])) _
    refine XS.iloadN X3.here hx rfl (hb hby at_49) rfl ?_
    show Steps p.tables e below (T3.setTop (mkF m 50 #[.val (.int p0), .val (.int (3 : Int32)), .val (.ref w_DECLINE), .val (.int (0 : Int32))] [(.int (0 : Int32)), (.int (0 : Int32))])) _
    refine XS.icmpNo X3.here hx rfl (hb hby at_50) rfl (by decide) ?_
    show Steps p.tables e below (T3.setTop (mkF m 53 #[.val (.int p0), .val (.int (3 : Int32)), .val (.ref w_DECLINE), .val (.int (0 : Int32))] [])) _
    refine XS.iconst X3.here hx rfl (hb hby at_53) ?_
    show Steps p.tables e below (T3.setTop (mkF m 54 #[.val (.int p0), .val (.int (3 : Int32)), .val (.ref w_DECLINE), .val (.int (0 : Int32))] [(.int (1 : Int32))])) _
    refine XS.goto X3.here hx rfl (pc0 := 54) (pc' := 58) rfl (hb hby at_54) (by decide) (by decide) ?_
    show Steps p.tables e below (T3.setTop (mkF m 58 #[.val (.int p0), .val (.int (3 : Int32)), .val (.ref w_DECLINE), .val (.int (0 : Int32))] [(.int (1 : Int32))])) _
    exact retN X3 hx (t := .boolean) Bd.returns (by simp) (hb hby at_58) hr
  · exact ⟨rfl, N3, e3⟩
set_option maxRecDepth 65536 in
set_option maxHeartbeats 40000000 in
theorem rm1_4 (l : Launch) (Z : State) (a0 : Array Value) (hw : ∀ d ∈ tables_1, d.before a0 Z = true) (ws : List Jvm.Cond) (w_MESSAGE : Addr) (w_OFFER : Addr) (w_SHARE : Addr) (w_DECLINE : Addr) (w_ANNOUNCE : Addr) (w_DATA : Addr) (w_GRANT : Addr) (w_TAKEN : Addr) (w_REFUSE : Addr) (w_LEAVE : Addr) (w_CODES : Addr) (cl_CODES : Cell) (h0 : Heap) (n0 : Nat) (Z0 : n0 ≤ h0.size) (P : Pins Z h0 w_MESSAGE w_OFFER w_SHARE w_DECLINE w_ANNOUNCE w_DATA w_GRANT w_TAKEN w_REFUSE w_LEAVE w_CODES cl_CODES) :
    MetFree l (⟨"swiftwire/FrameHeader", "kind", "(II)Lswiftwire/FrameHeader$Kind;"⟩ : MethodName) (head1 (Jvm.Cond.code (⟨"swiftwire/FrameHeader", "kind", "(II)Lswiftwire/FrameHeader$Kind;"⟩ : MethodName) prog_50_method_7_code 2 (some (.object "swiftwire/FrameHeader$Kind")) :: ws) ({ frames := 0, cells := 0, slots := 0, locals := 0 } : Room)) (fun a U => a = #[(.int (4 : Int32)), (.int (0 : Int32))] ∧ Z.Warmed39 U.vm ∧ U.heap = h0) (fun _ _ _ _ _ => True) (fun _ U o U' => ∃ v L, o = .returned v ∧ QP h0 n0 (some (.ref w_DATA)) v U'.heap L ∧ FrameEnd U o U' L ({ frames := 0, cells := 0, slots := 0, locals := 0 } : Room).cells ({ frames := 0, cells := 0, slots := 0, locals := 0 } : Room).slots) := by
  refine MetFree.of_bodySF (plainFor_of_name pn_swiftwire_FrameHeader) hisR ?_
  intro p e s m args below meth c s₁ Bd hml0 hP hK
  obtain ⟨rfl, hZ, hh⟩ := hP
  have hx := Bd.exec
  have hby := Bd.bytes
  have hml : c.maxLocals = 2 := hml0
  have hown : s.vm.findClass "swiftwire/FrameHeader" = some m.cls := findClass_of_methodNamed Bd.named
  have X0 : Stand p l e ({ frames := 0, cells := 0, slots := 0, locals := 0 } : Room) s m #[(.int (4 : Int32)), (.int (0 : Int32))] below meth c s₁ [] 0 0 := Stand.of_body Bd
  have e0 : s₁.heap = h0 := by rw [← hh, Bd.state]; rfl
  have N0 := Fr.nil n0
  have pre0 : ∀ t, Steps p.tables e below (s₁.setTop (mkF m 0 #[.val (.int (4 : Int32)), .val (.int (0 : Int32))] [])) t → Steps p.tables e below (s₁.setTop (entryFrame m #[(.int (4 : Int32)), (.int (0 : Int32))] 2)) t := fun t k => castTop (ef_1_II m (4 : Int32) (0 : Int32)) k
  have S_w_CODES : Sta Z h0 "swiftwire/FrameHeader$Kind" "CODES" "[Lswiftwire/FrameHeader$Kind;" (.ref w_CODES) := P.2.2.2.2.2.2.2.2.2.2.2.2.2.2.2.2.2.2.2.2.2.2.2.2.2.2.2.2.2.2.1
  have A_w_CODES : Arr Z h0 w_CODES cl_CODES (.object "swiftwire/FrameHeader$Kind") := P.2.2.2.2.2.2.2.2.2.2.2.2.2.2.2.2.2.2.2.2.2.2.2.2.2.2.2.2.2.2.2.1
  have Z_w_CODES : cl_CODES.slots.size = 10 := P.2.2.2.2.2.2.2.2.2.2.2.2.2.2.2.2.2.2.2.2.2.2.2.2.2.2.2.2.2.2.2.2.1
  have G_4 : cl_CODES.slots[(4 : Int32).toNatClampNeg]? = some (.ref w_DATA) := P.2.2.2.2.2.2.2.2.2.2.2.2.2.2.2.2.2.2.2.2.2.2.2.2.2.2.2.2.2.2.2.2.2.2.2.2.1
  obtain ⟨T1, X1, e1, st1⟩ := own_getSR X0 hx hZ hown (hw _ (List.mem_of_getElem? (i := 5) rfl)) e0 S_w_CODES (g := (mkF m 5 #[.val (.int (4 : Int32)), .val (.int (0 : Int32))] [(.int (4 : Int32))])) rfl (hb hby d1_5)
  obtain ⟨T2, X2, e2, st2⟩ := own_getSR X1 hx hZ hown (hw _ (List.mem_of_getElem? (i := 5) rfl)) e1 S_w_CODES (g := (mkF m 44 #[.val (.int (4 : Int32)), .val (.int (0 : Int32))] [])) rfl (hb hby d1_44)
  obtain ⟨fs, hr, hrun, hended, hW, hsame⟩ := X2.leave (v := some (.ref w_DATA)) (fun h => by rw [Bd.returns] at h; cases h)
  refine ⟨_, _, pre0 _ ?_, hrun, hended, _, _, rfl, ?_, ⟨_, rfl⟩, hW, hsame.mono (by decide) (by decide)⟩
  · show Steps p.tables e below (s₁.setTop (mkF m 0 #[.val (.int (4 : Int32)), .val (.int (0 : Int32))] [])) _
    refine XS.iloadN X0.here hx rfl (hb hby d1_0) rfl ?_
    show Steps p.tables e below (s₁.setTop (mkF m 1 #[.val (.int (4 : Int32)), .val (.int (0 : Int32))] [(.int (4 : Int32))])) _
    refine XS.ifNo X0.here hx rfl (hb hby d1_1) rfl (by decide) ?_
    show Steps p.tables e below (s₁.setTop (mkF m 4 #[.val (.int (4 : Int32)), .val (.int (0 : Int32))] [])) _
    refine XS.iloadN X0.here hx rfl (hb hby d1_4) rfl ?_
    show Steps p.tables e below (s₁.setTop (mkF m 5 #[.val (.int (4 : Int32)), .val (.int (0 : Int32))] [(.int (4 : Int32))])) _
    refine st1 _ ?_
    show Steps p.tables e below (T1.setTop (mkF m 8 #[.val (.int (4 : Int32)), .val (.int (0 : Int32))] [(.ref w_CODES), (.int (4 : Int32))])) _
    refine X1.arraylength hx (by rw [e1]; exact A_w_CODES.1) (State.isArrayOf_alike hZ.alike A_w_CODES.2.1) (g := (mkF m 8 #[.val (.int (4 : Int32)), .val (.int (0 : Int32))] [(.ref w_CODES), (.int (4 : Int32))])) rfl rfl (hb hby d1_8) _ ?_
    rw [show cl_CODES.slots.size.toInt32 = (10 : Int32) from by rw [Z_w_CODES]; decide]
    show Steps p.tables e below (T1.setTop (mkF m 9 #[.val (.int (4 : Int32)), .val (.int (0 : Int32))] [(.int (10 : Int32)), (.int (4 : Int32))])) _
    refine XS.icmpYes X1.here hx rfl (pc0 := 9) (pc' := 26) rfl (hb hby d1_9) rfl (by decide) (by decide) (by decide) ?_
    show Steps p.tables e below (T1.setTop (mkF m 26 #[.val (.int (4 : Int32)), .val (.int (0 : Int32))] [])) _
    refine XS.iloadN X1.here hx rfl (hb hby d1_26) rfl ?_
    show Steps p.tables e below (T1.setTop (mkF m 27 #[.val (.int (4 : Int32)), .val (.int (0 : Int32))] [(.int (0 : Int32))])) _
    refine XS.ifYes X1.here hx rfl (pc0 := 27) (pc' := 44) rfl (hb hby d1_27) rfl (by decide) (by decide) (by decide) ?_
    show Steps p.tables e below (T1.setTop (mkF m 44 #[.val (.int (4 : Int32)), .val (.int (0 : Int32))] [])) _
    refine st2 _ ?_
    show Steps p.tables e below (T2.setTop (mkF m 47 #[.val (.int (4 : Int32)), .val (.int (0 : Int32))] [(.ref w_CODES)])) _
    refine XS.iloadN X2.here hx rfl (hb hby d1_47) rfl ?_
    show Steps p.tables e below (T2.setTop (mkF m 48 #[.val (.int (4 : Int32)), .val (.int (0 : Int32))] [(.int (4 : Int32)), (.ref w_CODES)])) _
    refine X2.aaload hx (j := (4 : Int32)) (v := (.ref w_DATA)) (by rw [e2]; exact A_w_CODES.1) (State.isArrayOf_alike hZ.alike A_w_CODES.2.1) rfl A_w_CODES.2.2 (by rw [Z_w_CODES]; decide) G_4 (g := (mkF m 48 #[.val (.int (4 : Int32)), .val (.int (0 : Int32))] [(.int (4 : Int32)), (.ref w_CODES)])) rfl rfl (hb hby d1_48) _ ?_
    show Steps p.tables e below (T2.setTop (mkF m 49 #[.val (.int (4 : Int32)), .val (.int (0 : Int32))] [(.ref w_DATA)])) _
    exact retOut X2 hx Bd.returns rfl (Or.inr (Or.inr (Or.inr (Or.inr ⟨rfl, rfl, rfl⟩)))) (hb hby d1_49) hr
  · exact ⟨rfl, N0, e2⟩
set_option maxRecDepth 65536 in
set_option maxHeartbeats 40000000 in
theorem rm2_4 (l : Launch) (Z : State) (a0 : Array Value) (hw : ∀ d ∈ tables_1, d.before a0 Z = true) (ws : List Jvm.Cond) (w_MESSAGE : Addr) (w_OFFER : Addr) (w_SHARE : Addr) (w_DECLINE : Addr) (w_ANNOUNCE : Addr) (w_DATA : Addr) (w_GRANT : Addr) (w_TAKEN : Addr) (w_REFUSE : Addr) (w_LEAVE : Addr) (w_CODES : Addr) (cl_CODES : Cell) (h0 : Heap) (n0 : Nat) (Z0 : n0 ≤ h0.size) (P : Pins Z h0 w_MESSAGE w_OFFER w_SHARE w_DECLINE w_ANNOUNCE w_DATA w_GRANT w_TAKEN w_REFUSE w_LEAVE w_CODES cl_CODES) :
    MetFree l (⟨"java/lang/Enum", "ordinal", "()I"⟩ : MethodName) (head1 (Jvm.Cond.code (⟨"java/lang/Enum", "ordinal", "()I"⟩ : MethodName) jdk_37_method_2_code 1 (some .int) :: ws) ({ frames := 0, cells := 0, slots := 0, locals := 0 } : Room)) (fun a U => a = #[(.ref w_DATA)] ∧ Z.Warmed39 U.vm ∧ U.heap = h0) (fun _ _ _ _ _ => True) (fun _ U o U' => ∃ v L, o = .returned v ∧ QP h0 n0 (some (.int (4 : Int32))) v U'.heap L ∧ FrameEnd U o U' L ({ frames := 0, cells := 0, slots := 0, locals := 0 } : Room).cells ({ frames := 0, cells := 0, slots := 0, locals := 0 } : Room).slots) := by
  refine MetFree.of_bodySF (plainFor_of_name pn_java_lang_Enum) hisR ?_
  intro p e s m args below meth c s₁ Bd hml0 hP hK
  obtain ⟨rfl, hZ, hh⟩ := hP
  have hx := Bd.exec
  have hby := Bd.bytes
  have hml : c.maxLocals = 1 := hml0
  have hown : s.vm.findClass "java/lang/Enum" = some m.cls := findClass_of_methodNamed Bd.named
  have X0 : Stand p l e ({ frames := 0, cells := 0, slots := 0, locals := 0 } : Room) s m #[(.ref w_DATA)] below meth c s₁ [] 0 0 := Stand.of_body Bd
  have e0 : s₁.heap = h0 := by rw [← hh, Bd.state]; rfl
  have N0 := Fr.nil n0
  have pre0 : ∀ t, Steps p.tables e below (s₁.setTop (mkF m 0 #[.val (.ref w_DATA)] [])) t → Steps p.tables e below (s₁.setTop (entryFrame m #[(.ref w_DATA)] 1)) t := fun t k => castTop (ef_2_R m w_DATA) k
  have F_w_DATA_ordinal : Fld Z h0 w_DATA "java/lang/Enum" "ordinal" "I" (.int (4 : Int32)) := P.2.2.2.2.2.2.2.2.2.2.2.2.2.2.2.2.2.2.2.2.2.2.2.2.2.1
  obtain ⟨T1, X1, e1, st1⟩ := getF X0 hx hZ hown (host := "") (Or.inl (hw _ (List.mem_of_getElem? (i := 16) rfl))) Via.refl e0 F_w_DATA_ordinal (g := (mkF m 1 #[.val (.ref w_DATA)] [(.ref w_DATA)])) rfl rfl (hb hby d2_1)
  obtain ⟨fs, hr, hrun, hended, hW, hsame⟩ := X1.leave (v := some (.int (4 : Int32))) (fun h => by rw [Bd.returns] at h; cases h)
  refine ⟨_, _, pre0 _ ?_, hrun, hended, _, _, rfl, ?_, ⟨_, rfl⟩, hW, hsame.mono (by decide) (by decide)⟩
  · show Steps p.tables e below (s₁.setTop (mkF m 0 #[.val (.ref w_DATA)] [])) _
    refine XS.aloadN X0.here hx rfl (hb hby d2_0) rfl rfl ?_
    show Steps p.tables e below (s₁.setTop (mkF m 1 #[.val (.ref w_DATA)] [(.ref w_DATA)])) _
    refine st1 _ ?_
    show Steps p.tables e below (T1.setTop (mkF m 4 #[.val (.ref w_DATA)] [(.int (4 : Int32))])) _
    exact retI X1 hx Bd.returns (hb hby d2_4) hr
  · exact ⟨rfl, N0, e1⟩
set_option maxRecDepth 65536 in
set_option maxHeartbeats 40000000 in
theorem rm3_4 (l : Launch) (Z : State) (a0 : Array Value) (hw : ∀ d ∈ tables_1, d.before a0 Z = true) (ws : List Jvm.Cond) (w_MESSAGE : Addr) (w_OFFER : Addr) (w_SHARE : Addr) (w_DECLINE : Addr) (w_ANNOUNCE : Addr) (w_DATA : Addr) (w_GRANT : Addr) (w_TAKEN : Addr) (w_REFUSE : Addr) (w_LEAVE : Addr) (w_CODES : Addr) (cl_CODES : Cell) (h0 : Heap) (n0 : Nat) (Z0 : n0 ≤ h0.size) (P : Pins Z h0 w_MESSAGE w_OFFER w_SHARE w_DECLINE w_ANNOUNCE w_DATA w_GRANT w_TAKEN w_REFUSE w_LEAVE w_CODES cl_CODES) :
    MetFree l (⟨"swiftwire/FrameHeader$Kind", "tailBytes", "()I"⟩ : MethodName) (head1 (Jvm.Cond.code (⟨"swiftwire/FrameHeader$Kind", "tailBytes", "()I"⟩ : MethodName) prog_51_method_6_code 2 (some .int) :: ws) ({ frames := 0, cells := 0, slots := 0, locals := 0 } : Room)) (fun a U => a = #[(.ref w_DATA)] ∧ Z.Warmed39 U.vm ∧ U.heap = h0) (fun _ _ _ _ _ => True) (fun _ U o U' => ∃ v L, o = .returned v ∧ QP h0 n0 (some (.int (0 : Int32))) v U'.heap L ∧ FrameEnd U o U' L ({ frames := 0, cells := 0, slots := 0, locals := 0 } : Room).cells ({ frames := 0, cells := 0, slots := 0, locals := 0 } : Room).slots) := by
  refine MetFree.of_bodySF (plainFor_of_name pn_swiftwire_FrameHeader_Kind) hisR ?_
  intro p e s m args below meth c s₁ Bd hml0 hP hK
  obtain ⟨rfl, hZ, hh⟩ := hP
  have hx := Bd.exec
  have hby := Bd.bytes
  have hml : c.maxLocals = 2 := hml0
  have hown : s.vm.findClass "swiftwire/FrameHeader$Kind" = some m.cls := findClass_of_methodNamed Bd.named
  have X0 : Stand p l e ({ frames := 0, cells := 0, slots := 0, locals := 0 } : Room) s m #[(.ref w_DATA)] below meth c s₁ [] 0 0 := Stand.of_body Bd
  have e0 : s₁.heap = h0 := by rw [← hh, Bd.state]; rfl
  have N0 := Fr.nil n0
  have pre0 : ∀ t, Steps p.tables e below (s₁.setTop (mkF m 0 #[.val (.ref w_DATA), .unset] [])) t → Steps p.tables e below (s₁.setTop (entryFrame m #[(.ref w_DATA)] 2)) t := fun t k => castTop (ef_3_R m w_DATA) k
  have S_w_OFFER : Sta Z h0 "swiftwire/FrameHeader$Kind" "OFFER" "Lswiftwire/FrameHeader$Kind;" (.ref w_OFFER) := P.2.2.1
  have F_w_DATA_ordinal : Fld Z h0 w_DATA "java/lang/Enum" "ordinal" "I" (.int (4 : Int32)) := P.2.2.2.2.2.2.2.2.2.2.2.2.2.2.2.2.2.2.2.2.2.2.2.2.2.1
  have F_w_OFFER_ordinal : Fld Z h0 w_OFFER "java/lang/Enum" "ordinal" "I" (.int (7 : Int32)) := P.2.2.2.2.2.2.2.2.2.2.2.2.2.2.2.2.2.2.2.2.2.1
  have S_w_SHARE : Sta Z h0 "swiftwire/FrameHeader$Kind" "SHARE" "Lswiftwire/FrameHeader$Kind;" (.ref w_SHARE) := P.2.2.2.2.1
  have F_w_SHARE_ordinal : Fld Z h0 w_SHARE "java/lang/Enum" "ordinal" "I" (.int (9 : Int32)) := P.2.2.2.2.2.2.2.2.2.2.2.2.2.2.2.2.2.2.2.2.2.2.1
  obtain ⟨T1, X1, e1, st1⟩ := getS2 X0 hx hZ hown (host := "") (Or.inl (hw _ (List.mem_of_getElem? (i := 23) rfl))) Via.refl e0 S_w_OFFER (g := (mkF m 3 #[.val (.ref w_DATA), .val (.int (0 : Int32))] [(.ref w_DATA)])) rfl (hb hby d3_3)
  obtain ⟨T2, X2, e2, st2⟩ := getS2 X1 hx hZ hown (host := "") (Or.inl (hw _ (List.mem_of_getElem? (i := 25) rfl))) Via.refl e1 S_w_SHARE (g := (mkF m 16 #[.val (.ref w_DATA), .val (.int (0 : Int32))] [(.ref w_DATA)])) rfl (hb hby d3_16)
  obtain ⟨fs, hr, hrun, hended, hW, hsame⟩ := X2.leave (v := some (.int (0 : Int32))) (fun h => by rw [Bd.returns] at h; cases h)
  refine ⟨_, _, pre0 _ ?_, hrun, hended, _, _, rfl, ?_, ⟨_, rfl⟩, hW, hsame.mono (by decide) (by decide)⟩
  · show Steps p.tables e below (s₁.setTop (mkF m 0 #[.val (.ref w_DATA), .unset] [])) _
    refine XS.iconst X0.here hx rfl (hb hby d3_0) ?_
    show Steps p.tables e below (s₁.setTop (mkF m 1 #[.val (.ref w_DATA), .unset] [(.int (0 : Int32))])) _
    refine XS.istoreN X0.here hx rfl (hb hby d3_1) rfl (l' := #[.val (.ref w_DATA), .val (.int (0 : Int32))]) rfl ?_
    show Steps p.tables e below (s₁.setTop (mkF m 2 #[.val (.ref w_DATA), .val (.int (0 : Int32))] [])) _
    refine XS.aloadN X0.here hx rfl (hb hby d3_2) rfl rfl ?_
    show Steps p.tables e below (s₁.setTop (mkF m 3 #[.val (.ref w_DATA), .val (.int (0 : Int32))] [(.ref w_DATA)])) _
    refine st1 _ ?_
    show Steps p.tables e below (T1.setTop (mkF m 6 #[.val (.ref w_DATA), .val (.int (0 : Int32))] [(.ref w_OFFER), (.ref w_DATA)])) _
    refine Jvm.RoadKit.acmp (g := (mkF m 6 #[.val (.ref w_DATA), .val (.int (0 : Int32))] [(.ref w_OFFER), (.ref w_DATA)])) X1 hx rfl rfl rfl (pc0 := 6) (pc' := 15) (same := false) rfl (hb hby d3_6) rfl (decide_eq_false fun q => (Fld.ne F_w_DATA_ordinal F_w_OFFER_ordinal (by decide)) (Value.ref.inj q)) (by decide) (by decide) ?_
    show Steps p.tables e below (T1.setTop (mkF m 15 #[.val (.ref w_DATA), .val (.int (0 : Int32))] [])) _
    refine XS.aloadN X1.here hx rfl (hb hby d3_15) rfl rfl ?_
    show Steps p.tables e below (T1.setTop (mkF m 16 #[.val (.ref w_DATA), .val (.int (0 : Int32))] [(.ref w_DATA)])) _
    refine st2 _ ?_
    show Steps p.tables e below (T2.setTop (mkF m 19 #[.val (.ref w_DATA), .val (.int (0 : Int32))] [(.ref w_SHARE), (.ref w_DATA)])) _
    refine Jvm.RoadKit.acmp (g := (mkF m 19 #[.val (.ref w_DATA), .val (.int (0 : Int32))] [(.ref w_SHARE), (.ref w_DATA)])) X2 hx rfl rfl rfl (pc0 := 19) (pc' := 25) (same := false) rfl (hb hby d3_19) rfl (decide_eq_false fun q => (Fld.ne F_w_DATA_ordinal F_w_SHARE_ordinal (by decide)) (Value.ref.inj q)) (by decide) (by decide) ?_
    show Steps p.tables e below (T2.setTop (mkF m 25 #[.val (.ref w_DATA), .val (.int (0 : Int32))] [])) _
    refine XS.iloadN X2.here hx rfl (hb hby d3_25) rfl ?_
    show Steps p.tables e below (T2.setTop (mkF m 26 #[.val (.ref w_DATA), .val (.int (0 : Int32))] [(.int (0 : Int32))])) _
    exact retI X2 hx Bd.returns (hb hby d3_26) hr
  · exact ⟨rfl, N0, e2⟩
set_option maxRecDepth 65536 in
set_option maxHeartbeats 40000000 in
theorem rm0_c4 (l : Launch) (Z : State) (a0 : Array Value) (hw : ∀ d ∈ tables_1, d.before a0 Z = true) (ws : List Jvm.Cond) (w_MESSAGE : Addr) (w_OFFER : Addr) (w_SHARE : Addr) (w_DECLINE : Addr) (w_ANNOUNCE : Addr) (w_DATA : Addr) (w_GRANT : Addr) (w_TAKEN : Addr) (w_REFUSE : Addr) (w_LEAVE : Addr) (w_CODES : Addr) (cl_CODES : Cell) (p0 : Int32) (h0 : Heap) (n0 : Nat) (Z0 : n0 ≤ h0.size) (P : Pins Z h0 w_MESSAGE w_OFFER w_SHARE w_DECLINE w_ANNOUNCE w_DATA w_GRANT w_TAKEN w_REFUSE w_LEAVE w_CODES cl_CODES) (k0 : ((p0 &&& (2147483647 : Int32)) % (10 : Int32)) = (4 : Int32)) :
    MetFree l x (head1 (Jvm.Cond.code x code maxLocals ret :: ws) room_1) (fun a U => a = #[(.int p0)] ∧ Z.Warmed39 U.vm ∧ U.heap = h0) (fun _ _ _ _ _ => True) (fun _ U o U' => ∃ v L, o = .returned v ∧ QP h0 n0 (some (.int (1 : Int32))) v U'.heap L ∧ FrameEnd U o U' L room_1.cells room_1.slots) := by
  refine MetFree.of_bodySF (plainFor_of_name pn_swiftwire_KindTailBytesPinLaw) hisR ?_
  intro p e s m args below meth c s₁ Bd hml0 hP hK
  obtain ⟨rfl, hZ, hh⟩ := hP
  have hx := Bd.exec
  have hby := Bd.bytes
  have hml : c.maxLocals = 4 := hml0
  have hown : s.vm.findClass "swiftwire/KindTailBytesPinLaw" = some m.cls := findClass_of_methodNamed Bd.named
  have X0 : Stand p l e room_1 s m #[(.int p0)] below meth c s₁ [] 0 0 := Stand.of_body Bd
  have e0 : s₁.heap = h0 := by rw [← hh, Bd.state]; rfl
  have N0 := Fr.nil n0
  have pre0 : ∀ t, Steps p.tables e below (s₁.setTop (mkF m 0 #[.val (.int p0), .unset, .unset, .unset] [])) t → Steps p.tables e below (s₁.setTop (entryFrame m #[(.int p0)] maxLocals)) t := fun t k => castTop (ef_0_I m p0) k
  have E_w_DATA : Exa Z h0 w_DATA "swiftwire/FrameHeader$Kind" := P.2.2.2.2.2.2.2.2.2.2.2.1
  obtain ⟨_, _, ⟨T1, L1, k1, n1⟩, -, X1, ⟨Lc1, hQ1, l1, y1, z1⟩, st1⟩ := Jvm.LawKit.callS X0 hx (y := (⟨"swiftwire/FrameHeader", "kind", "(II)Lswiftwire/FrameHeader$Kind;"⟩ : MethodName)) hown (mvT hZ (hw _ (List.mem_of_getElem? (i := 1) rfl))) (mvT hZ (hw _ (List.mem_of_getElem? (i := 2) rfl))) (mvT hZ (hw _ (List.mem_of_getElem? (i := 3) rfl))) (mvT hZ (hw _ (List.mem_of_getElem? (i := 4) rfl))) (by decide) (backOf (W := 0) (rm1_4 l Z a0 hw [] w_MESSAGE w_OFFER w_SHARE w_DECLINE w_ANNOUNCE w_DATA w_GRANT w_TAKEN w_REFUSE w_LEAVE w_CODES cl_CODES h0 n0 Z0 P) hZ (hw _ (List.mem_of_getElem? (i := 4) rfl)) (hw _ (List.mem_of_getElem? (i := 3) rfl)) (by decide) (by decide)) (g := (mkF m 10 #[.val (.int p0), .val (.int (4 : Int32)), .unset, .unset] [(.int (0 : Int32)), (.int (4 : Int32))])) rfl (by rw [hml]; rfl) (argsL := [(.int (4 : Int32)), (.int (0 : Int32))]) (rest := []) (lenOf pd_0 rfl) rfl (by show 2 * 0 + _ ≤ _; exact Nat.le_of_eq rfl) (hb hby at_10) (fun _ _ => ⟨rfl, e0, (by decide : 0 + 0 ≤ _), (by decide : 0 + 0 ≤ _)⟩)
  dsimp only [Pt.U, Pt.locs, Pt.cells, Pt.slots] at X1 l1 y1 z1 st1 hQ1
  subst l1 y1 z1
  obtain ⟨rfl, N1q, e1⟩ := hQ1
  have N1 := Fr.app N0 N1q
  obtain ⟨cq2, kq2, q2a, q2b, q2c⟩ := isOf hZ e1 E_w_DATA
  obtain ⟨_, _, ⟨T2, L2, k2, n2⟩, -, X2, ⟨Lc2, hQ2, l2, y2, z2⟩, st2⟩ := X1.virtualBackUp hx (owner := "java/lang/Enum") (x := (⟨"swiftwire/FrameHeader$Kind", "ordinal", "()I"⟩ : MethodName)) (y := (⟨"java/lang/Enum", "ordinal", "()I"⟩ : MethodName)) hown (mvT hZ (hw _ (List.mem_of_getElem? (i := 9) rfl))) (mvT hZ (hw _ (List.mem_of_getElem? (i := 10) rfl))) (mvT hZ (hw _ (List.mem_of_getElem? (i := 11) rfl))) (by decide) (mvT hZ (hw _ (List.mem_of_getElem? (i := 13) rfl))) (mvT hZ (hw _ (List.mem_of_getElem? (i := 12) rfl))) (backOf (W := 0) (rm2_4 l Z a0 hw [] w_MESSAGE w_OFFER w_SHARE w_DECLINE w_ANNOUNCE w_DATA w_GRANT w_TAKEN w_REFUSE w_LEAVE w_CODES cl_CODES h0 n0 Z0 P) hZ (hw _ (List.mem_of_getElem? (i := 15) rfl)) (hw _ (List.mem_of_getElem? (i := 14) rfl)) (by decide) (by decide)) q2a q2c (g := (mkF m 38 #[.val (.int p0), .val (.int (4 : Int32)), .val (.ref w_DATA), .val (.int (0 : Int32))] [(.ref w_DATA)])) rfl (by rw [hml]; rfl) (Steps.refl _) (argsL := []) (rest := []) (lenOf pd_1 rfl) rfl (by show 2 * 0 + _ ≤ _; exact Nat.le_of_eq rfl) (hb hby at_38) (fun _ _ => ⟨rfl, e1, (by decide : 0 + 0 ≤ _), (by decide : 0 + 0 ≤ _)⟩)
  dsimp only [Pt.U, Pt.locs, Pt.cells, Pt.slots] at X2 l2 y2 z2 st2 hQ2
  subst l2 y2 z2
  obtain ⟨rfl, N2q, e2⟩ := hQ2
  have N2 := Fr.app N1 N2q
  obtain ⟨cq3, kq3, q3a, q3b, q3c⟩ := isOf hZ e2 E_w_DATA
  obtain ⟨_, _, ⟨T3, L3, k3, n3⟩, -, X3, ⟨Lc3, hQ3, l3, y3, z3⟩, st3⟩ := X2.virtualBack hx (y := (⟨"swiftwire/FrameHeader$Kind", "tailBytes", "()I"⟩ : MethodName)) (z := (⟨"swiftwire/FrameHeader$Kind", "tailBytes", "()I"⟩ : MethodName)) hown (mvT hZ (hw _ (List.mem_of_getElem? (i := 18) rfl))) (mvT hZ (hw _ (List.mem_of_getElem? (i := 19) rfl))) (notFace_of_selects (args := #[]) (mvT hZ (hw _ (List.mem_of_getElem? (i := 21) rfl)))) (mvT hZ (hw _ (List.mem_of_getElem? (i := 21) rfl))) (mvT hZ (hw _ (List.mem_of_getElem? (i := 20) rfl))) (by decide) (backOf (W := 0) (rm3_4 l Z a0 hw [] w_MESSAGE w_OFFER w_SHARE w_DECLINE w_ANNOUNCE w_DATA w_GRANT w_TAKEN w_REFUSE w_LEAVE w_CODES cl_CODES h0 n0 Z0 P) hZ (hw _ (List.mem_of_getElem? (i := 22) rfl)) (hw _ (List.mem_of_getElem? (i := 6) rfl)) (by decide) (by decide)) q3a q3c (g := (mkF m 46 #[.val (.int p0), .val (.int (4 : Int32)), .val (.ref w_DATA), .val (.int (0 : Int32))] [(.ref w_DATA)])) rfl (by rw [hml]; rfl) (Steps.refl _) (argsL := []) (rest := []) (lenOf pd_1 rfl) rfl (by show 2 * 0 + _ ≤ _; exact Nat.le_of_eq rfl) (hb hby at_46) (fun _ _ => ⟨rfl, e2, (by decide : 0 + 0 ≤ _), (by decide : 0 + 0 ≤ _)⟩)
  dsimp only [Pt.U, Pt.locs, Pt.cells, Pt.slots] at X3 l3 y3 z3 st3 hQ3
  subst l3 y3 z3
  obtain ⟨rfl, N3q, e3⟩ := hQ3
  have N3 := Fr.app N2 N3q
  obtain ⟨fs, hr, hrun, hended, hW, hsame⟩ := X3.leave (v := some (.int (1 : Int32))) (fun h => by rw [Bd.returns] at h; cases h)
  refine ⟨_, _, pre0 _ ?_, hrun, hended, _, _, rfl, ?_, ⟨_, rfl⟩, hW, hsame.mono (by decide) (by decide)⟩
  · show Steps p.tables e below (s₁.setTop (mkF m 0 #[.val (.int p0), .unset, .unset, .unset] [])) _
    refine XS.iloadN X0.here hx rfl (hb hby at_0) rfl ?_
    show Steps p.tables e below (s₁.setTop (mkF m 1 #[.val (.int p0), .unset, .unset, .unset] [(.int p0)])) _
    refine Jvm.Stand.ldcI X0 hx hown (mvT hZ (hw _ (List.mem_of_getElem? (i := 0) rfl))) rfl (hb hby at_1) ?_
    show Steps p.tables e below (s₁.setTop (mkF m 3 #[.val (.int p0), .unset, .unset, .unset] [(.int (2147483647 : Int32)), (.int p0)])) _
    refine XS.iand X0.here hx rfl (hb hby at_3) rfl ?_
    show Steps p.tables e below (s₁.setTop (mkF m 4 #[.val (.int p0), .unset, .unset, .unset] [(.int (p0 &&& (2147483647 : Int32)))])) _
    refine XS.bipush X0.here hx rfl (hb hby at_4) ?_
    show Steps p.tables e below (s₁.setTop (mkF m 6 #[.val (.int p0), .unset, .unset, .unset] [(.int (10 : Int32)), (.int (p0 &&& (2147483647 : Int32)))])) _
    refine iremM X0 hx rfl (hb hby at_6) rfl (by decide) ?_
    show Steps p.tables e below (s₁.setTop (mkF m 7 #[.val (.int p0), .unset, .unset, .unset] [(.int ((p0 &&& (2147483647 : Int32)) % (10 : Int32)))])) _
    rw [k0]
    show Steps p.tables e below (s₁.setTop (mkF m 7 #[.val (.int p0), .unset, .unset, .unset] [(.int (4 : Int32))])) _
    refine XS.istoreN X0.here hx rfl (hb hby at_7) rfl (l' := #[.val (.int p0), .val (.int (4 : Int32)), .unset, .unset]) rfl ?_
    show Steps p.tables e below (s₁.setTop (mkF m 8 #[.val (.int p0), .val (.int (4 : Int32)), .unset, .unset] [])) _
    refine XS.iloadN X0.here hx rfl (hb hby at_8) rfl ?_
    show Steps p.tables e below (s₁.setTop (mkF m 9 #[.val (.int p0), .val (.int (4 : Int32)), .unset, .unset] [(.int (4 : Int32))])) _
    refine XS.iconst X0.here hx rfl (hb hby at_9) ?_
    show Steps p.tables e below (s₁.setTop (mkF m 10 #[.val (.int p0), .val (.int (4 : Int32)), .unset, .unset] [(.int (0 : Int32)), (.int (4 : Int32))])) _
    refine st1 _ ?_
    show Steps p.tables e below (T1.setTop (mkF m 13 #[.val (.int p0), .val (.int (4 : Int32)), .unset, .unset] [(.ref w_DATA)])) _
    refine XS.astoreN X1.here hx rfl (hb hby at_13) rfl rfl (l' := #[.val (.int p0), .val (.int (4 : Int32)), .val (.ref w_DATA), .unset]) rfl ?_
    show Steps p.tables e below (T1.setTop (mkF m 14 #[.val (.int p0), .val (.int (4 : Int32)), .val (.ref w_DATA), .unset] [])) _
    refine XS.iconst X1.here hx rfl (hb hby at_14) ?_
    show Steps p.tables e below (T1.setTop (mkF m 15 #[.val (.int p0), .val (.int (4 : Int32)), .val (.ref w_DATA), .unset] [(.int (0 : Int32))])) _
    refine XS.istoreN X1.here hx rfl (hb hby at_15) rfl (l' := #[.val (.int p0), .val (.int (4 : Int32)), .val (.ref w_DATA), .val (.int (0 : Int32))]) rfl ?_
    show Steps p.tables e below (T1.setTop (mkF m 16 #[.val (.int p0), .val (.int (4 : Int32)), .val (.ref w_DATA), .val (.int (0 : Int32))] [])) _
    refine XS.iloadN X1.here hx rfl (hb hby at_16) rfl ?_
    show Steps p.tables e below (T1.setTop (mkF m 17 #[.val (.int p0), .val (.int (4 : Int32)), .val (.ref w_DATA), .val (.int (0 : Int32))] [(.int (4 : Int32))])) _
    refine XS.bipush X1.here hx rfl (hb hby at_17) ?_
    show Steps p.tables e below (T1.setTop (mkF m 19 #[.val (.int p0), .val (.int (4 : Int32)), .val (.ref w_DATA), .val (.int (0 : Int32))] [(.int (7 : Int32)), (.int (4 : Int32))])) _
    refine XS.icmpYes X1.here hx rfl (pc0 := 19) (pc' := 28) rfl (hb hby at_19) rfl (by decide) (by decide) (by decide) ?_
    show Steps p.tables e below (T1.setTop (mkF m 28 #[.val (.int p0), .val (.int (4 : Int32)), .val (.ref w_DATA), .val (.int (0 : Int32))] [])) _
    refine XS.iloadN X1.here hx rfl (hb hby at_28) rfl ?_
    show Steps p.tables e below (T1.setTop (mkF m 29 #[.val (.int p0), .val (.int (4 : Int32)), .val (.ref w_DATA), .val (.int (0 : Int32))] [(.int (4 : Int32))])) _
    refine XS.bipush X1.here hx rfl (hb hby at_29) ?_
    show Steps p.tables e below (T1.setTop (mkF m 31 #[.val (.int p0), .val (.int (4 : Int32)), .val (.ref w_DATA), .val (.int (0 : Int32))] [(.int (9 : Int32)), (.int (4 : Int32))])) _
    refine XS.icmpYes X1.here hx rfl (pc0 := 31) (pc' := 37) rfl (hb hby at_31) rfl (by decide) (by decide) (by decide) ?_
    show Steps p.tables e below (T1.setTop (mkF m 37 #[.val (.int p0), .val (.int (4 : Int32)), .val (.ref w_DATA), .val (.int (0 : Int32))] [])) _
    refine XS.aloadN X1.here hx rfl (hb hby at_37) rfl rfl ?_
    show Steps p.tables e below (T1.setTop (mkF m 38 #[.val (.int p0), .val (.int (4 : Int32)), .val (.ref w_DATA), .val (.int (0 : Int32))] [(.ref w_DATA)])) _
    refine st2.trans ?_
    show Steps p.tables e below (T2.setTop (mkF m 41 #[.val (.int p0), .val (.int (4 : Int32)), .val (.ref w_DATA), .val (.int (0 : Int32))] [(.int (4 : Int32))])) _
    refine XS.iloadN X2.here hx rfl (hb hby at_41) rfl ?_
    show Steps p.tables e below (T2.setTop (mkF m 42 #[.val (.int p0), .val (.int (4 : Int32)), .val (.ref w_DATA), .val (.int (0 : Int32))] [(.int (4 : Int32)), (.int (4 : Int32))])) _
    refine XS.icmpNo X2.here hx rfl (hb hby at_42) rfl (by decide) ?_
    show Steps p.tables e below (T2.setTop (mkF m 45 #[.val (.int p0), .val (.int (4 : Int32)), .val (.ref w_DATA), .val (.int (0 : Int32))] [])) _
    refine XS.aloadN X2.here hx rfl (hb hby at_45) rfl rfl ?_
    show Steps p.tables e below (T2.setTop (mkF m 46 #[.val (.int p0), .val (.int (4 : Int32)), .val (.ref w_DATA), .val (.int (0 : Int32))] [(.ref w_DATA)])) _
    refine st3.trans ?_
    show Steps p.tables e below (T3.setTop (mkF m 49 #[.val (.int p0), .val (.int (4 : Int32)), .val (.ref w_DATA), .val (.int (0 : Int32))] [(.int (0 : Int32))])) _
    refine XS.iloadN X3.here hx rfl (hb hby at_49) rfl ?_
    show Steps p.tables e below (T3.setTop (mkF m 50 #[.val (.int p0), .val (.int (4 : Int32)), .val (.ref w_DATA), .val (.int (0 : Int32))] [(.int (0 : Int32)), (.int (0 : Int32))])) _
    refine XS.icmpNo X3.here hx rfl (hb hby at_50) rfl (by decide) ?_
    show Steps p.tables e below (T3.setTop (mkF m 53 #[.val (.int p0), .val (.int (4 : Int32)), .val (.ref w_DATA), .val (.int (0 : Int32))] [])) _
    refine XS.iconst X3.here hx rfl (hb hby at_53) ?_
    show Steps p.tables e below (T3.setTop (mkF m 54 #[.val (.int p0), .val (.int (4 : Int32)), .val (.ref w_DATA), .val (.int (0 : Int32))] [(.int (1 : Int32))])) _
    refine XS.goto X3.here hx rfl (pc0 := 54) (pc' := 58) rfl (hb hby at_54) (by decide) (by decide) ?_
    show Steps p.tables e below (T3.setTop (mkF m 58 #[.val (.int p0), .val (.int (4 : Int32)), .val (.ref w_DATA), .val (.int (0 : Int32))] [(.int (1 : Int32))])) _
    exact retN X3 hx (t := .boolean) Bd.returns (by simp) (hb hby at_58) hr
  · exact ⟨rfl, N3, e3⟩
set_option maxRecDepth 65536 in
set_option maxHeartbeats 40000000 in
theorem rm1_5 (l : Launch) (Z : State) (a0 : Array Value) (hw : ∀ d ∈ tables_1, d.before a0 Z = true) (ws : List Jvm.Cond) (w_MESSAGE : Addr) (w_OFFER : Addr) (w_SHARE : Addr) (w_DECLINE : Addr) (w_ANNOUNCE : Addr) (w_DATA : Addr) (w_GRANT : Addr) (w_TAKEN : Addr) (w_REFUSE : Addr) (w_LEAVE : Addr) (w_CODES : Addr) (cl_CODES : Cell) (h0 : Heap) (n0 : Nat) (Z0 : n0 ≤ h0.size) (P : Pins Z h0 w_MESSAGE w_OFFER w_SHARE w_DECLINE w_ANNOUNCE w_DATA w_GRANT w_TAKEN w_REFUSE w_LEAVE w_CODES cl_CODES) :
    MetFree l (⟨"swiftwire/FrameHeader", "kind", "(II)Lswiftwire/FrameHeader$Kind;"⟩ : MethodName) (head1 (Jvm.Cond.code (⟨"swiftwire/FrameHeader", "kind", "(II)Lswiftwire/FrameHeader$Kind;"⟩ : MethodName) prog_50_method_7_code 2 (some (.object "swiftwire/FrameHeader$Kind")) :: ws) ({ frames := 0, cells := 0, slots := 0, locals := 0 } : Room)) (fun a U => a = #[(.int (5 : Int32)), (.int (0 : Int32))] ∧ Z.Warmed39 U.vm ∧ U.heap = h0) (fun _ _ _ _ _ => True) (fun _ U o U' => ∃ v L, o = .returned v ∧ QP h0 n0 (some (.ref w_REFUSE)) v U'.heap L ∧ FrameEnd U o U' L ({ frames := 0, cells := 0, slots := 0, locals := 0 } : Room).cells ({ frames := 0, cells := 0, slots := 0, locals := 0 } : Room).slots) := by
  refine MetFree.of_bodySF (plainFor_of_name pn_swiftwire_FrameHeader) hisR ?_
  intro p e s m args below meth c s₁ Bd hml0 hP hK
  obtain ⟨rfl, hZ, hh⟩ := hP
  have hx := Bd.exec
  have hby := Bd.bytes
  have hml : c.maxLocals = 2 := hml0
  have hown : s.vm.findClass "swiftwire/FrameHeader" = some m.cls := findClass_of_methodNamed Bd.named
  have X0 : Stand p l e ({ frames := 0, cells := 0, slots := 0, locals := 0 } : Room) s m #[(.int (5 : Int32)), (.int (0 : Int32))] below meth c s₁ [] 0 0 := Stand.of_body Bd
  have e0 : s₁.heap = h0 := by rw [← hh, Bd.state]; rfl
  have N0 := Fr.nil n0
  have pre0 : ∀ t, Steps p.tables e below (s₁.setTop (mkF m 0 #[.val (.int (5 : Int32)), .val (.int (0 : Int32))] [])) t → Steps p.tables e below (s₁.setTop (entryFrame m #[(.int (5 : Int32)), (.int (0 : Int32))] 2)) t := fun t k => castTop (ef_1_II m (5 : Int32) (0 : Int32)) k
  have S_w_CODES : Sta Z h0 "swiftwire/FrameHeader$Kind" "CODES" "[Lswiftwire/FrameHeader$Kind;" (.ref w_CODES) := P.2.2.2.2.2.2.2.2.2.2.2.2.2.2.2.2.2.2.2.2.2.2.2.2.2.2.2.2.2.2.1
  have A_w_CODES : Arr Z h0 w_CODES cl_CODES (.object "swiftwire/FrameHeader$Kind") := P.2.2.2.2.2.2.2.2.2.2.2.2.2.2.2.2.2.2.2.2.2.2.2.2.2.2.2.2.2.2.2.1
  have Z_w_CODES : cl_CODES.slots.size = 10 := P.2.2.2.2.2.2.2.2.2.2.2.2.2.2.2.2.2.2.2.2.2.2.2.2.2.2.2.2.2.2.2.2.1
  have G_5 : cl_CODES.slots[(5 : Int32).toNatClampNeg]? = some (.ref w_REFUSE) := P.2.2.2.2.2.2.2.2.2.2.2.2.2.2.2.2.2.2.2.2.2.2.2.2.2.2.2.2.2.2.2.2.2.2.2.2.2.2.2.2.2.1
  obtain ⟨T1, X1, e1, st1⟩ := own_getSR X0 hx hZ hown (hw _ (List.mem_of_getElem? (i := 5) rfl)) e0 S_w_CODES (g := (mkF m 5 #[.val (.int (5 : Int32)), .val (.int (0 : Int32))] [(.int (5 : Int32))])) rfl (hb hby d1_5)
  obtain ⟨T2, X2, e2, st2⟩ := own_getSR X1 hx hZ hown (hw _ (List.mem_of_getElem? (i := 5) rfl)) e1 S_w_CODES (g := (mkF m 44 #[.val (.int (5 : Int32)), .val (.int (0 : Int32))] [])) rfl (hb hby d1_44)
  obtain ⟨fs, hr, hrun, hended, hW, hsame⟩ := X2.leave (v := some (.ref w_REFUSE)) (fun h => by rw [Bd.returns] at h; cases h)
  refine ⟨_, _, pre0 _ ?_, hrun, hended, _, _, rfl, ?_, ⟨_, rfl⟩, hW, hsame.mono (by decide) (by decide)⟩
  · show Steps p.tables e below (s₁.setTop (mkF m 0 #[.val (.int (5 : Int32)), .val (.int (0 : Int32))] [])) _
    refine XS.iloadN X0.here hx rfl (hb hby d1_0) rfl ?_
    show Steps p.tables e below (s₁.setTop (mkF m 1 #[.val (.int (5 : Int32)), .val (.int (0 : Int32))] [(.int (5 : Int32))])) _
    refine XS.ifNo X0.here hx rfl (hb hby d1_1) rfl (by decide) ?_
    show Steps p.tables e below (s₁.setTop (mkF m 4 #[.val (.int (5 : Int32)), .val (.int (0 : Int32))] [])) _
    refine XS.iloadN X0.here hx rfl (hb hby d1_4) rfl ?_
    show Steps p.tables e below (s₁.setTop (mkF m 5 #[.val (.int (5 : Int32)), .val (.int (0 : Int32))] [(.int (5 : Int32))])) _
    refine st1 _ ?_
    show Steps p.tables e below (T1.setTop (mkF m 8 #[.val (.int (5 : Int32)), .val (.int (0 : Int32))] [(.ref w_CODES), (.int (5 : Int32))])) _
    refine X1.arraylength hx (by rw [e1]; exact A_w_CODES.1) (State.isArrayOf_alike hZ.alike A_w_CODES.2.1) (g := (mkF m 8 #[.val (.int (5 : Int32)), .val (.int (0 : Int32))] [(.ref w_CODES), (.int (5 : Int32))])) rfl rfl (hb hby d1_8) _ ?_
    rw [show cl_CODES.slots.size.toInt32 = (10 : Int32) from by rw [Z_w_CODES]; decide]
    show Steps p.tables e below (T1.setTop (mkF m 9 #[.val (.int (5 : Int32)), .val (.int (0 : Int32))] [(.int (10 : Int32)), (.int (5 : Int32))])) _
    refine XS.icmpYes X1.here hx rfl (pc0 := 9) (pc' := 26) rfl (hb hby d1_9) rfl (by decide) (by decide) (by decide) ?_
    show Steps p.tables e below (T1.setTop (mkF m 26 #[.val (.int (5 : Int32)), .val (.int (0 : Int32))] [])) _
    refine XS.iloadN X1.here hx rfl (hb hby d1_26) rfl ?_
    show Steps p.tables e below (T1.setTop (mkF m 27 #[.val (.int (5 : Int32)), .val (.int (0 : Int32))] [(.int (0 : Int32))])) _
    refine XS.ifYes X1.here hx rfl (pc0 := 27) (pc' := 44) rfl (hb hby d1_27) rfl (by decide) (by decide) (by decide) ?_
    show Steps p.tables e below (T1.setTop (mkF m 44 #[.val (.int (5 : Int32)), .val (.int (0 : Int32))] [])) _
    refine st2 _ ?_
    show Steps p.tables e below (T2.setTop (mkF m 47 #[.val (.int (5 : Int32)), .val (.int (0 : Int32))] [(.ref w_CODES)])) _
    refine XS.iloadN X2.here hx rfl (hb hby d1_47) rfl ?_
    show Steps p.tables e below (T2.setTop (mkF m 48 #[.val (.int (5 : Int32)), .val (.int (0 : Int32))] [(.int (5 : Int32)), (.ref w_CODES)])) _
    refine X2.aaload hx (j := (5 : Int32)) (v := (.ref w_REFUSE)) (by rw [e2]; exact A_w_CODES.1) (State.isArrayOf_alike hZ.alike A_w_CODES.2.1) rfl A_w_CODES.2.2 (by rw [Z_w_CODES]; decide) G_5 (g := (mkF m 48 #[.val (.int (5 : Int32)), .val (.int (0 : Int32))] [(.int (5 : Int32)), (.ref w_CODES)])) rfl rfl (hb hby d1_48) _ ?_
    show Steps p.tables e below (T2.setTop (mkF m 49 #[.val (.int (5 : Int32)), .val (.int (0 : Int32))] [(.ref w_REFUSE)])) _
    exact retOut X2 hx Bd.returns rfl (Or.inr (Or.inr (Or.inr (Or.inr ⟨rfl, rfl, rfl⟩)))) (hb hby d1_49) hr
  · exact ⟨rfl, N0, e2⟩
set_option maxRecDepth 65536 in
set_option maxHeartbeats 40000000 in
theorem rm2_5 (l : Launch) (Z : State) (a0 : Array Value) (hw : ∀ d ∈ tables_1, d.before a0 Z = true) (ws : List Jvm.Cond) (w_MESSAGE : Addr) (w_OFFER : Addr) (w_SHARE : Addr) (w_DECLINE : Addr) (w_ANNOUNCE : Addr) (w_DATA : Addr) (w_GRANT : Addr) (w_TAKEN : Addr) (w_REFUSE : Addr) (w_LEAVE : Addr) (w_CODES : Addr) (cl_CODES : Cell) (h0 : Heap) (n0 : Nat) (Z0 : n0 ≤ h0.size) (P : Pins Z h0 w_MESSAGE w_OFFER w_SHARE w_DECLINE w_ANNOUNCE w_DATA w_GRANT w_TAKEN w_REFUSE w_LEAVE w_CODES cl_CODES) :
    MetFree l (⟨"java/lang/Enum", "ordinal", "()I"⟩ : MethodName) (head1 (Jvm.Cond.code (⟨"java/lang/Enum", "ordinal", "()I"⟩ : MethodName) jdk_37_method_2_code 1 (some .int) :: ws) ({ frames := 0, cells := 0, slots := 0, locals := 0 } : Room)) (fun a U => a = #[(.ref w_REFUSE)] ∧ Z.Warmed39 U.vm ∧ U.heap = h0) (fun _ _ _ _ _ => True) (fun _ U o U' => ∃ v L, o = .returned v ∧ QP h0 n0 (some (.int (5 : Int32))) v U'.heap L ∧ FrameEnd U o U' L ({ frames := 0, cells := 0, slots := 0, locals := 0 } : Room).cells ({ frames := 0, cells := 0, slots := 0, locals := 0 } : Room).slots) := by
  refine MetFree.of_bodySF (plainFor_of_name pn_java_lang_Enum) hisR ?_
  intro p e s m args below meth c s₁ Bd hml0 hP hK
  obtain ⟨rfl, hZ, hh⟩ := hP
  have hx := Bd.exec
  have hby := Bd.bytes
  have hml : c.maxLocals = 1 := hml0
  have hown : s.vm.findClass "java/lang/Enum" = some m.cls := findClass_of_methodNamed Bd.named
  have X0 : Stand p l e ({ frames := 0, cells := 0, slots := 0, locals := 0 } : Room) s m #[(.ref w_REFUSE)] below meth c s₁ [] 0 0 := Stand.of_body Bd
  have e0 : s₁.heap = h0 := by rw [← hh, Bd.state]; rfl
  have N0 := Fr.nil n0
  have pre0 : ∀ t, Steps p.tables e below (s₁.setTop (mkF m 0 #[.val (.ref w_REFUSE)] [])) t → Steps p.tables e below (s₁.setTop (entryFrame m #[(.ref w_REFUSE)] 1)) t := fun t k => castTop (ef_2_R m w_REFUSE) k
  have F_w_REFUSE_ordinal : Fld Z h0 w_REFUSE "java/lang/Enum" "ordinal" "I" (.int (5 : Int32)) := P.2.2.2.2.2.2.2.2.2.2.2.2.2.2.2.2.2.2.2.2.2.2.2.2.2.2.2.2.1
  obtain ⟨T1, X1, e1, st1⟩ := getF X0 hx hZ hown (host := "") (Or.inl (hw _ (List.mem_of_getElem? (i := 16) rfl))) Via.refl e0 F_w_REFUSE_ordinal (g := (mkF m 1 #[.val (.ref w_REFUSE)] [(.ref w_REFUSE)])) rfl rfl (hb hby d2_1)
  obtain ⟨fs, hr, hrun, hended, hW, hsame⟩ := X1.leave (v := some (.int (5 : Int32))) (fun h => by rw [Bd.returns] at h; cases h)
  refine ⟨_, _, pre0 _ ?_, hrun, hended, _, _, rfl, ?_, ⟨_, rfl⟩, hW, hsame.mono (by decide) (by decide)⟩
  · show Steps p.tables e below (s₁.setTop (mkF m 0 #[.val (.ref w_REFUSE)] [])) _
    refine XS.aloadN X0.here hx rfl (hb hby d2_0) rfl rfl ?_
    show Steps p.tables e below (s₁.setTop (mkF m 1 #[.val (.ref w_REFUSE)] [(.ref w_REFUSE)])) _
    refine st1 _ ?_
    show Steps p.tables e below (T1.setTop (mkF m 4 #[.val (.ref w_REFUSE)] [(.int (5 : Int32))])) _
    exact retI X1 hx Bd.returns (hb hby d2_4) hr
  · exact ⟨rfl, N0, e1⟩
set_option maxRecDepth 65536 in
set_option maxHeartbeats 40000000 in
theorem rm3_5 (l : Launch) (Z : State) (a0 : Array Value) (hw : ∀ d ∈ tables_1, d.before a0 Z = true) (ws : List Jvm.Cond) (w_MESSAGE : Addr) (w_OFFER : Addr) (w_SHARE : Addr) (w_DECLINE : Addr) (w_ANNOUNCE : Addr) (w_DATA : Addr) (w_GRANT : Addr) (w_TAKEN : Addr) (w_REFUSE : Addr) (w_LEAVE : Addr) (w_CODES : Addr) (cl_CODES : Cell) (h0 : Heap) (n0 : Nat) (Z0 : n0 ≤ h0.size) (P : Pins Z h0 w_MESSAGE w_OFFER w_SHARE w_DECLINE w_ANNOUNCE w_DATA w_GRANT w_TAKEN w_REFUSE w_LEAVE w_CODES cl_CODES) :
    MetFree l (⟨"swiftwire/FrameHeader$Kind", "tailBytes", "()I"⟩ : MethodName) (head1 (Jvm.Cond.code (⟨"swiftwire/FrameHeader$Kind", "tailBytes", "()I"⟩ : MethodName) prog_51_method_6_code 2 (some .int) :: ws) ({ frames := 0, cells := 0, slots := 0, locals := 0 } : Room)) (fun a U => a = #[(.ref w_REFUSE)] ∧ Z.Warmed39 U.vm ∧ U.heap = h0) (fun _ _ _ _ _ => True) (fun _ U o U' => ∃ v L, o = .returned v ∧ QP h0 n0 (some (.int (0 : Int32))) v U'.heap L ∧ FrameEnd U o U' L ({ frames := 0, cells := 0, slots := 0, locals := 0 } : Room).cells ({ frames := 0, cells := 0, slots := 0, locals := 0 } : Room).slots) := by
  refine MetFree.of_bodySF (plainFor_of_name pn_swiftwire_FrameHeader_Kind) hisR ?_
  intro p e s m args below meth c s₁ Bd hml0 hP hK
  obtain ⟨rfl, hZ, hh⟩ := hP
  have hx := Bd.exec
  have hby := Bd.bytes
  have hml : c.maxLocals = 2 := hml0
  have hown : s.vm.findClass "swiftwire/FrameHeader$Kind" = some m.cls := findClass_of_methodNamed Bd.named
  have X0 : Stand p l e ({ frames := 0, cells := 0, slots := 0, locals := 0 } : Room) s m #[(.ref w_REFUSE)] below meth c s₁ [] 0 0 := Stand.of_body Bd
  have e0 : s₁.heap = h0 := by rw [← hh, Bd.state]; rfl
  have N0 := Fr.nil n0
  have pre0 : ∀ t, Steps p.tables e below (s₁.setTop (mkF m 0 #[.val (.ref w_REFUSE), .unset] [])) t → Steps p.tables e below (s₁.setTop (entryFrame m #[(.ref w_REFUSE)] 2)) t := fun t k => castTop (ef_3_R m w_REFUSE) k
  have S_w_OFFER : Sta Z h0 "swiftwire/FrameHeader$Kind" "OFFER" "Lswiftwire/FrameHeader$Kind;" (.ref w_OFFER) := P.2.2.1
  have F_w_REFUSE_ordinal : Fld Z h0 w_REFUSE "java/lang/Enum" "ordinal" "I" (.int (5 : Int32)) := P.2.2.2.2.2.2.2.2.2.2.2.2.2.2.2.2.2.2.2.2.2.2.2.2.2.2.2.2.1
  have F_w_OFFER_ordinal : Fld Z h0 w_OFFER "java/lang/Enum" "ordinal" "I" (.int (7 : Int32)) := P.2.2.2.2.2.2.2.2.2.2.2.2.2.2.2.2.2.2.2.2.2.1
  have S_w_SHARE : Sta Z h0 "swiftwire/FrameHeader$Kind" "SHARE" "Lswiftwire/FrameHeader$Kind;" (.ref w_SHARE) := P.2.2.2.2.1
  have F_w_SHARE_ordinal : Fld Z h0 w_SHARE "java/lang/Enum" "ordinal" "I" (.int (9 : Int32)) := P.2.2.2.2.2.2.2.2.2.2.2.2.2.2.2.2.2.2.2.2.2.2.1
  obtain ⟨T1, X1, e1, st1⟩ := getS2 X0 hx hZ hown (host := "") (Or.inl (hw _ (List.mem_of_getElem? (i := 23) rfl))) Via.refl e0 S_w_OFFER (g := (mkF m 3 #[.val (.ref w_REFUSE), .val (.int (0 : Int32))] [(.ref w_REFUSE)])) rfl (hb hby d3_3)
  obtain ⟨T2, X2, e2, st2⟩ := getS2 X1 hx hZ hown (host := "") (Or.inl (hw _ (List.mem_of_getElem? (i := 25) rfl))) Via.refl e1 S_w_SHARE (g := (mkF m 16 #[.val (.ref w_REFUSE), .val (.int (0 : Int32))] [(.ref w_REFUSE)])) rfl (hb hby d3_16)
  obtain ⟨fs, hr, hrun, hended, hW, hsame⟩ := X2.leave (v := some (.int (0 : Int32))) (fun h => by rw [Bd.returns] at h; cases h)
  refine ⟨_, _, pre0 _ ?_, hrun, hended, _, _, rfl, ?_, ⟨_, rfl⟩, hW, hsame.mono (by decide) (by decide)⟩
  · show Steps p.tables e below (s₁.setTop (mkF m 0 #[.val (.ref w_REFUSE), .unset] [])) _
    refine XS.iconst X0.here hx rfl (hb hby d3_0) ?_
    show Steps p.tables e below (s₁.setTop (mkF m 1 #[.val (.ref w_REFUSE), .unset] [(.int (0 : Int32))])) _
    refine XS.istoreN X0.here hx rfl (hb hby d3_1) rfl (l' := #[.val (.ref w_REFUSE), .val (.int (0 : Int32))]) rfl ?_
    show Steps p.tables e below (s₁.setTop (mkF m 2 #[.val (.ref w_REFUSE), .val (.int (0 : Int32))] [])) _
    refine XS.aloadN X0.here hx rfl (hb hby d3_2) rfl rfl ?_
    show Steps p.tables e below (s₁.setTop (mkF m 3 #[.val (.ref w_REFUSE), .val (.int (0 : Int32))] [(.ref w_REFUSE)])) _
    refine st1 _ ?_
    show Steps p.tables e below (T1.setTop (mkF m 6 #[.val (.ref w_REFUSE), .val (.int (0 : Int32))] [(.ref w_OFFER), (.ref w_REFUSE)])) _
    refine Jvm.RoadKit.acmp (g := (mkF m 6 #[.val (.ref w_REFUSE), .val (.int (0 : Int32))] [(.ref w_OFFER), (.ref w_REFUSE)])) X1 hx rfl rfl rfl (pc0 := 6) (pc' := 15) (same := false) rfl (hb hby d3_6) rfl (decide_eq_false fun q => (Fld.ne F_w_REFUSE_ordinal F_w_OFFER_ordinal (by decide)) (Value.ref.inj q)) (by decide) (by decide) ?_
    show Steps p.tables e below (T1.setTop (mkF m 15 #[.val (.ref w_REFUSE), .val (.int (0 : Int32))] [])) _
    refine XS.aloadN X1.here hx rfl (hb hby d3_15) rfl rfl ?_
    show Steps p.tables e below (T1.setTop (mkF m 16 #[.val (.ref w_REFUSE), .val (.int (0 : Int32))] [(.ref w_REFUSE)])) _
    refine st2 _ ?_
    show Steps p.tables e below (T2.setTop (mkF m 19 #[.val (.ref w_REFUSE), .val (.int (0 : Int32))] [(.ref w_SHARE), (.ref w_REFUSE)])) _
    refine Jvm.RoadKit.acmp (g := (mkF m 19 #[.val (.ref w_REFUSE), .val (.int (0 : Int32))] [(.ref w_SHARE), (.ref w_REFUSE)])) X2 hx rfl rfl rfl (pc0 := 19) (pc' := 25) (same := false) rfl (hb hby d3_19) rfl (decide_eq_false fun q => (Fld.ne F_w_REFUSE_ordinal F_w_SHARE_ordinal (by decide)) (Value.ref.inj q)) (by decide) (by decide) ?_
    show Steps p.tables e below (T2.setTop (mkF m 25 #[.val (.ref w_REFUSE), .val (.int (0 : Int32))] [])) _
    refine XS.iloadN X2.here hx rfl (hb hby d3_25) rfl ?_
    show Steps p.tables e below (T2.setTop (mkF m 26 #[.val (.ref w_REFUSE), .val (.int (0 : Int32))] [(.int (0 : Int32))])) _
    exact retI X2 hx Bd.returns (hb hby d3_26) hr
  · exact ⟨rfl, N0, e2⟩
set_option maxRecDepth 65536 in
set_option maxHeartbeats 40000000 in
theorem rm0_c5 (l : Launch) (Z : State) (a0 : Array Value) (hw : ∀ d ∈ tables_1, d.before a0 Z = true) (ws : List Jvm.Cond) (w_MESSAGE : Addr) (w_OFFER : Addr) (w_SHARE : Addr) (w_DECLINE : Addr) (w_ANNOUNCE : Addr) (w_DATA : Addr) (w_GRANT : Addr) (w_TAKEN : Addr) (w_REFUSE : Addr) (w_LEAVE : Addr) (w_CODES : Addr) (cl_CODES : Cell) (p0 : Int32) (h0 : Heap) (n0 : Nat) (Z0 : n0 ≤ h0.size) (P : Pins Z h0 w_MESSAGE w_OFFER w_SHARE w_DECLINE w_ANNOUNCE w_DATA w_GRANT w_TAKEN w_REFUSE w_LEAVE w_CODES cl_CODES) (k0 : ((p0 &&& (2147483647 : Int32)) % (10 : Int32)) = (5 : Int32)) :
    MetFree l x (head1 (Jvm.Cond.code x code maxLocals ret :: ws) room_1) (fun a U => a = #[(.int p0)] ∧ Z.Warmed39 U.vm ∧ U.heap = h0) (fun _ _ _ _ _ => True) (fun _ U o U' => ∃ v L, o = .returned v ∧ QP h0 n0 (some (.int (1 : Int32))) v U'.heap L ∧ FrameEnd U o U' L room_1.cells room_1.slots) := by
  refine MetFree.of_bodySF (plainFor_of_name pn_swiftwire_KindTailBytesPinLaw) hisR ?_
  intro p e s m args below meth c s₁ Bd hml0 hP hK
  obtain ⟨rfl, hZ, hh⟩ := hP
  have hx := Bd.exec
  have hby := Bd.bytes
  have hml : c.maxLocals = 4 := hml0
  have hown : s.vm.findClass "swiftwire/KindTailBytesPinLaw" = some m.cls := findClass_of_methodNamed Bd.named
  have X0 : Stand p l e room_1 s m #[(.int p0)] below meth c s₁ [] 0 0 := Stand.of_body Bd
  have e0 : s₁.heap = h0 := by rw [← hh, Bd.state]; rfl
  have N0 := Fr.nil n0
  have pre0 : ∀ t, Steps p.tables e below (s₁.setTop (mkF m 0 #[.val (.int p0), .unset, .unset, .unset] [])) t → Steps p.tables e below (s₁.setTop (entryFrame m #[(.int p0)] maxLocals)) t := fun t k => castTop (ef_0_I m p0) k
  have E_w_REFUSE : Exa Z h0 w_REFUSE "swiftwire/FrameHeader$Kind" := P.2.2.2.2.2.2.2.2.2.2.2.2.2.2.2.2.2.1
  obtain ⟨_, _, ⟨T1, L1, k1, n1⟩, -, X1, ⟨Lc1, hQ1, l1, y1, z1⟩, st1⟩ := Jvm.LawKit.callS X0 hx (y := (⟨"swiftwire/FrameHeader", "kind", "(II)Lswiftwire/FrameHeader$Kind;"⟩ : MethodName)) hown (mvT hZ (hw _ (List.mem_of_getElem? (i := 1) rfl))) (mvT hZ (hw _ (List.mem_of_getElem? (i := 2) rfl))) (mvT hZ (hw _ (List.mem_of_getElem? (i := 3) rfl))) (mvT hZ (hw _ (List.mem_of_getElem? (i := 4) rfl))) (by decide) (backOf (W := 0) (rm1_5 l Z a0 hw [] w_MESSAGE w_OFFER w_SHARE w_DECLINE w_ANNOUNCE w_DATA w_GRANT w_TAKEN w_REFUSE w_LEAVE w_CODES cl_CODES h0 n0 Z0 P) hZ (hw _ (List.mem_of_getElem? (i := 4) rfl)) (hw _ (List.mem_of_getElem? (i := 3) rfl)) (by decide) (by decide)) (g := (mkF m 10 #[.val (.int p0), .val (.int (5 : Int32)), .unset, .unset] [(.int (0 : Int32)), (.int (5 : Int32))])) rfl (by rw [hml]; rfl) (argsL := [(.int (5 : Int32)), (.int (0 : Int32))]) (rest := []) (lenOf pd_0 rfl) rfl (by show 2 * 0 + _ ≤ _; exact Nat.le_of_eq rfl) (hb hby at_10) (fun _ _ => ⟨rfl, e0, (by decide : 0 + 0 ≤ _), (by decide : 0 + 0 ≤ _)⟩)
  dsimp only [Pt.U, Pt.locs, Pt.cells, Pt.slots] at X1 l1 y1 z1 st1 hQ1
  subst l1 y1 z1
  obtain ⟨rfl, N1q, e1⟩ := hQ1
  have N1 := Fr.app N0 N1q
  obtain ⟨cq2, kq2, q2a, q2b, q2c⟩ := isOf hZ e1 E_w_REFUSE
  obtain ⟨_, _, ⟨T2, L2, k2, n2⟩, -, X2, ⟨Lc2, hQ2, l2, y2, z2⟩, st2⟩ := X1.virtualBackUp hx (owner := "java/lang/Enum") (x := (⟨"swiftwire/FrameHeader$Kind", "ordinal", "()I"⟩ : MethodName)) (y := (⟨"java/lang/Enum", "ordinal", "()I"⟩ : MethodName)) hown (mvT hZ (hw _ (List.mem_of_getElem? (i := 9) rfl))) (mvT hZ (hw _ (List.mem_of_getElem? (i := 10) rfl))) (mvT hZ (hw _ (List.mem_of_getElem? (i := 11) rfl))) (by decide) (mvT hZ (hw _ (List.mem_of_getElem? (i := 13) rfl))) (mvT hZ (hw _ (List.mem_of_getElem? (i := 12) rfl))) (backOf (W := 0) (rm2_5 l Z a0 hw [] w_MESSAGE w_OFFER w_SHARE w_DECLINE w_ANNOUNCE w_DATA w_GRANT w_TAKEN w_REFUSE w_LEAVE w_CODES cl_CODES h0 n0 Z0 P) hZ (hw _ (List.mem_of_getElem? (i := 15) rfl)) (hw _ (List.mem_of_getElem? (i := 14) rfl)) (by decide) (by decide)) q2a q2c (g := (mkF m 38 #[.val (.int p0), .val (.int (5 : Int32)), .val (.ref w_REFUSE), .val (.int (0 : Int32))] [(.ref w_REFUSE)])) rfl (by rw [hml]; rfl) (Steps.refl _) (argsL := []) (rest := []) (lenOf pd_1 rfl) rfl (by show 2 * 0 + _ ≤ _; exact Nat.le_of_eq rfl) (hb hby at_38) (fun _ _ => ⟨rfl, e1, (by decide : 0 + 0 ≤ _), (by decide : 0 + 0 ≤ _)⟩)
  dsimp only [Pt.U, Pt.locs, Pt.cells, Pt.slots] at X2 l2 y2 z2 st2 hQ2
  subst l2 y2 z2
  obtain ⟨rfl, N2q, e2⟩ := hQ2
  have N2 := Fr.app N1 N2q
  obtain ⟨cq3, kq3, q3a, q3b, q3c⟩ := isOf hZ e2 E_w_REFUSE
  obtain ⟨_, _, ⟨T3, L3, k3, n3⟩, -, X3, ⟨Lc3, hQ3, l3, y3, z3⟩, st3⟩ := X2.virtualBack hx (y := (⟨"swiftwire/FrameHeader$Kind", "tailBytes", "()I"⟩ : MethodName)) (z := (⟨"swiftwire/FrameHeader$Kind", "tailBytes", "()I"⟩ : MethodName)) hown (mvT hZ (hw _ (List.mem_of_getElem? (i := 18) rfl))) (mvT hZ (hw _ (List.mem_of_getElem? (i := 19) rfl))) (notFace_of_selects (args := #[]) (mvT hZ (hw _ (List.mem_of_getElem? (i := 21) rfl)))) (mvT hZ (hw _ (List.mem_of_getElem? (i := 21) rfl))) (mvT hZ (hw _ (List.mem_of_getElem? (i := 20) rfl))) (by decide) (backOf (W := 0) (rm3_5 l Z a0 hw [] w_MESSAGE w_OFFER w_SHARE w_DECLINE w_ANNOUNCE w_DATA w_GRANT w_TAKEN w_REFUSE w_LEAVE w_CODES cl_CODES h0 n0 Z0 P) hZ (hw _ (List.mem_of_getElem? (i := 22) rfl)) (hw _ (List.mem_of_getElem? (i := 6) rfl)) (by decide) (by decide)) q3a q3c (g := (mkF m 46 #[.val (.int p0), .val (.int (5 : Int32)), .val (.ref w_REFUSE), .val (.int (0 : Int32))] [(.ref w_REFUSE)])) rfl (by rw [hml]; rfl) (Steps.refl _) (argsL := []) (rest := []) (lenOf pd_1 rfl) rfl (by show 2 * 0 + _ ≤ _; exact Nat.le_of_eq rfl) (hb hby at_46) (fun _ _ => ⟨rfl, e2, (by decide : 0 + 0 ≤ _), (by decide : 0 + 0 ≤ _)⟩)
  dsimp only [Pt.U, Pt.locs, Pt.cells, Pt.slots] at X3 l3 y3 z3 st3 hQ3
  subst l3 y3 z3
  obtain ⟨rfl, N3q, e3⟩ := hQ3
  have N3 := Fr.app N2 N3q
  obtain ⟨fs, hr, hrun, hended, hW, hsame⟩ := X3.leave (v := some (.int (1 : Int32))) (fun h => by rw [Bd.returns] at h; cases h)
  refine ⟨_, _, pre0 _ ?_, hrun, hended, _, _, rfl, ?_, ⟨_, rfl⟩, hW, hsame.mono (by decide) (by decide)⟩
  · show Steps p.tables e below (s₁.setTop (mkF m 0 #[.val (.int p0), .unset, .unset, .unset] [])) _
    refine XS.iloadN X0.here hx rfl (hb hby at_0) rfl ?_
    show Steps p.tables e below (s₁.setTop (mkF m 1 #[.val (.int p0), .unset, .unset, .unset] [(.int p0)])) _
    refine Jvm.Stand.ldcI X0 hx hown (mvT hZ (hw _ (List.mem_of_getElem? (i := 0) rfl))) rfl (hb hby at_1) ?_
    show Steps p.tables e below (s₁.setTop (mkF m 3 #[.val (.int p0), .unset, .unset, .unset] [(.int (2147483647 : Int32)), (.int p0)])) _
    refine XS.iand X0.here hx rfl (hb hby at_3) rfl ?_
    show Steps p.tables e below (s₁.setTop (mkF m 4 #[.val (.int p0), .unset, .unset, .unset] [(.int (p0 &&& (2147483647 : Int32)))])) _
    refine XS.bipush X0.here hx rfl (hb hby at_4) ?_
    show Steps p.tables e below (s₁.setTop (mkF m 6 #[.val (.int p0), .unset, .unset, .unset] [(.int (10 : Int32)), (.int (p0 &&& (2147483647 : Int32)))])) _
    refine iremM X0 hx rfl (hb hby at_6) rfl (by decide) ?_
    show Steps p.tables e below (s₁.setTop (mkF m 7 #[.val (.int p0), .unset, .unset, .unset] [(.int ((p0 &&& (2147483647 : Int32)) % (10 : Int32)))])) _
    rw [k0]
    show Steps p.tables e below (s₁.setTop (mkF m 7 #[.val (.int p0), .unset, .unset, .unset] [(.int (5 : Int32))])) _
    refine XS.istoreN X0.here hx rfl (hb hby at_7) rfl (l' := #[.val (.int p0), .val (.int (5 : Int32)), .unset, .unset]) rfl ?_
    show Steps p.tables e below (s₁.setTop (mkF m 8 #[.val (.int p0), .val (.int (5 : Int32)), .unset, .unset] [])) _
    refine XS.iloadN X0.here hx rfl (hb hby at_8) rfl ?_
    show Steps p.tables e below (s₁.setTop (mkF m 9 #[.val (.int p0), .val (.int (5 : Int32)), .unset, .unset] [(.int (5 : Int32))])) _
    refine XS.iconst X0.here hx rfl (hb hby at_9) ?_
    show Steps p.tables e below (s₁.setTop (mkF m 10 #[.val (.int p0), .val (.int (5 : Int32)), .unset, .unset] [(.int (0 : Int32)), (.int (5 : Int32))])) _
    refine st1 _ ?_
    show Steps p.tables e below (T1.setTop (mkF m 13 #[.val (.int p0), .val (.int (5 : Int32)), .unset, .unset] [(.ref w_REFUSE)])) _
    refine XS.astoreN X1.here hx rfl (hb hby at_13) rfl rfl (l' := #[.val (.int p0), .val (.int (5 : Int32)), .val (.ref w_REFUSE), .unset]) rfl ?_
    show Steps p.tables e below (T1.setTop (mkF m 14 #[.val (.int p0), .val (.int (5 : Int32)), .val (.ref w_REFUSE), .unset] [])) _
    refine XS.iconst X1.here hx rfl (hb hby at_14) ?_
    show Steps p.tables e below (T1.setTop (mkF m 15 #[.val (.int p0), .val (.int (5 : Int32)), .val (.ref w_REFUSE), .unset] [(.int (0 : Int32))])) _
    refine XS.istoreN X1.here hx rfl (hb hby at_15) rfl (l' := #[.val (.int p0), .val (.int (5 : Int32)), .val (.ref w_REFUSE), .val (.int (0 : Int32))]) rfl ?_
    show Steps p.tables e below (T1.setTop (mkF m 16 #[.val (.int p0), .val (.int (5 : Int32)), .val (.ref w_REFUSE), .val (.int (0 : Int32))] [])) _
    refine XS.iloadN X1.here hx rfl (hb hby at_16) rfl ?_
    show Steps p.tables e below (T1.setTop (mkF m 17 #[.val (.int p0), .val (.int (5 : Int32)), .val (.ref w_REFUSE), .val (.int (0 : Int32))] [(.int (5 : Int32))])) _
    refine XS.bipush X1.here hx rfl (hb hby at_17) ?_
    show Steps p.tables e below (T1.setTop (mkF m 19 #[.val (.int p0), .val (.int (5 : Int32)), .val (.ref w_REFUSE), .val (.int (0 : Int32))] [(.int (7 : Int32)), (.int (5 : Int32))])) _
    refine XS.icmpYes X1.here hx rfl (pc0 := 19) (pc' := 28) rfl (hb hby at_19) rfl (by decide) (by decide) (by decide) ?_
    show Steps p.tables e below (T1.setTop (mkF m 28 #[.val (.int p0), .val (.int (5 : Int32)), .val (.ref w_REFUSE), .val (.int (0 : Int32))] [])) _
    refine XS.iloadN X1.here hx rfl (hb hby at_28) rfl ?_
    show Steps p.tables e below (T1.setTop (mkF m 29 #[.val (.int p0), .val (.int (5 : Int32)), .val (.ref w_REFUSE), .val (.int (0 : Int32))] [(.int (5 : Int32))])) _
    refine XS.bipush X1.here hx rfl (hb hby at_29) ?_
    show Steps p.tables e below (T1.setTop (mkF m 31 #[.val (.int p0), .val (.int (5 : Int32)), .val (.ref w_REFUSE), .val (.int (0 : Int32))] [(.int (9 : Int32)), (.int (5 : Int32))])) _
    refine XS.icmpYes X1.here hx rfl (pc0 := 31) (pc' := 37) rfl (hb hby at_31) rfl (by decide) (by decide) (by decide) ?_
    show Steps p.tables e below (T1.setTop (mkF m 37 #[.val (.int p0), .val (.int (5 : Int32)), .val (.ref w_REFUSE), .val (.int (0 : Int32))] [])) _
    refine XS.aloadN X1.here hx rfl (hb hby at_37) rfl rfl ?_
    show Steps p.tables e below (T1.setTop (mkF m 38 #[.val (.int p0), .val (.int (5 : Int32)), .val (.ref w_REFUSE), .val (.int (0 : Int32))] [(.ref w_REFUSE)])) _
    refine st2.trans ?_
    show Steps p.tables e below (T2.setTop (mkF m 41 #[.val (.int p0), .val (.int (5 : Int32)), .val (.ref w_REFUSE), .val (.int (0 : Int32))] [(.int (5 : Int32))])) _
    refine XS.iloadN X2.here hx rfl (hb hby at_41) rfl ?_
    show Steps p.tables e below (T2.setTop (mkF m 42 #[.val (.int p0), .val (.int (5 : Int32)), .val (.ref w_REFUSE), .val (.int (0 : Int32))] [(.int (5 : Int32)), (.int (5 : Int32))])) _
    refine XS.icmpNo X2.here hx rfl (hb hby at_42) rfl (by decide) ?_
    show Steps p.tables e below (T2.setTop (mkF m 45 #[.val (.int p0), .val (.int (5 : Int32)), .val (.ref w_REFUSE), .val (.int (0 : Int32))] [])) _
    refine XS.aloadN X2.here hx rfl (hb hby at_45) rfl rfl ?_
    show Steps p.tables e below (T2.setTop (mkF m 46 #[.val (.int p0), .val (.int (5 : Int32)), .val (.ref w_REFUSE), .val (.int (0 : Int32))] [(.ref w_REFUSE)])) _
    refine st3.trans ?_
    show Steps p.tables e below (T3.setTop (mkF m 49 #[.val (.int p0), .val (.int (5 : Int32)), .val (.ref w_REFUSE), .val (.int (0 : Int32))] [(.int (0 : Int32))])) _
    refine XS.iloadN X3.here hx rfl (hb hby at_49) rfl ?_
    show Steps p.tables e below (T3.setTop (mkF m 50 #[.val (.int p0), .val (.int (5 : Int32)), .val (.ref w_REFUSE), .val (.int (0 : Int32))] [(.int (0 : Int32)), (.int (0 : Int32))])) _
    refine XS.icmpNo X3.here hx rfl (hb hby at_50) rfl (by decide) ?_
    show Steps p.tables e below (T3.setTop (mkF m 53 #[.val (.int p0), .val (.int (5 : Int32)), .val (.ref w_REFUSE), .val (.int (0 : Int32))] [])) _
    refine XS.iconst X3.here hx rfl (hb hby at_53) ?_
    show Steps p.tables e below (T3.setTop (mkF m 54 #[.val (.int p0), .val (.int (5 : Int32)), .val (.ref w_REFUSE), .val (.int (0 : Int32))] [(.int (1 : Int32))])) _
    refine XS.goto X3.here hx rfl (pc0 := 54) (pc' := 58) rfl (hb hby at_54) (by decide) (by decide) ?_
    show Steps p.tables e below (T3.setTop (mkF m 58 #[.val (.int p0), .val (.int (5 : Int32)), .val (.ref w_REFUSE), .val (.int (0 : Int32))] [(.int (1 : Int32))])) _
    exact retN X3 hx (t := .boolean) Bd.returns (by simp) (hb hby at_58) hr
  · exact ⟨rfl, N3, e3⟩
set_option maxRecDepth 65536 in
set_option maxHeartbeats 40000000 in
theorem rm1_6 (l : Launch) (Z : State) (a0 : Array Value) (hw : ∀ d ∈ tables_1, d.before a0 Z = true) (ws : List Jvm.Cond) (w_MESSAGE : Addr) (w_OFFER : Addr) (w_SHARE : Addr) (w_DECLINE : Addr) (w_ANNOUNCE : Addr) (w_DATA : Addr) (w_GRANT : Addr) (w_TAKEN : Addr) (w_REFUSE : Addr) (w_LEAVE : Addr) (w_CODES : Addr) (cl_CODES : Cell) (h0 : Heap) (n0 : Nat) (Z0 : n0 ≤ h0.size) (P : Pins Z h0 w_MESSAGE w_OFFER w_SHARE w_DECLINE w_ANNOUNCE w_DATA w_GRANT w_TAKEN w_REFUSE w_LEAVE w_CODES cl_CODES) :
    MetFree l (⟨"swiftwire/FrameHeader", "kind", "(II)Lswiftwire/FrameHeader$Kind;"⟩ : MethodName) (head1 (Jvm.Cond.code (⟨"swiftwire/FrameHeader", "kind", "(II)Lswiftwire/FrameHeader$Kind;"⟩ : MethodName) prog_50_method_7_code 2 (some (.object "swiftwire/FrameHeader$Kind")) :: ws) ({ frames := 0, cells := 0, slots := 0, locals := 0 } : Room)) (fun a U => a = #[(.int (6 : Int32)), (.int (0 : Int32))] ∧ Z.Warmed39 U.vm ∧ U.heap = h0) (fun _ _ _ _ _ => True) (fun _ U o U' => ∃ v L, o = .returned v ∧ QP h0 n0 (some (.ref w_LEAVE)) v U'.heap L ∧ FrameEnd U o U' L ({ frames := 0, cells := 0, slots := 0, locals := 0 } : Room).cells ({ frames := 0, cells := 0, slots := 0, locals := 0 } : Room).slots) := by
  refine MetFree.of_bodySF (plainFor_of_name pn_swiftwire_FrameHeader) hisR ?_
  intro p e s m args below meth c s₁ Bd hml0 hP hK
  obtain ⟨rfl, hZ, hh⟩ := hP
  have hx := Bd.exec
  have hby := Bd.bytes
  have hml : c.maxLocals = 2 := hml0
  have hown : s.vm.findClass "swiftwire/FrameHeader" = some m.cls := findClass_of_methodNamed Bd.named
  have X0 : Stand p l e ({ frames := 0, cells := 0, slots := 0, locals := 0 } : Room) s m #[(.int (6 : Int32)), (.int (0 : Int32))] below meth c s₁ [] 0 0 := Stand.of_body Bd
  have e0 : s₁.heap = h0 := by rw [← hh, Bd.state]; rfl
  have N0 := Fr.nil n0
  have pre0 : ∀ t, Steps p.tables e below (s₁.setTop (mkF m 0 #[.val (.int (6 : Int32)), .val (.int (0 : Int32))] [])) t → Steps p.tables e below (s₁.setTop (entryFrame m #[(.int (6 : Int32)), (.int (0 : Int32))] 2)) t := fun t k => castTop (ef_1_II m (6 : Int32) (0 : Int32)) k
  have S_w_CODES : Sta Z h0 "swiftwire/FrameHeader$Kind" "CODES" "[Lswiftwire/FrameHeader$Kind;" (.ref w_CODES) := P.2.2.2.2.2.2.2.2.2.2.2.2.2.2.2.2.2.2.2.2.2.2.2.2.2.2.2.2.2.2.1
  have A_w_CODES : Arr Z h0 w_CODES cl_CODES (.object "swiftwire/FrameHeader$Kind") := P.2.2.2.2.2.2.2.2.2.2.2.2.2.2.2.2.2.2.2.2.2.2.2.2.2.2.2.2.2.2.2.1
  have Z_w_CODES : cl_CODES.slots.size = 10 := P.2.2.2.2.2.2.2.2.2.2.2.2.2.2.2.2.2.2.2.2.2.2.2.2.2.2.2.2.2.2.2.2.1
  have G_6 : cl_CODES.slots[(6 : Int32).toNatClampNeg]? = some (.ref w_LEAVE) := P.2.2.2.2.2.2.2.2.2.2.2.2.2.2.2.2.2.2.2.2.2.2.2.2.2.2.2.2.2.2.2.2.2.2.2.2.2.2.2.2.2.2
  obtain ⟨T1, X1, e1, st1⟩ := own_getSR X0 hx hZ hown (hw _ (List.mem_of_getElem? (i := 5) rfl)) e0 S_w_CODES (g := (mkF m 5 #[.val (.int (6 : Int32)), .val (.int (0 : Int32))] [(.int (6 : Int32))])) rfl (hb hby d1_5)
  obtain ⟨T2, X2, e2, st2⟩ := own_getSR X1 hx hZ hown (hw _ (List.mem_of_getElem? (i := 5) rfl)) e1 S_w_CODES (g := (mkF m 44 #[.val (.int (6 : Int32)), .val (.int (0 : Int32))] [])) rfl (hb hby d1_44)
  obtain ⟨fs, hr, hrun, hended, hW, hsame⟩ := X2.leave (v := some (.ref w_LEAVE)) (fun h => by rw [Bd.returns] at h; cases h)
  refine ⟨_, _, pre0 _ ?_, hrun, hended, _, _, rfl, ?_, ⟨_, rfl⟩, hW, hsame.mono (by decide) (by decide)⟩
  · show Steps p.tables e below (s₁.setTop (mkF m 0 #[.val (.int (6 : Int32)), .val (.int (0 : Int32))] [])) _
    refine XS.iloadN X0.here hx rfl (hb hby d1_0) rfl ?_
    show Steps p.tables e below (s₁.setTop (mkF m 1 #[.val (.int (6 : Int32)), .val (.int (0 : Int32))] [(.int (6 : Int32))])) _
    refine XS.ifNo X0.here hx rfl (hb hby d1_1) rfl (by decide) ?_
    show Steps p.tables e below (s₁.setTop (mkF m 4 #[.val (.int (6 : Int32)), .val (.int (0 : Int32))] [])) _
    refine XS.iloadN X0.here hx rfl (hb hby d1_4) rfl ?_
    show Steps p.tables e below (s₁.setTop (mkF m 5 #[.val (.int (6 : Int32)), .val (.int (0 : Int32))] [(.int (6 : Int32))])) _
    refine st1 _ ?_
    show Steps p.tables e below (T1.setTop (mkF m 8 #[.val (.int (6 : Int32)), .val (.int (0 : Int32))] [(.ref w_CODES), (.int (6 : Int32))])) _
    refine X1.arraylength hx (by rw [e1]; exact A_w_CODES.1) (State.isArrayOf_alike hZ.alike A_w_CODES.2.1) (g := (mkF m 8 #[.val (.int (6 : Int32)), .val (.int (0 : Int32))] [(.ref w_CODES), (.int (6 : Int32))])) rfl rfl (hb hby d1_8) _ ?_
    rw [show cl_CODES.slots.size.toInt32 = (10 : Int32) from by rw [Z_w_CODES]; decide]
    show Steps p.tables e below (T1.setTop (mkF m 9 #[.val (.int (6 : Int32)), .val (.int (0 : Int32))] [(.int (10 : Int32)), (.int (6 : Int32))])) _
    refine XS.icmpYes X1.here hx rfl (pc0 := 9) (pc' := 26) rfl (hb hby d1_9) rfl (by decide) (by decide) (by decide) ?_
    show Steps p.tables e below (T1.setTop (mkF m 26 #[.val (.int (6 : Int32)), .val (.int (0 : Int32))] [])) _
    refine XS.iloadN X1.here hx rfl (hb hby d1_26) rfl ?_
    show Steps p.tables e below (T1.setTop (mkF m 27 #[.val (.int (6 : Int32)), .val (.int (0 : Int32))] [(.int (0 : Int32))])) _
    refine XS.ifYes X1.here hx rfl (pc0 := 27) (pc' := 44) rfl (hb hby d1_27) rfl (by decide) (by decide) (by decide) ?_
    show Steps p.tables e below (T1.setTop (mkF m 44 #[.val (.int (6 : Int32)), .val (.int (0 : Int32))] [])) _
    refine st2 _ ?_
    show Steps p.tables e below (T2.setTop (mkF m 47 #[.val (.int (6 : Int32)), .val (.int (0 : Int32))] [(.ref w_CODES)])) _
    refine XS.iloadN X2.here hx rfl (hb hby d1_47) rfl ?_
    show Steps p.tables e below (T2.setTop (mkF m 48 #[.val (.int (6 : Int32)), .val (.int (0 : Int32))] [(.int (6 : Int32)), (.ref w_CODES)])) _
    refine X2.aaload hx (j := (6 : Int32)) (v := (.ref w_LEAVE)) (by rw [e2]; exact A_w_CODES.1) (State.isArrayOf_alike hZ.alike A_w_CODES.2.1) rfl A_w_CODES.2.2 (by rw [Z_w_CODES]; decide) G_6 (g := (mkF m 48 #[.val (.int (6 : Int32)), .val (.int (0 : Int32))] [(.int (6 : Int32)), (.ref w_CODES)])) rfl rfl (hb hby d1_48) _ ?_
    show Steps p.tables e below (T2.setTop (mkF m 49 #[.val (.int (6 : Int32)), .val (.int (0 : Int32))] [(.ref w_LEAVE)])) _
    exact retOut X2 hx Bd.returns rfl (Or.inr (Or.inr (Or.inr (Or.inr ⟨rfl, rfl, rfl⟩)))) (hb hby d1_49) hr
  · exact ⟨rfl, N0, e2⟩
set_option maxRecDepth 65536 in
set_option maxHeartbeats 40000000 in
theorem rm2_6 (l : Launch) (Z : State) (a0 : Array Value) (hw : ∀ d ∈ tables_1, d.before a0 Z = true) (ws : List Jvm.Cond) (w_MESSAGE : Addr) (w_OFFER : Addr) (w_SHARE : Addr) (w_DECLINE : Addr) (w_ANNOUNCE : Addr) (w_DATA : Addr) (w_GRANT : Addr) (w_TAKEN : Addr) (w_REFUSE : Addr) (w_LEAVE : Addr) (w_CODES : Addr) (cl_CODES : Cell) (h0 : Heap) (n0 : Nat) (Z0 : n0 ≤ h0.size) (P : Pins Z h0 w_MESSAGE w_OFFER w_SHARE w_DECLINE w_ANNOUNCE w_DATA w_GRANT w_TAKEN w_REFUSE w_LEAVE w_CODES cl_CODES) :
    MetFree l (⟨"java/lang/Enum", "ordinal", "()I"⟩ : MethodName) (head1 (Jvm.Cond.code (⟨"java/lang/Enum", "ordinal", "()I"⟩ : MethodName) jdk_37_method_2_code 1 (some .int) :: ws) ({ frames := 0, cells := 0, slots := 0, locals := 0 } : Room)) (fun a U => a = #[(.ref w_LEAVE)] ∧ Z.Warmed39 U.vm ∧ U.heap = h0) (fun _ _ _ _ _ => True) (fun _ U o U' => ∃ v L, o = .returned v ∧ QP h0 n0 (some (.int (6 : Int32))) v U'.heap L ∧ FrameEnd U o U' L ({ frames := 0, cells := 0, slots := 0, locals := 0 } : Room).cells ({ frames := 0, cells := 0, slots := 0, locals := 0 } : Room).slots) := by
  refine MetFree.of_bodySF (plainFor_of_name pn_java_lang_Enum) hisR ?_
  intro p e s m args below meth c s₁ Bd hml0 hP hK
  obtain ⟨rfl, hZ, hh⟩ := hP
  have hx := Bd.exec
  have hby := Bd.bytes
  have hml : c.maxLocals = 1 := hml0
  have hown : s.vm.findClass "java/lang/Enum" = some m.cls := findClass_of_methodNamed Bd.named
  have X0 : Stand p l e ({ frames := 0, cells := 0, slots := 0, locals := 0 } : Room) s m #[(.ref w_LEAVE)] below meth c s₁ [] 0 0 := Stand.of_body Bd
  have e0 : s₁.heap = h0 := by rw [← hh, Bd.state]; rfl
  have N0 := Fr.nil n0
  have pre0 : ∀ t, Steps p.tables e below (s₁.setTop (mkF m 0 #[.val (.ref w_LEAVE)] [])) t → Steps p.tables e below (s₁.setTop (entryFrame m #[(.ref w_LEAVE)] 1)) t := fun t k => castTop (ef_2_R m w_LEAVE) k
  have F_w_LEAVE_ordinal : Fld Z h0 w_LEAVE "java/lang/Enum" "ordinal" "I" (.int (6 : Int32)) := P.2.2.2.2.2.2.2.2.2.2.2.2.2.2.2.2.2.2.2.2.2.2.2.2.2.2.2.2.2.1
  obtain ⟨T1, X1, e1, st1⟩ := getF X0 hx hZ hown (host := "") (Or.inl (hw _ (List.mem_of_getElem? (i := 16) rfl))) Via.refl e0 F_w_LEAVE_ordinal (g := (mkF m 1 #[.val (.ref w_LEAVE)] [(.ref w_LEAVE)])) rfl rfl (hb hby d2_1)
  obtain ⟨fs, hr, hrun, hended, hW, hsame⟩ := X1.leave (v := some (.int (6 : Int32))) (fun h => by rw [Bd.returns] at h; cases h)
  refine ⟨_, _, pre0 _ ?_, hrun, hended, _, _, rfl, ?_, ⟨_, rfl⟩, hW, hsame.mono (by decide) (by decide)⟩
  · show Steps p.tables e below (s₁.setTop (mkF m 0 #[.val (.ref w_LEAVE)] [])) _
    refine XS.aloadN X0.here hx rfl (hb hby d2_0) rfl rfl ?_
    show Steps p.tables e below (s₁.setTop (mkF m 1 #[.val (.ref w_LEAVE)] [(.ref w_LEAVE)])) _
    refine st1 _ ?_
    show Steps p.tables e below (T1.setTop (mkF m 4 #[.val (.ref w_LEAVE)] [(.int (6 : Int32))])) _
    exact retI X1 hx Bd.returns (hb hby d2_4) hr
  · exact ⟨rfl, N0, e1⟩
set_option maxRecDepth 65536 in
set_option maxHeartbeats 40000000 in
theorem rm3_6 (l : Launch) (Z : State) (a0 : Array Value) (hw : ∀ d ∈ tables_1, d.before a0 Z = true) (ws : List Jvm.Cond) (w_MESSAGE : Addr) (w_OFFER : Addr) (w_SHARE : Addr) (w_DECLINE : Addr) (w_ANNOUNCE : Addr) (w_DATA : Addr) (w_GRANT : Addr) (w_TAKEN : Addr) (w_REFUSE : Addr) (w_LEAVE : Addr) (w_CODES : Addr) (cl_CODES : Cell) (h0 : Heap) (n0 : Nat) (Z0 : n0 ≤ h0.size) (P : Pins Z h0 w_MESSAGE w_OFFER w_SHARE w_DECLINE w_ANNOUNCE w_DATA w_GRANT w_TAKEN w_REFUSE w_LEAVE w_CODES cl_CODES) :
    MetFree l (⟨"swiftwire/FrameHeader$Kind", "tailBytes", "()I"⟩ : MethodName) (head1 (Jvm.Cond.code (⟨"swiftwire/FrameHeader$Kind", "tailBytes", "()I"⟩ : MethodName) prog_51_method_6_code 2 (some .int) :: ws) ({ frames := 0, cells := 0, slots := 0, locals := 0 } : Room)) (fun a U => a = #[(.ref w_LEAVE)] ∧ Z.Warmed39 U.vm ∧ U.heap = h0) (fun _ _ _ _ _ => True) (fun _ U o U' => ∃ v L, o = .returned v ∧ QP h0 n0 (some (.int (0 : Int32))) v U'.heap L ∧ FrameEnd U o U' L ({ frames := 0, cells := 0, slots := 0, locals := 0 } : Room).cells ({ frames := 0, cells := 0, slots := 0, locals := 0 } : Room).slots) := by
  refine MetFree.of_bodySF (plainFor_of_name pn_swiftwire_FrameHeader_Kind) hisR ?_
  intro p e s m args below meth c s₁ Bd hml0 hP hK
  obtain ⟨rfl, hZ, hh⟩ := hP
  have hx := Bd.exec
  have hby := Bd.bytes
  have hml : c.maxLocals = 2 := hml0
  have hown : s.vm.findClass "swiftwire/FrameHeader$Kind" = some m.cls := findClass_of_methodNamed Bd.named
  have X0 : Stand p l e ({ frames := 0, cells := 0, slots := 0, locals := 0 } : Room) s m #[(.ref w_LEAVE)] below meth c s₁ [] 0 0 := Stand.of_body Bd
  have e0 : s₁.heap = h0 := by rw [← hh, Bd.state]; rfl
  have N0 := Fr.nil n0
  have pre0 : ∀ t, Steps p.tables e below (s₁.setTop (mkF m 0 #[.val (.ref w_LEAVE), .unset] [])) t → Steps p.tables e below (s₁.setTop (entryFrame m #[(.ref w_LEAVE)] 2)) t := fun t k => castTop (ef_3_R m w_LEAVE) k
  have S_w_OFFER : Sta Z h0 "swiftwire/FrameHeader$Kind" "OFFER" "Lswiftwire/FrameHeader$Kind;" (.ref w_OFFER) := P.2.2.1
  have F_w_LEAVE_ordinal : Fld Z h0 w_LEAVE "java/lang/Enum" "ordinal" "I" (.int (6 : Int32)) := P.2.2.2.2.2.2.2.2.2.2.2.2.2.2.2.2.2.2.2.2.2.2.2.2.2.2.2.2.2.1
  have F_w_OFFER_ordinal : Fld Z h0 w_OFFER "java/lang/Enum" "ordinal" "I" (.int (7 : Int32)) := P.2.2.2.2.2.2.2.2.2.2.2.2.2.2.2.2.2.2.2.2.2.1
  have S_w_SHARE : Sta Z h0 "swiftwire/FrameHeader$Kind" "SHARE" "Lswiftwire/FrameHeader$Kind;" (.ref w_SHARE) := P.2.2.2.2.1
  have F_w_SHARE_ordinal : Fld Z h0 w_SHARE "java/lang/Enum" "ordinal" "I" (.int (9 : Int32)) := P.2.2.2.2.2.2.2.2.2.2.2.2.2.2.2.2.2.2.2.2.2.2.1
  obtain ⟨T1, X1, e1, st1⟩ := getS2 X0 hx hZ hown (host := "") (Or.inl (hw _ (List.mem_of_getElem? (i := 23) rfl))) Via.refl e0 S_w_OFFER (g := (mkF m 3 #[.val (.ref w_LEAVE), .val (.int (0 : Int32))] [(.ref w_LEAVE)])) rfl (hb hby d3_3)
  obtain ⟨T2, X2, e2, st2⟩ := getS2 X1 hx hZ hown (host := "") (Or.inl (hw _ (List.mem_of_getElem? (i := 25) rfl))) Via.refl e1 S_w_SHARE (g := (mkF m 16 #[.val (.ref w_LEAVE), .val (.int (0 : Int32))] [(.ref w_LEAVE)])) rfl (hb hby d3_16)
  obtain ⟨fs, hr, hrun, hended, hW, hsame⟩ := X2.leave (v := some (.int (0 : Int32))) (fun h => by rw [Bd.returns] at h; cases h)
  refine ⟨_, _, pre0 _ ?_, hrun, hended, _, _, rfl, ?_, ⟨_, rfl⟩, hW, hsame.mono (by decide) (by decide)⟩
  · show Steps p.tables e below (s₁.setTop (mkF m 0 #[.val (.ref w_LEAVE), .unset] [])) _
    refine XS.iconst X0.here hx rfl (hb hby d3_0) ?_
    show Steps p.tables e below (s₁.setTop (mkF m 1 #[.val (.ref w_LEAVE), .unset] [(.int (0 : Int32))])) _
    refine XS.istoreN X0.here hx rfl (hb hby d3_1) rfl (l' := #[.val (.ref w_LEAVE), .val (.int (0 : Int32))]) rfl ?_
    show Steps p.tables e below (s₁.setTop (mkF m 2 #[.val (.ref w_LEAVE), .val (.int (0 : Int32))] [])) _
    refine XS.aloadN X0.here hx rfl (hb hby d3_2) rfl rfl ?_
    show Steps p.tables e below (s₁.setTop (mkF m 3 #[.val (.ref w_LEAVE), .val (.int (0 : Int32))] [(.ref w_LEAVE)])) _
    refine st1 _ ?_
    show Steps p.tables e below (T1.setTop (mkF m 6 #[.val (.ref w_LEAVE), .val (.int (0 : Int32))] [(.ref w_OFFER), (.ref w_LEAVE)])) _
    refine Jvm.RoadKit.acmp (g := (mkF m 6 #[.val (.ref w_LEAVE), .val (.int (0 : Int32))] [(.ref w_OFFER), (.ref w_LEAVE)])) X1 hx rfl rfl rfl (pc0 := 6) (pc' := 15) (same := false) rfl (hb hby d3_6) rfl (decide_eq_false fun q => (Fld.ne F_w_LEAVE_ordinal F_w_OFFER_ordinal (by decide)) (Value.ref.inj q)) (by decide) (by decide) ?_
    show Steps p.tables e below (T1.setTop (mkF m 15 #[.val (.ref w_LEAVE), .val (.int (0 : Int32))] [])) _
    refine XS.aloadN X1.here hx rfl (hb hby d3_15) rfl rfl ?_
    show Steps p.tables e below (T1.setTop (mkF m 16 #[.val (.ref w_LEAVE), .val (.int (0 : Int32))] [(.ref w_LEAVE)])) _
    refine st2 _ ?_
    show Steps p.tables e below (T2.setTop (mkF m 19 #[.val (.ref w_LEAVE), .val (.int (0 : Int32))] [(.ref w_SHARE), (.ref w_LEAVE)])) _
    refine Jvm.RoadKit.acmp (g := (mkF m 19 #[.val (.ref w_LEAVE), .val (.int (0 : Int32))] [(.ref w_SHARE), (.ref w_LEAVE)])) X2 hx rfl rfl rfl (pc0 := 19) (pc' := 25) (same := false) rfl (hb hby d3_19) rfl (decide_eq_false fun q => (Fld.ne F_w_LEAVE_ordinal F_w_SHARE_ordinal (by decide)) (Value.ref.inj q)) (by decide) (by decide) ?_
    show Steps p.tables e below (T2.setTop (mkF m 25 #[.val (.ref w_LEAVE), .val (.int (0 : Int32))] [])) _
    refine XS.iloadN X2.here hx rfl (hb hby d3_25) rfl ?_
    show Steps p.tables e below (T2.setTop (mkF m 26 #[.val (.ref w_LEAVE), .val (.int (0 : Int32))] [(.int (0 : Int32))])) _
    exact retI X2 hx Bd.returns (hb hby d3_26) hr
  · exact ⟨rfl, N0, e2⟩
set_option maxRecDepth 65536 in
set_option maxHeartbeats 40000000 in
theorem rm0_c6 (l : Launch) (Z : State) (a0 : Array Value) (hw : ∀ d ∈ tables_1, d.before a0 Z = true) (ws : List Jvm.Cond) (w_MESSAGE : Addr) (w_OFFER : Addr) (w_SHARE : Addr) (w_DECLINE : Addr) (w_ANNOUNCE : Addr) (w_DATA : Addr) (w_GRANT : Addr) (w_TAKEN : Addr) (w_REFUSE : Addr) (w_LEAVE : Addr) (w_CODES : Addr) (cl_CODES : Cell) (p0 : Int32) (h0 : Heap) (n0 : Nat) (Z0 : n0 ≤ h0.size) (P : Pins Z h0 w_MESSAGE w_OFFER w_SHARE w_DECLINE w_ANNOUNCE w_DATA w_GRANT w_TAKEN w_REFUSE w_LEAVE w_CODES cl_CODES) (k0 : ((p0 &&& (2147483647 : Int32)) % (10 : Int32)) = (6 : Int32)) :
    MetFree l x (head1 (Jvm.Cond.code x code maxLocals ret :: ws) room_1) (fun a U => a = #[(.int p0)] ∧ Z.Warmed39 U.vm ∧ U.heap = h0) (fun _ _ _ _ _ => True) (fun _ U o U' => ∃ v L, o = .returned v ∧ QP h0 n0 (some (.int (1 : Int32))) v U'.heap L ∧ FrameEnd U o U' L room_1.cells room_1.slots) := by
  refine MetFree.of_bodySF (plainFor_of_name pn_swiftwire_KindTailBytesPinLaw) hisR ?_
  intro p e s m args below meth c s₁ Bd hml0 hP hK
  obtain ⟨rfl, hZ, hh⟩ := hP
  have hx := Bd.exec
  have hby := Bd.bytes
  have hml : c.maxLocals = 4 := hml0
  have hown : s.vm.findClass "swiftwire/KindTailBytesPinLaw" = some m.cls := findClass_of_methodNamed Bd.named
  have X0 : Stand p l e room_1 s m #[(.int p0)] below meth c s₁ [] 0 0 := Stand.of_body Bd
  have e0 : s₁.heap = h0 := by rw [← hh, Bd.state]; rfl
  have N0 := Fr.nil n0
  have pre0 : ∀ t, Steps p.tables e below (s₁.setTop (mkF m 0 #[.val (.int p0), .unset, .unset, .unset] [])) t → Steps p.tables e below (s₁.setTop (entryFrame m #[(.int p0)] maxLocals)) t := fun t k => castTop (ef_0_I m p0) k
  have E_w_LEAVE : Exa Z h0 w_LEAVE "swiftwire/FrameHeader$Kind" := P.2.2.2.2.2.2.2.2.2.2.2.2.2.2.2.2.2.2.2.1
  obtain ⟨_, _, ⟨T1, L1, k1, n1⟩, -, X1, ⟨Lc1, hQ1, l1, y1, z1⟩, st1⟩ := Jvm.LawKit.callS X0 hx (y := (⟨"swiftwire/FrameHeader", "kind", "(II)Lswiftwire/FrameHeader$Kind;"⟩ : MethodName)) hown (mvT hZ (hw _ (List.mem_of_getElem? (i := 1) rfl))) (mvT hZ (hw _ (List.mem_of_getElem? (i := 2) rfl))) (mvT hZ (hw _ (List.mem_of_getElem? (i := 3) rfl))) (mvT hZ (hw _ (List.mem_of_getElem? (i := 4) rfl))) (by decide) (backOf (W := 0) (rm1_6 l Z a0 hw [] w_MESSAGE w_OFFER w_SHARE w_DECLINE w_ANNOUNCE w_DATA w_GRANT w_TAKEN w_REFUSE w_LEAVE w_CODES cl_CODES h0 n0 Z0 P) hZ (hw _ (List.mem_of_getElem? (i := 4) rfl)) (hw _ (List.mem_of_getElem? (i := 3) rfl)) (by decide) (by decide)) (g := (mkF m 10 #[.val (.int p0), .val (.int (6 : Int32)), .unset, .unset] [(.int (0 : Int32)), (.int (6 : Int32))])) rfl (by rw [hml]; rfl) (argsL := [(.int (6 : Int32)), (.int (0 : Int32))]) (rest := []) (lenOf pd_0 rfl) rfl (by show 2 * 0 + _ ≤ _; exact Nat.le_of_eq rfl) (hb hby at_10) (fun _ _ => ⟨rfl, e0, (by decide : 0 + 0 ≤ _), (by decide : 0 + 0 ≤ _)⟩)
  dsimp only [Pt.U, Pt.locs, Pt.cells, Pt.slots] at X1 l1 y1 z1 st1 hQ1
  subst l1 y1 z1
  obtain ⟨rfl, N1q, e1⟩ := hQ1
  have N1 := Fr.app N0 N1q
  obtain ⟨cq2, kq2, q2a, q2b, q2c⟩ := isOf hZ e1 E_w_LEAVE
  obtain ⟨_, _, ⟨T2, L2, k2, n2⟩, -, X2, ⟨Lc2, hQ2, l2, y2, z2⟩, st2⟩ := X1.virtualBackUp hx (owner := "java/lang/Enum") (x := (⟨"swiftwire/FrameHeader$Kind", "ordinal", "()I"⟩ : MethodName)) (y := (⟨"java/lang/Enum", "ordinal", "()I"⟩ : MethodName)) hown (mvT hZ (hw _ (List.mem_of_getElem? (i := 9) rfl))) (mvT hZ (hw _ (List.mem_of_getElem? (i := 10) rfl))) (mvT hZ (hw _ (List.mem_of_getElem? (i := 11) rfl))) (by decide) (mvT hZ (hw _ (List.mem_of_getElem? (i := 13) rfl))) (mvT hZ (hw _ (List.mem_of_getElem? (i := 12) rfl))) (backOf (W := 0) (rm2_6 l Z a0 hw [] w_MESSAGE w_OFFER w_SHARE w_DECLINE w_ANNOUNCE w_DATA w_GRANT w_TAKEN w_REFUSE w_LEAVE w_CODES cl_CODES h0 n0 Z0 P) hZ (hw _ (List.mem_of_getElem? (i := 15) rfl)) (hw _ (List.mem_of_getElem? (i := 14) rfl)) (by decide) (by decide)) q2a q2c (g := (mkF m 38 #[.val (.int p0), .val (.int (6 : Int32)), .val (.ref w_LEAVE), .val (.int (0 : Int32))] [(.ref w_LEAVE)])) rfl (by rw [hml]; rfl) (Steps.refl _) (argsL := []) (rest := []) (lenOf pd_1 rfl) rfl (by show 2 * 0 + _ ≤ _; exact Nat.le_of_eq rfl) (hb hby at_38) (fun _ _ => ⟨rfl, e1, (by decide : 0 + 0 ≤ _), (by decide : 0 + 0 ≤ _)⟩)
  dsimp only [Pt.U, Pt.locs, Pt.cells, Pt.slots] at X2 l2 y2 z2 st2 hQ2
  subst l2 y2 z2
  obtain ⟨rfl, N2q, e2⟩ := hQ2
  have N2 := Fr.app N1 N2q
  obtain ⟨cq3, kq3, q3a, q3b, q3c⟩ := isOf hZ e2 E_w_LEAVE
  obtain ⟨_, _, ⟨T3, L3, k3, n3⟩, -, X3, ⟨Lc3, hQ3, l3, y3, z3⟩, st3⟩ := X2.virtualBack hx (y := (⟨"swiftwire/FrameHeader$Kind", "tailBytes", "()I"⟩ : MethodName)) (z := (⟨"swiftwire/FrameHeader$Kind", "tailBytes", "()I"⟩ : MethodName)) hown (mvT hZ (hw _ (List.mem_of_getElem? (i := 18) rfl))) (mvT hZ (hw _ (List.mem_of_getElem? (i := 19) rfl))) (notFace_of_selects (args := #[]) (mvT hZ (hw _ (List.mem_of_getElem? (i := 21) rfl)))) (mvT hZ (hw _ (List.mem_of_getElem? (i := 21) rfl))) (mvT hZ (hw _ (List.mem_of_getElem? (i := 20) rfl))) (by decide) (backOf (W := 0) (rm3_6 l Z a0 hw [] w_MESSAGE w_OFFER w_SHARE w_DECLINE w_ANNOUNCE w_DATA w_GRANT w_TAKEN w_REFUSE w_LEAVE w_CODES cl_CODES h0 n0 Z0 P) hZ (hw _ (List.mem_of_getElem? (i := 22) rfl)) (hw _ (List.mem_of_getElem? (i := 6) rfl)) (by decide) (by decide)) q3a q3c (g := (mkF m 46 #[.val (.int p0), .val (.int (6 : Int32)), .val (.ref w_LEAVE), .val (.int (0 : Int32))] [(.ref w_LEAVE)])) rfl (by rw [hml]; rfl) (Steps.refl _) (argsL := []) (rest := []) (lenOf pd_1 rfl) rfl (by show 2 * 0 + _ ≤ _; exact Nat.le_of_eq rfl) (hb hby at_46) (fun _ _ => ⟨rfl, e2, (by decide : 0 + 0 ≤ _), (by decide : 0 + 0 ≤ _)⟩)
  dsimp only [Pt.U, Pt.locs, Pt.cells, Pt.slots] at X3 l3 y3 z3 st3 hQ3
  subst l3 y3 z3
  obtain ⟨rfl, N3q, e3⟩ := hQ3
  have N3 := Fr.app N2 N3q
  obtain ⟨fs, hr, hrun, hended, hW, hsame⟩ := X3.leave (v := some (.int (1 : Int32))) (fun h => by rw [Bd.returns] at h; cases h)
  refine ⟨_, _, pre0 _ ?_, hrun, hended, _, _, rfl, ?_, ⟨_, rfl⟩, hW, hsame.mono (by decide) (by decide)⟩
  · show Steps p.tables e below (s₁.setTop (mkF m 0 #[.val (.int p0), .unset, .unset, .unset] [])) _
    refine XS.iloadN X0.here hx rfl (hb hby at_0) rfl ?_
    show Steps p.tables e below (s₁.setTop (mkF m 1 #[.val (.int p0), .unset, .unset, .unset] [(.int p0)])) _
    refine Jvm.Stand.ldcI X0 hx hown (mvT hZ (hw _ (List.mem_of_getElem? (i := 0) rfl))) rfl (hb hby at_1) ?_
    show Steps p.tables e below (s₁.setTop (mkF m 3 #[.val (.int p0), .unset, .unset, .unset] [(.int (2147483647 : Int32)), (.int p0)])) _
    refine XS.iand X0.here hx rfl (hb hby at_3) rfl ?_
    show Steps p.tables e below (s₁.setTop (mkF m 4 #[.val (.int p0), .unset, .unset, .unset] [(.int (p0 &&& (2147483647 : Int32)))])) _
    refine XS.bipush X0.here hx rfl (hb hby at_4) ?_
    show Steps p.tables e below (s₁.setTop (mkF m 6 #[.val (.int p0), .unset, .unset, .unset] [(.int (10 : Int32)), (.int (p0 &&& (2147483647 : Int32)))])) _
    refine iremM X0 hx rfl (hb hby at_6) rfl (by decide) ?_
    show Steps p.tables e below (s₁.setTop (mkF m 7 #[.val (.int p0), .unset, .unset, .unset] [(.int ((p0 &&& (2147483647 : Int32)) % (10 : Int32)))])) _
    rw [k0]
    show Steps p.tables e below (s₁.setTop (mkF m 7 #[.val (.int p0), .unset, .unset, .unset] [(.int (6 : Int32))])) _
    refine XS.istoreN X0.here hx rfl (hb hby at_7) rfl (l' := #[.val (.int p0), .val (.int (6 : Int32)), .unset, .unset]) rfl ?_
    show Steps p.tables e below (s₁.setTop (mkF m 8 #[.val (.int p0), .val (.int (6 : Int32)), .unset, .unset] [])) _
    refine XS.iloadN X0.here hx rfl (hb hby at_8) rfl ?_
    show Steps p.tables e below (s₁.setTop (mkF m 9 #[.val (.int p0), .val (.int (6 : Int32)), .unset, .unset] [(.int (6 : Int32))])) _
    refine XS.iconst X0.here hx rfl (hb hby at_9) ?_
    show Steps p.tables e below (s₁.setTop (mkF m 10 #[.val (.int p0), .val (.int (6 : Int32)), .unset, .unset] [(.int (0 : Int32)), (.int (6 : Int32))])) _
    refine st1 _ ?_
    show Steps p.tables e below (T1.setTop (mkF m 13 #[.val (.int p0), .val (.int (6 : Int32)), .unset, .unset] [(.ref w_LEAVE)])) _
    refine XS.astoreN X1.here hx rfl (hb hby at_13) rfl rfl (l' := #[.val (.int p0), .val (.int (6 : Int32)), .val (.ref w_LEAVE), .unset]) rfl ?_
    show Steps p.tables e below (T1.setTop (mkF m 14 #[.val (.int p0), .val (.int (6 : Int32)), .val (.ref w_LEAVE), .unset] [])) _
    refine XS.iconst X1.here hx rfl (hb hby at_14) ?_
    show Steps p.tables e below (T1.setTop (mkF m 15 #[.val (.int p0), .val (.int (6 : Int32)), .val (.ref w_LEAVE), .unset] [(.int (0 : Int32))])) _
    refine XS.istoreN X1.here hx rfl (hb hby at_15) rfl (l' := #[.val (.int p0), .val (.int (6 : Int32)), .val (.ref w_LEAVE), .val (.int (0 : Int32))]) rfl ?_
    show Steps p.tables e below (T1.setTop (mkF m 16 #[.val (.int p0), .val (.int (6 : Int32)), .val (.ref w_LEAVE), .val (.int (0 : Int32))] [])) _
    refine XS.iloadN X1.here hx rfl (hb hby at_16) rfl ?_
    show Steps p.tables e below (T1.setTop (mkF m 17 #[.val (.int p0), .val (.int (6 : Int32)), .val (.ref w_LEAVE), .val (.int (0 : Int32))] [(.int (6 : Int32))])) _
    refine XS.bipush X1.here hx rfl (hb hby at_17) ?_
    show Steps p.tables e below (T1.setTop (mkF m 19 #[.val (.int p0), .val (.int (6 : Int32)), .val (.ref w_LEAVE), .val (.int (0 : Int32))] [(.int (7 : Int32)), (.int (6 : Int32))])) _
    refine XS.icmpYes X1.here hx rfl (pc0 := 19) (pc' := 28) rfl (hb hby at_19) rfl (by decide) (by decide) (by decide) ?_
    show Steps p.tables e below (T1.setTop (mkF m 28 #[.val (.int p0), .val (.int (6 : Int32)), .val (.ref w_LEAVE), .val (.int (0 : Int32))] [])) _
    refine XS.iloadN X1.here hx rfl (hb hby at_28) rfl ?_
    show Steps p.tables e below (T1.setTop (mkF m 29 #[.val (.int p0), .val (.int (6 : Int32)), .val (.ref w_LEAVE), .val (.int (0 : Int32))] [(.int (6 : Int32))])) _
    refine XS.bipush X1.here hx rfl (hb hby at_29) ?_
    show Steps p.tables e below (T1.setTop (mkF m 31 #[.val (.int p0), .val (.int (6 : Int32)), .val (.ref w_LEAVE), .val (.int (0 : Int32))] [(.int (9 : Int32)), (.int (6 : Int32))])) _
    refine XS.icmpYes X1.here hx rfl (pc0 := 31) (pc' := 37) rfl (hb hby at_31) rfl (by decide) (by decide) (by decide) ?_
    show Steps p.tables e below (T1.setTop (mkF m 37 #[.val (.int p0), .val (.int (6 : Int32)), .val (.ref w_LEAVE), .val (.int (0 : Int32))] [])) _
    refine XS.aloadN X1.here hx rfl (hb hby at_37) rfl rfl ?_
    show Steps p.tables e below (T1.setTop (mkF m 38 #[.val (.int p0), .val (.int (6 : Int32)), .val (.ref w_LEAVE), .val (.int (0 : Int32))] [(.ref w_LEAVE)])) _
    refine st2.trans ?_
    show Steps p.tables e below (T2.setTop (mkF m 41 #[.val (.int p0), .val (.int (6 : Int32)), .val (.ref w_LEAVE), .val (.int (0 : Int32))] [(.int (6 : Int32))])) _
    refine XS.iloadN X2.here hx rfl (hb hby at_41) rfl ?_
    show Steps p.tables e below (T2.setTop (mkF m 42 #[.val (.int p0), .val (.int (6 : Int32)), .val (.ref w_LEAVE), .val (.int (0 : Int32))] [(.int (6 : Int32)), (.int (6 : Int32))])) _
    refine XS.icmpNo X2.here hx rfl (hb hby at_42) rfl (by decide) ?_
    show Steps p.tables e below (T2.setTop (mkF m 45 #[.val (.int p0), .val (.int (6 : Int32)), .val (.ref w_LEAVE), .val (.int (0 : Int32))] [])) _
    refine XS.aloadN X2.here hx rfl (hb hby at_45) rfl rfl ?_
    show Steps p.tables e below (T2.setTop (mkF m 46 #[.val (.int p0), .val (.int (6 : Int32)), .val (.ref w_LEAVE), .val (.int (0 : Int32))] [(.ref w_LEAVE)])) _
    refine st3.trans ?_
    show Steps p.tables e below (T3.setTop (mkF m 49 #[.val (.int p0), .val (.int (6 : Int32)), .val (.ref w_LEAVE), .val (.int (0 : Int32))] [(.int (0 : Int32))])) _
    refine XS.iloadN X3.here hx rfl (hb hby at_49) rfl ?_
    show Steps p.tables e below (T3.setTop (mkF m 50 #[.val (.int p0), .val (.int (6 : Int32)), .val (.ref w_LEAVE), .val (.int (0 : Int32))] [(.int (0 : Int32)), (.int (0 : Int32))])) _
    refine XS.icmpNo X3.here hx rfl (hb hby at_50) rfl (by decide) ?_
    show Steps p.tables e below (T3.setTop (mkF m 53 #[.val (.int p0), .val (.int (6 : Int32)), .val (.ref w_LEAVE), .val (.int (0 : Int32))] [])) _
    refine XS.iconst X3.here hx rfl (hb hby at_53) ?_
    show Steps p.tables e below (T3.setTop (mkF m 54 #[.val (.int p0), .val (.int (6 : Int32)), .val (.ref w_LEAVE), .val (.int (0 : Int32))] [(.int (1 : Int32))])) _
    refine XS.goto X3.here hx rfl (pc0 := 54) (pc' := 58) rfl (hb hby at_54) (by decide) (by decide) ?_
    show Steps p.tables e below (T3.setTop (mkF m 58 #[.val (.int p0), .val (.int (6 : Int32)), .val (.ref w_LEAVE), .val (.int (0 : Int32))] [(.int (1 : Int32))])) _
    exact retN X3 hx (t := .boolean) Bd.returns (by simp) (hb hby at_58) hr
  · exact ⟨rfl, N3, e3⟩
set_option maxRecDepth 65536 in
set_option maxHeartbeats 40000000 in
theorem rm1_7 (l : Launch) (Z : State) (a0 : Array Value) (hw : ∀ d ∈ tables_1, d.before a0 Z = true) (ws : List Jvm.Cond) (w_MESSAGE : Addr) (w_OFFER : Addr) (w_SHARE : Addr) (w_DECLINE : Addr) (w_ANNOUNCE : Addr) (w_DATA : Addr) (w_GRANT : Addr) (w_TAKEN : Addr) (w_REFUSE : Addr) (w_LEAVE : Addr) (w_CODES : Addr) (cl_CODES : Cell) (h0 : Heap) (n0 : Nat) (Z0 : n0 ≤ h0.size) (P : Pins Z h0 w_MESSAGE w_OFFER w_SHARE w_DECLINE w_ANNOUNCE w_DATA w_GRANT w_TAKEN w_REFUSE w_LEAVE w_CODES cl_CODES) :
    MetFree l (⟨"swiftwire/FrameHeader", "kind", "(II)Lswiftwire/FrameHeader$Kind;"⟩ : MethodName) (head1 (Jvm.Cond.code (⟨"swiftwire/FrameHeader", "kind", "(II)Lswiftwire/FrameHeader$Kind;"⟩ : MethodName) prog_50_method_7_code 2 (some (.object "swiftwire/FrameHeader$Kind")) :: ws) ({ frames := 0, cells := 0, slots := 0, locals := 0 } : Room)) (fun a U => a = #[(.int (7 : Int32)), (.int (0 : Int32))] ∧ Z.Warmed39 U.vm ∧ U.heap = h0) (fun _ _ _ _ _ => True) (fun _ U o U' => ∃ v L, o = .returned v ∧ QP h0 n0 (some (.ref w_OFFER)) v U'.heap L ∧ FrameEnd U o U' L ({ frames := 0, cells := 0, slots := 0, locals := 0 } : Room).cells ({ frames := 0, cells := 0, slots := 0, locals := 0 } : Room).slots) := by
  refine MetFree.of_bodySF (plainFor_of_name pn_swiftwire_FrameHeader) hisR ?_
  intro p e s m args below meth c s₁ Bd hml0 hP hK
  obtain ⟨rfl, hZ, hh⟩ := hP
  have hx := Bd.exec
  have hby := Bd.bytes
  have hml : c.maxLocals = 2 := hml0
  have hown : s.vm.findClass "swiftwire/FrameHeader" = some m.cls := findClass_of_methodNamed Bd.named
  have X0 : Stand p l e ({ frames := 0, cells := 0, slots := 0, locals := 0 } : Room) s m #[(.int (7 : Int32)), (.int (0 : Int32))] below meth c s₁ [] 0 0 := Stand.of_body Bd
  have e0 : s₁.heap = h0 := by rw [← hh, Bd.state]; rfl
  have N0 := Fr.nil n0
  have pre0 : ∀ t, Steps p.tables e below (s₁.setTop (mkF m 0 #[.val (.int (7 : Int32)), .val (.int (0 : Int32))] [])) t → Steps p.tables e below (s₁.setTop (entryFrame m #[(.int (7 : Int32)), (.int (0 : Int32))] 2)) t := fun t k => castTop (ef_1_II m (7 : Int32) (0 : Int32)) k
  have S_w_CODES : Sta Z h0 "swiftwire/FrameHeader$Kind" "CODES" "[Lswiftwire/FrameHeader$Kind;" (.ref w_CODES) := P.2.2.2.2.2.2.2.2.2.2.2.2.2.2.2.2.2.2.2.2.2.2.2.2.2.2.2.2.2.2.1
  have A_w_CODES : Arr Z h0 w_CODES cl_CODES (.object "swiftwire/FrameHeader$Kind") := P.2.2.2.2.2.2.2.2.2.2.2.2.2.2.2.2.2.2.2.2.2.2.2.2.2.2.2.2.2.2.2.1
  have Z_w_CODES : cl_CODES.slots.size = 10 := P.2.2.2.2.2.2.2.2.2.2.2.2.2.2.2.2.2.2.2.2.2.2.2.2.2.2.2.2.2.2.2.2.1
  have G_7 : cl_CODES.slots[(7 : Int32).toNatClampNeg]? = some (.ref w_OFFER) := P.2.2.2.2.2.2.2.2.2.2.2.2.2.2.2.2.2.2.2.2.2.2.2.2.2.2.2.2.2.2.2.2.2.2.2.2.2.1
  obtain ⟨T1, X1, e1, st1⟩ := own_getSR X0 hx hZ hown (hw _ (List.mem_of_getElem? (i := 5) rfl)) e0 S_w_CODES (g := (mkF m 5 #[.val (.int (7 : Int32)), .val (.int (0 : Int32))] [(.int (7 : Int32))])) rfl (hb hby d1_5)
  obtain ⟨T2, X2, e2, st2⟩ := own_getSR X1 hx hZ hown (hw _ (List.mem_of_getElem? (i := 5) rfl)) e1 S_w_CODES (g := (mkF m 44 #[.val (.int (7 : Int32)), .val (.int (0 : Int32))] [])) rfl (hb hby d1_44)
  obtain ⟨fs, hr, hrun, hended, hW, hsame⟩ := X2.leave (v := some (.ref w_OFFER)) (fun h => by rw [Bd.returns] at h; cases h)
  refine ⟨_, _, pre0 _ ?_, hrun, hended, _, _, rfl, ?_, ⟨_, rfl⟩, hW, hsame.mono (by decide) (by decide)⟩
  · show Steps p.tables e below (s₁.setTop (mkF m 0 #[.val (.int (7 : Int32)), .val (.int (0 : Int32))] [])) _
    refine XS.iloadN X0.here hx rfl (hb hby d1_0) rfl ?_
    show Steps p.tables e below (s₁.setTop (mkF m 1 #[.val (.int (7 : Int32)), .val (.int (0 : Int32))] [(.int (7 : Int32))])) _
    refine XS.ifNo X0.here hx rfl (hb hby d1_1) rfl (by decide) ?_
    show Steps p.tables e below (s₁.setTop (mkF m 4 #[.val (.int (7 : Int32)), .val (.int (0 : Int32))] [])) _
    refine XS.iloadN X0.here hx rfl (hb hby d1_4) rfl ?_
    show Steps p.tables e below (s₁.setTop (mkF m 5 #[.val (.int (7 : Int32)), .val (.int (0 : Int32))] [(.int (7 : Int32))])) _
    refine st1 _ ?_
    show Steps p.tables e below (T1.setTop (mkF m 8 #[.val (.int (7 : Int32)), .val (.int (0 : Int32))] [(.ref w_CODES), (.int (7 : Int32))])) _
    refine X1.arraylength hx (by rw [e1]; exact A_w_CODES.1) (State.isArrayOf_alike hZ.alike A_w_CODES.2.1) (g := (mkF m 8 #[.val (.int (7 : Int32)), .val (.int (0 : Int32))] [(.ref w_CODES), (.int (7 : Int32))])) rfl rfl (hb hby d1_8) _ ?_
    rw [show cl_CODES.slots.size.toInt32 = (10 : Int32) from by rw [Z_w_CODES]; decide]
    show Steps p.tables e below (T1.setTop (mkF m 9 #[.val (.int (7 : Int32)), .val (.int (0 : Int32))] [(.int (10 : Int32)), (.int (7 : Int32))])) _
    refine XS.icmpYes X1.here hx rfl (pc0 := 9) (pc' := 26) rfl (hb hby d1_9) rfl (by decide) (by decide) (by decide) ?_
    show Steps p.tables e below (T1.setTop (mkF m 26 #[.val (.int (7 : Int32)), .val (.int (0 : Int32))] [])) _
    refine XS.iloadN X1.here hx rfl (hb hby d1_26) rfl ?_
    show Steps p.tables e below (T1.setTop (mkF m 27 #[.val (.int (7 : Int32)), .val (.int (0 : Int32))] [(.int (0 : Int32))])) _
    refine XS.ifYes X1.here hx rfl (pc0 := 27) (pc' := 44) rfl (hb hby d1_27) rfl (by decide) (by decide) (by decide) ?_
    show Steps p.tables e below (T1.setTop (mkF m 44 #[.val (.int (7 : Int32)), .val (.int (0 : Int32))] [])) _
    refine st2 _ ?_
    show Steps p.tables e below (T2.setTop (mkF m 47 #[.val (.int (7 : Int32)), .val (.int (0 : Int32))] [(.ref w_CODES)])) _
    refine XS.iloadN X2.here hx rfl (hb hby d1_47) rfl ?_
    show Steps p.tables e below (T2.setTop (mkF m 48 #[.val (.int (7 : Int32)), .val (.int (0 : Int32))] [(.int (7 : Int32)), (.ref w_CODES)])) _
    refine X2.aaload hx (j := (7 : Int32)) (v := (.ref w_OFFER)) (by rw [e2]; exact A_w_CODES.1) (State.isArrayOf_alike hZ.alike A_w_CODES.2.1) rfl A_w_CODES.2.2 (by rw [Z_w_CODES]; decide) G_7 (g := (mkF m 48 #[.val (.int (7 : Int32)), .val (.int (0 : Int32))] [(.int (7 : Int32)), (.ref w_CODES)])) rfl rfl (hb hby d1_48) _ ?_
    show Steps p.tables e below (T2.setTop (mkF m 49 #[.val (.int (7 : Int32)), .val (.int (0 : Int32))] [(.ref w_OFFER)])) _
    exact retOut X2 hx Bd.returns rfl (Or.inr (Or.inr (Or.inr (Or.inr ⟨rfl, rfl, rfl⟩)))) (hb hby d1_49) hr
  · exact ⟨rfl, N0, e2⟩
set_option maxRecDepth 65536 in
set_option maxHeartbeats 40000000 in
theorem rm2_7 (l : Launch) (Z : State) (a0 : Array Value) (hw : ∀ d ∈ tables_1, d.before a0 Z = true) (ws : List Jvm.Cond) (w_MESSAGE : Addr) (w_OFFER : Addr) (w_SHARE : Addr) (w_DECLINE : Addr) (w_ANNOUNCE : Addr) (w_DATA : Addr) (w_GRANT : Addr) (w_TAKEN : Addr) (w_REFUSE : Addr) (w_LEAVE : Addr) (w_CODES : Addr) (cl_CODES : Cell) (h0 : Heap) (n0 : Nat) (Z0 : n0 ≤ h0.size) (P : Pins Z h0 w_MESSAGE w_OFFER w_SHARE w_DECLINE w_ANNOUNCE w_DATA w_GRANT w_TAKEN w_REFUSE w_LEAVE w_CODES cl_CODES) :
    MetFree l (⟨"java/lang/Enum", "ordinal", "()I"⟩ : MethodName) (head1 (Jvm.Cond.code (⟨"java/lang/Enum", "ordinal", "()I"⟩ : MethodName) jdk_37_method_2_code 1 (some .int) :: ws) ({ frames := 0, cells := 0, slots := 0, locals := 0 } : Room)) (fun a U => a = #[(.ref w_OFFER)] ∧ Z.Warmed39 U.vm ∧ U.heap = h0) (fun _ _ _ _ _ => True) (fun _ U o U' => ∃ v L, o = .returned v ∧ QP h0 n0 (some (.int (7 : Int32))) v U'.heap L ∧ FrameEnd U o U' L ({ frames := 0, cells := 0, slots := 0, locals := 0 } : Room).cells ({ frames := 0, cells := 0, slots := 0, locals := 0 } : Room).slots) := by
  refine MetFree.of_bodySF (plainFor_of_name pn_java_lang_Enum) hisR ?_
  intro p e s m args below meth c s₁ Bd hml0 hP hK
  obtain ⟨rfl, hZ, hh⟩ := hP
  have hx := Bd.exec
  have hby := Bd.bytes
  have hml : c.maxLocals = 1 := hml0
  have hown : s.vm.findClass "java/lang/Enum" = some m.cls := findClass_of_methodNamed Bd.named
  have X0 : Stand p l e ({ frames := 0, cells := 0, slots := 0, locals := 0 } : Room) s m #[(.ref w_OFFER)] below meth c s₁ [] 0 0 := Stand.of_body Bd
  have e0 : s₁.heap = h0 := by rw [← hh, Bd.state]; rfl
  have N0 := Fr.nil n0
  have pre0 : ∀ t, Steps p.tables e below (s₁.setTop (mkF m 0 #[.val (.ref w_OFFER)] [])) t → Steps p.tables e below (s₁.setTop (entryFrame m #[(.ref w_OFFER)] 1)) t := fun t k => castTop (ef_2_R m w_OFFER) k
  have F_w_OFFER_ordinal : Fld Z h0 w_OFFER "java/lang/Enum" "ordinal" "I" (.int (7 : Int32)) := P.2.2.2.2.2.2.2.2.2.2.2.2.2.2.2.2.2.2.2.2.2.1
  obtain ⟨T1, X1, e1, st1⟩ := getF X0 hx hZ hown (host := "") (Or.inl (hw _ (List.mem_of_getElem? (i := 16) rfl))) Via.refl e0 F_w_OFFER_ordinal (g := (mkF m 1 #[.val (.ref w_OFFER)] [(.ref w_OFFER)])) rfl rfl (hb hby d2_1)
  obtain ⟨fs, hr, hrun, hended, hW, hsame⟩ := X1.leave (v := some (.int (7 : Int32))) (fun h => by rw [Bd.returns] at h; cases h)
  refine ⟨_, _, pre0 _ ?_, hrun, hended, _, _, rfl, ?_, ⟨_, rfl⟩, hW, hsame.mono (by decide) (by decide)⟩
  · show Steps p.tables e below (s₁.setTop (mkF m 0 #[.val (.ref w_OFFER)] [])) _
    refine XS.aloadN X0.here hx rfl (hb hby d2_0) rfl rfl ?_
    show Steps p.tables e below (s₁.setTop (mkF m 1 #[.val (.ref w_OFFER)] [(.ref w_OFFER)])) _
    refine st1 _ ?_
    show Steps p.tables e below (T1.setTop (mkF m 4 #[.val (.ref w_OFFER)] [(.int (7 : Int32))])) _
    exact retI X1 hx Bd.returns (hb hby d2_4) hr
  · exact ⟨rfl, N0, e1⟩
theorem d3_9 : decode prog_51_method_6_code 9 = .ok (.bipush 12, 2) := by decide +kernel
theorem d3_11 : decode prog_51_method_6_code 11 = .ok (.istore_n 1, 1) := by decide +kernel
theorem d3_12 : decode prog_51_method_6_code 12 = .ok (.goto 13, 3) := by decide +kernel
set_option maxRecDepth 65536 in
set_option maxHeartbeats 40000000 in
theorem rm3_7 (l : Launch) (Z : State) (a0 : Array Value) (hw : ∀ d ∈ tables_1, d.before a0 Z = true) (ws : List Jvm.Cond) (w_MESSAGE : Addr) (w_OFFER : Addr) (w_SHARE : Addr) (w_DECLINE : Addr) (w_ANNOUNCE : Addr) (w_DATA : Addr) (w_GRANT : Addr) (w_TAKEN : Addr) (w_REFUSE : Addr) (w_LEAVE : Addr) (w_CODES : Addr) (cl_CODES : Cell) (h0 : Heap) (n0 : Nat) (Z0 : n0 ≤ h0.size) (P : Pins Z h0 w_MESSAGE w_OFFER w_SHARE w_DECLINE w_ANNOUNCE w_DATA w_GRANT w_TAKEN w_REFUSE w_LEAVE w_CODES cl_CODES) :
    MetFree l (⟨"swiftwire/FrameHeader$Kind", "tailBytes", "()I"⟩ : MethodName) (head1 (Jvm.Cond.code (⟨"swiftwire/FrameHeader$Kind", "tailBytes", "()I"⟩ : MethodName) prog_51_method_6_code 2 (some .int) :: ws) ({ frames := 0, cells := 0, slots := 0, locals := 0 } : Room)) (fun a U => a = #[(.ref w_OFFER)] ∧ Z.Warmed39 U.vm ∧ U.heap = h0) (fun _ _ _ _ _ => True) (fun _ U o U' => ∃ v L, o = .returned v ∧ QP h0 n0 (some (.int (12 : Int32))) v U'.heap L ∧ FrameEnd U o U' L ({ frames := 0, cells := 0, slots := 0, locals := 0 } : Room).cells ({ frames := 0, cells := 0, slots := 0, locals := 0 } : Room).slots) := by
  refine MetFree.of_bodySF (plainFor_of_name pn_swiftwire_FrameHeader_Kind) hisR ?_
  intro p e s m args below meth c s₁ Bd hml0 hP hK
  obtain ⟨rfl, hZ, hh⟩ := hP
  have hx := Bd.exec
  have hby := Bd.bytes
  have hml : c.maxLocals = 2 := hml0
  have hown : s.vm.findClass "swiftwire/FrameHeader$Kind" = some m.cls := findClass_of_methodNamed Bd.named
  have X0 : Stand p l e ({ frames := 0, cells := 0, slots := 0, locals := 0 } : Room) s m #[(.ref w_OFFER)] below meth c s₁ [] 0 0 := Stand.of_body Bd
  have e0 : s₁.heap = h0 := by rw [← hh, Bd.state]; rfl
  have N0 := Fr.nil n0
  have pre0 : ∀ t, Steps p.tables e below (s₁.setTop (mkF m 0 #[.val (.ref w_OFFER), .unset] [])) t → Steps p.tables e below (s₁.setTop (entryFrame m #[(.ref w_OFFER)] 2)) t := fun t k => castTop (ef_3_R m w_OFFER) k
  have S_w_OFFER : Sta Z h0 "swiftwire/FrameHeader$Kind" "OFFER" "Lswiftwire/FrameHeader$Kind;" (.ref w_OFFER) := P.2.2.1
  obtain ⟨T1, X1, e1, st1⟩ := getS2 X0 hx hZ hown (host := "") (Or.inl (hw _ (List.mem_of_getElem? (i := 23) rfl))) Via.refl e0 S_w_OFFER (g := (mkF m 3 #[.val (.ref w_OFFER), .val (.int (0 : Int32))] [(.ref w_OFFER)])) rfl (hb hby d3_3)
  obtain ⟨fs, hr, hrun, hended, hW, hsame⟩ := X1.leave (v := some (.int (12 : Int32))) (fun h => by rw [Bd.returns] at h; cases h)
  refine ⟨_, _, pre0 _ ?_, hrun, hended, _, _, rfl, ?_, ⟨_, rfl⟩, hW, hsame.mono (by decide) (by decide)⟩
  · show Steps p.tables e below (s₁.setTop (mkF m 0 #[.val (.ref w_OFFER), .unset] [])) _
    refine XS.iconst X0.here hx rfl (hb hby d3_0) ?_
    show Steps p.tables e below (s₁.setTop (mkF m 1 #[.val (.ref w_OFFER), .unset] [(.int (0 : Int32))])) _
    refine XS.istoreN X0.here hx rfl (hb hby d3_1) rfl (l' := #[.val (.ref w_OFFER), .val (.int (0 : Int32))]) rfl ?_
    show Steps p.tables e below (s₁.setTop (mkF m 2 #[.val (.ref w_OFFER), .val (.int (0 : Int32))] [])) _
    refine XS.aloadN X0.here hx rfl (hb hby d3_2) rfl rfl ?_
    show Steps p.tables e below (s₁.setTop (mkF m 3 #[.val (.ref w_OFFER), .val (.int (0 : Int32))] [(.ref w_OFFER)])) _
    refine st1 _ ?_
    show Steps p.tables e below (T1.setTop (mkF m 6 #[.val (.ref w_OFFER), .val (.int (0 : Int32))] [(.ref w_OFFER), (.ref w_OFFER)])) _
    refine Jvm.RoadKit.acmp (g := (mkF m 6 #[.val (.ref w_OFFER), .val (.int (0 : Int32))] [(.ref w_OFFER), (.ref w_OFFER)])) X1 hx rfl rfl rfl (pc0 := 6) (pc' := 9) (same := true) rfl (hb hby d3_6) rfl (decide_eq_true rfl) (by decide) (by decide) ?_
    show Steps p.tables e below (T1.setTop (mkF m 9 #[.val (.ref w_OFFER), .val (.int (0 : Int32))] [])) _
    refine XS.bipush X1.here hx rfl (hb hby d3_9) ?_
    show Steps p.tables e below (T1.setTop (mkF m 11 #[.val (.ref w_OFFER), .val (.int (0 : Int32))] [(.int (12 : Int32))])) _
    refine XS.istoreN X1.here hx rfl (hb hby d3_11) rfl (l' := #[.val (.ref w_OFFER), .val (.int (12 : Int32))]) rfl ?_
    show Steps p.tables e below (T1.setTop (mkF m 12 #[.val (.ref w_OFFER), .val (.int (12 : Int32))] [])) _
    refine XS.goto X1.here hx rfl (pc0 := 12) (pc' := 25) rfl (hb hby d3_12) (by decide) (by decide) ?_
    show Steps p.tables e below (T1.setTop (mkF m 25 #[.val (.ref w_OFFER), .val (.int (12 : Int32))] [])) _
    refine XS.iloadN X1.here hx rfl (hb hby d3_25) rfl ?_
    show Steps p.tables e below (T1.setTop (mkF m 26 #[.val (.ref w_OFFER), .val (.int (12 : Int32))] [(.int (12 : Int32))])) _
    exact retI X1 hx Bd.returns (hb hby d3_26) hr
  · exact ⟨rfl, N0, e1⟩
set_option maxRecDepth 65536 in
set_option maxHeartbeats 40000000 in
theorem rm0_c7 (l : Launch) (Z : State) (a0 : Array Value) (hw : ∀ d ∈ tables_1, d.before a0 Z = true) (ws : List Jvm.Cond) (w_MESSAGE : Addr) (w_OFFER : Addr) (w_SHARE : Addr) (w_DECLINE : Addr) (w_ANNOUNCE : Addr) (w_DATA : Addr) (w_GRANT : Addr) (w_TAKEN : Addr) (w_REFUSE : Addr) (w_LEAVE : Addr) (w_CODES : Addr) (cl_CODES : Cell) (p0 : Int32) (h0 : Heap) (n0 : Nat) (Z0 : n0 ≤ h0.size) (P : Pins Z h0 w_MESSAGE w_OFFER w_SHARE w_DECLINE w_ANNOUNCE w_DATA w_GRANT w_TAKEN w_REFUSE w_LEAVE w_CODES cl_CODES) (k0 : ((p0 &&& (2147483647 : Int32)) % (10 : Int32)) = (7 : Int32)) :
    MetFree l x (head1 (Jvm.Cond.code x code maxLocals ret :: ws) room_1) (fun a U => a = #[(.int p0)] ∧ Z.Warmed39 U.vm ∧ U.heap = h0) (fun _ _ _ _ _ => True) (fun _ U o U' => ∃ v L, o = .returned v ∧ QP h0 n0 (some (.int (1 : Int32))) v U'.heap L ∧ FrameEnd U o U' L room_1.cells room_1.slots) := by
  refine MetFree.of_bodySF (plainFor_of_name pn_swiftwire_KindTailBytesPinLaw) hisR ?_
  intro p e s m args below meth c s₁ Bd hml0 hP hK
  obtain ⟨rfl, hZ, hh⟩ := hP
  have hx := Bd.exec
  have hby := Bd.bytes
  have hml : c.maxLocals = 4 := hml0
  have hown : s.vm.findClass "swiftwire/KindTailBytesPinLaw" = some m.cls := findClass_of_methodNamed Bd.named
  have X0 : Stand p l e room_1 s m #[(.int p0)] below meth c s₁ [] 0 0 := Stand.of_body Bd
  have e0 : s₁.heap = h0 := by rw [← hh, Bd.state]; rfl
  have N0 := Fr.nil n0
  have pre0 : ∀ t, Steps p.tables e below (s₁.setTop (mkF m 0 #[.val (.int p0), .unset, .unset, .unset] [])) t → Steps p.tables e below (s₁.setTop (entryFrame m #[(.int p0)] maxLocals)) t := fun t k => castTop (ef_0_I m p0) k
  have E_w_OFFER : Exa Z h0 w_OFFER "swiftwire/FrameHeader$Kind" := P.2.2.2.1
  obtain ⟨_, _, ⟨T1, L1, k1, n1⟩, -, X1, ⟨Lc1, hQ1, l1, y1, z1⟩, st1⟩ := Jvm.LawKit.callS X0 hx (y := (⟨"swiftwire/FrameHeader", "kind", "(II)Lswiftwire/FrameHeader$Kind;"⟩ : MethodName)) hown (mvT hZ (hw _ (List.mem_of_getElem? (i := 1) rfl))) (mvT hZ (hw _ (List.mem_of_getElem? (i := 2) rfl))) (mvT hZ (hw _ (List.mem_of_getElem? (i := 3) rfl))) (mvT hZ (hw _ (List.mem_of_getElem? (i := 4) rfl))) (by decide) (backOf (W := 0) (rm1_7 l Z a0 hw [] w_MESSAGE w_OFFER w_SHARE w_DECLINE w_ANNOUNCE w_DATA w_GRANT w_TAKEN w_REFUSE w_LEAVE w_CODES cl_CODES h0 n0 Z0 P) hZ (hw _ (List.mem_of_getElem? (i := 4) rfl)) (hw _ (List.mem_of_getElem? (i := 3) rfl)) (by decide) (by decide)) (g := (mkF m 10 #[.val (.int p0), .val (.int (7 : Int32)), .unset, .unset] [(.int (0 : Int32)), (.int (7 : Int32))])) rfl (by rw [hml]; rfl) (argsL := [(.int (7 : Int32)), (.int (0 : Int32))]) (rest := []) (lenOf pd_0 rfl) rfl (by show 2 * 0 + _ ≤ _; exact Nat.le_of_eq rfl) (hb hby at_10) (fun _ _ => ⟨rfl, e0, (by decide : 0 + 0 ≤ _), (by decide : 0 + 0 ≤ _)⟩)
  dsimp only [Pt.U, Pt.locs, Pt.cells, Pt.slots] at X1 l1 y1 z1 st1 hQ1
  subst l1 y1 z1
  obtain ⟨rfl, N1q, e1⟩ := hQ1
  have N1 := Fr.app N0 N1q
  obtain ⟨cq2, kq2, q2a, q2b, q2c⟩ := isOf hZ e1 E_w_OFFER
  obtain ⟨_, _, ⟨T2, L2, k2, n2⟩, -, X2, ⟨Lc2, hQ2, l2, y2, z2⟩, st2⟩ := X1.virtualBackUp hx (owner := "java/lang/Enum") (x := (⟨"swiftwire/FrameHeader$Kind", "ordinal", "()I"⟩ : MethodName)) (y := (⟨"java/lang/Enum", "ordinal", "()I"⟩ : MethodName)) hown (mvT hZ (hw _ (List.mem_of_getElem? (i := 9) rfl))) (mvT hZ (hw _ (List.mem_of_getElem? (i := 10) rfl))) (mvT hZ (hw _ (List.mem_of_getElem? (i := 11) rfl))) (by decide) (mvT hZ (hw _ (List.mem_of_getElem? (i := 13) rfl))) (mvT hZ (hw _ (List.mem_of_getElem? (i := 12) rfl))) (backOf (W := 0) (rm2_7 l Z a0 hw [] w_MESSAGE w_OFFER w_SHARE w_DECLINE w_ANNOUNCE w_DATA w_GRANT w_TAKEN w_REFUSE w_LEAVE w_CODES cl_CODES h0 n0 Z0 P) hZ (hw _ (List.mem_of_getElem? (i := 15) rfl)) (hw _ (List.mem_of_getElem? (i := 14) rfl)) (by decide) (by decide)) q2a q2c (g := (mkF m 38 #[.val (.int p0), .val (.int (7 : Int32)), .val (.ref w_OFFER), .val (.int (12 : Int32))] [(.ref w_OFFER)])) rfl (by rw [hml]; rfl) (Steps.refl _) (argsL := []) (rest := []) (lenOf pd_1 rfl) rfl (by show 2 * 0 + _ ≤ _; exact Nat.le_of_eq rfl) (hb hby at_38) (fun _ _ => ⟨rfl, e1, (by decide : 0 + 0 ≤ _), (by decide : 0 + 0 ≤ _)⟩)
  dsimp only [Pt.U, Pt.locs, Pt.cells, Pt.slots] at X2 l2 y2 z2 st2 hQ2
  subst l2 y2 z2
  obtain ⟨rfl, N2q, e2⟩ := hQ2
  have N2 := Fr.app N1 N2q
  obtain ⟨cq3, kq3, q3a, q3b, q3c⟩ := isOf hZ e2 E_w_OFFER
  obtain ⟨_, _, ⟨T3, L3, k3, n3⟩, -, X3, ⟨Lc3, hQ3, l3, y3, z3⟩, st3⟩ := X2.virtualBack hx (y := (⟨"swiftwire/FrameHeader$Kind", "tailBytes", "()I"⟩ : MethodName)) (z := (⟨"swiftwire/FrameHeader$Kind", "tailBytes", "()I"⟩ : MethodName)) hown (mvT hZ (hw _ (List.mem_of_getElem? (i := 18) rfl))) (mvT hZ (hw _ (List.mem_of_getElem? (i := 19) rfl))) (notFace_of_selects (args := #[]) (mvT hZ (hw _ (List.mem_of_getElem? (i := 21) rfl)))) (mvT hZ (hw _ (List.mem_of_getElem? (i := 21) rfl))) (mvT hZ (hw _ (List.mem_of_getElem? (i := 20) rfl))) (by decide) (backOf (W := 0) (rm3_7 l Z a0 hw [] w_MESSAGE w_OFFER w_SHARE w_DECLINE w_ANNOUNCE w_DATA w_GRANT w_TAKEN w_REFUSE w_LEAVE w_CODES cl_CODES h0 n0 Z0 P) hZ (hw _ (List.mem_of_getElem? (i := 22) rfl)) (hw _ (List.mem_of_getElem? (i := 6) rfl)) (by decide) (by decide)) q3a q3c (g := (mkF m 46 #[.val (.int p0), .val (.int (7 : Int32)), .val (.ref w_OFFER), .val (.int (12 : Int32))] [(.ref w_OFFER)])) rfl (by rw [hml]; rfl) (Steps.refl _) (argsL := []) (rest := []) (lenOf pd_1 rfl) rfl (by show 2 * 0 + _ ≤ _; exact Nat.le_of_eq rfl) (hb hby at_46) (fun _ _ => ⟨rfl, e2, (by decide : 0 + 0 ≤ _), (by decide : 0 + 0 ≤ _)⟩)
  dsimp only [Pt.U, Pt.locs, Pt.cells, Pt.slots] at X3 l3 y3 z3 st3 hQ3
  subst l3 y3 z3
  obtain ⟨rfl, N3q, e3⟩ := hQ3
  have N3 := Fr.app N2 N3q
  obtain ⟨fs, hr, hrun, hended, hW, hsame⟩ := X3.leave (v := some (.int (1 : Int32))) (fun h => by rw [Bd.returns] at h; cases h)
  refine ⟨_, _, pre0 _ ?_, hrun, hended, _, _, rfl, ?_, ⟨_, rfl⟩, hW, hsame.mono (by decide) (by decide)⟩
  · show Steps p.tables e below (s₁.setTop (mkF m 0 #[.val (.int p0), .unset, .unset, .unset] [])) _
    refine XS.iloadN X0.here hx rfl (hb hby at_0) rfl ?_
    show Steps p.tables e below (s₁.setTop (mkF m 1 #[.val (.int p0), .unset, .unset, .unset] [(.int p0)])) _
    refine Jvm.Stand.ldcI X0 hx hown (mvT hZ (hw _ (List.mem_of_getElem? (i := 0) rfl))) rfl (hb hby at_1) ?_
    show Steps p.tables e below (s₁.setTop (mkF m 3 #[.val (.int p0), .unset, .unset, .unset] [(.int (2147483647 : Int32)), (.int p0)])) _
    refine XS.iand X0.here hx rfl (hb hby at_3) rfl ?_
    show Steps p.tables e below (s₁.setTop (mkF m 4 #[.val (.int p0), .unset, .unset, .unset] [(.int (p0 &&& (2147483647 : Int32)))])) _
    refine XS.bipush X0.here hx rfl (hb hby at_4) ?_
    show Steps p.tables e below (s₁.setTop (mkF m 6 #[.val (.int p0), .unset, .unset, .unset] [(.int (10 : Int32)), (.int (p0 &&& (2147483647 : Int32)))])) _
    refine iremM X0 hx rfl (hb hby at_6) rfl (by decide) ?_
    show Steps p.tables e below (s₁.setTop (mkF m 7 #[.val (.int p0), .unset, .unset, .unset] [(.int ((p0 &&& (2147483647 : Int32)) % (10 : Int32)))])) _
    rw [k0]
    show Steps p.tables e below (s₁.setTop (mkF m 7 #[.val (.int p0), .unset, .unset, .unset] [(.int (7 : Int32))])) _
    refine XS.istoreN X0.here hx rfl (hb hby at_7) rfl (l' := #[.val (.int p0), .val (.int (7 : Int32)), .unset, .unset]) rfl ?_
    show Steps p.tables e below (s₁.setTop (mkF m 8 #[.val (.int p0), .val (.int (7 : Int32)), .unset, .unset] [])) _
    refine XS.iloadN X0.here hx rfl (hb hby at_8) rfl ?_
    show Steps p.tables e below (s₁.setTop (mkF m 9 #[.val (.int p0), .val (.int (7 : Int32)), .unset, .unset] [(.int (7 : Int32))])) _
    refine XS.iconst X0.here hx rfl (hb hby at_9) ?_
    show Steps p.tables e below (s₁.setTop (mkF m 10 #[.val (.int p0), .val (.int (7 : Int32)), .unset, .unset] [(.int (0 : Int32)), (.int (7 : Int32))])) _
    refine st1 _ ?_
    show Steps p.tables e below (T1.setTop (mkF m 13 #[.val (.int p0), .val (.int (7 : Int32)), .unset, .unset] [(.ref w_OFFER)])) _
    refine XS.astoreN X1.here hx rfl (hb hby at_13) rfl rfl (l' := #[.val (.int p0), .val (.int (7 : Int32)), .val (.ref w_OFFER), .unset]) rfl ?_
    show Steps p.tables e below (T1.setTop (mkF m 14 #[.val (.int p0), .val (.int (7 : Int32)), .val (.ref w_OFFER), .unset] [])) _
    refine XS.iconst X1.here hx rfl (hb hby at_14) ?_
    show Steps p.tables e below (T1.setTop (mkF m 15 #[.val (.int p0), .val (.int (7 : Int32)), .val (.ref w_OFFER), .unset] [(.int (0 : Int32))])) _
    refine XS.istoreN X1.here hx rfl (hb hby at_15) rfl (l' := #[.val (.int p0), .val (.int (7 : Int32)), .val (.ref w_OFFER), .val (.int (0 : Int32))]) rfl ?_
    show Steps p.tables e below (T1.setTop (mkF m 16 #[.val (.int p0), .val (.int (7 : Int32)), .val (.ref w_OFFER), .val (.int (0 : Int32))] [])) _
    refine XS.iloadN X1.here hx rfl (hb hby at_16) rfl ?_
    show Steps p.tables e below (T1.setTop (mkF m 17 #[.val (.int p0), .val (.int (7 : Int32)), .val (.ref w_OFFER), .val (.int (0 : Int32))] [(.int (7 : Int32))])) _
    refine XS.bipush X1.here hx rfl (hb hby at_17) ?_
    show Steps p.tables e below (T1.setTop (mkF m 19 #[.val (.int p0), .val (.int (7 : Int32)), .val (.ref w_OFFER), .val (.int (0 : Int32))] [(.int (7 : Int32)), (.int (7 : Int32))])) _
    refine XS.icmpNo X1.here hx rfl (hb hby at_19) rfl (by decide) ?_
    show Steps p.tables e below (T1.setTop (mkF m 22 #[.val (.int p0), .val (.int (7 : Int32)), .val (.ref w_OFFER), .val (.int (0 : Int32))] [])) _
    refine XS.bipush X1.here hx rfl (hb hby at_22) ?_
    show Steps p.tables e below (T1.setTop (mkF m 24 #[.val (.int p0), .val (.int (7 : Int32)), .val (.ref w_OFFER), .val (.int (0 : Int32))] [(.int (12 : Int32))])) _
    refine XS.istoreN X1.here hx rfl (hb hby at_24) rfl (l' := #[.val (.int p0), .val (.int (7 : Int32)), .val (.ref w_OFFER), .val (.int (12 : Int32))]) rfl ?_
    show Steps p.tables e below (T1.setTop (mkF m 25 #[.val (.int p0), .val (.int (7 : Int32)), .val (.ref w_OFFER), .val (.int (12 : Int32))] [])) _
    refine XS.goto X1.here hx rfl (pc0 := 25) (pc' := 37) rfl (hb hby at_25) (by decide) (by decide) ?_
    show Steps p.tables e below (T1.setTop (mkF m 37 #[.val (.int p0), .val (.int (7 : Int32)), .val (.ref w_OFFER), .val (.int (12 : Int32))] [])) _
    refine XS.aloadN X1.here hx rfl (hb hby at_37) rfl rfl ?_
    show Steps p.tables e below (T1.setTop (mkF m 38 #[.val (.int p0), .val (.int (7 : Int32)), .val (.ref w_OFFER), .val (.int (12 : Int32))] [(.ref w_OFFER)])) _
    refine st2.trans ?_
    show Steps p.tables e below (T2.setTop (mkF m 41 #[.val (.int p0), .val (.int (7 : Int32)), .val (.ref w_OFFER), .val (.int (12 : Int32))] [(.int (7 : Int32))])) _
    refine XS.iloadN X2.here hx rfl (hb hby at_41) rfl ?_
    show Steps p.tables e below (T2.setTop (mkF m 42 #[.val (.int p0), .val (.int (7 : Int32)), .val (.ref w_OFFER), .val (.int (12 : Int32))] [(.int (7 : Int32)), (.int (7 : Int32))])) _
    refine XS.icmpNo X2.here hx rfl (hb hby at_42) rfl (by decide) ?_
    show Steps p.tables e below (T2.setTop (mkF m 45 #[.val (.int p0), .val (.int (7 : Int32)), .val (.ref w_OFFER), .val (.int (12 : Int32))] [])) _
    refine XS.aloadN X2.here hx rfl (hb hby at_45) rfl rfl ?_
    show Steps p.tables e below (T2.setTop (mkF m 46 #[.val (.int p0), .val (.int (7 : Int32)), .val (.ref w_OFFER), .val (.int (12 : Int32))] [(.ref w_OFFER)])) _
    refine st3.trans ?_
    show Steps p.tables e below (T3.setTop (mkF m 49 #[.val (.int p0), .val (.int (7 : Int32)), .val (.ref w_OFFER), .val (.int (12 : Int32))] [(.int (12 : Int32))])) _
    refine XS.iloadN X3.here hx rfl (hb hby at_49) rfl ?_
    show Steps p.tables e below (T3.setTop (mkF m 50 #[.val (.int p0), .val (.int (7 : Int32)), .val (.ref w_OFFER), .val (.int (12 : Int32))] [(.int (12 : Int32)), (.int (12 : Int32))])) _
    refine XS.icmpNo X3.here hx rfl (hb hby at_50) rfl (by decide) ?_
    show Steps p.tables e below (T3.setTop (mkF m 53 #[.val (.int p0), .val (.int (7 : Int32)), .val (.ref w_OFFER), .val (.int (12 : Int32))] [])) _
    refine XS.iconst X3.here hx rfl (hb hby at_53) ?_
    show Steps p.tables e below (T3.setTop (mkF m 54 #[.val (.int p0), .val (.int (7 : Int32)), .val (.ref w_OFFER), .val (.int (12 : Int32))] [(.int (1 : Int32))])) _
    refine XS.goto X3.here hx rfl (pc0 := 54) (pc' := 58) rfl (hb hby at_54) (by decide) (by decide) ?_
    show Steps p.tables e below (T3.setTop (mkF m 58 #[.val (.int p0), .val (.int (7 : Int32)), .val (.ref w_OFFER), .val (.int (12 : Int32))] [(.int (1 : Int32))])) _
    exact retN X3 hx (t := .boolean) Bd.returns (by simp) (hb hby at_58) hr
  · exact ⟨rfl, N3, e3⟩
set_option maxRecDepth 65536 in
set_option maxHeartbeats 40000000 in
theorem rm1_8 (l : Launch) (Z : State) (a0 : Array Value) (hw : ∀ d ∈ tables_1, d.before a0 Z = true) (ws : List Jvm.Cond) (w_MESSAGE : Addr) (w_OFFER : Addr) (w_SHARE : Addr) (w_DECLINE : Addr) (w_ANNOUNCE : Addr) (w_DATA : Addr) (w_GRANT : Addr) (w_TAKEN : Addr) (w_REFUSE : Addr) (w_LEAVE : Addr) (w_CODES : Addr) (cl_CODES : Cell) (h0 : Heap) (n0 : Nat) (Z0 : n0 ≤ h0.size) (P : Pins Z h0 w_MESSAGE w_OFFER w_SHARE w_DECLINE w_ANNOUNCE w_DATA w_GRANT w_TAKEN w_REFUSE w_LEAVE w_CODES cl_CODES) :
    MetFree l (⟨"swiftwire/FrameHeader", "kind", "(II)Lswiftwire/FrameHeader$Kind;"⟩ : MethodName) (head1 (Jvm.Cond.code (⟨"swiftwire/FrameHeader", "kind", "(II)Lswiftwire/FrameHeader$Kind;"⟩ : MethodName) prog_50_method_7_code 2 (some (.object "swiftwire/FrameHeader$Kind")) :: ws) ({ frames := 0, cells := 0, slots := 0, locals := 0 } : Room)) (fun a U => a = #[(.int (8 : Int32)), (.int (0 : Int32))] ∧ Z.Warmed39 U.vm ∧ U.heap = h0) (fun _ _ _ _ _ => True) (fun _ U o U' => ∃ v L, o = .returned v ∧ QP h0 n0 (some (.ref w_TAKEN)) v U'.heap L ∧ FrameEnd U o U' L ({ frames := 0, cells := 0, slots := 0, locals := 0 } : Room).cells ({ frames := 0, cells := 0, slots := 0, locals := 0 } : Room).slots) := by
  refine MetFree.of_bodySF (plainFor_of_name pn_swiftwire_FrameHeader) hisR ?_
  intro p e s m args below meth c s₁ Bd hml0 hP hK
  obtain ⟨rfl, hZ, hh⟩ := hP
  have hx := Bd.exec
  have hby := Bd.bytes
  have hml : c.maxLocals = 2 := hml0
  have hown : s.vm.findClass "swiftwire/FrameHeader" = some m.cls := findClass_of_methodNamed Bd.named
  have X0 : Stand p l e ({ frames := 0, cells := 0, slots := 0, locals := 0 } : Room) s m #[(.int (8 : Int32)), (.int (0 : Int32))] below meth c s₁ [] 0 0 := Stand.of_body Bd
  have e0 : s₁.heap = h0 := by rw [← hh, Bd.state]; rfl
  have N0 := Fr.nil n0
  have pre0 : ∀ t, Steps p.tables e below (s₁.setTop (mkF m 0 #[.val (.int (8 : Int32)), .val (.int (0 : Int32))] [])) t → Steps p.tables e below (s₁.setTop (entryFrame m #[(.int (8 : Int32)), (.int (0 : Int32))] 2)) t := fun t k => castTop (ef_1_II m (8 : Int32) (0 : Int32)) k
  have S_w_CODES : Sta Z h0 "swiftwire/FrameHeader$Kind" "CODES" "[Lswiftwire/FrameHeader$Kind;" (.ref w_CODES) := P.2.2.2.2.2.2.2.2.2.2.2.2.2.2.2.2.2.2.2.2.2.2.2.2.2.2.2.2.2.2.1
  have A_w_CODES : Arr Z h0 w_CODES cl_CODES (.object "swiftwire/FrameHeader$Kind") := P.2.2.2.2.2.2.2.2.2.2.2.2.2.2.2.2.2.2.2.2.2.2.2.2.2.2.2.2.2.2.2.1
  have Z_w_CODES : cl_CODES.slots.size = 10 := P.2.2.2.2.2.2.2.2.2.2.2.2.2.2.2.2.2.2.2.2.2.2.2.2.2.2.2.2.2.2.2.2.1
  have G_8 : cl_CODES.slots[(8 : Int32).toNatClampNeg]? = some (.ref w_TAKEN) := P.2.2.2.2.2.2.2.2.2.2.2.2.2.2.2.2.2.2.2.2.2.2.2.2.2.2.2.2.2.2.2.2.2.2.2.2.2.2.2.1
  obtain ⟨T1, X1, e1, st1⟩ := own_getSR X0 hx hZ hown (hw _ (List.mem_of_getElem? (i := 5) rfl)) e0 S_w_CODES (g := (mkF m 5 #[.val (.int (8 : Int32)), .val (.int (0 : Int32))] [(.int (8 : Int32))])) rfl (hb hby d1_5)
  obtain ⟨T2, X2, e2, st2⟩ := own_getSR X1 hx hZ hown (hw _ (List.mem_of_getElem? (i := 5) rfl)) e1 S_w_CODES (g := (mkF m 44 #[.val (.int (8 : Int32)), .val (.int (0 : Int32))] [])) rfl (hb hby d1_44)
  obtain ⟨fs, hr, hrun, hended, hW, hsame⟩ := X2.leave (v := some (.ref w_TAKEN)) (fun h => by rw [Bd.returns] at h; cases h)
  refine ⟨_, _, pre0 _ ?_, hrun, hended, _, _, rfl, ?_, ⟨_, rfl⟩, hW, hsame.mono (by decide) (by decide)⟩
  · show Steps p.tables e below (s₁.setTop (mkF m 0 #[.val (.int (8 : Int32)), .val (.int (0 : Int32))] [])) _
    refine XS.iloadN X0.here hx rfl (hb hby d1_0) rfl ?_
    show Steps p.tables e below (s₁.setTop (mkF m 1 #[.val (.int (8 : Int32)), .val (.int (0 : Int32))] [(.int (8 : Int32))])) _
    refine XS.ifNo X0.here hx rfl (hb hby d1_1) rfl (by decide) ?_
    show Steps p.tables e below (s₁.setTop (mkF m 4 #[.val (.int (8 : Int32)), .val (.int (0 : Int32))] [])) _
    refine XS.iloadN X0.here hx rfl (hb hby d1_4) rfl ?_
    show Steps p.tables e below (s₁.setTop (mkF m 5 #[.val (.int (8 : Int32)), .val (.int (0 : Int32))] [(.int (8 : Int32))])) _
    refine st1 _ ?_
    show Steps p.tables e below (T1.setTop (mkF m 8 #[.val (.int (8 : Int32)), .val (.int (0 : Int32))] [(.ref w_CODES), (.int (8 : Int32))])) _
    refine X1.arraylength hx (by rw [e1]; exact A_w_CODES.1) (State.isArrayOf_alike hZ.alike A_w_CODES.2.1) (g := (mkF m 8 #[.val (.int (8 : Int32)), .val (.int (0 : Int32))] [(.ref w_CODES), (.int (8 : Int32))])) rfl rfl (hb hby d1_8) _ ?_
    rw [show cl_CODES.slots.size.toInt32 = (10 : Int32) from by rw [Z_w_CODES]; decide]
    show Steps p.tables e below (T1.setTop (mkF m 9 #[.val (.int (8 : Int32)), .val (.int (0 : Int32))] [(.int (10 : Int32)), (.int (8 : Int32))])) _
    refine XS.icmpYes X1.here hx rfl (pc0 := 9) (pc' := 26) rfl (hb hby d1_9) rfl (by decide) (by decide) (by decide) ?_
    show Steps p.tables e below (T1.setTop (mkF m 26 #[.val (.int (8 : Int32)), .val (.int (0 : Int32))] [])) _
    refine XS.iloadN X1.here hx rfl (hb hby d1_26) rfl ?_
    show Steps p.tables e below (T1.setTop (mkF m 27 #[.val (.int (8 : Int32)), .val (.int (0 : Int32))] [(.int (0 : Int32))])) _
    refine XS.ifYes X1.here hx rfl (pc0 := 27) (pc' := 44) rfl (hb hby d1_27) rfl (by decide) (by decide) (by decide) ?_
    show Steps p.tables e below (T1.setTop (mkF m 44 #[.val (.int (8 : Int32)), .val (.int (0 : Int32))] [])) _
    refine st2 _ ?_
    show Steps p.tables e below (T2.setTop (mkF m 47 #[.val (.int (8 : Int32)), .val (.int (0 : Int32))] [(.ref w_CODES)])) _
    refine XS.iloadN X2.here hx rfl (hb hby d1_47) rfl ?_
    show Steps p.tables e below (T2.setTop (mkF m 48 #[.val (.int (8 : Int32)), .val (.int (0 : Int32))] [(.int (8 : Int32)), (.ref w_CODES)])) _
    refine X2.aaload hx (j := (8 : Int32)) (v := (.ref w_TAKEN)) (by rw [e2]; exact A_w_CODES.1) (State.isArrayOf_alike hZ.alike A_w_CODES.2.1) rfl A_w_CODES.2.2 (by rw [Z_w_CODES]; decide) G_8 (g := (mkF m 48 #[.val (.int (8 : Int32)), .val (.int (0 : Int32))] [(.int (8 : Int32)), (.ref w_CODES)])) rfl rfl (hb hby d1_48) _ ?_
    show Steps p.tables e below (T2.setTop (mkF m 49 #[.val (.int (8 : Int32)), .val (.int (0 : Int32))] [(.ref w_TAKEN)])) _
    exact retOut X2 hx Bd.returns rfl (Or.inr (Or.inr (Or.inr (Or.inr ⟨rfl, rfl, rfl⟩)))) (hb hby d1_49) hr
  · exact ⟨rfl, N0, e2⟩
set_option maxRecDepth 65536 in
set_option maxHeartbeats 40000000 in
theorem rm2_8 (l : Launch) (Z : State) (a0 : Array Value) (hw : ∀ d ∈ tables_1, d.before a0 Z = true) (ws : List Jvm.Cond) (w_MESSAGE : Addr) (w_OFFER : Addr) (w_SHARE : Addr) (w_DECLINE : Addr) (w_ANNOUNCE : Addr) (w_DATA : Addr) (w_GRANT : Addr) (w_TAKEN : Addr) (w_REFUSE : Addr) (w_LEAVE : Addr) (w_CODES : Addr) (cl_CODES : Cell) (h0 : Heap) (n0 : Nat) (Z0 : n0 ≤ h0.size) (P : Pins Z h0 w_MESSAGE w_OFFER w_SHARE w_DECLINE w_ANNOUNCE w_DATA w_GRANT w_TAKEN w_REFUSE w_LEAVE w_CODES cl_CODES) :
    MetFree l (⟨"java/lang/Enum", "ordinal", "()I"⟩ : MethodName) (head1 (Jvm.Cond.code (⟨"java/lang/Enum", "ordinal", "()I"⟩ : MethodName) jdk_37_method_2_code 1 (some .int) :: ws) ({ frames := 0, cells := 0, slots := 0, locals := 0 } : Room)) (fun a U => a = #[(.ref w_TAKEN)] ∧ Z.Warmed39 U.vm ∧ U.heap = h0) (fun _ _ _ _ _ => True) (fun _ U o U' => ∃ v L, o = .returned v ∧ QP h0 n0 (some (.int (8 : Int32))) v U'.heap L ∧ FrameEnd U o U' L ({ frames := 0, cells := 0, slots := 0, locals := 0 } : Room).cells ({ frames := 0, cells := 0, slots := 0, locals := 0 } : Room).slots) := by
  refine MetFree.of_bodySF (plainFor_of_name pn_java_lang_Enum) hisR ?_
  intro p e s m args below meth c s₁ Bd hml0 hP hK
  obtain ⟨rfl, hZ, hh⟩ := hP
  have hx := Bd.exec
  have hby := Bd.bytes
  have hml : c.maxLocals = 1 := hml0
  have hown : s.vm.findClass "java/lang/Enum" = some m.cls := findClass_of_methodNamed Bd.named
  have X0 : Stand p l e ({ frames := 0, cells := 0, slots := 0, locals := 0 } : Room) s m #[(.ref w_TAKEN)] below meth c s₁ [] 0 0 := Stand.of_body Bd
  have e0 : s₁.heap = h0 := by rw [← hh, Bd.state]; rfl
  have N0 := Fr.nil n0
  have pre0 : ∀ t, Steps p.tables e below (s₁.setTop (mkF m 0 #[.val (.ref w_TAKEN)] [])) t → Steps p.tables e below (s₁.setTop (entryFrame m #[(.ref w_TAKEN)] 1)) t := fun t k => castTop (ef_2_R m w_TAKEN) k
  have F_w_TAKEN_ordinal : Fld Z h0 w_TAKEN "java/lang/Enum" "ordinal" "I" (.int (8 : Int32)) := P.2.2.2.2.2.2.2.2.2.2.2.2.2.2.2.2.2.2.2.2.2.2.2.2.2.2.2.1
  obtain ⟨T1, X1, e1, st1⟩ := getF X0 hx hZ hown (host := "") (Or.inl (hw _ (List.mem_of_getElem? (i := 16) rfl))) Via.refl e0 F_w_TAKEN_ordinal (g := (mkF m 1 #[.val (.ref w_TAKEN)] [(.ref w_TAKEN)])) rfl rfl (hb hby d2_1)
  obtain ⟨fs, hr, hrun, hended, hW, hsame⟩ := X1.leave (v := some (.int (8 : Int32))) (fun h => by rw [Bd.returns] at h; cases h)
  refine ⟨_, _, pre0 _ ?_, hrun, hended, _, _, rfl, ?_, ⟨_, rfl⟩, hW, hsame.mono (by decide) (by decide)⟩
  · show Steps p.tables e below (s₁.setTop (mkF m 0 #[.val (.ref w_TAKEN)] [])) _
    refine XS.aloadN X0.here hx rfl (hb hby d2_0) rfl rfl ?_
    show Steps p.tables e below (s₁.setTop (mkF m 1 #[.val (.ref w_TAKEN)] [(.ref w_TAKEN)])) _
    refine st1 _ ?_
    show Steps p.tables e below (T1.setTop (mkF m 4 #[.val (.ref w_TAKEN)] [(.int (8 : Int32))])) _
    exact retI X1 hx Bd.returns (hb hby d2_4) hr
  · exact ⟨rfl, N0, e1⟩
set_option maxRecDepth 65536 in
set_option maxHeartbeats 40000000 in
theorem rm3_8 (l : Launch) (Z : State) (a0 : Array Value) (hw : ∀ d ∈ tables_1, d.before a0 Z = true) (ws : List Jvm.Cond) (w_MESSAGE : Addr) (w_OFFER : Addr) (w_SHARE : Addr) (w_DECLINE : Addr) (w_ANNOUNCE : Addr) (w_DATA : Addr) (w_GRANT : Addr) (w_TAKEN : Addr) (w_REFUSE : Addr) (w_LEAVE : Addr) (w_CODES : Addr) (cl_CODES : Cell) (h0 : Heap) (n0 : Nat) (Z0 : n0 ≤ h0.size) (P : Pins Z h0 w_MESSAGE w_OFFER w_SHARE w_DECLINE w_ANNOUNCE w_DATA w_GRANT w_TAKEN w_REFUSE w_LEAVE w_CODES cl_CODES) :
    MetFree l (⟨"swiftwire/FrameHeader$Kind", "tailBytes", "()I"⟩ : MethodName) (head1 (Jvm.Cond.code (⟨"swiftwire/FrameHeader$Kind", "tailBytes", "()I"⟩ : MethodName) prog_51_method_6_code 2 (some .int) :: ws) ({ frames := 0, cells := 0, slots := 0, locals := 0 } : Room)) (fun a U => a = #[(.ref w_TAKEN)] ∧ Z.Warmed39 U.vm ∧ U.heap = h0) (fun _ _ _ _ _ => True) (fun _ U o U' => ∃ v L, o = .returned v ∧ QP h0 n0 (some (.int (0 : Int32))) v U'.heap L ∧ FrameEnd U o U' L ({ frames := 0, cells := 0, slots := 0, locals := 0 } : Room).cells ({ frames := 0, cells := 0, slots := 0, locals := 0 } : Room).slots) := by
  refine MetFree.of_bodySF (plainFor_of_name pn_swiftwire_FrameHeader_Kind) hisR ?_
  intro p e s m args below meth c s₁ Bd hml0 hP hK
  obtain ⟨rfl, hZ, hh⟩ := hP
  have hx := Bd.exec
  have hby := Bd.bytes
  have hml : c.maxLocals = 2 := hml0
  have hown : s.vm.findClass "swiftwire/FrameHeader$Kind" = some m.cls := findClass_of_methodNamed Bd.named
  have X0 : Stand p l e ({ frames := 0, cells := 0, slots := 0, locals := 0 } : Room) s m #[(.ref w_TAKEN)] below meth c s₁ [] 0 0 := Stand.of_body Bd
  have e0 : s₁.heap = h0 := by rw [← hh, Bd.state]; rfl
  have N0 := Fr.nil n0
  have pre0 : ∀ t, Steps p.tables e below (s₁.setTop (mkF m 0 #[.val (.ref w_TAKEN), .unset] [])) t → Steps p.tables e below (s₁.setTop (entryFrame m #[(.ref w_TAKEN)] 2)) t := fun t k => castTop (ef_3_R m w_TAKEN) k
  have S_w_OFFER : Sta Z h0 "swiftwire/FrameHeader$Kind" "OFFER" "Lswiftwire/FrameHeader$Kind;" (.ref w_OFFER) := P.2.2.1
  have F_w_TAKEN_ordinal : Fld Z h0 w_TAKEN "java/lang/Enum" "ordinal" "I" (.int (8 : Int32)) := P.2.2.2.2.2.2.2.2.2.2.2.2.2.2.2.2.2.2.2.2.2.2.2.2.2.2.2.1
  have F_w_OFFER_ordinal : Fld Z h0 w_OFFER "java/lang/Enum" "ordinal" "I" (.int (7 : Int32)) := P.2.2.2.2.2.2.2.2.2.2.2.2.2.2.2.2.2.2.2.2.2.1
  have S_w_SHARE : Sta Z h0 "swiftwire/FrameHeader$Kind" "SHARE" "Lswiftwire/FrameHeader$Kind;" (.ref w_SHARE) := P.2.2.2.2.1
  have F_w_SHARE_ordinal : Fld Z h0 w_SHARE "java/lang/Enum" "ordinal" "I" (.int (9 : Int32)) := P.2.2.2.2.2.2.2.2.2.2.2.2.2.2.2.2.2.2.2.2.2.2.1
  obtain ⟨T1, X1, e1, st1⟩ := getS2 X0 hx hZ hown (host := "") (Or.inl (hw _ (List.mem_of_getElem? (i := 23) rfl))) Via.refl e0 S_w_OFFER (g := (mkF m 3 #[.val (.ref w_TAKEN), .val (.int (0 : Int32))] [(.ref w_TAKEN)])) rfl (hb hby d3_3)
  obtain ⟨T2, X2, e2, st2⟩ := getS2 X1 hx hZ hown (host := "") (Or.inl (hw _ (List.mem_of_getElem? (i := 25) rfl))) Via.refl e1 S_w_SHARE (g := (mkF m 16 #[.val (.ref w_TAKEN), .val (.int (0 : Int32))] [(.ref w_TAKEN)])) rfl (hb hby d3_16)
  obtain ⟨fs, hr, hrun, hended, hW, hsame⟩ := X2.leave (v := some (.int (0 : Int32))) (fun h => by rw [Bd.returns] at h; cases h)
  refine ⟨_, _, pre0 _ ?_, hrun, hended, _, _, rfl, ?_, ⟨_, rfl⟩, hW, hsame.mono (by decide) (by decide)⟩
  · show Steps p.tables e below (s₁.setTop (mkF m 0 #[.val (.ref w_TAKEN), .unset] [])) _
    refine XS.iconst X0.here hx rfl (hb hby d3_0) ?_
    show Steps p.tables e below (s₁.setTop (mkF m 1 #[.val (.ref w_TAKEN), .unset] [(.int (0 : Int32))])) _
    refine XS.istoreN X0.here hx rfl (hb hby d3_1) rfl (l' := #[.val (.ref w_TAKEN), .val (.int (0 : Int32))]) rfl ?_
    show Steps p.tables e below (s₁.setTop (mkF m 2 #[.val (.ref w_TAKEN), .val (.int (0 : Int32))] [])) _
    refine XS.aloadN X0.here hx rfl (hb hby d3_2) rfl rfl ?_
    show Steps p.tables e below (s₁.setTop (mkF m 3 #[.val (.ref w_TAKEN), .val (.int (0 : Int32))] [(.ref w_TAKEN)])) _
    refine st1 _ ?_
    show Steps p.tables e below (T1.setTop (mkF m 6 #[.val (.ref w_TAKEN), .val (.int (0 : Int32))] [(.ref w_OFFER), (.ref w_TAKEN)])) _
    refine Jvm.RoadKit.acmp (g := (mkF m 6 #[.val (.ref w_TAKEN), .val (.int (0 : Int32))] [(.ref w_OFFER), (.ref w_TAKEN)])) X1 hx rfl rfl rfl (pc0 := 6) (pc' := 15) (same := false) rfl (hb hby d3_6) rfl (decide_eq_false fun q => (Fld.ne F_w_TAKEN_ordinal F_w_OFFER_ordinal (by decide)) (Value.ref.inj q)) (by decide) (by decide) ?_
    show Steps p.tables e below (T1.setTop (mkF m 15 #[.val (.ref w_TAKEN), .val (.int (0 : Int32))] [])) _
    refine XS.aloadN X1.here hx rfl (hb hby d3_15) rfl rfl ?_
    show Steps p.tables e below (T1.setTop (mkF m 16 #[.val (.ref w_TAKEN), .val (.int (0 : Int32))] [(.ref w_TAKEN)])) _
    refine st2 _ ?_
    show Steps p.tables e below (T2.setTop (mkF m 19 #[.val (.ref w_TAKEN), .val (.int (0 : Int32))] [(.ref w_SHARE), (.ref w_TAKEN)])) _
    refine Jvm.RoadKit.acmp (g := (mkF m 19 #[.val (.ref w_TAKEN), .val (.int (0 : Int32))] [(.ref w_SHARE), (.ref w_TAKEN)])) X2 hx rfl rfl rfl (pc0 := 19) (pc' := 25) (same := false) rfl (hb hby d3_19) rfl (decide_eq_false fun q => (Fld.ne F_w_TAKEN_ordinal F_w_SHARE_ordinal (by decide)) (Value.ref.inj q)) (by decide) (by decide) ?_
    show Steps p.tables e below (T2.setTop (mkF m 25 #[.val (.ref w_TAKEN), .val (.int (0 : Int32))] [])) _
    refine XS.iloadN X2.here hx rfl (hb hby d3_25) rfl ?_
    show Steps p.tables e below (T2.setTop (mkF m 26 #[.val (.ref w_TAKEN), .val (.int (0 : Int32))] [(.int (0 : Int32))])) _
    exact retI X2 hx Bd.returns (hb hby d3_26) hr
  · exact ⟨rfl, N0, e2⟩
set_option maxRecDepth 65536 in
set_option maxHeartbeats 40000000 in
theorem rm0_c8 (l : Launch) (Z : State) (a0 : Array Value) (hw : ∀ d ∈ tables_1, d.before a0 Z = true) (ws : List Jvm.Cond) (w_MESSAGE : Addr) (w_OFFER : Addr) (w_SHARE : Addr) (w_DECLINE : Addr) (w_ANNOUNCE : Addr) (w_DATA : Addr) (w_GRANT : Addr) (w_TAKEN : Addr) (w_REFUSE : Addr) (w_LEAVE : Addr) (w_CODES : Addr) (cl_CODES : Cell) (p0 : Int32) (h0 : Heap) (n0 : Nat) (Z0 : n0 ≤ h0.size) (P : Pins Z h0 w_MESSAGE w_OFFER w_SHARE w_DECLINE w_ANNOUNCE w_DATA w_GRANT w_TAKEN w_REFUSE w_LEAVE w_CODES cl_CODES) (k0 : ((p0 &&& (2147483647 : Int32)) % (10 : Int32)) = (8 : Int32)) :
    MetFree l x (head1 (Jvm.Cond.code x code maxLocals ret :: ws) room_1) (fun a U => a = #[(.int p0)] ∧ Z.Warmed39 U.vm ∧ U.heap = h0) (fun _ _ _ _ _ => True) (fun _ U o U' => ∃ v L, o = .returned v ∧ QP h0 n0 (some (.int (1 : Int32))) v U'.heap L ∧ FrameEnd U o U' L room_1.cells room_1.slots) := by
  refine MetFree.of_bodySF (plainFor_of_name pn_swiftwire_KindTailBytesPinLaw) hisR ?_
  intro p e s m args below meth c s₁ Bd hml0 hP hK
  obtain ⟨rfl, hZ, hh⟩ := hP
  have hx := Bd.exec
  have hby := Bd.bytes
  have hml : c.maxLocals = 4 := hml0
  have hown : s.vm.findClass "swiftwire/KindTailBytesPinLaw" = some m.cls := findClass_of_methodNamed Bd.named
  have X0 : Stand p l e room_1 s m #[(.int p0)] below meth c s₁ [] 0 0 := Stand.of_body Bd
  have e0 : s₁.heap = h0 := by rw [← hh, Bd.state]; rfl
  have N0 := Fr.nil n0
  have pre0 : ∀ t, Steps p.tables e below (s₁.setTop (mkF m 0 #[.val (.int p0), .unset, .unset, .unset] [])) t → Steps p.tables e below (s₁.setTop (entryFrame m #[(.int p0)] maxLocals)) t := fun t k => castTop (ef_0_I m p0) k
  have E_w_TAKEN : Exa Z h0 w_TAKEN "swiftwire/FrameHeader$Kind" := P.2.2.2.2.2.2.2.2.2.2.2.2.2.2.2.1
  obtain ⟨_, _, ⟨T1, L1, k1, n1⟩, -, X1, ⟨Lc1, hQ1, l1, y1, z1⟩, st1⟩ := Jvm.LawKit.callS X0 hx (y := (⟨"swiftwire/FrameHeader", "kind", "(II)Lswiftwire/FrameHeader$Kind;"⟩ : MethodName)) hown (mvT hZ (hw _ (List.mem_of_getElem? (i := 1) rfl))) (mvT hZ (hw _ (List.mem_of_getElem? (i := 2) rfl))) (mvT hZ (hw _ (List.mem_of_getElem? (i := 3) rfl))) (mvT hZ (hw _ (List.mem_of_getElem? (i := 4) rfl))) (by decide) (backOf (W := 0) (rm1_8 l Z a0 hw [] w_MESSAGE w_OFFER w_SHARE w_DECLINE w_ANNOUNCE w_DATA w_GRANT w_TAKEN w_REFUSE w_LEAVE w_CODES cl_CODES h0 n0 Z0 P) hZ (hw _ (List.mem_of_getElem? (i := 4) rfl)) (hw _ (List.mem_of_getElem? (i := 3) rfl)) (by decide) (by decide)) (g := (mkF m 10 #[.val (.int p0), .val (.int (8 : Int32)), .unset, .unset] [(.int (0 : Int32)), (.int (8 : Int32))])) rfl (by rw [hml]; rfl) (argsL := [(.int (8 : Int32)), (.int (0 : Int32))]) (rest := []) (lenOf pd_0 rfl) rfl (by show 2 * 0 + _ ≤ _; exact Nat.le_of_eq rfl) (hb hby at_10) (fun _ _ => ⟨rfl, e0, (by decide : 0 + 0 ≤ _), (by decide : 0 + 0 ≤ _)⟩)
  dsimp only [Pt.U, Pt.locs, Pt.cells, Pt.slots] at X1 l1 y1 z1 st1 hQ1
  subst l1 y1 z1
  obtain ⟨rfl, N1q, e1⟩ := hQ1
  have N1 := Fr.app N0 N1q
  obtain ⟨cq2, kq2, q2a, q2b, q2c⟩ := isOf hZ e1 E_w_TAKEN
  obtain ⟨_, _, ⟨T2, L2, k2, n2⟩, -, X2, ⟨Lc2, hQ2, l2, y2, z2⟩, st2⟩ := X1.virtualBackUp hx (owner := "java/lang/Enum") (x := (⟨"swiftwire/FrameHeader$Kind", "ordinal", "()I"⟩ : MethodName)) (y := (⟨"java/lang/Enum", "ordinal", "()I"⟩ : MethodName)) hown (mvT hZ (hw _ (List.mem_of_getElem? (i := 9) rfl))) (mvT hZ (hw _ (List.mem_of_getElem? (i := 10) rfl))) (mvT hZ (hw _ (List.mem_of_getElem? (i := 11) rfl))) (by decide) (mvT hZ (hw _ (List.mem_of_getElem? (i := 13) rfl))) (mvT hZ (hw _ (List.mem_of_getElem? (i := 12) rfl))) (backOf (W := 0) (rm2_8 l Z a0 hw [] w_MESSAGE w_OFFER w_SHARE w_DECLINE w_ANNOUNCE w_DATA w_GRANT w_TAKEN w_REFUSE w_LEAVE w_CODES cl_CODES h0 n0 Z0 P) hZ (hw _ (List.mem_of_getElem? (i := 15) rfl)) (hw _ (List.mem_of_getElem? (i := 14) rfl)) (by decide) (by decide)) q2a q2c (g := (mkF m 38 #[.val (.int p0), .val (.int (8 : Int32)), .val (.ref w_TAKEN), .val (.int (0 : Int32))] [(.ref w_TAKEN)])) rfl (by rw [hml]; rfl) (Steps.refl _) (argsL := []) (rest := []) (lenOf pd_1 rfl) rfl (by show 2 * 0 + _ ≤ _; exact Nat.le_of_eq rfl) (hb hby at_38) (fun _ _ => ⟨rfl, e1, (by decide : 0 + 0 ≤ _), (by decide : 0 + 0 ≤ _)⟩)
  dsimp only [Pt.U, Pt.locs, Pt.cells, Pt.slots] at X2 l2 y2 z2 st2 hQ2
  subst l2 y2 z2
  obtain ⟨rfl, N2q, e2⟩ := hQ2
  have N2 := Fr.app N1 N2q
  obtain ⟨cq3, kq3, q3a, q3b, q3c⟩ := isOf hZ e2 E_w_TAKEN
  obtain ⟨_, _, ⟨T3, L3, k3, n3⟩, -, X3, ⟨Lc3, hQ3, l3, y3, z3⟩, st3⟩ := X2.virtualBack hx (y := (⟨"swiftwire/FrameHeader$Kind", "tailBytes", "()I"⟩ : MethodName)) (z := (⟨"swiftwire/FrameHeader$Kind", "tailBytes", "()I"⟩ : MethodName)) hown (mvT hZ (hw _ (List.mem_of_getElem? (i := 18) rfl))) (mvT hZ (hw _ (List.mem_of_getElem? (i := 19) rfl))) (notFace_of_selects (args := #[]) (mvT hZ (hw _ (List.mem_of_getElem? (i := 21) rfl)))) (mvT hZ (hw _ (List.mem_of_getElem? (i := 21) rfl))) (mvT hZ (hw _ (List.mem_of_getElem? (i := 20) rfl))) (by decide) (backOf (W := 0) (rm3_8 l Z a0 hw [] w_MESSAGE w_OFFER w_SHARE w_DECLINE w_ANNOUNCE w_DATA w_GRANT w_TAKEN w_REFUSE w_LEAVE w_CODES cl_CODES h0 n0 Z0 P) hZ (hw _ (List.mem_of_getElem? (i := 22) rfl)) (hw _ (List.mem_of_getElem? (i := 6) rfl)) (by decide) (by decide)) q3a q3c (g := (mkF m 46 #[.val (.int p0), .val (.int (8 : Int32)), .val (.ref w_TAKEN), .val (.int (0 : Int32))] [(.ref w_TAKEN)])) rfl (by rw [hml]; rfl) (Steps.refl _) (argsL := []) (rest := []) (lenOf pd_1 rfl) rfl (by show 2 * 0 + _ ≤ _; exact Nat.le_of_eq rfl) (hb hby at_46) (fun _ _ => ⟨rfl, e2, (by decide : 0 + 0 ≤ _), (by decide : 0 + 0 ≤ _)⟩)
  dsimp only [Pt.U, Pt.locs, Pt.cells, Pt.slots] at X3 l3 y3 z3 st3 hQ3
  subst l3 y3 z3
  obtain ⟨rfl, N3q, e3⟩ := hQ3
  have N3 := Fr.app N2 N3q
  obtain ⟨fs, hr, hrun, hended, hW, hsame⟩ := X3.leave (v := some (.int (1 : Int32))) (fun h => by rw [Bd.returns] at h; cases h)
  refine ⟨_, _, pre0 _ ?_, hrun, hended, _, _, rfl, ?_, ⟨_, rfl⟩, hW, hsame.mono (by decide) (by decide)⟩
  · show Steps p.tables e below (s₁.setTop (mkF m 0 #[.val (.int p0), .unset, .unset, .unset] [])) _
    refine XS.iloadN X0.here hx rfl (hb hby at_0) rfl ?_
    show Steps p.tables e below (s₁.setTop (mkF m 1 #[.val (.int p0), .unset, .unset, .unset] [(.int p0)])) _
    refine Jvm.Stand.ldcI X0 hx hown (mvT hZ (hw _ (List.mem_of_getElem? (i := 0) rfl))) rfl (hb hby at_1) ?_
    show Steps p.tables e below (s₁.setTop (mkF m 3 #[.val (.int p0), .unset, .unset, .unset] [(.int (2147483647 : Int32)), (.int p0)])) _
    refine XS.iand X0.here hx rfl (hb hby at_3) rfl ?_
    show Steps p.tables e below (s₁.setTop (mkF m 4 #[.val (.int p0), .unset, .unset, .unset] [(.int (p0 &&& (2147483647 : Int32)))])) _
    refine XS.bipush X0.here hx rfl (hb hby at_4) ?_
    show Steps p.tables e below (s₁.setTop (mkF m 6 #[.val (.int p0), .unset, .unset, .unset] [(.int (10 : Int32)), (.int (p0 &&& (2147483647 : Int32)))])) _
    refine iremM X0 hx rfl (hb hby at_6) rfl (by decide) ?_
    show Steps p.tables e below (s₁.setTop (mkF m 7 #[.val (.int p0), .unset, .unset, .unset] [(.int ((p0 &&& (2147483647 : Int32)) % (10 : Int32)))])) _
    rw [k0]
    show Steps p.tables e below (s₁.setTop (mkF m 7 #[.val (.int p0), .unset, .unset, .unset] [(.int (8 : Int32))])) _
    refine XS.istoreN X0.here hx rfl (hb hby at_7) rfl (l' := #[.val (.int p0), .val (.int (8 : Int32)), .unset, .unset]) rfl ?_
    show Steps p.tables e below (s₁.setTop (mkF m 8 #[.val (.int p0), .val (.int (8 : Int32)), .unset, .unset] [])) _
    refine XS.iloadN X0.here hx rfl (hb hby at_8) rfl ?_
    show Steps p.tables e below (s₁.setTop (mkF m 9 #[.val (.int p0), .val (.int (8 : Int32)), .unset, .unset] [(.int (8 : Int32))])) _
    refine XS.iconst X0.here hx rfl (hb hby at_9) ?_
    show Steps p.tables e below (s₁.setTop (mkF m 10 #[.val (.int p0), .val (.int (8 : Int32)), .unset, .unset] [(.int (0 : Int32)), (.int (8 : Int32))])) _
    refine st1 _ ?_
    show Steps p.tables e below (T1.setTop (mkF m 13 #[.val (.int p0), .val (.int (8 : Int32)), .unset, .unset] [(.ref w_TAKEN)])) _
    refine XS.astoreN X1.here hx rfl (hb hby at_13) rfl rfl (l' := #[.val (.int p0), .val (.int (8 : Int32)), .val (.ref w_TAKEN), .unset]) rfl ?_
    show Steps p.tables e below (T1.setTop (mkF m 14 #[.val (.int p0), .val (.int (8 : Int32)), .val (.ref w_TAKEN), .unset] [])) _
    refine XS.iconst X1.here hx rfl (hb hby at_14) ?_
    show Steps p.tables e below (T1.setTop (mkF m 15 #[.val (.int p0), .val (.int (8 : Int32)), .val (.ref w_TAKEN), .unset] [(.int (0 : Int32))])) _
    refine XS.istoreN X1.here hx rfl (hb hby at_15) rfl (l' := #[.val (.int p0), .val (.int (8 : Int32)), .val (.ref w_TAKEN), .val (.int (0 : Int32))]) rfl ?_
    show Steps p.tables e below (T1.setTop (mkF m 16 #[.val (.int p0), .val (.int (8 : Int32)), .val (.ref w_TAKEN), .val (.int (0 : Int32))] [])) _
    refine XS.iloadN X1.here hx rfl (hb hby at_16) rfl ?_
    show Steps p.tables e below (T1.setTop (mkF m 17 #[.val (.int p0), .val (.int (8 : Int32)), .val (.ref w_TAKEN), .val (.int (0 : Int32))] [(.int (8 : Int32))])) _
    refine XS.bipush X1.here hx rfl (hb hby at_17) ?_
    show Steps p.tables e below (T1.setTop (mkF m 19 #[.val (.int p0), .val (.int (8 : Int32)), .val (.ref w_TAKEN), .val (.int (0 : Int32))] [(.int (7 : Int32)), (.int (8 : Int32))])) _
    refine XS.icmpYes X1.here hx rfl (pc0 := 19) (pc' := 28) rfl (hb hby at_19) rfl (by decide) (by decide) (by decide) ?_
    show Steps p.tables e below (T1.setTop (mkF m 28 #[.val (.int p0), .val (.int (8 : Int32)), .val (.ref w_TAKEN), .val (.int (0 : Int32))] [])) _
    refine XS.iloadN X1.here hx rfl (hb hby at_28) rfl ?_
    show Steps p.tables e below (T1.setTop (mkF m 29 #[.val (.int p0), .val (.int (8 : Int32)), .val (.ref w_TAKEN), .val (.int (0 : Int32))] [(.int (8 : Int32))])) _
    refine XS.bipush X1.here hx rfl (hb hby at_29) ?_
    show Steps p.tables e below (T1.setTop (mkF m 31 #[.val (.int p0), .val (.int (8 : Int32)), .val (.ref w_TAKEN), .val (.int (0 : Int32))] [(.int (9 : Int32)), (.int (8 : Int32))])) _
    refine XS.icmpYes X1.here hx rfl (pc0 := 31) (pc' := 37) rfl (hb hby at_31) rfl (by decide) (by decide) (by decide) ?_
    show Steps p.tables e below (T1.setTop (mkF m 37 #[.val (.int p0), .val (.int (8 : Int32)), .val (.ref w_TAKEN), .val (.int (0 : Int32))] [])) _
    refine XS.aloadN X1.here hx rfl (hb hby at_37) rfl rfl ?_
    show Steps p.tables e below (T1.setTop (mkF m 38 #[.val (.int p0), .val (.int (8 : Int32)), .val (.ref w_TAKEN), .val (.int (0 : Int32))] [(.ref w_TAKEN)])) _
    refine st2.trans ?_
    show Steps p.tables e below (T2.setTop (mkF m 41 #[.val (.int p0), .val (.int (8 : Int32)), .val (.ref w_TAKEN), .val (.int (0 : Int32))] [(.int (8 : Int32))])) _
    refine XS.iloadN X2.here hx rfl (hb hby at_41) rfl ?_
    show Steps p.tables e below (T2.setTop (mkF m 42 #[.val (.int p0), .val (.int (8 : Int32)), .val (.ref w_TAKEN), .val (.int (0 : Int32))] [(.int (8 : Int32)), (.int (8 : Int32))])) _
    refine XS.icmpNo X2.here hx rfl (hb hby at_42) rfl (by decide) ?_
    show Steps p.tables e below (T2.setTop (mkF m 45 #[.val (.int p0), .val (.int (8 : Int32)), .val (.ref w_TAKEN), .val (.int (0 : Int32))] [])) _
    refine XS.aloadN X2.here hx rfl (hb hby at_45) rfl rfl ?_
    show Steps p.tables e below (T2.setTop (mkF m 46 #[.val (.int p0), .val (.int (8 : Int32)), .val (.ref w_TAKEN), .val (.int (0 : Int32))] [(.ref w_TAKEN)])) _
    refine st3.trans ?_
    show Steps p.tables e below (T3.setTop (mkF m 49 #[.val (.int p0), .val (.int (8 : Int32)), .val (.ref w_TAKEN), .val (.int (0 : Int32))] [(.int (0 : Int32))])) _
    refine XS.iloadN X3.here hx rfl (hb hby at_49) rfl ?_
    show Steps p.tables e below (T3.setTop (mkF m 50 #[.val (.int p0), .val (.int (8 : Int32)), .val (.ref w_TAKEN), .val (.int (0 : Int32))] [(.int (0 : Int32)), (.int (0 : Int32))])) _
    refine XS.icmpNo X3.here hx rfl (hb hby at_50) rfl (by decide) ?_
    show Steps p.tables e below (T3.setTop (mkF m 53 #[.val (.int p0), .val (.int (8 : Int32)), .val (.ref w_TAKEN), .val (.int (0 : Int32))] [])) _
    refine XS.iconst X3.here hx rfl (hb hby at_53) ?_
    show Steps p.tables e below (T3.setTop (mkF m 54 #[.val (.int p0), .val (.int (8 : Int32)), .val (.ref w_TAKEN), .val (.int (0 : Int32))] [(.int (1 : Int32))])) _
    refine XS.goto X3.here hx rfl (pc0 := 54) (pc' := 58) rfl (hb hby at_54) (by decide) (by decide) ?_
    show Steps p.tables e below (T3.setTop (mkF m 58 #[.val (.int p0), .val (.int (8 : Int32)), .val (.ref w_TAKEN), .val (.int (0 : Int32))] [(.int (1 : Int32))])) _
    exact retN X3 hx (t := .boolean) Bd.returns (by simp) (hb hby at_58) hr
  · exact ⟨rfl, N3, e3⟩
set_option maxRecDepth 65536 in
set_option maxHeartbeats 40000000 in
theorem rm1_9 (l : Launch) (Z : State) (a0 : Array Value) (hw : ∀ d ∈ tables_1, d.before a0 Z = true) (ws : List Jvm.Cond) (w_MESSAGE : Addr) (w_OFFER : Addr) (w_SHARE : Addr) (w_DECLINE : Addr) (w_ANNOUNCE : Addr) (w_DATA : Addr) (w_GRANT : Addr) (w_TAKEN : Addr) (w_REFUSE : Addr) (w_LEAVE : Addr) (w_CODES : Addr) (cl_CODES : Cell) (h0 : Heap) (n0 : Nat) (Z0 : n0 ≤ h0.size) (P : Pins Z h0 w_MESSAGE w_OFFER w_SHARE w_DECLINE w_ANNOUNCE w_DATA w_GRANT w_TAKEN w_REFUSE w_LEAVE w_CODES cl_CODES) :
    MetFree l (⟨"swiftwire/FrameHeader", "kind", "(II)Lswiftwire/FrameHeader$Kind;"⟩ : MethodName) (head1 (Jvm.Cond.code (⟨"swiftwire/FrameHeader", "kind", "(II)Lswiftwire/FrameHeader$Kind;"⟩ : MethodName) prog_50_method_7_code 2 (some (.object "swiftwire/FrameHeader$Kind")) :: ws) ({ frames := 0, cells := 0, slots := 0, locals := 0 } : Room)) (fun a U => a = #[(.int (9 : Int32)), (.int (0 : Int32))] ∧ Z.Warmed39 U.vm ∧ U.heap = h0) (fun _ _ _ _ _ => True) (fun _ U o U' => ∃ v L, o = .returned v ∧ QP h0 n0 (some (.ref w_SHARE)) v U'.heap L ∧ FrameEnd U o U' L ({ frames := 0, cells := 0, slots := 0, locals := 0 } : Room).cells ({ frames := 0, cells := 0, slots := 0, locals := 0 } : Room).slots) := by
  refine MetFree.of_bodySF (plainFor_of_name pn_swiftwire_FrameHeader) hisR ?_
  intro p e s m args below meth c s₁ Bd hml0 hP hK
  obtain ⟨rfl, hZ, hh⟩ := hP
  have hx := Bd.exec
  have hby := Bd.bytes
  have hml : c.maxLocals = 2 := hml0
  have hown : s.vm.findClass "swiftwire/FrameHeader" = some m.cls := findClass_of_methodNamed Bd.named
  have X0 : Stand p l e ({ frames := 0, cells := 0, slots := 0, locals := 0 } : Room) s m #[(.int (9 : Int32)), (.int (0 : Int32))] below meth c s₁ [] 0 0 := Stand.of_body Bd
  have e0 : s₁.heap = h0 := by rw [← hh, Bd.state]; rfl
  have N0 := Fr.nil n0
  have pre0 : ∀ t, Steps p.tables e below (s₁.setTop (mkF m 0 #[.val (.int (9 : Int32)), .val (.int (0 : Int32))] [])) t → Steps p.tables e below (s₁.setTop (entryFrame m #[(.int (9 : Int32)), (.int (0 : Int32))] 2)) t := fun t k => castTop (ef_1_II m (9 : Int32) (0 : Int32)) k
  have S_w_CODES : Sta Z h0 "swiftwire/FrameHeader$Kind" "CODES" "[Lswiftwire/FrameHeader$Kind;" (.ref w_CODES) := P.2.2.2.2.2.2.2.2.2.2.2.2.2.2.2.2.2.2.2.2.2.2.2.2.2.2.2.2.2.2.1
  have A_w_CODES : Arr Z h0 w_CODES cl_CODES (.object "swiftwire/FrameHeader$Kind") := P.2.2.2.2.2.2.2.2.2.2.2.2.2.2.2.2.2.2.2.2.2.2.2.2.2.2.2.2.2.2.2.1
  have Z_w_CODES : cl_CODES.slots.size = 10 := P.2.2.2.2.2.2.2.2.2.2.2.2.2.2.2.2.2.2.2.2.2.2.2.2.2.2.2.2.2.2.2.2.1
  have G_9 : cl_CODES.slots[(9 : Int32).toNatClampNeg]? = some (.ref w_SHARE) := P.2.2.2.2.2.2.2.2.2.2.2.2.2.2.2.2.2.2.2.2.2.2.2.2.2.2.2.2.2.2.2.2.2.2.2.2.2.2.2.2.1
  obtain ⟨T1, X1, e1, st1⟩ := own_getSR X0 hx hZ hown (hw _ (List.mem_of_getElem? (i := 5) rfl)) e0 S_w_CODES (g := (mkF m 5 #[.val (.int (9 : Int32)), .val (.int (0 : Int32))] [(.int (9 : Int32))])) rfl (hb hby d1_5)
  obtain ⟨T2, X2, e2, st2⟩ := own_getSR X1 hx hZ hown (hw _ (List.mem_of_getElem? (i := 5) rfl)) e1 S_w_CODES (g := (mkF m 44 #[.val (.int (9 : Int32)), .val (.int (0 : Int32))] [])) rfl (hb hby d1_44)
  obtain ⟨fs, hr, hrun, hended, hW, hsame⟩ := X2.leave (v := some (.ref w_SHARE)) (fun h => by rw [Bd.returns] at h; cases h)
  refine ⟨_, _, pre0 _ ?_, hrun, hended, _, _, rfl, ?_, ⟨_, rfl⟩, hW, hsame.mono (by decide) (by decide)⟩
  · show Steps p.tables e below (s₁.setTop (mkF m 0 #[.val (.int (9 : Int32)), .val (.int (0 : Int32))] [])) _
    refine XS.iloadN X0.here hx rfl (hb hby d1_0) rfl ?_
    show Steps p.tables e below (s₁.setTop (mkF m 1 #[.val (.int (9 : Int32)), .val (.int (0 : Int32))] [(.int (9 : Int32))])) _
    refine XS.ifNo X0.here hx rfl (hb hby d1_1) rfl (by decide) ?_
    show Steps p.tables e below (s₁.setTop (mkF m 4 #[.val (.int (9 : Int32)), .val (.int (0 : Int32))] [])) _
    refine XS.iloadN X0.here hx rfl (hb hby d1_4) rfl ?_
    show Steps p.tables e below (s₁.setTop (mkF m 5 #[.val (.int (9 : Int32)), .val (.int (0 : Int32))] [(.int (9 : Int32))])) _
    refine st1 _ ?_
    show Steps p.tables e below (T1.setTop (mkF m 8 #[.val (.int (9 : Int32)), .val (.int (0 : Int32))] [(.ref w_CODES), (.int (9 : Int32))])) _
    refine X1.arraylength hx (by rw [e1]; exact A_w_CODES.1) (State.isArrayOf_alike hZ.alike A_w_CODES.2.1) (g := (mkF m 8 #[.val (.int (9 : Int32)), .val (.int (0 : Int32))] [(.ref w_CODES), (.int (9 : Int32))])) rfl rfl (hb hby d1_8) _ ?_
    rw [show cl_CODES.slots.size.toInt32 = (10 : Int32) from by rw [Z_w_CODES]; decide]
    show Steps p.tables e below (T1.setTop (mkF m 9 #[.val (.int (9 : Int32)), .val (.int (0 : Int32))] [(.int (10 : Int32)), (.int (9 : Int32))])) _
    refine XS.icmpYes X1.here hx rfl (pc0 := 9) (pc' := 26) rfl (hb hby d1_9) rfl (by decide) (by decide) (by decide) ?_
    show Steps p.tables e below (T1.setTop (mkF m 26 #[.val (.int (9 : Int32)), .val (.int (0 : Int32))] [])) _
    refine XS.iloadN X1.here hx rfl (hb hby d1_26) rfl ?_
    show Steps p.tables e below (T1.setTop (mkF m 27 #[.val (.int (9 : Int32)), .val (.int (0 : Int32))] [(.int (0 : Int32))])) _
    refine XS.ifYes X1.here hx rfl (pc0 := 27) (pc' := 44) rfl (hb hby d1_27) rfl (by decide) (by decide) (by decide) ?_
    show Steps p.tables e below (T1.setTop (mkF m 44 #[.val (.int (9 : Int32)), .val (.int (0 : Int32))] [])) _
    refine st2 _ ?_
    show Steps p.tables e below (T2.setTop (mkF m 47 #[.val (.int (9 : Int32)), .val (.int (0 : Int32))] [(.ref w_CODES)])) _
    refine XS.iloadN X2.here hx rfl (hb hby d1_47) rfl ?_
    show Steps p.tables e below (T2.setTop (mkF m 48 #[.val (.int (9 : Int32)), .val (.int (0 : Int32))] [(.int (9 : Int32)), (.ref w_CODES)])) _
    refine X2.aaload hx (j := (9 : Int32)) (v := (.ref w_SHARE)) (by rw [e2]; exact A_w_CODES.1) (State.isArrayOf_alike hZ.alike A_w_CODES.2.1) rfl A_w_CODES.2.2 (by rw [Z_w_CODES]; decide) G_9 (g := (mkF m 48 #[.val (.int (9 : Int32)), .val (.int (0 : Int32))] [(.int (9 : Int32)), (.ref w_CODES)])) rfl rfl (hb hby d1_48) _ ?_
    show Steps p.tables e below (T2.setTop (mkF m 49 #[.val (.int (9 : Int32)), .val (.int (0 : Int32))] [(.ref w_SHARE)])) _
    exact retOut X2 hx Bd.returns rfl (Or.inr (Or.inr (Or.inr (Or.inr ⟨rfl, rfl, rfl⟩)))) (hb hby d1_49) hr
  · exact ⟨rfl, N0, e2⟩
set_option maxRecDepth 65536 in
set_option maxHeartbeats 40000000 in
theorem rm2_9 (l : Launch) (Z : State) (a0 : Array Value) (hw : ∀ d ∈ tables_1, d.before a0 Z = true) (ws : List Jvm.Cond) (w_MESSAGE : Addr) (w_OFFER : Addr) (w_SHARE : Addr) (w_DECLINE : Addr) (w_ANNOUNCE : Addr) (w_DATA : Addr) (w_GRANT : Addr) (w_TAKEN : Addr) (w_REFUSE : Addr) (w_LEAVE : Addr) (w_CODES : Addr) (cl_CODES : Cell) (h0 : Heap) (n0 : Nat) (Z0 : n0 ≤ h0.size) (P : Pins Z h0 w_MESSAGE w_OFFER w_SHARE w_DECLINE w_ANNOUNCE w_DATA w_GRANT w_TAKEN w_REFUSE w_LEAVE w_CODES cl_CODES) :
    MetFree l (⟨"java/lang/Enum", "ordinal", "()I"⟩ : MethodName) (head1 (Jvm.Cond.code (⟨"java/lang/Enum", "ordinal", "()I"⟩ : MethodName) jdk_37_method_2_code 1 (some .int) :: ws) ({ frames := 0, cells := 0, slots := 0, locals := 0 } : Room)) (fun a U => a = #[(.ref w_SHARE)] ∧ Z.Warmed39 U.vm ∧ U.heap = h0) (fun _ _ _ _ _ => True) (fun _ U o U' => ∃ v L, o = .returned v ∧ QP h0 n0 (some (.int (9 : Int32))) v U'.heap L ∧ FrameEnd U o U' L ({ frames := 0, cells := 0, slots := 0, locals := 0 } : Room).cells ({ frames := 0, cells := 0, slots := 0, locals := 0 } : Room).slots) := by
  refine MetFree.of_bodySF (plainFor_of_name pn_java_lang_Enum) hisR ?_
  intro p e s m args below meth c s₁ Bd hml0 hP hK
  obtain ⟨rfl, hZ, hh⟩ := hP
  have hx := Bd.exec
  have hby := Bd.bytes
  have hml : c.maxLocals = 1 := hml0
  have hown : s.vm.findClass "java/lang/Enum" = some m.cls := findClass_of_methodNamed Bd.named
  have X0 : Stand p l e ({ frames := 0, cells := 0, slots := 0, locals := 0 } : Room) s m #[(.ref w_SHARE)] below meth c s₁ [] 0 0 := Stand.of_body Bd
  have e0 : s₁.heap = h0 := by rw [← hh, Bd.state]; rfl
  have N0 := Fr.nil n0
  have pre0 : ∀ t, Steps p.tables e below (s₁.setTop (mkF m 0 #[.val (.ref w_SHARE)] [])) t → Steps p.tables e below (s₁.setTop (entryFrame m #[(.ref w_SHARE)] 1)) t := fun t k => castTop (ef_2_R m w_SHARE) k
  have F_w_SHARE_ordinal : Fld Z h0 w_SHARE "java/lang/Enum" "ordinal" "I" (.int (9 : Int32)) := P.2.2.2.2.2.2.2.2.2.2.2.2.2.2.2.2.2.2.2.2.2.2.1
  obtain ⟨T1, X1, e1, st1⟩ := getF X0 hx hZ hown (host := "") (Or.inl (hw _ (List.mem_of_getElem? (i := 16) rfl))) Via.refl e0 F_w_SHARE_ordinal (g := (mkF m 1 #[.val (.ref w_SHARE)] [(.ref w_SHARE)])) rfl rfl (hb hby d2_1)
  obtain ⟨fs, hr, hrun, hended, hW, hsame⟩ := X1.leave (v := some (.int (9 : Int32))) (fun h => by rw [Bd.returns] at h; cases h)
  refine ⟨_, _, pre0 _ ?_, hrun, hended, _, _, rfl, ?_, ⟨_, rfl⟩, hW, hsame.mono (by decide) (by decide)⟩
  · show Steps p.tables e below (s₁.setTop (mkF m 0 #[.val (.ref w_SHARE)] [])) _
    refine XS.aloadN X0.here hx rfl (hb hby d2_0) rfl rfl ?_
    show Steps p.tables e below (s₁.setTop (mkF m 1 #[.val (.ref w_SHARE)] [(.ref w_SHARE)])) _
    refine st1 _ ?_
    show Steps p.tables e below (T1.setTop (mkF m 4 #[.val (.ref w_SHARE)] [(.int (9 : Int32))])) _
    exact retI X1 hx Bd.returns (hb hby d2_4) hr
  · exact ⟨rfl, N0, e1⟩
theorem d3_22 : decode prog_51_method_6_code 22 = .ok (.bipush 20, 2) := by decide +kernel
theorem d3_24 : decode prog_51_method_6_code 24 = .ok (.istore_n 1, 1) := by decide +kernel
set_option maxRecDepth 65536 in
set_option maxHeartbeats 40000000 in
theorem rm3_9 (l : Launch) (Z : State) (a0 : Array Value) (hw : ∀ d ∈ tables_1, d.before a0 Z = true) (ws : List Jvm.Cond) (w_MESSAGE : Addr) (w_OFFER : Addr) (w_SHARE : Addr) (w_DECLINE : Addr) (w_ANNOUNCE : Addr) (w_DATA : Addr) (w_GRANT : Addr) (w_TAKEN : Addr) (w_REFUSE : Addr) (w_LEAVE : Addr) (w_CODES : Addr) (cl_CODES : Cell) (h0 : Heap) (n0 : Nat) (Z0 : n0 ≤ h0.size) (P : Pins Z h0 w_MESSAGE w_OFFER w_SHARE w_DECLINE w_ANNOUNCE w_DATA w_GRANT w_TAKEN w_REFUSE w_LEAVE w_CODES cl_CODES) :
    MetFree l (⟨"swiftwire/FrameHeader$Kind", "tailBytes", "()I"⟩ : MethodName) (head1 (Jvm.Cond.code (⟨"swiftwire/FrameHeader$Kind", "tailBytes", "()I"⟩ : MethodName) prog_51_method_6_code 2 (some .int) :: ws) ({ frames := 0, cells := 0, slots := 0, locals := 0 } : Room)) (fun a U => a = #[(.ref w_SHARE)] ∧ Z.Warmed39 U.vm ∧ U.heap = h0) (fun _ _ _ _ _ => True) (fun _ U o U' => ∃ v L, o = .returned v ∧ QP h0 n0 (some (.int (20 : Int32))) v U'.heap L ∧ FrameEnd U o U' L ({ frames := 0, cells := 0, slots := 0, locals := 0 } : Room).cells ({ frames := 0, cells := 0, slots := 0, locals := 0 } : Room).slots) := by
  refine MetFree.of_bodySF (plainFor_of_name pn_swiftwire_FrameHeader_Kind) hisR ?_
  intro p e s m args below meth c s₁ Bd hml0 hP hK
  obtain ⟨rfl, hZ, hh⟩ := hP
  have hx := Bd.exec
  have hby := Bd.bytes
  have hml : c.maxLocals = 2 := hml0
  have hown : s.vm.findClass "swiftwire/FrameHeader$Kind" = some m.cls := findClass_of_methodNamed Bd.named
  have X0 : Stand p l e ({ frames := 0, cells := 0, slots := 0, locals := 0 } : Room) s m #[(.ref w_SHARE)] below meth c s₁ [] 0 0 := Stand.of_body Bd
  have e0 : s₁.heap = h0 := by rw [← hh, Bd.state]; rfl
  have N0 := Fr.nil n0
  have pre0 : ∀ t, Steps p.tables e below (s₁.setTop (mkF m 0 #[.val (.ref w_SHARE), .unset] [])) t → Steps p.tables e below (s₁.setTop (entryFrame m #[(.ref w_SHARE)] 2)) t := fun t k => castTop (ef_3_R m w_SHARE) k
  have S_w_OFFER : Sta Z h0 "swiftwire/FrameHeader$Kind" "OFFER" "Lswiftwire/FrameHeader$Kind;" (.ref w_OFFER) := P.2.2.1
  have F_w_SHARE_ordinal : Fld Z h0 w_SHARE "java/lang/Enum" "ordinal" "I" (.int (9 : Int32)) := P.2.2.2.2.2.2.2.2.2.2.2.2.2.2.2.2.2.2.2.2.2.2.1
  have F_w_OFFER_ordinal : Fld Z h0 w_OFFER "java/lang/Enum" "ordinal" "I" (.int (7 : Int32)) := P.2.2.2.2.2.2.2.2.2.2.2.2.2.2.2.2.2.2.2.2.2.1
  have S_w_SHARE : Sta Z h0 "swiftwire/FrameHeader$Kind" "SHARE" "Lswiftwire/FrameHeader$Kind;" (.ref w_SHARE) := P.2.2.2.2.1
  obtain ⟨T1, X1, e1, st1⟩ := getS2 X0 hx hZ hown (host := "") (Or.inl (hw _ (List.mem_of_getElem? (i := 23) rfl))) Via.refl e0 S_w_OFFER (g := (mkF m 3 #[.val (.ref w_SHARE), .val (.int (0 : Int32))] [(.ref w_SHARE)])) rfl (hb hby d3_3)
  obtain ⟨T2, X2, e2, st2⟩ := getS2 X1 hx hZ hown (host := "") (Or.inl (hw _ (List.mem_of_getElem? (i := 25) rfl))) Via.refl e1 S_w_SHARE (g := (mkF m 16 #[.val (.ref w_SHARE), .val (.int (0 : Int32))] [(.ref w_SHARE)])) rfl (hb hby d3_16)
  obtain ⟨fs, hr, hrun, hended, hW, hsame⟩ := X2.leave (v := some (.int (20 : Int32))) (fun h => by rw [Bd.returns] at h; cases h)
  refine ⟨_, _, pre0 _ ?_, hrun, hended, _, _, rfl, ?_, ⟨_, rfl⟩, hW, hsame.mono (by decide) (by decide)⟩
  · show Steps p.tables e below (s₁.setTop (mkF m 0 #[.val (.ref w_SHARE), .unset] [])) _
    refine XS.iconst X0.here hx rfl (hb hby d3_0) ?_
    show Steps p.tables e below (s₁.setTop (mkF m 1 #[.val (.ref w_SHARE), .unset] [(.int (0 : Int32))])) _
    refine XS.istoreN X0.here hx rfl (hb hby d3_1) rfl (l' := #[.val (.ref w_SHARE), .val (.int (0 : Int32))]) rfl ?_
    show Steps p.tables e below (s₁.setTop (mkF m 2 #[.val (.ref w_SHARE), .val (.int (0 : Int32))] [])) _
    refine XS.aloadN X0.here hx rfl (hb hby d3_2) rfl rfl ?_
    show Steps p.tables e below (s₁.setTop (mkF m 3 #[.val (.ref w_SHARE), .val (.int (0 : Int32))] [(.ref w_SHARE)])) _
    refine st1 _ ?_
    show Steps p.tables e below (T1.setTop (mkF m 6 #[.val (.ref w_SHARE), .val (.int (0 : Int32))] [(.ref w_OFFER), (.ref w_SHARE)])) _
    refine Jvm.RoadKit.acmp (g := (mkF m 6 #[.val (.ref w_SHARE), .val (.int (0 : Int32))] [(.ref w_OFFER), (.ref w_SHARE)])) X1 hx rfl rfl rfl (pc0 := 6) (pc' := 15) (same := false) rfl (hb hby d3_6) rfl (decide_eq_false fun q => (Fld.ne F_w_SHARE_ordinal F_w_OFFER_ordinal (by decide)) (Value.ref.inj q)) (by decide) (by decide) ?_
    show Steps p.tables e below (T1.setTop (mkF m 15 #[.val (.ref w_SHARE), .val (.int (0 : Int32))] [])) _
    refine XS.aloadN X1.here hx rfl (hb hby d3_15) rfl rfl ?_
    show Steps p.tables e below (T1.setTop (mkF m 16 #[.val (.ref w_SHARE), .val (.int (0 : Int32))] [(.ref w_SHARE)])) _
    refine st2 _ ?_
    show Steps p.tables e below (T2.setTop (mkF m 19 #[.val (.ref w_SHARE), .val (.int (0 : Int32))] [(.ref w_SHARE), (.ref w_SHARE)])) _
    refine Jvm.RoadKit.acmp (g := (mkF m 19 #[.val (.ref w_SHARE), .val (.int (0 : Int32))] [(.ref w_SHARE), (.ref w_SHARE)])) X2 hx rfl rfl rfl (pc0 := 19) (pc' := 22) (same := true) rfl (hb hby d3_19) rfl (decide_eq_true rfl) (by decide) (by decide) ?_
    show Steps p.tables e below (T2.setTop (mkF m 22 #[.val (.ref w_SHARE), .val (.int (0 : Int32))] [])) _
    refine XS.bipush X2.here hx rfl (hb hby d3_22) ?_
    show Steps p.tables e below (T2.setTop (mkF m 24 #[.val (.ref w_SHARE), .val (.int (0 : Int32))] [(.int (20 : Int32))])) _
    refine XS.istoreN X2.here hx rfl (hb hby d3_24) rfl (l' := #[.val (.ref w_SHARE), .val (.int (20 : Int32))]) rfl ?_
    show Steps p.tables e below (T2.setTop (mkF m 25 #[.val (.ref w_SHARE), .val (.int (20 : Int32))] [])) _
    refine XS.iloadN X2.here hx rfl (hb hby d3_25) rfl ?_
    show Steps p.tables e below (T2.setTop (mkF m 26 #[.val (.ref w_SHARE), .val (.int (20 : Int32))] [(.int (20 : Int32))])) _
    exact retI X2 hx Bd.returns (hb hby d3_26) hr
  · exact ⟨rfl, N0, e2⟩
set_option maxRecDepth 65536 in
set_option maxHeartbeats 40000000 in
theorem rm0_c9 (l : Launch) (Z : State) (a0 : Array Value) (hw : ∀ d ∈ tables_1, d.before a0 Z = true) (ws : List Jvm.Cond) (w_MESSAGE : Addr) (w_OFFER : Addr) (w_SHARE : Addr) (w_DECLINE : Addr) (w_ANNOUNCE : Addr) (w_DATA : Addr) (w_GRANT : Addr) (w_TAKEN : Addr) (w_REFUSE : Addr) (w_LEAVE : Addr) (w_CODES : Addr) (cl_CODES : Cell) (p0 : Int32) (h0 : Heap) (n0 : Nat) (Z0 : n0 ≤ h0.size) (P : Pins Z h0 w_MESSAGE w_OFFER w_SHARE w_DECLINE w_ANNOUNCE w_DATA w_GRANT w_TAKEN w_REFUSE w_LEAVE w_CODES cl_CODES) (k0 : ((p0 &&& (2147483647 : Int32)) % (10 : Int32)) = (9 : Int32)) :
    MetFree l x (head1 (Jvm.Cond.code x code maxLocals ret :: ws) room_1) (fun a U => a = #[(.int p0)] ∧ Z.Warmed39 U.vm ∧ U.heap = h0) (fun _ _ _ _ _ => True) (fun _ U o U' => ∃ v L, o = .returned v ∧ QP h0 n0 (some (.int (1 : Int32))) v U'.heap L ∧ FrameEnd U o U' L room_1.cells room_1.slots) := by
  refine MetFree.of_bodySF (plainFor_of_name pn_swiftwire_KindTailBytesPinLaw) hisR ?_
  intro p e s m args below meth c s₁ Bd hml0 hP hK
  obtain ⟨rfl, hZ, hh⟩ := hP
  have hx := Bd.exec
  have hby := Bd.bytes
  have hml : c.maxLocals = 4 := hml0
  have hown : s.vm.findClass "swiftwire/KindTailBytesPinLaw" = some m.cls := findClass_of_methodNamed Bd.named
  have X0 : Stand p l e room_1 s m #[(.int p0)] below meth c s₁ [] 0 0 := Stand.of_body Bd
  have e0 : s₁.heap = h0 := by rw [← hh, Bd.state]; rfl
  have N0 := Fr.nil n0
  have pre0 : ∀ t, Steps p.tables e below (s₁.setTop (mkF m 0 #[.val (.int p0), .unset, .unset, .unset] [])) t → Steps p.tables e below (s₁.setTop (entryFrame m #[(.int p0)] maxLocals)) t := fun t k => castTop (ef_0_I m p0) k
  have E_w_SHARE : Exa Z h0 w_SHARE "swiftwire/FrameHeader$Kind" := P.2.2.2.2.2.1
  obtain ⟨_, _, ⟨T1, L1, k1, n1⟩, -, X1, ⟨Lc1, hQ1, l1, y1, z1⟩, st1⟩ := Jvm.LawKit.callS X0 hx (y := (⟨"swiftwire/FrameHeader", "kind", "(II)Lswiftwire/FrameHeader$Kind;"⟩ : MethodName)) hown (mvT hZ (hw _ (List.mem_of_getElem? (i := 1) rfl))) (mvT hZ (hw _ (List.mem_of_getElem? (i := 2) rfl))) (mvT hZ (hw _ (List.mem_of_getElem? (i := 3) rfl))) (mvT hZ (hw _ (List.mem_of_getElem? (i := 4) rfl))) (by decide) (backOf (W := 0) (rm1_9 l Z a0 hw [] w_MESSAGE w_OFFER w_SHARE w_DECLINE w_ANNOUNCE w_DATA w_GRANT w_TAKEN w_REFUSE w_LEAVE w_CODES cl_CODES h0 n0 Z0 P) hZ (hw _ (List.mem_of_getElem? (i := 4) rfl)) (hw _ (List.mem_of_getElem? (i := 3) rfl)) (by decide) (by decide)) (g := (mkF m 10 #[.val (.int p0), .val (.int (9 : Int32)), .unset, .unset] [(.int (0 : Int32)), (.int (9 : Int32))])) rfl (by rw [hml]; rfl) (argsL := [(.int (9 : Int32)), (.int (0 : Int32))]) (rest := []) (lenOf pd_0 rfl) rfl (by show 2 * 0 + _ ≤ _; exact Nat.le_of_eq rfl) (hb hby at_10) (fun _ _ => ⟨rfl, e0, (by decide : 0 + 0 ≤ _), (by decide : 0 + 0 ≤ _)⟩)
  dsimp only [Pt.U, Pt.locs, Pt.cells, Pt.slots] at X1 l1 y1 z1 st1 hQ1
  subst l1 y1 z1
  obtain ⟨rfl, N1q, e1⟩ := hQ1
  have N1 := Fr.app N0 N1q
  obtain ⟨cq2, kq2, q2a, q2b, q2c⟩ := isOf hZ e1 E_w_SHARE
  obtain ⟨_, _, ⟨T2, L2, k2, n2⟩, -, X2, ⟨Lc2, hQ2, l2, y2, z2⟩, st2⟩ := X1.virtualBackUp hx (owner := "java/lang/Enum") (x := (⟨"swiftwire/FrameHeader$Kind", "ordinal", "()I"⟩ : MethodName)) (y := (⟨"java/lang/Enum", "ordinal", "()I"⟩ : MethodName)) hown (mvT hZ (hw _ (List.mem_of_getElem? (i := 9) rfl))) (mvT hZ (hw _ (List.mem_of_getElem? (i := 10) rfl))) (mvT hZ (hw _ (List.mem_of_getElem? (i := 11) rfl))) (by decide) (mvT hZ (hw _ (List.mem_of_getElem? (i := 13) rfl))) (mvT hZ (hw _ (List.mem_of_getElem? (i := 12) rfl))) (backOf (W := 0) (rm2_9 l Z a0 hw [] w_MESSAGE w_OFFER w_SHARE w_DECLINE w_ANNOUNCE w_DATA w_GRANT w_TAKEN w_REFUSE w_LEAVE w_CODES cl_CODES h0 n0 Z0 P) hZ (hw _ (List.mem_of_getElem? (i := 15) rfl)) (hw _ (List.mem_of_getElem? (i := 14) rfl)) (by decide) (by decide)) q2a q2c (g := (mkF m 38 #[.val (.int p0), .val (.int (9 : Int32)), .val (.ref w_SHARE), .val (.int (20 : Int32))] [(.ref w_SHARE)])) rfl (by rw [hml]; rfl) (Steps.refl _) (argsL := []) (rest := []) (lenOf pd_1 rfl) rfl (by show 2 * 0 + _ ≤ _; exact Nat.le_of_eq rfl) (hb hby at_38) (fun _ _ => ⟨rfl, e1, (by decide : 0 + 0 ≤ _), (by decide : 0 + 0 ≤ _)⟩)
  dsimp only [Pt.U, Pt.locs, Pt.cells, Pt.slots] at X2 l2 y2 z2 st2 hQ2
  subst l2 y2 z2
  obtain ⟨rfl, N2q, e2⟩ := hQ2
  have N2 := Fr.app N1 N2q
  obtain ⟨cq3, kq3, q3a, q3b, q3c⟩ := isOf hZ e2 E_w_SHARE
  obtain ⟨_, _, ⟨T3, L3, k3, n3⟩, -, X3, ⟨Lc3, hQ3, l3, y3, z3⟩, st3⟩ := X2.virtualBack hx (y := (⟨"swiftwire/FrameHeader$Kind", "tailBytes", "()I"⟩ : MethodName)) (z := (⟨"swiftwire/FrameHeader$Kind", "tailBytes", "()I"⟩ : MethodName)) hown (mvT hZ (hw _ (List.mem_of_getElem? (i := 18) rfl))) (mvT hZ (hw _ (List.mem_of_getElem? (i := 19) rfl))) (notFace_of_selects (args := #[]) (mvT hZ (hw _ (List.mem_of_getElem? (i := 21) rfl)))) (mvT hZ (hw _ (List.mem_of_getElem? (i := 21) rfl))) (mvT hZ (hw _ (List.mem_of_getElem? (i := 20) rfl))) (by decide) (backOf (W := 0) (rm3_9 l Z a0 hw [] w_MESSAGE w_OFFER w_SHARE w_DECLINE w_ANNOUNCE w_DATA w_GRANT w_TAKEN w_REFUSE w_LEAVE w_CODES cl_CODES h0 n0 Z0 P) hZ (hw _ (List.mem_of_getElem? (i := 22) rfl)) (hw _ (List.mem_of_getElem? (i := 6) rfl)) (by decide) (by decide)) q3a q3c (g := (mkF m 46 #[.val (.int p0), .val (.int (9 : Int32)), .val (.ref w_SHARE), .val (.int (20 : Int32))] [(.ref w_SHARE)])) rfl (by rw [hml]; rfl) (Steps.refl _) (argsL := []) (rest := []) (lenOf pd_1 rfl) rfl (by show 2 * 0 + _ ≤ _; exact Nat.le_of_eq rfl) (hb hby at_46) (fun _ _ => ⟨rfl, e2, (by decide : 0 + 0 ≤ _), (by decide : 0 + 0 ≤ _)⟩)
  dsimp only [Pt.U, Pt.locs, Pt.cells, Pt.slots] at X3 l3 y3 z3 st3 hQ3
  subst l3 y3 z3
  obtain ⟨rfl, N3q, e3⟩ := hQ3
  have N3 := Fr.app N2 N3q
  obtain ⟨fs, hr, hrun, hended, hW, hsame⟩ := X3.leave (v := some (.int (1 : Int32))) (fun h => by rw [Bd.returns] at h; cases h)
  refine ⟨_, _, pre0 _ ?_, hrun, hended, _, _, rfl, ?_, ⟨_, rfl⟩, hW, hsame.mono (by decide) (by decide)⟩
  · show Steps p.tables e below (s₁.setTop (mkF m 0 #[.val (.int p0), .unset, .unset, .unset] [])) _
    refine XS.iloadN X0.here hx rfl (hb hby at_0) rfl ?_
    show Steps p.tables e below (s₁.setTop (mkF m 1 #[.val (.int p0), .unset, .unset, .unset] [(.int p0)])) _
    refine Jvm.Stand.ldcI X0 hx hown (mvT hZ (hw _ (List.mem_of_getElem? (i := 0) rfl))) rfl (hb hby at_1) ?_
    show Steps p.tables e below (s₁.setTop (mkF m 3 #[.val (.int p0), .unset, .unset, .unset] [(.int (2147483647 : Int32)), (.int p0)])) _
    refine XS.iand X0.here hx rfl (hb hby at_3) rfl ?_
    show Steps p.tables e below (s₁.setTop (mkF m 4 #[.val (.int p0), .unset, .unset, .unset] [(.int (p0 &&& (2147483647 : Int32)))])) _
    refine XS.bipush X0.here hx rfl (hb hby at_4) ?_
    show Steps p.tables e below (s₁.setTop (mkF m 6 #[.val (.int p0), .unset, .unset, .unset] [(.int (10 : Int32)), (.int (p0 &&& (2147483647 : Int32)))])) _
    refine iremM X0 hx rfl (hb hby at_6) rfl (by decide) ?_
    show Steps p.tables e below (s₁.setTop (mkF m 7 #[.val (.int p0), .unset, .unset, .unset] [(.int ((p0 &&& (2147483647 : Int32)) % (10 : Int32)))])) _
    rw [k0]
    show Steps p.tables e below (s₁.setTop (mkF m 7 #[.val (.int p0), .unset, .unset, .unset] [(.int (9 : Int32))])) _
    refine XS.istoreN X0.here hx rfl (hb hby at_7) rfl (l' := #[.val (.int p0), .val (.int (9 : Int32)), .unset, .unset]) rfl ?_
    show Steps p.tables e below (s₁.setTop (mkF m 8 #[.val (.int p0), .val (.int (9 : Int32)), .unset, .unset] [])) _
    refine XS.iloadN X0.here hx rfl (hb hby at_8) rfl ?_
    show Steps p.tables e below (s₁.setTop (mkF m 9 #[.val (.int p0), .val (.int (9 : Int32)), .unset, .unset] [(.int (9 : Int32))])) _
    refine XS.iconst X0.here hx rfl (hb hby at_9) ?_
    show Steps p.tables e below (s₁.setTop (mkF m 10 #[.val (.int p0), .val (.int (9 : Int32)), .unset, .unset] [(.int (0 : Int32)), (.int (9 : Int32))])) _
    refine st1 _ ?_
    show Steps p.tables e below (T1.setTop (mkF m 13 #[.val (.int p0), .val (.int (9 : Int32)), .unset, .unset] [(.ref w_SHARE)])) _
    refine XS.astoreN X1.here hx rfl (hb hby at_13) rfl rfl (l' := #[.val (.int p0), .val (.int (9 : Int32)), .val (.ref w_SHARE), .unset]) rfl ?_
    show Steps p.tables e below (T1.setTop (mkF m 14 #[.val (.int p0), .val (.int (9 : Int32)), .val (.ref w_SHARE), .unset] [])) _
    refine XS.iconst X1.here hx rfl (hb hby at_14) ?_
    show Steps p.tables e below (T1.setTop (mkF m 15 #[.val (.int p0), .val (.int (9 : Int32)), .val (.ref w_SHARE), .unset] [(.int (0 : Int32))])) _
    refine XS.istoreN X1.here hx rfl (hb hby at_15) rfl (l' := #[.val (.int p0), .val (.int (9 : Int32)), .val (.ref w_SHARE), .val (.int (0 : Int32))]) rfl ?_
    show Steps p.tables e below (T1.setTop (mkF m 16 #[.val (.int p0), .val (.int (9 : Int32)), .val (.ref w_SHARE), .val (.int (0 : Int32))] [])) _
    refine XS.iloadN X1.here hx rfl (hb hby at_16) rfl ?_
    show Steps p.tables e below (T1.setTop (mkF m 17 #[.val (.int p0), .val (.int (9 : Int32)), .val (.ref w_SHARE), .val (.int (0 : Int32))] [(.int (9 : Int32))])) _
    refine XS.bipush X1.here hx rfl (hb hby at_17) ?_
    show Steps p.tables e below (T1.setTop (mkF m 19 #[.val (.int p0), .val (.int (9 : Int32)), .val (.ref w_SHARE), .val (.int (0 : Int32))] [(.int (7 : Int32)), (.int (9 : Int32))])) _
    refine XS.icmpYes X1.here hx rfl (pc0 := 19) (pc' := 28) rfl (hb hby at_19) rfl (by decide) (by decide) (by decide) ?_
    show Steps p.tables e below (T1.setTop (mkF m 28 #[.val (.int p0), .val (.int (9 : Int32)), .val (.ref w_SHARE), .val (.int (0 : Int32))] [])) _
    refine XS.iloadN X1.here hx rfl (hb hby at_28) rfl ?_
    show Steps p.tables e below (T1.setTop (mkF m 29 #[.val (.int p0), .val (.int (9 : Int32)), .val (.ref w_SHARE), .val (.int (0 : Int32))] [(.int (9 : Int32))])) _
    refine XS.bipush X1.here hx rfl (hb hby at_29) ?_
    show Steps p.tables e below (T1.setTop (mkF m 31 #[.val (.int p0), .val (.int (9 : Int32)), .val (.ref w_SHARE), .val (.int (0 : Int32))] [(.int (9 : Int32)), (.int (9 : Int32))])) _
    refine XS.icmpNo X1.here hx rfl (hb hby at_31) rfl (by decide) ?_
    show Steps p.tables e below (T1.setTop (mkF m 34 #[.val (.int p0), .val (.int (9 : Int32)), .val (.ref w_SHARE), .val (.int (0 : Int32))] [])) _
    refine XS.bipush X1.here hx rfl (hb hby at_34) ?_
    show Steps p.tables e below (T1.setTop (mkF m 36 #[.val (.int p0), .val (.int (9 : Int32)), .val (.ref w_SHARE), .val (.int (0 : Int32))] [(.int (20 : Int32))])) _
    refine XS.istoreN X1.here hx rfl (hb hby at_36) rfl (l' := #[.val (.int p0), .val (.int (9 : Int32)), .val (.ref w_SHARE), .val (.int (20 : Int32))]) rfl ?_
    show Steps p.tables e below (T1.setTop (mkF m 37 #[.val (.int p0), .val (.int (9 : Int32)), .val (.ref w_SHARE), .val (.int (20 : Int32))] [])) _
    refine XS.aloadN X1.here hx rfl (hb hby at_37) rfl rfl ?_
    show Steps p.tables e below (T1.setTop (mkF m 38 #[.val (.int p0), .val (.int (9 : Int32)), .val (.ref w_SHARE), .val (.int (20 : Int32))] [(.ref w_SHARE)])) _
    refine st2.trans ?_
    show Steps p.tables e below (T2.setTop (mkF m 41 #[.val (.int p0), .val (.int (9 : Int32)), .val (.ref w_SHARE), .val (.int (20 : Int32))] [(.int (9 : Int32))])) _
    refine XS.iloadN X2.here hx rfl (hb hby at_41) rfl ?_
    show Steps p.tables e below (T2.setTop (mkF m 42 #[.val (.int p0), .val (.int (9 : Int32)), .val (.ref w_SHARE), .val (.int (20 : Int32))] [(.int (9 : Int32)), (.int (9 : Int32))])) _
    refine XS.icmpNo X2.here hx rfl (hb hby at_42) rfl (by decide) ?_
    show Steps p.tables e below (T2.setTop (mkF m 45 #[.val (.int p0), .val (.int (9 : Int32)), .val (.ref w_SHARE), .val (.int (20 : Int32))] [])) _
    refine XS.aloadN X2.here hx rfl (hb hby at_45) rfl rfl ?_
    show Steps p.tables e below (T2.setTop (mkF m 46 #[.val (.int p0), .val (.int (9 : Int32)), .val (.ref w_SHARE), .val (.int (20 : Int32))] [(.ref w_SHARE)])) _
    refine st3.trans ?_
    show Steps p.tables e below (T3.setTop (mkF m 49 #[.val (.int p0), .val (.int (9 : Int32)), .val (.ref w_SHARE), .val (.int (20 : Int32))] [(.int (20 : Int32))])) _
    refine XS.iloadN X3.here hx rfl (hb hby at_49) rfl ?_
    show Steps p.tables e below (T3.setTop (mkF m 50 #[.val (.int p0), .val (.int (9 : Int32)), .val (.ref w_SHARE), .val (.int (20 : Int32))] [(.int (20 : Int32)), (.int (20 : Int32))])) _
    refine XS.icmpNo X3.here hx rfl (hb hby at_50) rfl (by decide) ?_
    show Steps p.tables e below (T3.setTop (mkF m 53 #[.val (.int p0), .val (.int (9 : Int32)), .val (.ref w_SHARE), .val (.int (20 : Int32))] [])) _
    refine XS.iconst X3.here hx rfl (hb hby at_53) ?_
    show Steps p.tables e below (T3.setTop (mkF m 54 #[.val (.int p0), .val (.int (9 : Int32)), .val (.ref w_SHARE), .val (.int (20 : Int32))] [(.int (1 : Int32))])) _
    refine XS.goto X3.here hx rfl (pc0 := 54) (pc' := 58) rfl (hb hby at_54) (by decide) (by decide) ?_
    show Steps p.tables e below (T3.setTop (mkF m 58 #[.val (.int p0), .val (.int (9 : Int32)), .val (.ref w_SHARE), .val (.int (20 : Int32))] [(.int (1 : Int32))])) _
    exact retN X3 hx (t := .boolean) Bd.returns (by simp) (hb hby at_58) hr
  · exact ⟨rfl, N3, e3⟩
theorem rm0_all (l : Launch) (Z : State) (a0 : Array Value) (hw : ∀ d ∈ tables_1, d.before a0 Z = true) (ws : List Jvm.Cond) (w_MESSAGE : Addr) (w_OFFER : Addr) (w_SHARE : Addr) (w_DECLINE : Addr) (w_ANNOUNCE : Addr) (w_DATA : Addr) (w_GRANT : Addr) (w_TAKEN : Addr) (w_REFUSE : Addr) (w_LEAVE : Addr) (w_CODES : Addr) (cl_CODES : Cell) (p0 : Int32) (h0 : Heap) (n0 : Nat) (Z0 : n0 ≤ h0.size) (P : Pins Z h0 w_MESSAGE w_OFFER w_SHARE w_DECLINE w_ANNOUNCE w_DATA w_GRANT w_TAKEN w_REFUSE w_LEAVE w_CODES cl_CODES) :
    MetFree l x (head1 (Jvm.Cond.code x code maxLocals ret :: ws) room_1) (fun a U => a = #[(.int p0)] ∧ Z.Warmed39 U.vm ∧ U.heap = h0) (fun _ _ _ _ _ => True) (fun _ U o U' => ∃ v L, o = .returned v ∧ QP h0 n0 (some (.int (1 : Int32))) v U'.heap L ∧ FrameEnd U o U' L room_1.cells room_1.slots) := by
  rcases own_r10 p0 with k0 | k0 | k0 | k0 | k0 | k0 | k0 | k0 | k0 | k0
  · exact rm0_c0 l Z a0 hw ws w_MESSAGE w_OFFER w_SHARE w_DECLINE w_ANNOUNCE w_DATA w_GRANT w_TAKEN w_REFUSE w_LEAVE w_CODES cl_CODES p0 h0 n0 Z0 P k0
  · exact rm0_c1 l Z a0 hw ws w_MESSAGE w_OFFER w_SHARE w_DECLINE w_ANNOUNCE w_DATA w_GRANT w_TAKEN w_REFUSE w_LEAVE w_CODES cl_CODES p0 h0 n0 Z0 P k0
  · exact rm0_c2 l Z a0 hw ws w_MESSAGE w_OFFER w_SHARE w_DECLINE w_ANNOUNCE w_DATA w_GRANT w_TAKEN w_REFUSE w_LEAVE w_CODES cl_CODES p0 h0 n0 Z0 P k0
  · exact rm0_c3 l Z a0 hw ws w_MESSAGE w_OFFER w_SHARE w_DECLINE w_ANNOUNCE w_DATA w_GRANT w_TAKEN w_REFUSE w_LEAVE w_CODES cl_CODES p0 h0 n0 Z0 P k0
  · exact rm0_c4 l Z a0 hw ws w_MESSAGE w_OFFER w_SHARE w_DECLINE w_ANNOUNCE w_DATA w_GRANT w_TAKEN w_REFUSE w_LEAVE w_CODES cl_CODES p0 h0 n0 Z0 P k0
  · exact rm0_c5 l Z a0 hw ws w_MESSAGE w_OFFER w_SHARE w_DECLINE w_ANNOUNCE w_DATA w_GRANT w_TAKEN w_REFUSE w_LEAVE w_CODES cl_CODES p0 h0 n0 Z0 P k0
  · exact rm0_c6 l Z a0 hw ws w_MESSAGE w_OFFER w_SHARE w_DECLINE w_ANNOUNCE w_DATA w_GRANT w_TAKEN w_REFUSE w_LEAVE w_CODES cl_CODES p0 h0 n0 Z0 P k0
  · exact rm0_c7 l Z a0 hw ws w_MESSAGE w_OFFER w_SHARE w_DECLINE w_ANNOUNCE w_DATA w_GRANT w_TAKEN w_REFUSE w_LEAVE w_CODES cl_CODES p0 h0 n0 Z0 P k0
  · exact rm0_c8 l Z a0 hw ws w_MESSAGE w_OFFER w_SHARE w_DECLINE w_ANNOUNCE w_DATA w_GRANT w_TAKEN w_REFUSE w_LEAVE w_CODES cl_CODES p0 h0 n0 Z0 P k0
  · exact rm0_c9 l Z a0 hw ws w_MESSAGE w_OFFER w_SHARE w_DECLINE w_ANNOUNCE w_DATA w_GRANT w_TAKEN w_REFUSE w_LEAVE w_CODES cl_CODES p0 h0 n0 Z0 P k0
set_option maxRecDepth 65536 in
set_option maxHeartbeats 40000000 in
theorem comes_1 {Post : Tables → Env → Array Value → State → Outcome → State → Prop} (hpost : ∀ tb e args s v u, (limb_1_1.after args s (.returned v) u = true ∧ limb_1_2.after args s (.returned v) u = true ∧ True) → FrameEnd s (.returned v) u (Jvm.fieldLocs frame_1_writes args s ++ Jvm.arrayLocs frame_1_arrays args s ++ Jvm.staticLocs frame_1_statics s) 0 0 → Post tb e args s (.returned v) u) :
    ArmFor flags0 classFile x code maxLocals ret World_1 tables_1 room_1 Calls_1 rest_1 Pre_1 Post := by
  intro l hfl _ _ p e ha hc hk s m args below hf hA hF happ hP
  obtain ⟨hcalls, hrest, hpre⟩ := hP
  obtain ⟨-, -, -, hnamed, -, -, -, hat⟩ := (Spec.applies_iff hf).mp happ
  obtain ⟨hg, hn⟩ := and_e (Cond.before_iff.mp (show (Jvm.Cond.and given_1 narrow_1).before args s = true from hpre))
  obtain ⟨g0, gr0⟩ := and_e hg
  obtain ⟨v0, rfl⟩ : ∃ v0 : Value, args = #[v0] := by
    have hs : args.size = 1 := by simpa [Cond.value, given_1] using g0
    obtain ⟨L⟩ := args
    match L, hs with
    | [v0], _ => exact ⟨v0, rfl⟩
  have hw := fun d (hd : d ∈ tables_1) => atoms_spec (ws := Jvm.Cond.code x code maxLocals ret :: tables_1) hat d (List.mem_cons_of_mem _ hd)
  have hfit : Fit s := fun {y c} hc i hi => by
    obtain ⟨ha, rfl⟩ := Array.getElem?_eq_some_iff.mp hc
    have q := List.all_eq_true.mp ((Array.all_eq_true_iff_forall_mem.mp hF) _ (Array.getElem_mem ha)) i (List.mem_range.mpr hi)
    simpa [Array.getElem?_eq_getElem hi] using q
  obtain ⟨i0, ei0⟩ := is_v gr0
  obtain rfl : v0 = (.int i0) := Option.some.inj ei0
  obtain ⟨c0, r0⟩ := and_e hn
  obtain ⟨c1, r1⟩ := and_e r0
  obtain ⟨c2, r2⟩ := and_e r1
  obtain ⟨c3, r3⟩ := and_e r2
  obtain ⟨c4, r4⟩ := and_e r3
  obtain ⟨c5, r5⟩ := and_e r4
  obtain ⟨c6, r6⟩ := and_e r5
  obtain ⟨c7, r7⟩ := and_e r6
  obtain ⟨c8, r8⟩ := and_e r7
  obtain ⟨c9, r9⟩ := and_e r8
  obtain ⟨c10, r10⟩ := and_e r9
  obtain ⟨c11, r11⟩ := and_e r10
  obtain ⟨c12, r12⟩ := and_e r11
  obtain ⟨c13, r13⟩ := and_e r12
  obtain ⟨c14, r14⟩ := and_e r13
  obtain ⟨c15, r15⟩ := and_e r14
  obtain ⟨c16, r16⟩ := and_e r15
  obtain ⟨c17, r17⟩ := and_e r16
  obtain ⟨c18, r18⟩ := and_e r17
  obtain ⟨c19, r19⟩ := and_e r18
  obtain ⟨c20, r20⟩ := and_e r19
  obtain ⟨c21, r21⟩ := and_e r20
  obtain ⟨c22, r22⟩ := and_e r21
  obtain ⟨c23, r23⟩ := and_e r22
  obtain ⟨c24, r24⟩ := and_e r23
  obtain ⟨c25, r25⟩ := and_e r24
  obtain ⟨c26, r26⟩ := and_e r25
  obtain ⟨c27, r27⟩ := and_e r26
  obtain ⟨c28, r28⟩ := and_e r27
  obtain ⟨c29, r29⟩ := and_e r28
  obtain ⟨c30, r30⟩ := and_e r29
  obtain ⟨w_MESSAGE, ev_w_MESSAGE⟩ := exa_v c2
  have E_w_MESSAGE := Exa.start ev_w_MESSAGE c2
  have S_w_MESSAGE := Sta.start ev_w_MESSAGE (Or.inr ⟨(hw _ (List.mem_of_getElem? (i := 6) rfl)), (hw _ (List.mem_of_getElem? (i := 8) rfl))⟩)
  obtain ⟨w_OFFER, ev_w_OFFER⟩ := exa_v c5
  have E_w_OFFER := Exa.start ev_w_OFFER c5
  have S_w_OFFER := Sta.start ev_w_OFFER (Or.inr ⟨(hw _ (List.mem_of_getElem? (i := 6) rfl)), (hw _ (List.mem_of_getElem? (i := 24) rfl))⟩)
  obtain ⟨w_SHARE, ev_w_SHARE⟩ := exa_v c7
  have E_w_SHARE := Exa.start ev_w_SHARE c7
  have S_w_SHARE := Sta.start ev_w_SHARE (Or.inr ⟨(hw _ (List.mem_of_getElem? (i := 6) rfl)), (hw _ (List.mem_of_getElem? (i := 26) rfl))⟩)
  obtain ⟨w_DECLINE, ev_w_DECLINE⟩ := exa_v c9
  have E_w_DECLINE := Exa.start ev_w_DECLINE c9
  have S_w_DECLINE := Sta.start ev_w_DECLINE (Or.inr ⟨(hw _ (List.mem_of_getElem? (i := 6) rfl)), (hw _ (List.mem_of_getElem? (i := 27) rfl))⟩)
  obtain ⟨w_ANNOUNCE, ev_w_ANNOUNCE⟩ := exa_v c12
  have E_w_ANNOUNCE := Exa.start ev_w_ANNOUNCE c12
  have S_w_ANNOUNCE := Sta.start ev_w_ANNOUNCE (Or.inr ⟨(hw _ (List.mem_of_getElem? (i := 6) rfl)), (hw _ (List.mem_of_getElem? (i := 28) rfl))⟩)
  obtain ⟨w_DATA, ev_w_DATA⟩ := exa_v c15
  have E_w_DATA := Exa.start ev_w_DATA c15
  have S_w_DATA := Sta.start ev_w_DATA (Or.inr ⟨(hw _ (List.mem_of_getElem? (i := 6) rfl)), (hw _ (List.mem_of_getElem? (i := 29) rfl))⟩)
  obtain ⟨w_GRANT, ev_w_GRANT⟩ := exa_v c19
  have E_w_GRANT := Exa.start ev_w_GRANT c19
  have S_w_GRANT := Sta.start ev_w_GRANT (Or.inr ⟨(hw _ (List.mem_of_getElem? (i := 6) rfl)), (hw _ (List.mem_of_getElem? (i := 30) rfl))⟩)
  obtain ⟨w_TAKEN, ev_w_TAKEN⟩ := exa_v c22
  have E_w_TAKEN := Exa.start ev_w_TAKEN c22
  have S_w_TAKEN := Sta.start ev_w_TAKEN (Or.inr ⟨(hw _ (List.mem_of_getElem? (i := 6) rfl)), (hw _ (List.mem_of_getElem? (i := 31) rfl))⟩)
  obtain ⟨w_REFUSE, ev_w_REFUSE⟩ := exa_v c26
  have E_w_REFUSE := Exa.start ev_w_REFUSE c26
  have S_w_REFUSE := Sta.start ev_w_REFUSE (Or.inr ⟨(hw _ (List.mem_of_getElem? (i := 6) rfl)), (hw _ (List.mem_of_getElem? (i := 32) rfl))⟩)
  obtain ⟨w_LEAVE, ev_w_LEAVE⟩ := exa_v c29
  have E_w_LEAVE := Exa.start ev_w_LEAVE c29
  have S_w_LEAVE := Sta.start ev_w_LEAVE (Or.inr ⟨(hw _ (List.mem_of_getElem? (i := 6) rfl)), (hw _ (List.mem_of_getElem? (i := 33) rfl))⟩)
  have F_w_MESSAGE_ordinal := own_fi ev_w_MESSAGE c4
  have F_w_OFFER_ordinal := own_fi ev_w_OFFER c6
  have F_w_SHARE_ordinal := own_fi ev_w_SHARE c8
  have F_w_DECLINE_ordinal := own_fi ev_w_DECLINE c11
  have F_w_ANNOUNCE_ordinal := own_fi ev_w_ANNOUNCE c14
  have F_w_DATA_ordinal := own_fi ev_w_DATA c17
  have F_w_GRANT_ordinal := own_fi ev_w_GRANT c21
  have F_w_TAKEN_ordinal := own_fi ev_w_TAKEN c24
  have F_w_REFUSE_ordinal := own_fi ev_w_REFUSE c28
  have F_w_LEAVE_ordinal := own_fi ev_w_LEAVE r30
  obtain ⟨w_CODES, ev_w_CODES⟩ := arr_v c0
  obtain ⟨cl_CODES, A_w_CODES⟩ := Arr.start ev_w_CODES c0
  have S_w_CODES := Sta.start ev_w_CODES (Or.inr ⟨(hw _ (List.mem_of_getElem? (i := 6) rfl)), (hw _ (List.mem_of_getElem? (i := 7) rfl))⟩)
  have Z_w_CODES : cl_CODES.slots.size = 10 := own_len ev_w_CODES A_w_CODES c1 (by decide)
  have G_0 := own_el ev_w_CODES A_w_CODES ev_w_MESSAGE c3
  have G_3 := own_el ev_w_CODES A_w_CODES ev_w_DECLINE c10
  have G_1 := own_el ev_w_CODES A_w_CODES ev_w_ANNOUNCE c13
  have G_4 := own_el ev_w_CODES A_w_CODES ev_w_DATA c16
  have G_7 := own_el ev_w_CODES A_w_CODES ev_w_OFFER c18
  have G_2 := own_el ev_w_CODES A_w_CODES ev_w_GRANT c20
  have G_8 := own_el ev_w_CODES A_w_CODES ev_w_TAKEN c23
  have G_9 := own_el ev_w_CODES A_w_CODES ev_w_SHARE c25
  have G_5 := own_el ev_w_CODES A_w_CODES ev_w_REFUSE c27
  have G_6 := own_el ev_w_CODES A_w_CODES ev_w_LEAVE c30
  have P : Pins s s.heap w_MESSAGE w_OFFER w_SHARE w_DECLINE w_ANNOUNCE w_DATA w_GRANT w_TAKEN w_REFUSE w_LEAVE w_CODES cl_CODES := ⟨S_w_MESSAGE, E_w_MESSAGE, S_w_OFFER, E_w_OFFER, S_w_SHARE, E_w_SHARE, S_w_DECLINE, E_w_DECLINE, S_w_ANNOUNCE, E_w_ANNOUNCE, S_w_DATA, E_w_DATA, S_w_GRANT, E_w_GRANT, S_w_TAKEN, E_w_TAKEN, S_w_REFUSE, E_w_REFUSE, S_w_LEAVE, E_w_LEAVE, F_w_MESSAGE_ordinal, F_w_OFFER_ordinal, F_w_SHARE_ordinal, F_w_DECLINE_ordinal, F_w_ANNOUNCE_ordinal, F_w_DATA_ordinal, F_w_GRANT_ordinal, F_w_TAKEN_ordinal, F_w_REFUSE_ordinal, F_w_LEAVE_ordinal, S_w_CODES, A_w_CODES, Z_w_CODES, G_0, G_3, G_1, G_4, G_7, G_2, G_8, G_9, G_5, G_6⟩
  obtain ⟨n, o, h1, h2, h3, _, L, rfl, ⟨rfl, N, -⟩, hq⟩ := rm0_all l s _ hw tables_1 w_MESSAGE w_OFFER w_SHARE w_DECLINE w_ANNOUNCE w_DATA w_GRANT w_TAKEN w_REFUSE w_LEAVE w_CODES cl_CODES i0 s.heap s.heap.size (Nat.le_refl _) P p e ha hc hk s m _ below hf ((Spec.applies_iff_loose hf).mp happ).1 ⟨rfl, State.Warmed39.refl s, rfl⟩ trivial
  refine ⟨n, _, h1, h2, h3, hpost _ _ _ _ _ _ ⟨Cond.after_iff.mpr rfl, Cond.after_iff.mpr (eq_i res_at (Term.int_eval (1)) rfl), trivial⟩ ⟨hq.1, hq.2.1, (hq.2.2.sift fun y hy => Or.inr (N y hy)).mono (by decide) (by decide)⟩⟩
theorem main_1_1 : Claimed_1_1 := comes_1 fun _ _ _ _ _ _ h hF => ⟨h.1, hF⟩
theorem main_1_2 : Claimed_1_2 := comes_1 fun _ _ _ _ _ _ h hF => ⟨h.2.1, hF⟩
end Jvm.Pilot.@@N@@
namespace Jvm.Pilot.@@N@@
open Jvm Jvm.ClassFile Sem Op Lib Jvm.Free Jvm.Stand Jvm.Pilot.@@N@@.Jvm.D
/-! MADE BY PROGRAM (witnessworld.py) out of the Statement's table words and the real class files: 14 classes; the members and pool entries that the words name. The judged class is class 1, her method 1. -/
namespace start1
open Jvm.ClassFile
def u (s : String) : CpInfo := .utf8 (stringToUtf16 s)
/-- a pool by its gaps: so many unusable entries, then the entry; so many at the end -/
def gap : Nat → List CpInfo → List CpInfo
  | 0, r => r
  | n + 1, r => .unusable :: gap n r
def poolList (es : List (Nat × CpInfo)) (last : Nat) : List CpInfo := es.foldr (fun e r => gap e.1 (e.2 :: r)) (gap last [])
def pool (es : List (Nat × CpInfo)) (last : Nat) : Array CpInfo := ⟨poolList es last⟩
def fileOf (pool : Array CpInfo) (this : Nat) (attrs : Array Attribute := #[]) (ms : Array MethodInfo := #[]) (fl : Nat := 33) (sup : Nat := 0) (ifs : Array Nat := #[]) (fds : Array FieldInfo := #[]) : ClassFile where
  minorVersion := 0
  majorVersion := 65
  constantPool := pool
  accessFlags := fl
  thisClass := this
  superClass := sup
  interfaces := ifs
  fields := fds
  methods := ms
  attributes := attrs
def plain (name : String) (sup : Option ClassId) : Class where
  name := name
  kind := .ordinary
  loader := none
  accessFlags := 33
  super := sup
  interfaces := #[]
  cf := none
  fields := #[]
  methods := #[]
  instanceTypes := #[]
  staticTypes := #[]
  resolved := #[]
  callSites := []
  init := .initialized
  statics := none
  mirror := none

def pool0 : Array CpInfo := pool [(5, u "<init>"), (0, u "()V"), (1, .class_ 10), (1, u "java/lang/Object")] 113

def k0m0 : Method := { name := "<init>", desc := "()V", sig := { parameters := [], returnType := none }, accessFlags := 1, code := none }
/-- java/lang/Object -/
def k0 : Class := { plain "java/lang/Object" none with
  accessFlags := 33
  interfaces := #[]
  cf := some (fileOf pool0 8 #[] #[{ accessFlags := 1, nameIndex := 5, descriptorIndex := 6, attributes := #[] }] 33 0 #[] #[])
  fields := #[]
  methods := #[k0m0]
  instanceTypes := #[]
  staticTypes := #[]
  resolved := Array.replicate 124 none
  statics := none }

def pool1 : Array CpInfo := pool [(2, .class_ 4), (1, u "java/lang/Object"), (0, u "<init>"), (0, u "()V"), (0, .integer 2147483647), (0, .methodref 9 10), (0, .class_ 11), (0, .nameAndType 12 13), (0, u "swiftwire/FrameHeader"), (0, u "kind"), (0, u "(II)Lswiftwire/FrameHeader$Kind;"), (0, .methodref 15 16), (0, .class_ 17), (0, .nameAndType 18 19), (0, u "swiftwire/FrameHeader$Kind"), (0, u "ordinal"), (0, u "()I"), (0, .methodref 15 21), (0, .nameAndType 22 19), (0, u "tailBytes"), (0, .class_ 24), (0, u "swiftwire/KindTailBytesPinLaw"), (2, u "law"), (0, u "(I)Z")] 8

def k1m0 : Method := { name := "<init>", desc := "()V", sig := { parameters := [], returnType := none }, accessFlags := 2, code := none }
def k1c1 : Code := { maxStack := 2, maxLocals := 4, code := code, exceptionTable := #[], attributes := #[] }
def k1m1 : Method := { name := "law", desc := "(I)Z", sig := { parameters := [.int], returnType := some .boolean }, accessFlags := 9, code := some k1c1 }
/-- swiftwire/KindTailBytesPinLaw -/
def k1 : Class := { plain "swiftwire/KindTailBytesPinLaw" (some 0) with
  accessFlags := 49
  interfaces := #[]
  cf := some (fileOf pool1 23 #[] #[{ accessFlags := 2, nameIndex := 5, descriptorIndex := 6, attributes := #[] }, { accessFlags := 9, nameIndex := 27, descriptorIndex := 28, attributes := #[] }] 49 2 #[] #[])
  fields := #[]
  methods := #[k1m0, k1m1]
  instanceTypes := #[]
  staticTypes := #[]
  resolved := Array.replicate 37 none
  statics := none }

def pool2 : Array CpInfo := pool [(2, .class_ 4), (1, u "java/lang/Object"), (0, u "<init>"), (0, u "()V"), (0, .class_ 8), (0, u "swiftwire/FrameHeader"), (3, .class_ 14), (1, u "swiftwire/FrameHeader$Kind"), (18, .fieldref 12 34), (0, .nameAndType 35 36), (0, u "CODES"), (0, u "[Lswiftwire/FrameHeader$Kind;"), (10, u "BYTES"), (0, u "I"), (2, u "MOST_BYTES"), (12, u "kind"), (0, u "(II)Lswiftwire/FrameHeader$Kind;")] 22

def k2m0 : Method := { name := "<init>", desc := "()V", sig := { parameters := [], returnType := none }, accessFlags := 2, code := none }
def k2c1 : Code := { maxStack := 3, maxLocals := 2, code := prog_50_method_7_code, exceptionTable := #[], attributes := #[] }
def k2m1 : Method := { name := "kind", desc := "(II)Lswiftwire/FrameHeader$Kind;", sig := { parameters := [.int, .int], returnType := some (.object "swiftwire/FrameHeader$Kind") }, accessFlags := 8, code := some k2c1 }
/-- swiftwire/FrameHeader -/
def k2 : Class := { plain "swiftwire/FrameHeader" (some 0) with
  accessFlags := 48
  interfaces := #[]
  cf := some (fileOf pool2 7 #[.nestMembers #[12]] #[{ accessFlags := 2, nameIndex := 5, descriptorIndex := 6, attributes := #[] }, { accessFlags := 8, nameIndex := 64, descriptorIndex := 65, attributes := #[] }] 48 2 #[] #[{ accessFlags := 24, nameIndex := 47, descriptorIndex := 48, attributes := #[] }, { accessFlags := 24, nameIndex := 51, descriptorIndex := 48, attributes := #[] }])
  fields := #[{ name := "BYTES", type := .int, accessFlags := 24, slot := 0, constantValue := 0 }, { name := "MOST_BYTES", type := .int, accessFlags := 24, slot := 1, constantValue := 0 }]
  methods := #[k2m0, k2m1]
  instanceTypes := #[]
  staticTypes := #[.int, .int]
  resolved := (Array.replicate 88 none).setIfInBounds 33 (some (.field 7 10))
  statics := none }

def pool3 : Array CpInfo := pool [(1, .class_ 2), (0, u "java/lang/constant/Constable"), (0, .class_ 4), (0, u "java/lang/Object")] 6

/-- java/lang/constant/Constable -/
def k3 : Class := { plain "java/lang/constant/Constable" (some 0) with
  accessFlags := 1537
  interfaces := #[]
  cf := some (fileOf pool3 1 #[] #[] 1537 3 #[] #[])
  fields := #[]
  methods := #[]
  instanceTypes := #[]
  staticTypes := #[]
  resolved := Array.replicate 11 none
  statics := none }

def pool4 : Array CpInfo := pool [(1, .class_ 2), (0, u "java/lang/Comparable"), (0, .class_ 4), (0, u "java/lang/Object")] 7

/-- java/lang/Comparable -/
def k4 : Class := { plain "java/lang/Comparable" (some 0) with
  accessFlags := 1537
  interfaces := #[]
  cf := some (fileOf pool4 1 #[] #[] 1537 3 #[] #[])
  fields := #[]
  methods := #[]
  instanceTypes := #[]
  staticTypes := #[]
  resolved := Array.replicate 12 none
  statics := none }

def pool5 : Array CpInfo := pool [(1, .class_ 2), (0, u "java/io/Serializable"), (0, .class_ 4), (0, u "java/lang/Object")] 2

/-- java/io/Serializable -/
def k5 : Class := { plain "java/io/Serializable" (some 0) with
  accessFlags := 1537
  interfaces := #[]
  cf := some (fileOf pool5 1 #[] #[] 1537 3 #[] #[])
  fields := #[]
  methods := #[]
  instanceTypes := #[]
  staticTypes := #[]
  resolved := Array.replicate 7 none
  statics := none }

def pool6 : Array CpInfo := pool [(2, .class_ 4), (1, u "java/lang/Enum"), (0, u "name"), (0, u "Ljava/lang/String;"), (0, .fieldref 2 8), (0, .nameAndType 9 10), (0, u "ordinal"), (0, u "I"), (1, .class_ 14), (1, u "java/lang/Object"), (4, u "hash"), (86, .class_ 108), (1, u "java/lang/Enum$EnumDesc"), (2, .class_ 112), (0, u "java/lang/constant/Constable"), (0, .class_ 114), (0, u "java/lang/Comparable"), (0, .class_ 116), (0, u "java/io/Serializable"), (9, u "()I")] 77

def k6c0 : Code := { maxStack := 1, maxLocals := 1, code := jdk_37_method_2_code, exceptionTable := #[], attributes := #[] }
def k6m0 : Method := { name := "ordinal", desc := "()I", sig := { parameters := [], returnType := some .int }, accessFlags := 17, code := some k6c0 }
/-- java/lang/Enum -/
def k6 : Class := { plain "java/lang/Enum" (some 0) with
  accessFlags := 1057
  interfaces := #[3, 4, 5]
  cf := some (fileOf pool6 2 #[.nestMembers #[106]] #[{ accessFlags := 17, nameIndex := 9, descriptorIndex := 126, attributes := #[] }] 1057 12 #[111, 113, 115] #[{ accessFlags := 18, nameIndex := 5, descriptorIndex := 6, attributes := #[] }, { accessFlags := 18, nameIndex := 9, descriptorIndex := 10, attributes := #[] }, { accessFlags := 2, nameIndex := 19, descriptorIndex := 10, attributes := #[] }])
  fields := #[{ name := "name", type := (.object "java/lang/String"), accessFlags := 18, slot := 0, constantValue := 0 }, { name := "ordinal", type := .int, accessFlags := 18, slot := 1, constantValue := 0 }, { name := "hash", type := .int, accessFlags := 2, slot := 2, constantValue := 0 }]
  methods := #[k6m0]
  instanceTypes := #[(.object "java/lang/String"), .int, .int]
  staticTypes := #[]
  resolved := Array.replicate 204 none
  statics := none }

def pool7 : Array CpInfo := pool [(1, .class_ 2), (0, u "swiftwire/FrameHeader"), (0, .class_ 4), (0, u "swiftwire/FrameHeader$Kind"), (2, u "MESSAGE"), (0, u "Lswiftwire/FrameHeader$Kind;"), (2, u "ANNOUNCE"), (2, u "GRANT"), (2, u "DECLINE"), (2, u "DATA"), (2, u "REFUSE"), (2, u "LEAVE"), (0, .fieldref 3 28), (0, .nameAndType 29 8), (0, u "OFFER"), (2, u "TAKEN"), (0, .fieldref 3 34), (0, .nameAndType 35 8), (0, u "SHARE"), (2, u "$VALUES"), (0, u "[Lswiftwire/FrameHeader$Kind;"), (6, .class_ 48), (1, u "java/lang/Enum"), (12, u "tailBytes"), (0, u "()I"), (20, u "CODES")] 18

def k7c0 : Code := { maxStack := 2, maxLocals := 2, code := prog_51_method_6_code, exceptionTable := #[], attributes := #[] }
def k7m0 : Method := { name := "tailBytes", desc := "()I", sig := { parameters := [], returnType := some .int }, accessFlags := 0, code := some k7c0 }
/-- swiftwire/FrameHeader$Kind -/
def k7 : Class := { plain "swiftwire/FrameHeader$Kind" (some 6) with
  accessFlags := 16432
  interfaces := #[]
  cf := some (fileOf pool7 3 #[.nestHost 1] #[{ accessFlags := 0, nameIndex := 61, descriptorIndex := 62, attributes := #[] }] 16432 46 #[] #[{ accessFlags := 16409, nameIndex := 7, descriptorIndex := 8, attributes := #[] }, { accessFlags := 16409, nameIndex := 11, descriptorIndex := 8, attributes := #[] }, { accessFlags := 16409, nameIndex := 14, descriptorIndex := 8, attributes := #[] }, { accessFlags := 16409, nameIndex := 17, descriptorIndex := 8, attributes := #[] }, { accessFlags := 16409, nameIndex := 20, descriptorIndex := 8, attributes := #[] }, { accessFlags := 16409, nameIndex := 23, descriptorIndex := 8, attributes := #[] }, { accessFlags := 16409, nameIndex := 26, descriptorIndex := 8, attributes := #[] }, { accessFlags := 16409, nameIndex := 29, descriptorIndex := 8, attributes := #[] }, { accessFlags := 16409, nameIndex := 32, descriptorIndex := 8, attributes := #[] }, { accessFlags := 16409, nameIndex := 35, descriptorIndex := 8, attributes := #[] }, { accessFlags := 26, nameIndex := 83, descriptorIndex := 39, attributes := #[] }, { accessFlags := 4122, nameIndex := 38, descriptorIndex := 39, attributes := #[] }])
  fields := #[{ name := "MESSAGE", type := (.object "swiftwire/FrameHeader$Kind"), accessFlags := 16409, slot := 0, constantValue := 0 }, { name := "ANNOUNCE", type := (.object "swiftwire/FrameHeader$Kind"), accessFlags := 16409, slot := 1, constantValue := 0 }, { name := "GRANT", type := (.object "swiftwire/FrameHeader$Kind"), accessFlags := 16409, slot := 2, constantValue := 0 }, { name := "DECLINE", type := (.object "swiftwire/FrameHeader$Kind"), accessFlags := 16409, slot := 3, constantValue := 0 }, { name := "DATA", type := (.object "swiftwire/FrameHeader$Kind"), accessFlags := 16409, slot := 4, constantValue := 0 }, { name := "REFUSE", type := (.object "swiftwire/FrameHeader$Kind"), accessFlags := 16409, slot := 5, constantValue := 0 }, { name := "LEAVE", type := (.object "swiftwire/FrameHeader$Kind"), accessFlags := 16409, slot := 6, constantValue := 0 }, { name := "OFFER", type := (.object "swiftwire/FrameHeader$Kind"), accessFlags := 16409, slot := 7, constantValue := 0 }, { name := "TAKEN", type := (.object "swiftwire/FrameHeader$Kind"), accessFlags := 16409, slot := 8, constantValue := 0 }, { name := "SHARE", type := (.object "swiftwire/FrameHeader$Kind"), accessFlags := 16409, slot := 9, constantValue := 0 }, { name := "CODES", type := (.array (.object "swiftwire/FrameHeader$Kind")), accessFlags := 26, slot := 10, constantValue := 0 }, { name := "$VALUES", type := (.array (.object "swiftwire/FrameHeader$Kind")), accessFlags := 4122, slot := 11, constantValue := 0 }]
  methods := #[k7m0]
  instanceTypes := #[(.object "java/lang/String"), .int, .int]
  staticTypes := #[(.object "swiftwire/FrameHeader$Kind"), (.object "swiftwire/FrameHeader$Kind"), (.object "swiftwire/FrameHeader$Kind"), (.object "swiftwire/FrameHeader$Kind"), (.object "swiftwire/FrameHeader$Kind"), (.object "swiftwire/FrameHeader$Kind"), (.object "swiftwire/FrameHeader$Kind"), (.object "swiftwire/FrameHeader$Kind"), (.object "swiftwire/FrameHeader$Kind"), (.object "swiftwire/FrameHeader$Kind"), (.array (.object "swiftwire/FrameHeader$Kind")), (.array (.object "swiftwire/FrameHeader$Kind"))]
  resolved := Array.replicate 102 none
  statics := some 0 }

def pool8 : Array CpInfo := pool [(1, u "java/lang/Cloneable"), (0, .class_ 1), (0, u "java/lang/Object"), (0, .class_ 3)] 3

/-- java/lang/Cloneable -/
def k8 : Class := { plain "java/lang/Cloneable" (some 0) with
  accessFlags := 1537
  interfaces := #[]
  cf := some (fileOf pool8 2 #[] #[] 1537 4 #[] #[])
  fields := #[]
  methods := #[]
  instanceTypes := #[]
  staticTypes := #[]
  resolved := Array.replicate 8 none
  statics := none }

/-- the primitive byte -/
def k9 : Class := { plain "byte" none with kind := .primitive 'B', accessFlags := 0x411 }
/-- [B -/
def k10 : Class := { plain "[B" (some 0) with kind := .array 9 .byte, interfaces := #[8, 5], accessFlags := 1041 }

/-- the primitive int -/
def k11 : Class := { plain "int" none with kind := .primitive 'I', accessFlags := 0x411 }
/-- [I -/
def k12 : Class := { plain "[I" (some 0) with kind := .array 11 .int, interfaces := #[8, 5], accessFlags := 1041 }

/-- [Lswiftwire/FrameHeader$Kind; -/
def k13 : Class := { plain "[Lswiftwire/FrameHeader$Kind;" (some 0) with kind := .array 7 (.object "swiftwire/FrameHeader$Kind"), interfaces := #[8, 5], accessFlags := 1041 }

def heap : Heap := #[{ cls := 7, slots := #[.ref 2, .ref 3, .ref 4, .ref 5, .ref 6, .ref 7, .ref 8, .ref 9, .ref 10, .ref 11, .ref 1, .null], vm := .statics 7 },
  { cls := 13, slots := #[.ref 2, .ref 3, .ref 4, .ref 5, .ref 6, .ref 7, .ref 8, .ref 9, .ref 10, .ref 11], vm := .none },
  { cls := 7, slots := #[.null, .int 0, .int 0], vm := .none },
  { cls := 7, slots := #[.null, .int 1, .int 0], vm := .none },
  { cls := 7, slots := #[.null, .int 2, .int 0], vm := .none },
  { cls := 7, slots := #[.null, .int 3, .int 0], vm := .none },
  { cls := 7, slots := #[.null, .int 4, .int 0], vm := .none },
  { cls := 7, slots := #[.null, .int 5, .int 0], vm := .none },
  { cls := 7, slots := #[.null, .int 6, .int 0], vm := .none },
  { cls := 7, slots := #[.null, .int 7, .int 0], vm := .none },
  { cls := 7, slots := #[.null, .int 8, .int 0], vm := .none },
  { cls := 7, slots := #[.null, .int 9, .int 0], vm := .none }]
def classes : Array Class := #[k0, k1, k2, k3, k4, k5, k6, k7, k8, k9, k10, k11, k12, k13]
def interned : List (Array UInt16 × Addr) := []
def slotsUsed : Nat := 52
def theMethod : MethodId := ⟨1, 1⟩
def args0 : Array Value := #[.int 5]
def aboutOver (below : List Frame) : State where
  vm := { classes := classes, interned := interned.toArray }
  heap := heap
  slotsUsed := slotsUsed
  threads := #[{ frames := .invoking theMethod args0 :: below }]
def below0 : List Frame := [.native { method := ⟨0, 0⟩, args := #[] }]
def about1 : State := aboutOver below0
def p0 : Program := .bare "" "" ""
def e0 : Env := launch0.env 0 0 0
theorem w_frames : about1.frames = Frame.invoking theMethod args0 :: below0 := rfl
set_option maxRecDepth 65536 in
theorem w_args : argsFit about1.vm theMethod args0 = true := by decide +kernel
set_option maxRecDepth 65536 in
theorem w_heap : heapFits about1 = true := by decide +kernel
set_option maxRecDepth 65536 in
theorem w_runnable : about1.curStatus? = some .runnable := by decide +kernel
set_option maxRecDepth 65536 in
theorem w_alone : about1.alone = true := by decide +kernel
set_option maxRecDepth 65536 in
theorem w_named : about1.methodNamed? x = some theMethod := by decide +kernel
set_option maxRecDepth 65536 in
theorem w_hears : about1.hears theMethod below0 = true := by decide +kernel
set_option maxRecDepth 65536 in
theorem w_ripe : about1.ripe theMethod args0 below0 = true := by decide +kernel
theorem w_running : about1.status = .running := rfl
set_option maxRecDepth 65536 in
theorem w_room : about1.hasRoom e0.platform room_1 = true :=
  launch0.hasRoom_least _ room_1 (by decide +kernel) (by decide +kernel) (by decide +kernel) (by decide +kernel) (by decide +kernel) (by decide +kernel)
theorem allAtoms_all (ts : List Jvm.Cond) (a : Array Jvm.Value) (st : Jvm.State) : (allAtoms ts).before a st = ts.all (fun c => c.before a st) := by
  induction ts with
  | nil => rfl
  | cons c t ih =>
    show (Jvm.Cond.and c (allAtoms t)).before a st = _
    rw [Jvm.Cond.before_and, ih, List.all_cons]
def words1 : List Jvm.Cond := Jvm.Cond.code x code maxLocals ret :: tables_1
/-- a 'code' word, met by the world's own term for the bytes: nothing is compared byte by byte -/
theorem code_word {y : MethodName} {bytes : ByteArray} {mx : Nat} {rt : Option FieldType} {a : Array Value} {s : State} {m : MethodId} {meth : Method} {c : Code} (h1 : s.methodNamed? y = some m) (h2 : s.vm.method? m = some meth) (h3 : meth.code = some c) (h4 : c.code = bytes)
    (h5 : (c.maxLocals == mx && c.exceptionTable.isEmpty && decide (c.maxStack ≤ mostOperands) && decide (meth.sig.returnType = rt) && !meth.locks && decide (parseMethodDescriptor y.desc = some meth.sig)) = true) : (Jvm.Cond.code y bytes mx rt).before a s = true := by
  simp only [Bool.and_eq_true, beq_iff_eq, Bool.not_eq_true', decide_eq_true_eq] at h5
  obtain ⟨⟨⟨⟨⟨g1, g2⟩, g3⟩, g4⟩, g5⟩, g6⟩ := h5
  simp [Cond.before, Cond.holds, Cond.value, h1, h2, h3, h4, g1, g2, g3, g4, g5, g6]
def isCode : Jvm.Cond → Bool
  | .code _ _ _ _ => true
  | _ => false
theorem all_split {L : List Jvm.Cond} {P : Jvm.Cond → Bool} (h1 : L.all (fun c => isCode c || P c) = true) (h2 : ∀ c ∈ L.filter isCode, P c = true) : L.all P = true := by
  refine List.all_eq_true.mpr fun c hc => ?_
  have h := List.all_eq_true.mp h1 c hc
  rcases Bool.eq_false_or_eq_true (isCode c) with hi | hi
  · exact h2 c (List.mem_filter.mpr ⟨hc, hi⟩)
  · simpa [hi] using h
set_option maxRecDepth 65536 in
theorem w_c0 : (Jvm.Cond.code x code maxLocals ret).before args0 about1 = true := code_word (m := ⟨1, 1⟩) (meth := k1m1) (c := k1c1) (by decide +kernel) rfl rfl rfl (by decide +kernel)
set_option maxRecDepth 65536 in
theorem w_c1 : (Jvm.Cond.code ({ cls := "swiftwire/FrameHeader", name := "kind", desc := "(II)Lswiftwire/FrameHeader$Kind;" } : Jvm.MethodName) prog_50_method_7_code (2 : Nat) (Option.some (Jvm.ClassFile.FieldType.object "swiftwire/FrameHeader$Kind"))).before args0 about1 = true := code_word (m := ⟨2, 1⟩) (meth := k2m1) (c := k2c1) (by decide +kernel) rfl rfl rfl (by decide +kernel)
set_option maxRecDepth 65536 in
theorem w_c2 : (Jvm.Cond.code ({ cls := "java/lang/Enum", name := "ordinal", desc := "()I" } : Jvm.MethodName) jdk_37_method_2_code (1 : Nat) (Option.some Jvm.ClassFile.FieldType.int)).before args0 about1 = true := code_word (m := ⟨6, 0⟩) (meth := k6m0) (c := k6c0) (by decide +kernel) rfl rfl rfl (by decide +kernel)
set_option maxRecDepth 65536 in
theorem w_c3 : (Jvm.Cond.code ({ cls := "swiftwire/FrameHeader$Kind", name := "tailBytes", desc := "()I" } : Jvm.MethodName) prog_51_method_6_code (2 : Nat) (Option.some Jvm.ClassFile.FieldType.int)).before args0 about1 = true := code_word (m := ⟨7, 0⟩) (meth := k7m0) (c := k7c0) (by decide +kernel) rfl rfl rfl (by decide +kernel)
def codes1 : List Jvm.Cond := [Jvm.Cond.code x code maxLocals ret, Jvm.Cond.code ({ cls := "swiftwire/FrameHeader", name := "kind", desc := "(II)Lswiftwire/FrameHeader$Kind;" } : Jvm.MethodName) prog_50_method_7_code (2 : Nat) (Option.some (Jvm.ClassFile.FieldType.object "swiftwire/FrameHeader$Kind")), Jvm.Cond.code ({ cls := "java/lang/Enum", name := "ordinal", desc := "()I" } : Jvm.MethodName) jdk_37_method_2_code (1 : Nat) (Option.some Jvm.ClassFile.FieldType.int), Jvm.Cond.code ({ cls := "swiftwire/FrameHeader$Kind", name := "tailBytes", desc := "()I" } : Jvm.MethodName) prog_51_method_6_code (2 : Nat) (Option.some Jvm.ClassFile.FieldType.int)]
set_option maxRecDepth 65536 in
theorem codes_eq : words1.filter isCode = codes1 := rfl
theorem w_codes : ∀ c ∈ words1.filter isCode, c.before args0 about1 = true := by
  rw [codes_eq]
  intro c hc
  simp only [codes1, List.mem_cons, List.not_mem_nil, or_false] at hc
  rcases hc with rfl | rfl | rfl | rfl
  · exact w_c0
  · exact w_c1
  · exact w_c2
  · exact w_c3
set_option maxRecDepth 65536 in
theorem w_t1 : (words1.take 24).all (fun c => isCode c || c.before args0 about1) = true := by decide +kernel
set_option maxRecDepth 65536 in
theorem w_t2 : (words1.drop 24).all (fun c => isCode c || c.before args0 about1) = true := by decide +kernel
theorem w_tables : (allAtoms (Jvm.Cond.code x code maxLocals ret :: tables_1)).before args0 about1 = true := by
  rw [allAtoms_all]
  show words1.all (fun c => c.before args0 about1) = true
  refine all_split ?_ w_codes
  rw [← List.take_append_drop 24 words1, List.all_append, w_t1, w_t2]
  rfl
set_option maxRecDepth 65536 in
theorem w_case : (Jvm.Cond.and given_1 narrow_1).before args0 about1 = true := by decide +kernel
theorem w_applies : (headSpec (Jvm.Cond.code x code maxLocals ret :: tables_1) room_1).applies x e0.platform about1 = true :=
  (Spec.applies_iff w_frames).mpr ⟨w_running, w_runnable, w_alone, w_named, w_hears, w_ripe, w_room, w_tables⟩
theorem atStart : AtStart classFile x code maxLocals ret World_1 tables_1 room_1 Calls_1 rest_1 Pre_1 launch0 p0 e0 about1 theMethod args0 below0 :=
  ⟨lists_1, trivial, launch0.admits_env _ _ _, launch0.least_env, fairChoices_fair.cas, fairChoices_fair.clock, w_frames, w_args, w_heap, w_applies, trivial, trivial, w_case⟩
end start1
theorem witness_1 : WitnessClaimed_1 := ⟨start1.p0, start1.e0, start1.about1, start1.theMethod, start1.args0, start1.below0, start1.atStart⟩
end Jvm.Pilot.@@N@@
