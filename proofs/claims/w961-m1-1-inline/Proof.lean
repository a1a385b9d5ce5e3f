import JvmDerived
import JvmDerived.Pilot.@@N@@Statement
import JvmDerived.Pilot.@@N@@Code
set_option linter.unusedVariables false
set_option linter.unusedSimpArgs false
namespace Jvm.RoadKit
open Sem ClassFile Op Lib Jvm.Stand Jvm.Free Jvm.LawKit
section New
variable {p : Program} {l : Launch} {e : Env} {R : Room} {s : State} {m : MethodId} {args : Array Value} {below : List Frame} {meth : Method} {c : Code} {T : State} {locs : List Loc} {cells slots : Nat}
theorem retI (X : Stand p l e R s m args below meth c T locs cells slots) (hx : p.tables.exec = Jvm.exec) {pc : Nat} {Ls : Array Slot} {z : Int32} {rest : List Value} (hret : meth.sig.returnType = some .int) (hd : decode c.code pc = .ok (.ireturn, 1)) {fs : List Frame}
    (hl : ∀ (f : JFrame) (acts : List Action), f.method = m → f.locked = none → f.entered = [] → (doReturn e (T.setTop f) acts (some (.int z))).1 = T.setFrames fs) : Steps p.tables e below (T.setTop (mkF m pc Ls (.int z :: rest))) (T.setFrames fs) := by
  have hm' : T.vm.method? m = some meth := X.method'
  have hn : narrow .int (.int z) = .int z := rfl
  show Steps p.tables e below (T.setTop { method := m, pc := pc, locals := Ls, stack := _ :: rest, locked := none }) _
  jvm_step X.here [X.here.top, hx, hd, hm', hret, hn]
  first | (intro acts; rw [hl _ acts rfl rfl rfl]) | rw [hl _ _ rfl rfl rfl]
  exact Steps.refl _
end New
end Jvm.RoadKit
namespace Jvm.Pilot.@@N@@
open Jvm Jvm.ClassFile Sem Op Lib Jvm.Free Jvm.Stand Jvm.LawKit Jvm.RoadKit Bundle Jvm.Pilot.@@N@@.Jvm.D
set_option maxRecDepth 65536
set_option maxHeartbeats 40000000
theorem own_cat {v : Value} (h : v.isRef = true) : v.category = 1 := by rcases ref_cases h with rfl | ⟨_, rfl⟩ <;> rfl
theorem own_nar {v : Value} {C : String} (h : v.isRef = true) : narrow (.object C) v = v := by rcases ref_cases h with rfl | ⟨_, rfl⟩ <;> rfl
theorem own_fit {v : Value} {C : String} (h : v.isRef = true) : fits (.object C) v = true := by rcases ref_cases h with rfl | ⟨_, rfl⟩ <;> rfl
theorem own_rew {s t : State} {o : Outcome} {L : List Loc} {k n k' n' : Nat} (h : ReturnedEndW s o t L k n) (hk : k ≤ k') (hn : n ≤ n') : ReturnedEndW s o t L k' n' := ⟨h.1, h.2.1, h.2.2.1, h.2.2.2.mono hk hn⟩
theorem own_wsa : ∀ d ∈ Bundle.stringAtoms, d ∈ tables_1 := by decide +kernel
theorem own_tn {A : Nat} (h : A < 2147483648) : (Int32.ofNat A).toNatClampNeg = A := by
  show (Int32.ofNat A).toInt.toNat = A
  rw [Int32.toInt_ofNat_of_lt (by omega)]; simp
theorem own_ti {A : Nat} (h : A < 2147483648) : (Int32.ofNat A).toInt = A := Int32.toInt_ofNat_of_lt (by omega)
theorem own_nn {A : Nat} (h : A < 2147483648) : ¬ (Int32.ofNat A) < (0 : Int32) := by
  rw [Int32.lt_iff_toInt_lt, own_ti h]; simp
theorem own_ltI {A B : Nat} (h : A < B) (hb : B < 2147483648) : Int32.ofNat A < Int32.ofNat B := by
  rw [Int32.lt_iff_toInt_lt, own_ti hb, own_ti (by omega)]; omega
theorem own_leI {A B : Nat} (h : B ≤ A) (ha : A < 2147483648) : ¬ (Int32.ofNat A < Int32.ofNat B) := by
  rw [Int32.lt_iff_toInt_lt, own_ti ha, own_ti (by omega)]; omega
theorem own_neI {A B : Nat} (h : A ≠ B) (ha : A < 2147483648) (hb : B < 2147483648) : ¬ (Int32.ofNat A = Int32.ofNat B) := fun q => by
  have := congrArg Int32.toInt q
  rw [own_ti ha, own_ti hb] at this; omega
theorem own_eqI {A B : Nat} (h : A = B) : Int32.ofNat A = Int32.ofNat B := by rw [h]
theorem own_addI (A B : Nat) : Int32.ofNat A + Int32.ofNat B = Int32.ofNat (A + B) := (Int32.ofNat_add A B).symm
theorem own_subI {A B : Nat} (h : B ≤ A) : Int32.ofNat A - Int32.ofNat B = Int32.ofNat (A - B) := by
  have e : Int32.ofNat A = Int32.ofNat (A - B) + Int32.ofNat B := by rw [own_addI, Nat.sub_add_cancel h]
  rw [e, Int32.add_sub_cancel]
theorem own_subN {A B : Nat} (h : A ≤ B) (hb : B < 2147483648) : ¬ ((0 : Int32) < Int32.ofNat A - Int32.ofNat B) := by
  have e : Int32.ofNat A - Int32.ofNat B = - Int32.ofNat (B - A) := by
    rw [← own_subI h, Int32.neg_sub]
  rw [e, Int32.lt_iff_toInt_lt, Int32.toInt_neg, own_ti (by omega)]
  have : (0 : Int32).toInt = 0 := rfl
  rw [this]
  have b : Int.bmod (-((B - A : Nat) : Int)) (2^32) = -((B - A : Nat) : Int) := by
    rw [Int.bmod_def]; omega
  rw [b]; omega
theorem own_sh0 (x : Int32) : (x >>> ((0 : Int32) &&& 31)) = x ∧ (x <<< ((0 : Int32) &&& 31)) = x := by
  have e : ((0 : Int32) &&& 31) = 0 := by decide
  rw [e]
  exact ⟨by simp, by simp⟩
theorem own_has {c : Cell} {vs : List Value} {d v : Value} {n : Nat} (H : Has c vs d) (hn : n < c.slots.size) (h : vs[n]? = some v) : c.slots[n]? = some v := by
  rw [H n hn]; simp [List.getD, h]
theorem own_decl {y : MethodName} {bytes : ByteArray} {ml : Nat} {ret : Option FieldType} {a0 : Array Value} {Z : State} (h : (Jvm.Cond.instanceMethod y).before a0 Z = true) (hc : (Jvm.Cond.code y bytes ml ret).before a0 Z = true) : (Jvm.Cond.declares y).before a0 Z = true := by
  obtain ⟨m, meth, h1, h2, h3, h4⟩ := Cond.instanceMethod_spec h
  obtain ⟨meth', cM, q1, -, -, -, -, -, -, q2⟩ := Cond.code_spec h1 hc
  cases h2.symm.trans q1
  simp [Cond.before, Cond.holds, Cond.value, h1, h2, h3, q2]
theorem own_same {y z : MethodName} {C : String} {a0 : Array Value} {Z : State} (h : (Jvm.Cond.declares y).before a0 Z = true) (hs : (Jvm.Cond.selects C z z).before a0 Z = true) (hc : y.cls = z.cls) (hy : y.cls ≠ "java/lang/invoke/MethodHandle" ∧ y.cls ≠ "java/lang/invoke/VarHandle") : (Jvm.Cond.sameMethod y.cls y.cls y.name y.desc).before a0 Z = true := by
  obtain ⟨m, meth, h1, h2, h3, h4⟩ := Cond.declares_spec h
  obtain ⟨c2, r2, m2, q1, q2, q3, q4, kP, hkP, hkPi⟩ := Cond.selects_spec hs
  have e1 := findClass_of_methodNamed h1
  have e2 := findClass_of_methodNamed q3
  rw [← hc, e1] at e2
  have e4 := Option.some.inj e2
  rw [← e4] at hkP
  have f1 := State.methodFound?_of_named h1 hy
  have e3 : (⟨y.cls, y.name, y.desc⟩ : MethodName) = y := rfl
  simp [Cond.before, Cond.holds, Cond.value, e1, f1, e3, h1, hkP, hkPi]
theorem own_qq {l : Launch} {y : MethodName} {S : Spec} {P : Array Value → State → Prop} {k n : Nat} {Q Q2 : Option Value → Heap → List Loc → Prop} (h : MetFree l y S P (fun _ _ _ _ _ => True) (fun _ U o U' => ∃ v L, o = .returned v ∧ Q v U'.heap L ∧ FrameEnd U o U' L k n)) (hq : ∀ v h L, Q v h L → Q2 v h L) :
    MetFree l y S P (fun _ _ _ _ _ => True) (fun _ U o U' => ∃ v L, o = .returned v ∧ Q2 v U'.heap L ∧ FrameEnd U o U' L k n) := by
  intro p e ha hc hk s m args below hf happ hP hK
  obtain ⟨n', o, h1, h2, h3, v, L, e1, e2, e3⟩ := h p e ha hc hk s m args below hf happ hP hK
  exact ⟨n', o, h1, h2, h3, v, L, e1, hq _ _ _ e2, e3⟩
theorem own_qh {l : Launch} {y : MethodName} {S : Spec} {P : Array Value → State → Prop} {k n : Nat} {Z : State} {EL : List (String × Nat)} {Q Q2 : Option Value → Heap → List Loc → Prop} (h : MetFree l y S P (fun _ _ _ _ _ => True) (fun _ U o U' => ∃ v L, o = .returned v ∧ Q v U'.heap L ∧ CHr Z EL U.vm U.heap U'.vm U'.heap ∧ ReturnedEndW U o U' L k n)) (hq : ∀ v h L, Q v h L → Q2 v h L) :
    MetFree l y S P (fun _ _ _ _ _ => True) (fun _ U o U' => ∃ v L, o = .returned v ∧ Q2 v U'.heap L ∧ CHr Z EL U.vm U.heap U'.vm U'.heap ∧ ReturnedEndW U o U' L k n) := by
  intro p e ha hc hk s m args below hf happ hP hK
  obtain ⟨n', o, h1, h2, h3, v, L, e1, e2, e3⟩ := h p e ha hc hk s m args below hf happ hP hK
  exact ⟨n', o, h1, h2, h3, v, L, e1, hq _ _ _ e2, e3⟩
theorem own_getD {U W : List Value} {d : Value} {n : Nat} (hW : W.length ≤ n) : ∀ i, (U ++ W).getD i d = ((U ++ List.replicate n d).take U.length ++ ((List.range n).map fun i => W.getD (0 + i) d) ++ (U ++ List.replicate n d).drop (U.length + n)).getD i d := fun i => by
  have e1 : (U ++ List.replicate n d).take U.length = U := by simp
  have e2 : (U ++ List.replicate n d).drop (U.length + n) = [] := by simp
  rw [e1, e2, List.append_nil]
  by_cases h : i < U.length
  · simp [List.getD, List.getElem?_append_left h]
  · have h' : U.length ≤ i := Nat.le_of_not_lt h
    simp only [List.getD, List.getElem?_append_right h']
    by_cases q : i - U.length < n
    · rw [List.getElem?_map, List.getElem?_range q]; simp
    · rw [List.getElem?_eq_none (by omega), List.getElem?_eq_none (by simp; omega)]
theorem own_cp {p : Program} {l : Launch} {e : Env} {R : Room} {s : State} {m : MethodId} {args : Array Value} {below : List Frame} {meth : Method} {c : Code} {T : State} {locs : List Loc} {cells slots : Nat} {Z : State} {h : Heap} {a b : Addr} {k k' : ClassId} {d : Value}
    (X : Stand p l e R s m args below meth c T locs cells slots) (hx : p.tables.exec = Jvm.exec) (hZ : Z.Warmed39 s.vm) {a0 : Array Value} {own : String} {index : Nat} (hown : s.vm.findClass own = some m.cls)
    (w1 : (Cond.methodLink own index Jvm.Stand.acN).before a0 Z = true) (w2 : (Cond.native Jvm.Stand.acN).before a0 Z = true) (w3 : (Cond.static Jvm.Stand.acN).before a0 Z = true) (w4 : (Cond.initialized "java/lang/System").before a0 Z = true) (eT : T.heap = h)
    {ZA ZB DP N : Nat} {U W : List Value} (A : Arv Z h a k .byte (Int32.ofNat ZA) W d) (B : Arv Z h b k' .byte (Int32.ofNat ZB) U d) (hU : U.length = DP) (hW : W.length ≤ N) (h4 : N ≤ ZA) (h5 : DP + N ≤ ZB) (b1 : ZA < 2147483648) (b2 : ZB < 2147483648) {n0 : Nat} (N0 : Fr n0 locs) (ge : n0 ≤ b)
    {g : JFrame} (hg : g.method = m) (hsize : g.locals.size = c.maxLocals) {rest : List Value} (hs : g.stack = .int (Int32.ofNat N) :: .int (Int32.ofNat DP) :: .ref b :: .int (0 : Int32) :: .ref a :: rest) (hd : decode c.code g.pc = .ok (.invokestatic index, 3))
    (hf : 1 ≤ R.frames) {W' : Nat} (hW' : 2 * g.monitorRoom + (rest.map fun v => v.category).sum ≤ W') (hlo : W' + (nativeFrameWords "java/lang/System" "arraycopy" 5 + 11) ≤ R.locals) :
    ∃ T' h' L, Stand p l e R s m args below meth c T' L cells slots ∧ T'.heap = h' ∧ Fr n0 L ∧ Keep h h' [b] ∧ Arv Z h' b k' .byte (Int32.ofNat ZB) (U ++ W) d ∧
      ∀ target, Steps p.tables e below (T'.setTop { g with pc := g.pc + 3, stack := rest }) target → Steps p.tables e below (T.setTop g) target := by
  have bN : N < 2147483648 := by omega
  have bD : DP < 2147483648 := by omega
  obtain ⟨T', h', L, X', e', F', K', A', st⟩ := cpA X hx hZ hown w1 w2 w3 w4 eT A (B.pad (pad_rep U d N)) (Or.inl ⟨rfl, rfl⟩) (sp := (0 : Int32)) (dp := Int32.ofNat DP) (nn := Int32.ofNat N) (by decide) (own_nn bD) (own_nn bN)
    (by rw [own_tn bN, own_tn b1]; show 0 + N ≤ ZA; omega) (by rw [own_tn bN, own_tn b2, own_tn bD]; exact h5) rfl (by rw [own_tn bN, own_tn bD]; simp; omega) N0 ge hg hsize hs hd hf hW' hlo
  refine ⟨T', h', L, X', e', F', K', ?_, st⟩
  rw [own_tn bN, own_tn bD, ← hU] at A'
  exact A'.pad (own_getD hW)
theorem own_nf {args : Array Value} {s : State} {C : String} {y z : MethodName} (hs : (Jvm.Cond.selects C z z).before args s = true) (hc : y.cls = z.cls) : NotFace s y := fun r0 h0 => by
  obtain ⟨c2, r2, m2, q1, q2, q3, q4, kP, hkP, hkPi⟩ := Cond.selects_spec hs
  have e1 := findClass_of_methodNamed h0
  have e2 := findClass_of_methodNamed q3
  rw [← hc, e1] at e2
  have e4 := Option.some.inj e2
  exact ⟨kP, by rw [e4]; exact hkP, hkPi⟩
abbrev own_ch (c : Int32) : Prop := (c &&& (255 : Int32)).toUInt32.toUInt16.toUInt32.toInt32 = c ∧ narrow .char (.int c) = .int c
def inc1 (a m v : Int32) : Int32 := if (a &&& m) = (0 : Int32) then v else v + (1 : Int32)
theorem own_bv (x : BitVec 32) (k : Nat) (hk : k < 32) : (x.sshiftRight k) &&& 1#32 = if x &&& BitVec.twoPow 32 k = 0#32 then 0#32 else 1#32 := by
  rw [BitVec.and_one_eq_setWidth_ofBool_getLsbD, BitVec.and_twoPow, BitVec.getLsbD_sshiftRight]
  have h : k + 0 < 32 := hk
  have z : BitVec.twoPow 32 k ≠ 0#32 := fun q => by
    have := congrArg (fun y => BitVec.getLsbD y k) q
    simp [BitVec.getLsbD_twoPow, hk] at this
  rw [if_pos h]
  cases hq : x.getLsbD (k + 0)
  · have hq' : x.getLsbD k = false := hq
    simp [hq']
  · have hq' : x.getLsbD k = true := hq
    simp [hq', z]
theorem own_ii {a m w : Int32} {P : Prop} [Decidable P] (e : w.toBitVec = if P then 0#32 else 1#32) (hp : P ↔ (a &&& m) = (0 : Int32)) : w = inc1 a m (0 : Int32) := by
  apply Int32.toBitVec_inj.mp
  rw [e]; unfold inc1
  by_cases q : (a &&& m) = (0 : Int32)
  · rw [if_pos q, if_pos (hp.mpr q)]; rfl
  · rw [if_neg q, if_neg (fun z => q (hp.mp z))]; rfl
theorem own_bz {a m : Int32} {k : Nat} (e : m.toBitVec = BitVec.twoPow 32 k) : (a.toBitVec &&& BitVec.twoPow 32 k = 0#32) ↔ (a &&& m) = (0 : Int32) := by
  rw [← e, ← Int32.toBitVec_and]
  exact ⟨fun h => Int32.toBitVec_inj.mp h, fun h => by rw [h]; rfl⟩
theorem own_bk {a c m : Int32} {k : Nat} (hk : k < 32) (ec : (c &&& 31).toBitVec.smod 32#32 = BitVec.ofNat 32 k) (em : m.toBitVec = BitVec.twoPow 32 k) : ((a >>> (c &&& 31)) &&& (1 : Int32)) = inc1 a m (0 : Int32) := by
  refine own_ii ?_ (own_bz em)
  rw [Int32.toBitVec_and, Int32.toBitVec_shiftRight, ← own_bv _ k hk]
  show (a.toBitVec.sshiftRight' ((c &&& 31).toBitVec.smod 32#32)) &&& 1#32 = _
  rw [ec]
  show (a.toBitVec.sshiftRight (BitVec.ofNat 32 k).toNat) &&& 1#32 = _
  rw [BitVec.toNat_ofNat, Nat.mod_eq_of_lt (by omega)]
theorem own_b1 (a : Int32) : (a &&& (1 : Int32)) = inc1 a (1 : Int32) (0 : Int32) := by
  refine own_ii ?_ (own_bz (k := 0) (by decide))
  rw [Int32.toBitVec_and, ← own_bv _ 0 (by decide)]
  simp
theorem own_iv (a m v : Int32) : inc1 a m v = v + inc1 a m (0 : Int32) := by
  unfold inc1; split <;> simp
theorem own_i3 {a m v : Int32} (e : v = inc1 a m (0 : Int32)) : v = (0 : Int32) ∨ v = (1 : Int32) ∨ v = (2 : Int32) := by
  rw [e]; unfold inc1; split <;> simp
theorem own_i4 {a m m' v v' : Int32} (e : v = inc1 a m (0 : Int32)) (e' : v' = inc1 a m' v) : v' = (0 : Int32) ∨ v' = (1 : Int32) ∨ v' = (2 : Int32) := by
  rw [e', e]; unfold inc1; split <;> split <;> decide
theorem own_ek {a c m v : Int32} {k : Nat} (e : v = inc1 a m (0 : Int32)) (hk : k < 32) (ec : (c &&& 31).toBitVec.smod 32#32 = BitVec.ofNat 32 k) (em : m.toBitVec = BitVec.twoPow 32 k) : ((a >>> (c &&& 31)) &&& (1 : Int32)) = v := (own_bk hk ec em).trans e.symm
theorem own_eg {a v v' : Int32} (e : v = inc1 a (1 : Int32) (0 : Int32)) (e' : v' = inc1 a (256 : Int32) v) : ((a &&& (1 : Int32)) + ((a >>> ((8 : Int32) &&& 31)) &&& (1 : Int32))) = v' := by
  rw [e', own_iv, e, own_b1, own_bk (m := 256) (k := 8) (by decide) (by decide) (by decide)]
theorem own_iy {a m v : Int32} (q : (a &&& m) = (0 : Int32)) : v = inc1 a m v := (if_pos q).symm
theorem own_in {a m v : Int32} (q : ¬ (a &&& m) = (0 : Int32)) : (v + (1 : Int32)) = inc1 a m v := (if_neg q).symm
theorem own_ew {Z : State} {a0 : Array Value} (hw : ∀ d ∈ tables_1, d.before a0 Z = true) : EW Z a0 consts_1 := (EW.cons (hw _ (List.mem_of_getElem? (i := 36) rfl)) (by decide) (EW.cons (hw _ (List.mem_of_getElem? (i := 162) rfl)) (by decide) (EW.cons (hw _ (List.mem_of_getElem? (i := 165) rfl)) (by decide) (EW.cons (hw _ (List.mem_of_getElem? (i := 185) rfl)) (by decide) (EW.cons (hw _ (List.mem_of_getElem? (i := 186) rfl)) (by decide) (EW.cons (hw _ (List.mem_of_getElem? (i := 189) rfl)) (by decide) (EW.cons (hw _ (List.mem_of_getElem? (i := 192) rfl)) (by decide) (EW.cons (hw _ (List.mem_of_getElem? (i := 195) rfl)) (by decide) (EW.cons (hw _ (List.mem_of_getElem? (i := 198) rfl)) (by decide) (EW.cons (hw _ (List.mem_of_getElem? (i := 199) rfl)) (by decide) (EW.cons (hw _ (List.mem_of_getElem? (i := 202) rfl)) (by decide) (EW.cons (hw _ (List.mem_of_getElem? (i := 75) rfl)) (by decide) (EW.cons (hw _ (List.mem_of_getElem? (i := 257) rfl)) (by decide) (EW.cons (hw _ (List.mem_of_getElem? (i := 118) rfl)) (by decide) (EW.cons (hw _ (List.mem_of_getElem? (i := 203) rfl)) (by decide) (EW.cons (hw _ (List.mem_of_getElem? (i := 237) rfl)) (by decide) (EW.cons (hw _ (List.mem_of_getElem? (i := 238) rfl)) (by decide) (EW.cons (hw _ (List.mem_of_getElem? (i := 239) rfl)) (by decide) (EW.cons (hw _ (List.mem_of_getElem? (i := 240) rfl)) (by decide) (EW.cons (hw _ (List.mem_of_getElem? (i := 241) rfl)) (by decide) (EW.cons (hw _ (List.mem_of_getElem? (i := 242) rfl)) (by decide) (EW.cons (hw _ (List.mem_of_getElem? (i := 243) rfl)) (by decide) (EW.cons (hw _ (List.mem_of_getElem? (i := 244) rfl)) (by decide) (EW.cons (hw _ (List.mem_of_getElem? (i := 245) rfl)) (by decide) (EW.cons (hw _ (List.mem_of_getElem? (i := 246) rfl)) (by decide) EW.nil)))))))))))))))))))))))))
abbrev sL : String := "com/example/doccess/doccess/transfer/ImportCountsToStringPinLaw"
abbrev sI : String := "com/example/doccess/doccess/transfer/ImportCounts"
abbrev sA : String := "java/lang/AbstractStringBuilder"
abbrev sB : String := "java/lang/StringBuilder"
abbrev sS : String := "java/lang/String"
abbrev sP : String := "jdk/internal/util/Preconditions"
abbrev sN : String := "java/lang/Integer"
theorem wd {Z : State} {a0 : Array Value} (hw : ∀ d ∈ tables_1, d.before a0 Z = true) (i : Nat) {c : Jvm.Cond} (h : tables_1[i]? = some c) : c.before a0 Z = true := hw c (List.mem_of_getElem? h)
theorem mg {α : Type} {l : List α} (i : Nat) {a : α} (h : l[i]? = some a) : a ∈ l := List.mem_of_getElem? h
abbrev SG (p : Program) (e : Env) (below : List Frame) (T : State) (m : MethodId) (pc : Nat) (L : Array Slot) (S : List Value) (t : State) : Prop := Steps p.tables e below (T.setTop (mkF m pc L S)) t
abbrev SH {p : Program} {e : Env} {below : List Frame} {m : MethodId} {t : State} (T : State) (pc : Nat) (L : Array Slot) (S : List Value) : Prop := Steps p.tables e below (T.setTop (mkF m pc L S)) t
theorem lz {a b : Nat} (h : a = b) : a ≤ b := Nat.le_of_eq h
abbrev lR (a : Addr) : Slot := .val (.ref a)
abbrev lI (x : Int32) : Slot := .val (.int x)
abbrev lU : Slot := .unset
abbrev vI (x : Int32) : Value := .int x
abbrev oN (n : Nat) : Int32 := Int32.ofNat n
abbrev iF (Z : State) (h : Heap) (o : Addr) (f : String) (v : Int32) : Prop := Fld Z h o sI f "I" (.int v)
abbrev sV (Z : State) (h : Heap) (o b : Addr) : Prop := Fld Z h o sS "value" "[B" (.ref b)
abbrev sC (Z : State) (h : Heap) (o : Addr) : Prop := Fld Z h o sS "coder" "B" (.int 0)
abbrev aV (Z : State) (h : Heap) (o b : Addr) : Prop := Fld Z h o sA "value" "[B" (.ref b)
abbrev aC (Z : State) (h : Heap) (o : Addr) : Prop := Fld Z h o sA "coder" "B" (.int 0)
abbrev aN (Z : State) (h : Heap) (o : Addr) (n : Int32) : Prop := Fld Z h o sA "count" "I" (.int n)
abbrev bA (Z : State) (h : Heap) (o : Addr) (k : ClassId) (n : Int32) (u : List Value) : Prop := Arv Z h o k .byte n u (.int 0)
abbrev rO (f c s l : Nat) : Room := { frames := f, cells := c, slots := s, locals := l }
abbrev HW (Z : State) (a0 : Array Value) : Prop := ∀ d ∈ tables_1, d.before a0 Z = true
abbrev Ctr (l : Launch) (y : MethodName) (C : List Jvm.Cond) (R : Room) (Z : State) (h0 : Heap) (A : Array Value) (Q : Option Value → Heap → List Loc → Prop) : Prop := MetFree l y (head1 C R) (fun a U => a = A ∧ Z.Warmed39 U.vm ∧ U.heap = h0) (fun _ _ _ _ _ => True) (fun _ U o U' => ∃ v L, o = .returned v ∧ Q v U'.heap L ∧ FrameEnd U o U' L R.cells R.slots)
theorem own_body {l : Launch} {y : MethodName} {bytes : ByteArray} {ml : Nat} {ret : Option FieldType} {ws : List Jvm.Cond} {R : Room} {Z : State} {h0 : Heap} {n0 : Nat} {A : Array Value} {Q : Option Value → Heap → List Loc → Prop} {L0 : Array Slot} {own : String} (hc : y.cls = own) (hp : plainFor y = true) (O0 : Old Z n0 h0) (ef : ∀ m, entryFrame m A ml = mkF m 0 L0 [])
    (body : ∀ p e s m below meth c s₁, BodyLoose p l y (head1 (Jvm.Cond.code y bytes ml ret :: ws) R) bytes ml ret e s m A below meth c s₁ → Z.Warmed39 s.vm → p.tables.exec = Jvm.exec → c.code = bytes → c.maxLocals = ml → s.vm.findClass own = some m.cls → Stand p l e R s m A below meth c s₁ [] 0 0 → s₁.heap = h0 → n0 ≤ h0.size →
      ∃ s₂ o, SG p e below s₁ m 0 L0 [] s₂ ∧ s₂.status = .running ∧ Ended s₂ below o ∧ ∃ v L, o = .returned v ∧ Q v s₂.heap L ∧ FrameEnd s o s₂ L R.cells R.slots) :
    Ctr l y (Jvm.Cond.code y bytes ml ret :: ws) R Z h0 A Q := by
  refine MetFree.of_bodySF hp hisR ?_
  intro p e s m args below meth c s₁ Bd hml0 hP hK
  obtain ⟨rfl, hZ, hh⟩ := hP
  have e0 : s₁.heap = h0 := by rw [← hh, Bd.state]; rfl
  obtain ⟨s₂, o, k1, k2⟩ := body p e s m below meth c s₁ Bd hZ Bd.exec Bd.bytes hml0 (hc ▸ findClass_of_methodNamed Bd.named) (Stand.of_body Bd) e0 (O0.1 ▸ O0.2.1)
  exact ⟨s₂, o, castTop (ef m) k1, k2⟩
abbrev M0 : MethodName := ⟨"com/example/doccess/doccess/transfer/ImportCounts", "<init>", "()V"⟩
abbrev M1 : MethodName := ⟨"com/example/doccess/doccess/transfer/ImportCounts", "group", "()V"⟩
abbrev M2 : MethodName := ⟨"com/example/doccess/doccess/transfer/ImportCounts", "user", "()V"⟩
abbrev M3 : MethodName := ⟨"com/example/doccess/doccess/transfer/ImportCounts", "project", "()V"⟩
abbrev M4 : MethodName := ⟨"com/example/doccess/doccess/transfer/ImportCounts", "projectShare", "()V"⟩
abbrev M5 : MethodName := ⟨"com/example/doccess/doccess/transfer/ImportCounts", "document", "()V"⟩
abbrev M6 : MethodName := ⟨"com/example/doccess/doccess/transfer/ImportCounts", "documentShare", "()V"⟩
abbrev M7 : MethodName := ⟨"com/example/doccess/doccess/transfer/ImportCounts", "version", "()V"⟩
abbrev M8 : MethodName := ⟨"com/example/doccess/doccess/transfer/ImportCounts", "comment", "()V"⟩
abbrev M9 : MethodName := ⟨"java/lang/AbstractStringBuilder", "<init>", "(I)V"⟩
abbrev M10 : MethodName := ⟨"java/lang/StringBuilder", "<init>", "()V"⟩
abbrev M11 : MethodName := ⟨"java/lang/Integer", "stringSize", "(I)I"⟩
abbrev M12 : MethodName := ⟨"java/lang/AbstractStringBuilder", "ensureCapacityInternal", "(I)V"⟩
abbrev M13 : MethodName := ⟨"java/lang/AbstractStringBuilder", "isLatin1", "()Z"⟩
abbrev M14 : MethodName := ⟨"java/lang/Integer", "getChars", "(II[B)I"⟩
abbrev M15 : MethodName := ⟨"java/lang/AbstractStringBuilder", "append", "(I)Ljava/lang/AbstractStringBuilder;"⟩
abbrev M16 : MethodName := ⟨"java/lang/StringBuilder", "append", "(I)Ljava/lang/StringBuilder;"⟩
abbrev M17 : MethodName := ⟨"java/lang/String", "coder", "()B"⟩
abbrev M18 : MethodName := ⟨"java/lang/String", "length", "()I"⟩
abbrev M19 : MethodName := ⟨"java/lang/AbstractStringBuilder", "inflateIfNeededFor", "(Ljava/lang/String;)V"⟩
abbrev M20 : MethodName := ⟨"java/lang/String", "getBytes", "([BIB)V"⟩
abbrev M21 : MethodName := ⟨"java/lang/AbstractStringBuilder", "putStringAt", "(ILjava/lang/String;)V"⟩
abbrev M22 : MethodName := ⟨"java/lang/AbstractStringBuilder", "append", "(Ljava/lang/String;)Ljava/lang/AbstractStringBuilder;"⟩
abbrev M23 : MethodName := ⟨"java/lang/StringBuilder", "append", "(Ljava/lang/String;)Ljava/lang/StringBuilder;"⟩
abbrev M24 : MethodName := ⟨"java/lang/AbstractStringBuilder", "getValue", "()[B"⟩
abbrev M25 : MethodName := ⟨"java/lang/AbstractStringBuilder", "length", "()I"⟩
abbrev M26 : MethodName := ⟨"java/lang/StringBuilder", "length", "()I"⟩
abbrev M27 : MethodName := ⟨"java/util/Arrays", "checkLength", "(II)V"⟩
abbrev M28 : MethodName := ⟨"java/lang/Math", "min", "(II)I"⟩
abbrev M29 : MethodName := ⟨"java/util/Arrays", "copyOfRangeByte", "([BII)[B"⟩
abbrev M30 : MethodName := ⟨"java/util/Arrays", "copyOfRange", "([BII)[B"⟩
abbrev M31 : MethodName := ⟨"java/lang/String", "<init>", "(Ljava/lang/AbstractStringBuilder;Ljava/lang/Void;)V"⟩
abbrev M32 : MethodName := ⟨"java/lang/String", "<init>", "(Ljava/lang/StringBuilder;)V"⟩
abbrev M33 : MethodName := ⟨"java/lang/StringBuilder", "toString", "()Ljava/lang/String;"⟩
abbrev M34 : MethodName := ⟨"com/example/doccess/doccess/transfer/ImportCounts", "counted", "(ILjava/lang/String;)Ljava/lang/String;"⟩
abbrev M35 : MethodName := ⟨"java/lang/Math", "max", "(II)I"⟩
abbrev M36 : MethodName := ⟨"jdk/internal/util/ArraysSupport", "newLength", "(III)I"⟩
abbrev M37 : MethodName := ⟨"java/lang/AbstractStringBuilder", "newCapacity", "(I)I"⟩
abbrev M38 : MethodName := ⟨"java/util/Arrays", "copyOf", "([BI)[B"⟩
abbrev M39 : MethodName := ⟨"com/example/doccess/doccess/transfer/ImportCounts", "toString", "()Ljava/lang/String;"⟩
abbrev M40 : MethodName := ⟨"java/lang/String", "isLatin1", "()Z"⟩
abbrev M41 : MethodName := ⟨"jdk/internal/util/Preconditions", "checkIndex", "(IILjava/util/function/BiFunction;)I"⟩
abbrev M42 : MethodName := ⟨"java/lang/String", "checkIndex", "(II)V"⟩
abbrev M43 : MethodName := ⟨"java/lang/StringLatin1", "charAt", "([BI)C"⟩
abbrev M44 : MethodName := ⟨"java/lang/String", "charAt", "(I)C"⟩
abbrev M45 : MethodName := ⟨"com/example/doccess/doccess/transfer/ImportCountsToStringPinLaw", "ch", "(Ljava/lang/String;IC)I"⟩
abbrev M46 : MethodName := ⟨"com/example/doccess/doccess/transfer/ImportCountsToStringPinLaw", "lit", "(Ljava/lang/String;ILjava/lang/String;)I"⟩
abbrev M47 : MethodName := ⟨"com/example/doccess/doccess/transfer/ImportCountsToStringPinLaw", "counted", "(Ljava/lang/String;IILjava/lang/String;)I"⟩
abbrev K1 : ByteArray := prog_21_method_1_code
abbrev K42 : ByteArray := prog_21_method_2_code
abbrev K43 : ByteArray := prog_21_method_3_code
abbrev K44 : ByteArray := prog_21_method_4_code
abbrev K45 : ByteArray := prog_21_method_5_code
abbrev K49 : ByteArray := prog_21_method_6_code
abbrev K46 : ByteArray := prog_21_method_7_code
abbrev K47 : ByteArray := prog_21_method_8_code
abbrev K48 : ByteArray := prog_21_method_9_code
abbrev K3 : ByteArray := prog_21_method_10_code
abbrev K4 : ByteArray := jdk_67_method_1_code
abbrev K5 : ByteArray := jdk_68_method_2_code
abbrev K6 : ByteArray := prog_21_method_11_code
abbrev K7 : ByteArray := jdk_67_method_15_code
abbrev K8 : ByteArray := jdk_68_method_32_code
abbrev K9 : ByteArray := jdk_33_method_13_code
abbrev K10 : ByteArray := jdk_68_method_9_code
abbrev K11 : ByteArray := jdk_68_method_68_code
abbrev K12 : ByteArray := jdk_33_method_12_code
abbrev K13 : ByteArray := jdk_67_method_7_code
abbrev K14 : ByteArray := jdk_68_method_22_code
abbrev K15 : ByteArray := jdk_42_method_54_code
abbrev K16 : ByteArray := jdk_42_method_152_code
abbrev K17 : ByteArray := jdk_68_method_73_code
abbrev K18 : ByteArray := jdk_68_method_71_code
abbrev K19 : ByteArray := jdk_42_method_147_code
abbrev K20 : ByteArray := jdk_67_method_42_code
abbrev K21 : ByteArray := jdk_42_method_53_code
abbrev K22 : ByteArray := jdk_42_method_150_code
abbrev K23 : ByteArray := jdk_68_method_64_code
abbrev K24 : ByteArray := jdk_67_method_93_code
abbrev K25 : ByteArray := jdk_68_method_6_code
abbrev K26 : ByteArray := jdk_65_method_132_code
abbrev K27 : ByteArray := jdk_65_method_133_code
abbrev K28 : ByteArray := jdk_65_method_131_code
abbrev K29 : ByteArray := jdk_29_method_69_code
abbrev K30 : ByteArray := jdk_68_method_10_code
abbrev K31 : ByteArray := jdk_48_method_27_code
abbrev K32 : ByteArray := jdk_29_method_65_code
abbrev K33 : ByteArray := jdk_65_method_121_code
abbrev K34 : ByteArray := method_3_code
abbrev K35 : ByteArray := method_4_code
abbrev K36 : ByteArray := jdk_42_method_56_code
abbrev K37 : ByteArray := jdk_42_method_154_code
abbrev K38 : ByteArray := jdk_43_method_2_code
abbrev K39 : ByteArray := jdk_42_method_155_code
abbrev K40 : ByteArray := jdk_41_method_11_code
abbrev K41 : ByteArray := method_5_code
def Pins (Z : State) (cz : Int32) (dg : Addr) (fm : Value) : Prop :=
 (Sta Z Z.heap sS "COMPACT_STRINGS" "Z" (.int cz)) ∧
 (¬ cz = 0) ∧
 (Sta Z Z.heap sN "DigitOnes" "[B" (.ref dg)) ∧
 (∃ cl : Cell, Arr Z Z.heap dg cl .byte ∧ 3 ≤ cl.slots.size ∧ cl.slots[(0 : Int32).toNatClampNeg]? = some (vI 48) ∧ cl.slots[(1 : Int32).toNatClampNeg]? = some (vI 49) ∧ cl.slots[(2 : Int32).toNatClampNeg]? = some (vI 50)) ∧
 (Sta Z Z.heap sP "SIOOBE_FORMATTER" "Ljava/util/function/BiFunction;" fm) ∧
 (fm.isRef = true)
def lit_0 : List Value := [(.int (103 : Int32)), (.int (114 : Int32)), (.int (111 : Int32)), (.int (117 : Int32)), (.int (112 : Int32))]
theorem len_0 : lit_0.length = 5 := rfl
def lit_1 : List Value := [(.int (117 : Int32)), (.int (115 : Int32)), (.int (101 : Int32)), (.int (114 : Int32))]
theorem len_1 : lit_1.length = 4 := rfl
def lit_2 : List Value := [(.int (112 : Int32)), (.int (114 : Int32)), (.int (111 : Int32)), (.int (106 : Int32)), (.int (101 : Int32)), (.int (99 : Int32)), (.int (116 : Int32))]
theorem len_2 : lit_2.length = 7 := rfl
def lit_3 : List Value := [(.int (115 : Int32)), (.int (104 : Int32)), (.int (97 : Int32)), (.int (114 : Int32)), (.int (101 : Int32))]
theorem len_3 : lit_3.length = 5 := rfl
def lit_4 : List Value := [(.int (100 : Int32)), (.int (111 : Int32)), (.int (99 : Int32)), (.int (117 : Int32)), (.int (109 : Int32)), (.int (101 : Int32)), (.int (110 : Int32)), (.int (116 : Int32))]
theorem len_4 : lit_4.length = 8 := rfl
def lit_5 : List Value := [(.int (101 : Int32)), (.int (97 : Int32)), (.int (114 : Int32)), (.int (108 : Int32)), (.int (105 : Int32)), (.int (101 : Int32)), (.int (114 : Int32)), (.int (32 : Int32)), (.int (118 : Int32)), (.int (101 : Int32)), (.int (114 : Int32)), (.int (115 : Int32)), (.int (105 : Int32)), (.int (111 : Int32)), (.int (110 : Int32))]
theorem len_5 : lit_5.length = 15 := rfl
def lit_6 : List Value := [(.int (99 : Int32)), (.int (111 : Int32)), (.int (109 : Int32)), (.int (109 : Int32)), (.int (101 : Int32)), (.int (110 : Int32)), (.int (116 : Int32))]
theorem len_6 : lit_6.length = 7 := rfl
def lit_7 : List Value := [(.int (44 : Int32)), (.int (32 : Int32))]
theorem len_7 : lit_7.length = 2 := rfl
def lit_8 : List Value := [(.int (32 : Int32)), (.int (119 : Int32)), (.int (105 : Int32)), (.int (116 : Int32)), (.int (104 : Int32)), (.int (32 : Int32))]
theorem len_8 : lit_8.length = 6 := rfl
def lit_9 : List Value := [(.int (32 : Int32)), (.int (97 : Int32)), (.int (110 : Int32)), (.int (100 : Int32)), (.int (32 : Int32))]
theorem len_9 : lit_9.length = 5 := rfl
def lit_10 : List Value := [(.int (44 : Int32)), (.int (32 : Int32)), (.int (97 : Int32)), (.int (110 : Int32)), (.int (100 : Int32)), (.int (32 : Int32))]
theorem len_10 : lit_10.length = 6 := rfl
def lit_11 : List Value := [(.int (32 : Int32))]
theorem len_11 : lit_11.length = 1 := rfl
def lit_12 : List Value := [(.int (115 : Int32))]
theorem len_12 : lit_12.length = 1 := rfl
def lit_13 : List Value := []
theorem len_13 : lit_13.length = 0 := rfl
theorem d1_0 : decode K1 0 = .ok (.aload_n 0, 1) := by decide +kernel
theorem d1_1 : decode K1 1 = .ok (.invokespecial 1, 3) := by decide +kernel
theorem d1_4 : decode K1 4 = .ok (.return_, 1) := by decide +kernel
theorem ef_1_R (m : MethodId) (x0 : Addr) : entryFrame m #[(.ref x0)] 1 = mkF m 0 #[.val (.ref x0)] [] := by first | (simp [entryFrame, mkF, argsToLocals, Value.category]; done) | rfl
theorem pN1 : plainName sI = true := by first | (simp [plainName, overriddenIn]; done) | decide +kernel
def Qrm1_1 (Z : State) (x1 : Addr) (h0 : Heap) (n0 : Nat) (v : Option Value) (h : Heap) (L : List Loc) : Prop := v = none ∧ Fr n0 L ∧ h = h0
theorem rm1_1 (l : Launch) (Z : State) (a0 : Array Value) (hw : HW Z a0) (ws : List Jvm.Cond) (cz : Int32) (dg : Addr) (fm : Value) (x1 : Addr) (h0 : Heap) (n0 : Nat) (O0 : Old Z n0 h0) (P : Pins Z cz dg fm) :
   Ctr l M0 (Jvm.Cond.code M0 prog_21_method_1_code 1 none :: ws) (rO 1 0 0 12) Z h0 #[(.ref x1)] (Qrm1_1 Z x1 h0 n0) := by
 refine own_body (own := sI) rfl (plainFor_of_name pN1) O0 (fun m => ef_1_R m x1) ?_
 intro p e s m below meth c s₁ Bd hZ hx hby hml hown X0 e0 Z0
 have N0 := Fr.nil n0
 obtain ⟨T1, X1, e1, st1⟩ := initO X0 hx hZ hown (wd hw 6 rfl) (wd hw 7 rfl) (wd hw 8 rfl) e0 (g := (mkF m 1 #[lR x1] [(.ref x1)])) rfl (by rw [hml]; rfl) rfl (hb hby d1_1) (by decide) (W := 0) (lz rfl) (by decide)
 obtain ⟨fs, hr, hrun, hended, hW, hsame⟩ := X1.leave (v := none) (fun _ => rfl)
 refine ⟨_, _, ?_, hrun, hended, _, _, rfl, ?_, ⟨_, rfl⟩, hW, hsame.mono (by decide) (by decide)⟩
 · show SH s₁ 0 #[lR x1] []
   refine XS.aloadN X0.here hx rfl (hb hby d1_0) rfl rfl ?_
   show SH s₁ 1 #[lR x1] [(.ref x1)]
   refine st1 _ ?_
   show SH T1 4 #[lR x1] []
   exact X1.returnOut hx Bd.returns (hb hby d1_4) hr
 · exact ⟨rfl, N0, e1⟩
theorem pd_0 : parseMethodDescriptor "()V" = some ⟨[], none⟩ := by decide +kernel
theorem d42_0 : decode K42 0 = .ok (.aload_n 0, 1) := by decide +kernel
theorem d42_1 : decode K42 1 = .ok (.dup, 1) := by decide +kernel
theorem d42_2 : decode K42 2 = .ok (.getfield 7, 3) := by decide +kernel
theorem d42_5 : decode K42 5 = .ok (.iconst 1, 1) := by decide +kernel
theorem d42_6 : decode K42 6 = .ok (.iadd, 1) := by decide +kernel
theorem d42_7 : decode K42 7 = .ok (.putfield 7, 3) := by decide +kernel
theorem d42_10 : decode K42 10 = .ok (.return_, 1) := by decide +kernel
theorem ef_42_R (m : MethodId) (x0 : Addr) : entryFrame m #[(.ref x0)] 1 = mkF m 0 #[.val (.ref x0)] [] := by first | (simp [entryFrame, mkF, argsToLocals, Value.category]; done) | rfl
def Qrm42_2 (Z : State) (x1 : Addr) (i2 : Int32) (i3 : Int32) (i4 : Int32) (i5 : Int32) (i6 : Int32) (i7 : Int32) (i8 : Int32) (i9 : Int32) (h0 : Heap) (n0 : Nat) (v : Option Value) (h : Heap) (L : List Loc) : Prop := v = none ∧ Fr n0 L ∧ Keep h0 h [x1] ∧ iF Z h x1 "groups" (i2 + (1 : Int32)) ∧ iF Z h x1 "users" i3 ∧ iF Z h x1 "projects" i4 ∧ iF Z h x1 "projectShares" i5 ∧ iF Z h x1 "documents" i6 ∧ iF Z h x1 "documentShares" i7 ∧ iF Z h x1 "versions" i8 ∧ iF Z h x1 "comments" i9
theorem rm42_2 (l : Launch) (Z : State) (a0 : Array Value) (hw : HW Z a0) (ws : List Jvm.Cond) (cz : Int32) (dg : Addr) (fm : Value) (x1 : Addr) (i2 : Int32) (i3 : Int32) (i4 : Int32) (i5 : Int32) (i6 : Int32) (i7 : Int32) (i8 : Int32) (i9 : Int32) (h0 : Heap) (n0 : Nat) (O0 : Old Z n0 h0) (P : Pins Z cz dg fm) (F_x1_groups : iF Z h0 x1 "groups" i2) (F_x1_users : iF Z h0 x1 "users" i3) (F_x1_projects : iF Z h0 x1 "projects" i4) (F_x1_projectShares : iF Z h0 x1 "projectShares" i5) (F_x1_documents : iF Z h0 x1 "documents" i6) (F_x1_documentShares : iF Z h0 x1 "documentShares" i7) (F_x1_versions : iF Z h0 x1 "versions" i8) (F_x1_comments : iF Z h0 x1 "comments" i9) (E_x1 : Exa Z h0 x1 sI) (g_x1 : n0 ≤ x1) :
   Ctr l M1 (Jvm.Cond.code M1 prog_21_method_2_code 1 none :: ws) (rO 0 0 0 0) Z h0 #[(.ref x1)] (Qrm42_2 Z x1 i2 i3 i4 i5 i6 i7 i8 i9 h0 n0) := by
 refine own_body (own := sI) rfl (plainFor_of_name pN1) O0 (fun m => ef_42_R m x1) ?_
 intro p e s m below meth c s₁ Bd hZ hx hby hml hown X0 e0 Z0
 have N0 := Fr.nil n0
 have Kr : Keep h0 h0 [x1] := Keep.refl h0 _
 obtain ⟨T1, X1, e1, st1⟩ := getF X0 hx hZ hown (host := "") (Or.inl (wd hw 34 rfl)) Via.refl e0 F_x1_groups (g := (mkF m 2 #[lR x1] [(.ref x1), (.ref x1)])) rfl rfl (hb hby d42_2)
 obtain ⟨T2, h2, X2, e2, W2, st2⟩ := putF X1 hx hZ hown (host := "") (Or.inl (wd hw 34 rfl)) Via.refl e1 F_x1_groups E_x1 (Or.inl (wd hw 35 rfl)) (wd hw 1 rfl) (ty := .int) (by decide) rfl rfl (g := (mkF m 7 #[lR x1] [(.int (i2 + (1 : Int32))), (.ref x1)])) rfl rfl (hb hby d42_7)
 have Ks3 := Kr.wr W2 (Or.inl (mg 0 rfl))
 have Fw2 := Fld.same W2 F_x1_groups
 have N2 := Fr.snoc X2 N0 g_x1
 have f4 := (Fld.other W2 F_x1_users (Or.inr (slot_ne (Or.inl (wd hw 164 rfl)) (Or.inl (wd hw 35 rfl)) (by decide) (t := .int) (t' := .int) (by decide) (by decide))))
 have f5 := (Fld.other W2 F_x1_projects (Or.inr (slot_ne (Or.inl (wd hw 184 rfl)) (Or.inl (wd hw 35 rfl)) (by decide) (t := .int) (t' := .int) (by decide) (by decide))))
 have f6 := (Fld.other W2 F_x1_projectShares (Or.inr (slot_ne (Or.inl (wd hw 188 rfl)) (Or.inl (wd hw 35 rfl)) (by decide) (t := .int) (t' := .int) (by decide) (by decide))))
 have f7 := (Fld.other W2 F_x1_documents (Or.inr (slot_ne (Or.inl (wd hw 191 rfl)) (Or.inl (wd hw 35 rfl)) (by decide) (t := .int) (t' := .int) (by decide) (by decide))))
 have f8 := (Fld.other W2 F_x1_documentShares (Or.inr (slot_ne (Or.inl (wd hw 194 rfl)) (Or.inl (wd hw 35 rfl)) (by decide) (t := .int) (t' := .int) (by decide) (by decide))))
 have f9 := (Fld.other W2 F_x1_versions (Or.inr (slot_ne (Or.inl (wd hw 197 rfl)) (Or.inl (wd hw 35 rfl)) (by decide) (t := .int) (t' := .int) (by decide) (by decide))))
 have f10 := (Fld.other W2 F_x1_comments (Or.inr (slot_ne (Or.inl (wd hw 201 rfl)) (Or.inl (wd hw 35 rfl)) (by decide) (t := .int) (t' := .int) (by decide) (by decide))))
 obtain ⟨fs, hr, hrun, hended, hW, hsame⟩ := X2.leave (v := none) (fun _ => rfl)
 refine ⟨_, _, ?_, hrun, hended, _, _, rfl, ?_, ⟨_, rfl⟩, hW, hsame.mono (by decide) (by decide)⟩
 · show SH s₁ 0 #[lR x1] []
   refine XS.aloadN X0.here hx rfl (hb hby d42_0) rfl rfl ?_
   show SH s₁ 1 #[lR x1] [(.ref x1)]
   refine XS.dup X0.here hx rfl (hb hby d42_1) rfl rfl ?_
   show SH s₁ 2 #[lR x1] [(.ref x1), (.ref x1)]
   refine st1 _ ?_
   show SH T1 5 #[lR x1] [(.int i2), (.ref x1)]
   refine XS.iconst X1.here hx rfl (hb hby d42_5) ?_
   show SH T1 6 #[lR x1] [(vI 1), (.int i2), (.ref x1)]
   refine XS.iadd X1.here hx rfl (hb hby d42_6) rfl ?_
   show SH T1 7 #[lR x1] [(.int (i2 + (1 : Int32))), (.ref x1)]
   refine st2 _ ?_
   show SH T2 10 #[lR x1] []
   exact X2.returnOut hx Bd.returns (hb hby d42_10) hr
 · show Qrm42_2 Z x1 i2 i3 i4 i5 i6 i7 i8 i9 h0 n0 _ T2.heap _
   rw [e2]
   exact ⟨rfl, N2, Ks3, Fw2, f4, f5, f6, f7, f8, f9, f10⟩
theorem sg_8 {p : Program} {l : Launch} {e : Env} {s : State} {m : MethodId} {args : Array Value} {below : List Frame} {meth : Method} {c : Code} {T0 : State} {locs : List Loc} {Z : State} {a0 : Array Value} {h0 : Heap} {n0 : Nat} {cz : Int32} {dg : Addr} {fm : Value} (p0 : Int32) (o : Addr) (v0 v1 v2 v3 v4 v5 v6 v7 : Int32)
   (X0 : Stand p l e room_1 (s.setVm s.vm) m args below meth c T0 locs 1 8) (hx : p.tables.exec = Jvm.exec) (hZ : Z.Warmed39 s.vm) (hw : HW Z a0) (hby : c.code = code) (hml : c.maxLocals = 12) (hown : s.vm.findClass sL = some m.cls) (e0 : T0.heap = h0) (O0 : Old Z n0 h0) (P : Pins Z cz dg fm) (N0 : Fr n0 locs) (go : n0 ≤ o) (E_o : Exa Z h0 o sI) (F0 : iF Z h0 o "groups" v0) (F1 : iF Z h0 o "users" v1) (F2 : iF Z h0 o "projects" v2) (F3 : iF Z h0 o "projectShares" v3) (F4 : iF Z h0 o "documents" v4) (F5 : iF Z h0 o "documentShares" v5) (F6 : iF Z h0 o "versions" v6) (F7 : iF Z h0 o "comments" v7) :
   ∃ (T' : State) (h' : Heap) (locs' : List Loc) (v' : Int32), Stand p l e room_1 (s.setVm s.vm) m args below meth c T' locs' 1 8 ∧ T'.heap = h' ∧ Keep h0 h' [o] ∧ Fr n0 locs' ∧ v' = inc1 p0 (1 : Int32) v0 ∧ Exa Z h' o sI ∧ iF Z h' o "groups" v' ∧ iF Z h' o "users" v1 ∧ iF Z h' o "projects" v2 ∧ iF Z h' o "projectShares" v3 ∧ iF Z h' o "documents" v4 ∧ iF Z h' o "documentShares" v5 ∧ iF Z h' o "versions" v6 ∧ iF Z h' o "comments" v7 ∧
     ∀ target, SG p e below T' m 18 #[lI p0, lR o, lU, lU, lU, lU, lU, lU, lU, lU, lU, lU] [] target → SG p e below T0 m 8 #[lI p0, lR o, lU, lU, lU, lU, lU, lU, lU, lU, lU, lU] [] target := by
 have Kr : Keep h0 h0 [o] := Keep.refl h0 _
 have Z0 : n0 ≤ h0.size := O0.1 ▸ O0.2.1
 by_cases q : (p0 &&& (1 : Int32)) = (0 : Int32)
 · refine ⟨T0, h0, locs, v0, X0, e0, Keep.refl h0 _, N0, own_iy q, E_o, F0, F1, F2, F3, F4, F5, F6, F7, fun target kt => ?_⟩
   show SH T0 8 #[lI p0, lR o, lU, lU, lU, lU, lU, lU, lU, lU, lU, lU] []
   refine XS.iloadN X0.here hx rfl (hb hby at_8) rfl ?_
   show SH T0 9 #[lI p0, lR o, lU, lU, lU, lU, lU, lU, lU, lU, lU, lU] [(.int p0)]
   refine XS.iconst X0.here hx rfl (hb hby at_9) ?_
   show SH T0 10 #[lI p0, lR o, lU, lU, lU, lU, lU, lU, lU, lU, lU, lU] [(vI 1), (.int p0)]
   refine XS.iand X0.here hx rfl (hb hby at_10) rfl ?_
   show SH T0 11 #[lI p0, lR o, lU, lU, lU, lU, lU, lU, lU, lU, lU, lU] [(.int (p0 &&& (1 : Int32)))]
   refine XS.ifYes X0.here hx rfl (pc0 := 11) (pc' := 18) rfl (hb hby at_11) rfl ((if0 _ _).trans (teq q).1) (by decide) (by decide) ?_
   exact kt
 · obtain ⟨cq1, kq1, q1a, q1b, q1c⟩ := isOf hZ e0 E_o
   obtain ⟨_, _, ⟨T1, L1, k1, n1⟩, -, X1, ⟨Lc1, hQ1, l1, y1, z1⟩, st1⟩ := X0.virtualBack hx (y := M1) (z := M1) hown (mvT (s := s.setVm s.vm) hZ (wd hw 247 rfl)) (mvT (s := s.setVm s.vm) hZ (wd hw 248 rfl)) (notFace_of_selects (args := #[]) (mvT (s := s.setVm s.vm) hZ (wd hw 250 rfl))) (mvT (s := s.setVm s.vm) hZ (wd hw 250 rfl)) (mvT (s := s.setVm s.vm) hZ (wd hw 249 rfl)) (by decide) (backOf (W := 0) (rm42_2 l Z a0 hw [] cz dg fm o v0 v1 v2 v3 v4 v5 v6 v7 h0 n0 O0 P F0 F1 F2 F3 F4 F5 F6 F7 E_o go) hZ (wd hw 251 rfl) (wd hw 2 rfl) (by decide) (by decide)) q1a q1c (g := (mkF m 15 #[lI p0, lR o, lU, lU, lU, lU, lU, lU, lU, lU, lU, lU] [(.ref o)])) rfl (by rw [hml]; rfl) (Steps.refl _) (argsL := []) (rest := []) (lenOf pd_0 rfl) rfl (lz rfl) (hb hby at_15) (fun _ _ => ⟨rfl, e0, (by decide : 1 + 0 ≤ _), (by decide : 8 + 0 ≤ _)⟩)
   dsimp only [Pt.U, Pt.locs, Pt.cells, Pt.slots] at X1 l1 y1 z1 st1 hQ1
   subst y1 z1
   obtain ⟨rfl, N1q, K1, q1_0, q1_1, q1_2, q1_3, q1_4, q1_5, q1_6, q1_7⟩ := hQ1
   have N1 : Fr n0 L1 := by rw [l1]; exact Fr.app N0 N1q
   have f3 := (E_o.keep K1)
   refine ⟨T1, T1.heap, _, (v0 + (1 : Int32)), X1, rfl, K1, N1, own_in q, f3, q1_0, q1_1, q1_2, q1_3, q1_4, q1_5, q1_6, q1_7, fun target kt => ?_⟩
   show SH T0 8 #[lI p0, lR o, lU, lU, lU, lU, lU, lU, lU, lU, lU, lU] []
   refine XS.iloadN X0.here hx rfl (hb hby at_8) rfl ?_
   show SH T0 9 #[lI p0, lR o, lU, lU, lU, lU, lU, lU, lU, lU, lU, lU] [(.int p0)]
   refine XS.iconst X0.here hx rfl (hb hby at_9) ?_
   show SH T0 10 #[lI p0, lR o, lU, lU, lU, lU, lU, lU, lU, lU, lU, lU] [(vI 1), (.int p0)]
   refine XS.iand X0.here hx rfl (hb hby at_10) rfl ?_
   show SH T0 11 #[lI p0, lR o, lU, lU, lU, lU, lU, lU, lU, lU, lU, lU] [(.int (p0 &&& (1 : Int32)))]
   refine XS.ifNo X0.here hx rfl (hb hby at_11) rfl ((if0 _ _).trans (feq q).1) ?_
   show SH T0 14 #[lI p0, lR o, lU, lU, lU, lU, lU, lU, lU, lU, lU, lU] []
   refine XS.aloadN X0.here hx rfl (hb hby at_14) rfl rfl ?_
   show SH T0 15 #[lI p0, lR o, lU, lU, lU, lU, lU, lU, lU, lU, lU, lU] [(.ref o)]
   refine st1.trans ?_
   exact kt
theorem sg_18 {p : Program} {l : Launch} {e : Env} {s : State} {m : MethodId} {args : Array Value} {below : List Frame} {meth : Method} {c : Code} {T0 : State} {locs : List Loc} {Z : State} {a0 : Array Value} {h0 : Heap} {n0 : Nat} {cz : Int32} {dg : Addr} {fm : Value} (p0 : Int32) (o : Addr) (v0 v1 v2 v3 v4 v5 v6 v7 : Int32)
   (X0 : Stand p l e room_1 (s.setVm s.vm) m args below meth c T0 locs 1 8) (hx : p.tables.exec = Jvm.exec) (hZ : Z.Warmed39 s.vm) (hw : HW Z a0) (hby : c.code = code) (hml : c.maxLocals = 12) (hown : s.vm.findClass sL = some m.cls) (e0 : T0.heap = h0) (O0 : Old Z n0 h0) (P : Pins Z cz dg fm) (N0 : Fr n0 locs) (go : n0 ≤ o) (E_o : Exa Z h0 o sI) (F0 : iF Z h0 o "groups" v0) (F1 : iF Z h0 o "users" v1) (F2 : iF Z h0 o "projects" v2) (F3 : iF Z h0 o "projectShares" v3) (F4 : iF Z h0 o "documents" v4) (F5 : iF Z h0 o "documentShares" v5) (F6 : iF Z h0 o "versions" v6) (F7 : iF Z h0 o "comments" v7) :
   ∃ (T' : State) (h' : Heap) (locs' : List Loc) (v' : Int32), Stand p l e room_1 (s.setVm s.vm) m args below meth c T' locs' 1 8 ∧ T'.heap = h' ∧ Keep h0 h' [o] ∧ Fr n0 locs' ∧ v' = inc1 p0 (256 : Int32) v0 ∧ Exa Z h' o sI ∧ iF Z h' o "groups" v' ∧ iF Z h' o "users" v1 ∧ iF Z h' o "projects" v2 ∧ iF Z h' o "projectShares" v3 ∧ iF Z h' o "documents" v4 ∧ iF Z h' o "documentShares" v5 ∧ iF Z h' o "versions" v6 ∧ iF Z h' o "comments" v7 ∧
     ∀ target, SG p e below T' m 30 #[lI p0, lR o, lU, lU, lU, lU, lU, lU, lU, lU, lU, lU] [] target → SG p e below T0 m 18 #[lI p0, lR o, lU, lU, lU, lU, lU, lU, lU, lU, lU, lU] [] target := by
 have Kr : Keep h0 h0 [o] := Keep.refl h0 _
 have Z0 : n0 ≤ h0.size := O0.1 ▸ O0.2.1
 by_cases q : (p0 &&& (256 : Int32)) = (0 : Int32)
 · refine ⟨T0, h0, locs, v0, X0, e0, Keep.refl h0 _, N0, own_iy q, E_o, F0, F1, F2, F3, F4, F5, F6, F7, fun target kt => ?_⟩
   show SH T0 18 #[lI p0, lR o, lU, lU, lU, lU, lU, lU, lU, lU, lU, lU] []
   refine XS.iloadN X0.here hx rfl (hb hby at_18) rfl ?_
   show SH T0 19 #[lI p0, lR o, lU, lU, lU, lU, lU, lU, lU, lU, lU, lU] [(.int p0)]
   refine XS.sipush X0.here hx rfl (hb hby at_19) ?_
   show SH T0 22 #[lI p0, lR o, lU, lU, lU, lU, lU, lU, lU, lU, lU, lU] [(vI 256), (.int p0)]
   refine XS.iand X0.here hx rfl (hb hby at_22) rfl ?_
   show SH T0 23 #[lI p0, lR o, lU, lU, lU, lU, lU, lU, lU, lU, lU, lU] [(.int (p0 &&& (256 : Int32)))]
   refine XS.ifYes X0.here hx rfl (pc0 := 23) (pc' := 30) rfl (hb hby at_23) rfl ((if0 _ _).trans (teq q).1) (by decide) (by decide) ?_
   exact kt
 · obtain ⟨cq1, kq1, q1a, q1b, q1c⟩ := isOf hZ e0 E_o
   obtain ⟨_, _, ⟨T1, L1, k1, n1⟩, -, X1, ⟨Lc1, hQ1, l1, y1, z1⟩, st1⟩ := X0.virtualBack hx (y := M1) (z := M1) hown (mvT (s := s.setVm s.vm) hZ (wd hw 247 rfl)) (mvT (s := s.setVm s.vm) hZ (wd hw 248 rfl)) (notFace_of_selects (args := #[]) (mvT (s := s.setVm s.vm) hZ (wd hw 250 rfl))) (mvT (s := s.setVm s.vm) hZ (wd hw 250 rfl)) (mvT (s := s.setVm s.vm) hZ (wd hw 249 rfl)) (by decide) (backOf (W := 0) (rm42_2 l Z a0 hw [] cz dg fm o v0 v1 v2 v3 v4 v5 v6 v7 h0 n0 O0 P F0 F1 F2 F3 F4 F5 F6 F7 E_o go) hZ (wd hw 251 rfl) (wd hw 2 rfl) (by decide) (by decide)) q1a q1c (g := (mkF m 27 #[lI p0, lR o, lU, lU, lU, lU, lU, lU, lU, lU, lU, lU] [(.ref o)])) rfl (by rw [hml]; rfl) (Steps.refl _) (argsL := []) (rest := []) (lenOf pd_0 rfl) rfl (lz rfl) (hb hby at_27) (fun _ _ => ⟨rfl, e0, (by decide : 1 + 0 ≤ _), (by decide : 8 + 0 ≤ _)⟩)
   dsimp only [Pt.U, Pt.locs, Pt.cells, Pt.slots] at X1 l1 y1 z1 st1 hQ1
   subst y1 z1
   obtain ⟨rfl, N1q, K1, q1_0, q1_1, q1_2, q1_3, q1_4, q1_5, q1_6, q1_7⟩ := hQ1
   have N1 : Fr n0 L1 := by rw [l1]; exact Fr.app N0 N1q
   have f3 := (E_o.keep K1)
   refine ⟨T1, T1.heap, _, (v0 + (1 : Int32)), X1, rfl, K1, N1, own_in q, f3, q1_0, q1_1, q1_2, q1_3, q1_4, q1_5, q1_6, q1_7, fun target kt => ?_⟩
   show SH T0 18 #[lI p0, lR o, lU, lU, lU, lU, lU, lU, lU, lU, lU, lU] []
   refine XS.iloadN X0.here hx rfl (hb hby at_18) rfl ?_
   show SH T0 19 #[lI p0, lR o, lU, lU, lU, lU, lU, lU, lU, lU, lU, lU] [(.int p0)]
   refine XS.sipush X0.here hx rfl (hb hby at_19) ?_
   show SH T0 22 #[lI p0, lR o, lU, lU, lU, lU, lU, lU, lU, lU, lU, lU] [(vI 256), (.int p0)]
   refine XS.iand X0.here hx rfl (hb hby at_22) rfl ?_
   show SH T0 23 #[lI p0, lR o, lU, lU, lU, lU, lU, lU, lU, lU, lU, lU] [(.int (p0 &&& (256 : Int32)))]
   refine XS.ifNo X0.here hx rfl (hb hby at_23) rfl ((if0 _ _).trans (feq q).1) ?_
   show SH T0 26 #[lI p0, lR o, lU, lU, lU, lU, lU, lU, lU, lU, lU, lU] []
   refine XS.aloadN X0.here hx rfl (hb hby at_26) rfl rfl ?_
   show SH T0 27 #[lI p0, lR o, lU, lU, lU, lU, lU, lU, lU, lU, lU, lU] [(.ref o)]
   refine st1.trans ?_
   exact kt
theorem d43_0 : decode K43 0 = .ok (.aload_n 0, 1) := by decide +kernel
theorem d43_1 : decode K43 1 = .ok (.dup, 1) := by decide +kernel
theorem d43_2 : decode K43 2 = .ok (.getfield 13, 3) := by decide +kernel
theorem d43_5 : decode K43 5 = .ok (.iconst 1, 1) := by decide +kernel
theorem d43_6 : decode K43 6 = .ok (.iadd, 1) := by decide +kernel
theorem d43_7 : decode K43 7 = .ok (.putfield 13, 3) := by decide +kernel
theorem d43_10 : decode K43 10 = .ok (.return_, 1) := by decide +kernel
theorem ef_43_R (m : MethodId) (x0 : Addr) : entryFrame m #[(.ref x0)] 1 = mkF m 0 #[.val (.ref x0)] [] := by first | (simp [entryFrame, mkF, argsToLocals, Value.category]; done) | rfl
def Qrm43_3 (Z : State) (x1 : Addr) (i2 : Int32) (i3 : Int32) (i4 : Int32) (i5 : Int32) (i6 : Int32) (i7 : Int32) (i8 : Int32) (i9 : Int32) (h0 : Heap) (n0 : Nat) (v : Option Value) (h : Heap) (L : List Loc) : Prop := v = none ∧ Fr n0 L ∧ Keep h0 h [x1] ∧ iF Z h x1 "groups" i2 ∧ iF Z h x1 "users" (i3 + (1 : Int32)) ∧ iF Z h x1 "projects" i4 ∧ iF Z h x1 "projectShares" i5 ∧ iF Z h x1 "documents" i6 ∧ iF Z h x1 "documentShares" i7 ∧ iF Z h x1 "versions" i8 ∧ iF Z h x1 "comments" i9
theorem rm43_3 (l : Launch) (Z : State) (a0 : Array Value) (hw : HW Z a0) (ws : List Jvm.Cond) (cz : Int32) (dg : Addr) (fm : Value) (x1 : Addr) (i2 : Int32) (i3 : Int32) (i4 : Int32) (i5 : Int32) (i6 : Int32) (i7 : Int32) (i8 : Int32) (i9 : Int32) (h0 : Heap) (n0 : Nat) (O0 : Old Z n0 h0) (P : Pins Z cz dg fm) (F_x1_groups : iF Z h0 x1 "groups" i2) (F_x1_users : iF Z h0 x1 "users" i3) (F_x1_projects : iF Z h0 x1 "projects" i4) (F_x1_projectShares : iF Z h0 x1 "projectShares" i5) (F_x1_documents : iF Z h0 x1 "documents" i6) (F_x1_documentShares : iF Z h0 x1 "documentShares" i7) (F_x1_versions : iF Z h0 x1 "versions" i8) (F_x1_comments : iF Z h0 x1 "comments" i9) (E_x1 : Exa Z h0 x1 sI) (g_x1 : n0 ≤ x1) :
   Ctr l M2 (Jvm.Cond.code M2 prog_21_method_3_code 1 none :: ws) (rO 0 0 0 0) Z h0 #[(.ref x1)] (Qrm43_3 Z x1 i2 i3 i4 i5 i6 i7 i8 i9 h0 n0) := by
 refine own_body (own := sI) rfl (plainFor_of_name pN1) O0 (fun m => ef_43_R m x1) ?_
 intro p e s m below meth c s₁ Bd hZ hx hby hml hown X0 e0 Z0
 have N0 := Fr.nil n0
 have Kr : Keep h0 h0 [x1] := Keep.refl h0 _
 obtain ⟨T1, X1, e1, st1⟩ := getF X0 hx hZ hown (host := "") (Or.inl (wd hw 163 rfl)) Via.refl e0 F_x1_users (g := (mkF m 2 #[lR x1] [(.ref x1), (.ref x1)])) rfl rfl (hb hby d43_2)
 obtain ⟨T2, h2, X2, e2, W2, st2⟩ := putF X1 hx hZ hown (host := "") (Or.inl (wd hw 163 rfl)) Via.refl e1 F_x1_users E_x1 (Or.inl (wd hw 164 rfl)) (wd hw 1 rfl) (ty := .int) (by decide) rfl rfl (g := (mkF m 7 #[lR x1] [(.int (i3 + (1 : Int32))), (.ref x1)])) rfl rfl (hb hby d43_7)
 have Ks3 := Kr.wr W2 (Or.inl (mg 0 rfl))
 have Fw2 := Fld.same W2 F_x1_users
 have N2 := Fr.snoc X2 N0 g_x1
 have f4 := (Fld.other W2 F_x1_groups (Or.inr (slot_ne (Or.inl (wd hw 35 rfl)) (Or.inl (wd hw 164 rfl)) (by decide) (t := .int) (t' := .int) (by decide) (by decide))))
 have f5 := (Fld.other W2 F_x1_projects (Or.inr (slot_ne (Or.inl (wd hw 184 rfl)) (Or.inl (wd hw 164 rfl)) (by decide) (t := .int) (t' := .int) (by decide) (by decide))))
 have f6 := (Fld.other W2 F_x1_projectShares (Or.inr (slot_ne (Or.inl (wd hw 188 rfl)) (Or.inl (wd hw 164 rfl)) (by decide) (t := .int) (t' := .int) (by decide) (by decide))))
 have f7 := (Fld.other W2 F_x1_documents (Or.inr (slot_ne (Or.inl (wd hw 191 rfl)) (Or.inl (wd hw 164 rfl)) (by decide) (t := .int) (t' := .int) (by decide) (by decide))))
 have f8 := (Fld.other W2 F_x1_documentShares (Or.inr (slot_ne (Or.inl (wd hw 194 rfl)) (Or.inl (wd hw 164 rfl)) (by decide) (t := .int) (t' := .int) (by decide) (by decide))))
 have f9 := (Fld.other W2 F_x1_versions (Or.inr (slot_ne (Or.inl (wd hw 197 rfl)) (Or.inl (wd hw 164 rfl)) (by decide) (t := .int) (t' := .int) (by decide) (by decide))))
 have f10 := (Fld.other W2 F_x1_comments (Or.inr (slot_ne (Or.inl (wd hw 201 rfl)) (Or.inl (wd hw 164 rfl)) (by decide) (t := .int) (t' := .int) (by decide) (by decide))))
 obtain ⟨fs, hr, hrun, hended, hW, hsame⟩ := X2.leave (v := none) (fun _ => rfl)
 refine ⟨_, _, ?_, hrun, hended, _, _, rfl, ?_, ⟨_, rfl⟩, hW, hsame.mono (by decide) (by decide)⟩
 · show SH s₁ 0 #[lR x1] []
   refine XS.aloadN X0.here hx rfl (hb hby d43_0) rfl rfl ?_
   show SH s₁ 1 #[lR x1] [(.ref x1)]
   refine XS.dup X0.here hx rfl (hb hby d43_1) rfl rfl ?_
   show SH s₁ 2 #[lR x1] [(.ref x1), (.ref x1)]
   refine st1 _ ?_
   show SH T1 5 #[lR x1] [(.int i3), (.ref x1)]
   refine XS.iconst X1.here hx rfl (hb hby d43_5) ?_
   show SH T1 6 #[lR x1] [(vI 1), (.int i3), (.ref x1)]
   refine XS.iadd X1.here hx rfl (hb hby d43_6) rfl ?_
   show SH T1 7 #[lR x1] [(.int (i3 + (1 : Int32))), (.ref x1)]
   refine st2 _ ?_
   show SH T2 10 #[lR x1] []
   exact X2.returnOut hx Bd.returns (hb hby d43_10) hr
 · show Qrm43_3 Z x1 i2 i3 i4 i5 i6 i7 i8 i9 h0 n0 _ T2.heap _
   rw [e2]
   exact ⟨rfl, N2, Ks3, f4, Fw2, f5, f6, f7, f8, f9, f10⟩
theorem sg_30 {p : Program} {l : Launch} {e : Env} {s : State} {m : MethodId} {args : Array Value} {below : List Frame} {meth : Method} {c : Code} {T0 : State} {locs : List Loc} {Z : State} {a0 : Array Value} {h0 : Heap} {n0 : Nat} {cz : Int32} {dg : Addr} {fm : Value} (p0 : Int32) (o : Addr) (v0 v1 v2 v3 v4 v5 v6 v7 : Int32)
   (X0 : Stand p l e room_1 (s.setVm s.vm) m args below meth c T0 locs 1 8) (hx : p.tables.exec = Jvm.exec) (hZ : Z.Warmed39 s.vm) (hw : HW Z a0) (hby : c.code = code) (hml : c.maxLocals = 12) (hown : s.vm.findClass sL = some m.cls) (e0 : T0.heap = h0) (O0 : Old Z n0 h0) (P : Pins Z cz dg fm) (N0 : Fr n0 locs) (go : n0 ≤ o) (E_o : Exa Z h0 o sI) (F0 : iF Z h0 o "groups" v0) (F1 : iF Z h0 o "users" v1) (F2 : iF Z h0 o "projects" v2) (F3 : iF Z h0 o "projectShares" v3) (F4 : iF Z h0 o "documents" v4) (F5 : iF Z h0 o "documentShares" v5) (F6 : iF Z h0 o "versions" v6) (F7 : iF Z h0 o "comments" v7) :
   ∃ (T' : State) (h' : Heap) (locs' : List Loc) (v' : Int32), Stand p l e room_1 (s.setVm s.vm) m args below meth c T' locs' 1 8 ∧ T'.heap = h' ∧ Keep h0 h' [o] ∧ Fr n0 locs' ∧ v' = inc1 p0 (2 : Int32) v1 ∧ Exa Z h' o sI ∧ iF Z h' o "groups" v0 ∧ iF Z h' o "users" v' ∧ iF Z h' o "projects" v2 ∧ iF Z h' o "projectShares" v3 ∧ iF Z h' o "documents" v4 ∧ iF Z h' o "documentShares" v5 ∧ iF Z h' o "versions" v6 ∧ iF Z h' o "comments" v7 ∧
     ∀ target, SG p e below T' m 40 #[lI p0, lR o, lU, lU, lU, lU, lU, lU, lU, lU, lU, lU] [] target → SG p e below T0 m 30 #[lI p0, lR o, lU, lU, lU, lU, lU, lU, lU, lU, lU, lU] [] target := by
 have Kr : Keep h0 h0 [o] := Keep.refl h0 _
 have Z0 : n0 ≤ h0.size := O0.1 ▸ O0.2.1
 by_cases q : (p0 &&& (2 : Int32)) = (0 : Int32)
 · refine ⟨T0, h0, locs, v1, X0, e0, Keep.refl h0 _, N0, own_iy q, E_o, F0, F1, F2, F3, F4, F5, F6, F7, fun target kt => ?_⟩
   show SH T0 30 #[lI p0, lR o, lU, lU, lU, lU, lU, lU, lU, lU, lU, lU] []
   refine XS.iloadN X0.here hx rfl (hb hby at_30) rfl ?_
   show SH T0 31 #[lI p0, lR o, lU, lU, lU, lU, lU, lU, lU, lU, lU, lU] [(.int p0)]
   refine XS.iconst X0.here hx rfl (hb hby at_31) ?_
   show SH T0 32 #[lI p0, lR o, lU, lU, lU, lU, lU, lU, lU, lU, lU, lU] [(vI 2), (.int p0)]
   refine XS.iand X0.here hx rfl (hb hby at_32) rfl ?_
   show SH T0 33 #[lI p0, lR o, lU, lU, lU, lU, lU, lU, lU, lU, lU, lU] [(.int (p0 &&& (2 : Int32)))]
   refine XS.ifYes X0.here hx rfl (pc0 := 33) (pc' := 40) rfl (hb hby at_33) rfl ((if0 _ _).trans (teq q).1) (by decide) (by decide) ?_
   exact kt
 · obtain ⟨cq1, kq1, q1a, q1b, q1c⟩ := isOf hZ e0 E_o
   obtain ⟨_, _, ⟨T1, L1, k1, n1⟩, -, X1, ⟨Lc1, hQ1, l1, y1, z1⟩, st1⟩ := X0.virtualBack hx (y := M2) (z := M2) hown (mvT (s := s.setVm s.vm) hZ (wd hw 252 rfl)) (mvT (s := s.setVm s.vm) hZ (wd hw 253 rfl)) (notFace_of_selects (args := #[]) (mvT (s := s.setVm s.vm) hZ (wd hw 255 rfl))) (mvT (s := s.setVm s.vm) hZ (wd hw 255 rfl)) (mvT (s := s.setVm s.vm) hZ (wd hw 254 rfl)) (by decide) (backOf (W := 0) (rm43_3 l Z a0 hw [] cz dg fm o v0 v1 v2 v3 v4 v5 v6 v7 h0 n0 O0 P F0 F1 F2 F3 F4 F5 F6 F7 E_o go) hZ (wd hw 256 rfl) (wd hw 2 rfl) (by decide) (by decide)) q1a q1c (g := (mkF m 37 #[lI p0, lR o, lU, lU, lU, lU, lU, lU, lU, lU, lU, lU] [(.ref o)])) rfl (by rw [hml]; rfl) (Steps.refl _) (argsL := []) (rest := []) (lenOf pd_0 rfl) rfl (lz rfl) (hb hby at_37) (fun _ _ => ⟨rfl, e0, (by decide : 1 + 0 ≤ _), (by decide : 8 + 0 ≤ _)⟩)
   dsimp only [Pt.U, Pt.locs, Pt.cells, Pt.slots] at X1 l1 y1 z1 st1 hQ1
   subst y1 z1
   obtain ⟨rfl, N1q, K1, q1_0, q1_1, q1_2, q1_3, q1_4, q1_5, q1_6, q1_7⟩ := hQ1
   have N1 : Fr n0 L1 := by rw [l1]; exact Fr.app N0 N1q
   have f3 := (E_o.keep K1)
   refine ⟨T1, T1.heap, _, (v1 + (1 : Int32)), X1, rfl, K1, N1, own_in q, f3, q1_0, q1_1, q1_2, q1_3, q1_4, q1_5, q1_6, q1_7, fun target kt => ?_⟩
   show SH T0 30 #[lI p0, lR o, lU, lU, lU, lU, lU, lU, lU, lU, lU, lU] []
   refine XS.iloadN X0.here hx rfl (hb hby at_30) rfl ?_
   show SH T0 31 #[lI p0, lR o, lU, lU, lU, lU, lU, lU, lU, lU, lU, lU] [(.int p0)]
   refine XS.iconst X0.here hx rfl (hb hby at_31) ?_
   show SH T0 32 #[lI p0, lR o, lU, lU, lU, lU, lU, lU, lU, lU, lU, lU] [(vI 2), (.int p0)]
   refine XS.iand X0.here hx rfl (hb hby at_32) rfl ?_
   show SH T0 33 #[lI p0, lR o, lU, lU, lU, lU, lU, lU, lU, lU, lU, lU] [(.int (p0 &&& (2 : Int32)))]
   refine XS.ifNo X0.here hx rfl (hb hby at_33) rfl ((if0 _ _).trans (feq q).1) ?_
   show SH T0 36 #[lI p0, lR o, lU, lU, lU, lU, lU, lU, lU, lU, lU, lU] []
   refine XS.aloadN X0.here hx rfl (hb hby at_36) rfl rfl ?_
   show SH T0 37 #[lI p0, lR o, lU, lU, lU, lU, lU, lU, lU, lU, lU, lU] [(.ref o)]
   refine st1.trans ?_
   exact kt
theorem d44_0 : decode K44 0 = .ok (.aload_n 0, 1) := by decide +kernel
theorem d44_1 : decode K44 1 = .ok (.dup, 1) := by decide +kernel
theorem d44_2 : decode K44 2 = .ok (.getfield 16, 3) := by decide +kernel
theorem d44_5 : decode K44 5 = .ok (.iconst 1, 1) := by decide +kernel
theorem d44_6 : decode K44 6 = .ok (.iadd, 1) := by decide +kernel
theorem d44_7 : decode K44 7 = .ok (.putfield 16, 3) := by decide +kernel
theorem d44_10 : decode K44 10 = .ok (.return_, 1) := by decide +kernel
theorem ef_44_R (m : MethodId) (x0 : Addr) : entryFrame m #[(.ref x0)] 1 = mkF m 0 #[.val (.ref x0)] [] := by first | (simp [entryFrame, mkF, argsToLocals, Value.category]; done) | rfl
def Qrm44_4 (Z : State) (x1 : Addr) (i2 : Int32) (i3 : Int32) (i4 : Int32) (i5 : Int32) (i6 : Int32) (i7 : Int32) (i8 : Int32) (i9 : Int32) (h0 : Heap) (n0 : Nat) (v : Option Value) (h : Heap) (L : List Loc) : Prop := v = none ∧ Fr n0 L ∧ Keep h0 h [x1] ∧ iF Z h x1 "groups" i2 ∧ iF Z h x1 "users" i3 ∧ iF Z h x1 "projects" (i4 + (1 : Int32)) ∧ iF Z h x1 "projectShares" i5 ∧ iF Z h x1 "documents" i6 ∧ iF Z h x1 "documentShares" i7 ∧ iF Z h x1 "versions" i8 ∧ iF Z h x1 "comments" i9
theorem rm44_4 (l : Launch) (Z : State) (a0 : Array Value) (hw : HW Z a0) (ws : List Jvm.Cond) (cz : Int32) (dg : Addr) (fm : Value) (x1 : Addr) (i2 : Int32) (i3 : Int32) (i4 : Int32) (i5 : Int32) (i6 : Int32) (i7 : Int32) (i8 : Int32) (i9 : Int32) (h0 : Heap) (n0 : Nat) (O0 : Old Z n0 h0) (P : Pins Z cz dg fm) (F_x1_groups : iF Z h0 x1 "groups" i2) (F_x1_users : iF Z h0 x1 "users" i3) (F_x1_projects : iF Z h0 x1 "projects" i4) (F_x1_projectShares : iF Z h0 x1 "projectShares" i5) (F_x1_documents : iF Z h0 x1 "documents" i6) (F_x1_documentShares : iF Z h0 x1 "documentShares" i7) (F_x1_versions : iF Z h0 x1 "versions" i8) (F_x1_comments : iF Z h0 x1 "comments" i9) (E_x1 : Exa Z h0 x1 sI) (g_x1 : n0 ≤ x1) :
   Ctr l M3 (Jvm.Cond.code M3 prog_21_method_4_code 1 none :: ws) (rO 0 0 0 0) Z h0 #[(.ref x1)] (Qrm44_4 Z x1 i2 i3 i4 i5 i6 i7 i8 i9 h0 n0) := by
 refine own_body (own := sI) rfl (plainFor_of_name pN1) O0 (fun m => ef_44_R m x1) ?_
 intro p e s m below meth c s₁ Bd hZ hx hby hml hown X0 e0 Z0
 have N0 := Fr.nil n0
 have Kr : Keep h0 h0 [x1] := Keep.refl h0 _
 obtain ⟨T1, X1, e1, st1⟩ := getF X0 hx hZ hown (host := "") (Or.inl (wd hw 183 rfl)) Via.refl e0 F_x1_projects (g := (mkF m 2 #[lR x1] [(.ref x1), (.ref x1)])) rfl rfl (hb hby d44_2)
 obtain ⟨T2, h2, X2, e2, W2, st2⟩ := putF X1 hx hZ hown (host := "") (Or.inl (wd hw 183 rfl)) Via.refl e1 F_x1_projects E_x1 (Or.inl (wd hw 184 rfl)) (wd hw 1 rfl) (ty := .int) (by decide) rfl rfl (g := (mkF m 7 #[lR x1] [(.int (i4 + (1 : Int32))), (.ref x1)])) rfl rfl (hb hby d44_7)
 have Ks3 := Kr.wr W2 (Or.inl (mg 0 rfl))
 have Fw2 := Fld.same W2 F_x1_projects
 have N2 := Fr.snoc X2 N0 g_x1
 have f4 := (Fld.other W2 F_x1_groups (Or.inr (slot_ne (Or.inl (wd hw 35 rfl)) (Or.inl (wd hw 184 rfl)) (by decide) (t := .int) (t' := .int) (by decide) (by decide))))
 have f5 := (Fld.other W2 F_x1_users (Or.inr (slot_ne (Or.inl (wd hw 164 rfl)) (Or.inl (wd hw 184 rfl)) (by decide) (t := .int) (t' := .int) (by decide) (by decide))))
 have f6 := (Fld.other W2 F_x1_projectShares (Or.inr (slot_ne (Or.inl (wd hw 188 rfl)) (Or.inl (wd hw 184 rfl)) (by decide) (t := .int) (t' := .int) (by decide) (by decide))))
 have f7 := (Fld.other W2 F_x1_documents (Or.inr (slot_ne (Or.inl (wd hw 191 rfl)) (Or.inl (wd hw 184 rfl)) (by decide) (t := .int) (t' := .int) (by decide) (by decide))))
 have f8 := (Fld.other W2 F_x1_documentShares (Or.inr (slot_ne (Or.inl (wd hw 194 rfl)) (Or.inl (wd hw 184 rfl)) (by decide) (t := .int) (t' := .int) (by decide) (by decide))))
 have f9 := (Fld.other W2 F_x1_versions (Or.inr (slot_ne (Or.inl (wd hw 197 rfl)) (Or.inl (wd hw 184 rfl)) (by decide) (t := .int) (t' := .int) (by decide) (by decide))))
 have f10 := (Fld.other W2 F_x1_comments (Or.inr (slot_ne (Or.inl (wd hw 201 rfl)) (Or.inl (wd hw 184 rfl)) (by decide) (t := .int) (t' := .int) (by decide) (by decide))))
 obtain ⟨fs, hr, hrun, hended, hW, hsame⟩ := X2.leave (v := none) (fun _ => rfl)
 refine ⟨_, _, ?_, hrun, hended, _, _, rfl, ?_, ⟨_, rfl⟩, hW, hsame.mono (by decide) (by decide)⟩
 · show SH s₁ 0 #[lR x1] []
   refine XS.aloadN X0.here hx rfl (hb hby d44_0) rfl rfl ?_
   show SH s₁ 1 #[lR x1] [(.ref x1)]
   refine XS.dup X0.here hx rfl (hb hby d44_1) rfl rfl ?_
   show SH s₁ 2 #[lR x1] [(.ref x1), (.ref x1)]
   refine st1 _ ?_
   show SH T1 5 #[lR x1] [(.int i4), (.ref x1)]
   refine XS.iconst X1.here hx rfl (hb hby d44_5) ?_
   show SH T1 6 #[lR x1] [(vI 1), (.int i4), (.ref x1)]
   refine XS.iadd X1.here hx rfl (hb hby d44_6) rfl ?_
   show SH T1 7 #[lR x1] [(.int (i4 + (1 : Int32))), (.ref x1)]
   refine st2 _ ?_
   show SH T2 10 #[lR x1] []
   exact X2.returnOut hx Bd.returns (hb hby d44_10) hr
 · show Qrm44_4 Z x1 i2 i3 i4 i5 i6 i7 i8 i9 h0 n0 _ T2.heap _
   rw [e2]
   exact ⟨rfl, N2, Ks3, f4, f5, Fw2, f6, f7, f8, f9, f10⟩
theorem sg_40 {p : Program} {l : Launch} {e : Env} {s : State} {m : MethodId} {args : Array Value} {below : List Frame} {meth : Method} {c : Code} {T0 : State} {locs : List Loc} {Z : State} {a0 : Array Value} {h0 : Heap} {n0 : Nat} {cz : Int32} {dg : Addr} {fm : Value} (p0 : Int32) (o : Addr) (v0 v1 v2 v3 v4 v5 v6 v7 : Int32)
   (X0 : Stand p l e room_1 (s.setVm s.vm) m args below meth c T0 locs 1 8) (hx : p.tables.exec = Jvm.exec) (hZ : Z.Warmed39 s.vm) (hw : HW Z a0) (hby : c.code = code) (hml : c.maxLocals = 12) (hown : s.vm.findClass sL = some m.cls) (e0 : T0.heap = h0) (O0 : Old Z n0 h0) (P : Pins Z cz dg fm) (N0 : Fr n0 locs) (go : n0 ≤ o) (E_o : Exa Z h0 o sI) (F0 : iF Z h0 o "groups" v0) (F1 : iF Z h0 o "users" v1) (F2 : iF Z h0 o "projects" v2) (F3 : iF Z h0 o "projectShares" v3) (F4 : iF Z h0 o "documents" v4) (F5 : iF Z h0 o "documentShares" v5) (F6 : iF Z h0 o "versions" v6) (F7 : iF Z h0 o "comments" v7) :
   ∃ (T' : State) (h' : Heap) (locs' : List Loc) (v' : Int32), Stand p l e room_1 (s.setVm s.vm) m args below meth c T' locs' 1 8 ∧ T'.heap = h' ∧ Keep h0 h' [o] ∧ Fr n0 locs' ∧ v' = inc1 p0 (4 : Int32) v2 ∧ Exa Z h' o sI ∧ iF Z h' o "groups" v0 ∧ iF Z h' o "users" v1 ∧ iF Z h' o "projects" v' ∧ iF Z h' o "projectShares" v3 ∧ iF Z h' o "documents" v4 ∧ iF Z h' o "documentShares" v5 ∧ iF Z h' o "versions" v6 ∧ iF Z h' o "comments" v7 ∧
     ∀ target, SG p e below T' m 50 #[lI p0, lR o, lU, lU, lU, lU, lU, lU, lU, lU, lU, lU] [] target → SG p e below T0 m 40 #[lI p0, lR o, lU, lU, lU, lU, lU, lU, lU, lU, lU, lU] [] target := by
 have Kr : Keep h0 h0 [o] := Keep.refl h0 _
 have Z0 : n0 ≤ h0.size := O0.1 ▸ O0.2.1
 by_cases q : (p0 &&& (4 : Int32)) = (0 : Int32)
 · refine ⟨T0, h0, locs, v2, X0, e0, Keep.refl h0 _, N0, own_iy q, E_o, F0, F1, F2, F3, F4, F5, F6, F7, fun target kt => ?_⟩
   show SH T0 40 #[lI p0, lR o, lU, lU, lU, lU, lU, lU, lU, lU, lU, lU] []
   refine XS.iloadN X0.here hx rfl (hb hby at_40) rfl ?_
   show SH T0 41 #[lI p0, lR o, lU, lU, lU, lU, lU, lU, lU, lU, lU, lU] [(.int p0)]
   refine XS.iconst X0.here hx rfl (hb hby at_41) ?_
   show SH T0 42 #[lI p0, lR o, lU, lU, lU, lU, lU, lU, lU, lU, lU, lU] [(vI 4), (.int p0)]
   refine XS.iand X0.here hx rfl (hb hby at_42) rfl ?_
   show SH T0 43 #[lI p0, lR o, lU, lU, lU, lU, lU, lU, lU, lU, lU, lU] [(.int (p0 &&& (4 : Int32)))]
   refine XS.ifYes X0.here hx rfl (pc0 := 43) (pc' := 50) rfl (hb hby at_43) rfl ((if0 _ _).trans (teq q).1) (by decide) (by decide) ?_
   exact kt
 · obtain ⟨cq1, kq1, q1a, q1b, q1c⟩ := isOf hZ e0 E_o
   obtain ⟨_, _, ⟨T1, L1, k1, n1⟩, -, X1, ⟨Lc1, hQ1, l1, y1, z1⟩, st1⟩ := X0.virtualBack hx (y := M3) (z := M3) hown (mvT (s := s.setVm s.vm) hZ (wd hw 258 rfl)) (mvT (s := s.setVm s.vm) hZ (wd hw 259 rfl)) (notFace_of_selects (args := #[]) (mvT (s := s.setVm s.vm) hZ (wd hw 261 rfl))) (mvT (s := s.setVm s.vm) hZ (wd hw 261 rfl)) (mvT (s := s.setVm s.vm) hZ (wd hw 260 rfl)) (by decide) (backOf (W := 0) (rm44_4 l Z a0 hw [] cz dg fm o v0 v1 v2 v3 v4 v5 v6 v7 h0 n0 O0 P F0 F1 F2 F3 F4 F5 F6 F7 E_o go) hZ (wd hw 262 rfl) (wd hw 2 rfl) (by decide) (by decide)) q1a q1c (g := (mkF m 47 #[lI p0, lR o, lU, lU, lU, lU, lU, lU, lU, lU, lU, lU] [(.ref o)])) rfl (by rw [hml]; rfl) (Steps.refl _) (argsL := []) (rest := []) (lenOf pd_0 rfl) rfl (lz rfl) (hb hby at_47) (fun _ _ => ⟨rfl, e0, (by decide : 1 + 0 ≤ _), (by decide : 8 + 0 ≤ _)⟩)
   dsimp only [Pt.U, Pt.locs, Pt.cells, Pt.slots] at X1 l1 y1 z1 st1 hQ1
   subst y1 z1
   obtain ⟨rfl, N1q, K1, q1_0, q1_1, q1_2, q1_3, q1_4, q1_5, q1_6, q1_7⟩ := hQ1
   have N1 : Fr n0 L1 := by rw [l1]; exact Fr.app N0 N1q
   have f3 := (E_o.keep K1)
   refine ⟨T1, T1.heap, _, (v2 + (1 : Int32)), X1, rfl, K1, N1, own_in q, f3, q1_0, q1_1, q1_2, q1_3, q1_4, q1_5, q1_6, q1_7, fun target kt => ?_⟩
   show SH T0 40 #[lI p0, lR o, lU, lU, lU, lU, lU, lU, lU, lU, lU, lU] []
   refine XS.iloadN X0.here hx rfl (hb hby at_40) rfl ?_
   show SH T0 41 #[lI p0, lR o, lU, lU, lU, lU, lU, lU, lU, lU, lU, lU] [(.int p0)]
   refine XS.iconst X0.here hx rfl (hb hby at_41) ?_
   show SH T0 42 #[lI p0, lR o, lU, lU, lU, lU, lU, lU, lU, lU, lU, lU] [(vI 4), (.int p0)]
   refine XS.iand X0.here hx rfl (hb hby at_42) rfl ?_
   show SH T0 43 #[lI p0, lR o, lU, lU, lU, lU, lU, lU, lU, lU, lU, lU] [(.int (p0 &&& (4 : Int32)))]
   refine XS.ifNo X0.here hx rfl (hb hby at_43) rfl ((if0 _ _).trans (feq q).1) ?_
   show SH T0 46 #[lI p0, lR o, lU, lU, lU, lU, lU, lU, lU, lU, lU, lU] []
   refine XS.aloadN X0.here hx rfl (hb hby at_46) rfl rfl ?_
   show SH T0 47 #[lI p0, lR o, lU, lU, lU, lU, lU, lU, lU, lU, lU, lU] [(.ref o)]
   refine st1.trans ?_
   exact kt
theorem d45_0 : decode K45 0 = .ok (.aload_n 0, 1) := by decide +kernel
theorem d45_1 : decode K45 1 = .ok (.dup, 1) := by decide +kernel
theorem d45_2 : decode K45 2 = .ok (.getfield 19, 3) := by decide +kernel
theorem d45_5 : decode K45 5 = .ok (.iconst 1, 1) := by decide +kernel
theorem d45_6 : decode K45 6 = .ok (.iadd, 1) := by decide +kernel
theorem d45_7 : decode K45 7 = .ok (.putfield 19, 3) := by decide +kernel
theorem d45_10 : decode K45 10 = .ok (.return_, 1) := by decide +kernel
theorem ef_45_R (m : MethodId) (x0 : Addr) : entryFrame m #[(.ref x0)] 1 = mkF m 0 #[.val (.ref x0)] [] := by first | (simp [entryFrame, mkF, argsToLocals, Value.category]; done) | rfl
def Qrm45_5 (Z : State) (x1 : Addr) (i2 : Int32) (i3 : Int32) (i4 : Int32) (i5 : Int32) (i6 : Int32) (i7 : Int32) (i8 : Int32) (i9 : Int32) (h0 : Heap) (n0 : Nat) (v : Option Value) (h : Heap) (L : List Loc) : Prop := v = none ∧ Fr n0 L ∧ Keep h0 h [x1] ∧ iF Z h x1 "groups" i2 ∧ iF Z h x1 "users" i3 ∧ iF Z h x1 "projects" i4 ∧ iF Z h x1 "projectShares" (i5 + (1 : Int32)) ∧ iF Z h x1 "documents" i6 ∧ iF Z h x1 "documentShares" i7 ∧ iF Z h x1 "versions" i8 ∧ iF Z h x1 "comments" i9
theorem rm45_5 (l : Launch) (Z : State) (a0 : Array Value) (hw : HW Z a0) (ws : List Jvm.Cond) (cz : Int32) (dg : Addr) (fm : Value) (x1 : Addr) (i2 : Int32) (i3 : Int32) (i4 : Int32) (i5 : Int32) (i6 : Int32) (i7 : Int32) (i8 : Int32) (i9 : Int32) (h0 : Heap) (n0 : Nat) (O0 : Old Z n0 h0) (P : Pins Z cz dg fm) (F_x1_groups : iF Z h0 x1 "groups" i2) (F_x1_users : iF Z h0 x1 "users" i3) (F_x1_projects : iF Z h0 x1 "projects" i4) (F_x1_projectShares : iF Z h0 x1 "projectShares" i5) (F_x1_documents : iF Z h0 x1 "documents" i6) (F_x1_documentShares : iF Z h0 x1 "documentShares" i7) (F_x1_versions : iF Z h0 x1 "versions" i8) (F_x1_comments : iF Z h0 x1 "comments" i9) (E_x1 : Exa Z h0 x1 sI) (g_x1 : n0 ≤ x1) :
   Ctr l M4 (Jvm.Cond.code M4 prog_21_method_5_code 1 none :: ws) (rO 0 0 0 0) Z h0 #[(.ref x1)] (Qrm45_5 Z x1 i2 i3 i4 i5 i6 i7 i8 i9 h0 n0) := by
 refine own_body (own := sI) rfl (plainFor_of_name pN1) O0 (fun m => ef_45_R m x1) ?_
 intro p e s m below meth c s₁ Bd hZ hx hby hml hown X0 e0 Z0
 have N0 := Fr.nil n0
 have Kr : Keep h0 h0 [x1] := Keep.refl h0 _
 obtain ⟨T1, X1, e1, st1⟩ := getF X0 hx hZ hown (host := "") (Or.inl (wd hw 187 rfl)) Via.refl e0 F_x1_projectShares (g := (mkF m 2 #[lR x1] [(.ref x1), (.ref x1)])) rfl rfl (hb hby d45_2)
 obtain ⟨T2, h2, X2, e2, W2, st2⟩ := putF X1 hx hZ hown (host := "") (Or.inl (wd hw 187 rfl)) Via.refl e1 F_x1_projectShares E_x1 (Or.inl (wd hw 188 rfl)) (wd hw 1 rfl) (ty := .int) (by decide) rfl rfl (g := (mkF m 7 #[lR x1] [(.int (i5 + (1 : Int32))), (.ref x1)])) rfl rfl (hb hby d45_7)
 have Ks3 := Kr.wr W2 (Or.inl (mg 0 rfl))
 have Fw2 := Fld.same W2 F_x1_projectShares
 have N2 := Fr.snoc X2 N0 g_x1
 have f4 := (Fld.other W2 F_x1_groups (Or.inr (slot_ne (Or.inl (wd hw 35 rfl)) (Or.inl (wd hw 188 rfl)) (by decide) (t := .int) (t' := .int) (by decide) (by decide))))
 have f5 := (Fld.other W2 F_x1_users (Or.inr (slot_ne (Or.inl (wd hw 164 rfl)) (Or.inl (wd hw 188 rfl)) (by decide) (t := .int) (t' := .int) (by decide) (by decide))))
 have f6 := (Fld.other W2 F_x1_projects (Or.inr (slot_ne (Or.inl (wd hw 184 rfl)) (Or.inl (wd hw 188 rfl)) (by decide) (t := .int) (t' := .int) (by decide) (by decide))))
 have f7 := (Fld.other W2 F_x1_documents (Or.inr (slot_ne (Or.inl (wd hw 191 rfl)) (Or.inl (wd hw 188 rfl)) (by decide) (t := .int) (t' := .int) (by decide) (by decide))))
 have f8 := (Fld.other W2 F_x1_documentShares (Or.inr (slot_ne (Or.inl (wd hw 194 rfl)) (Or.inl (wd hw 188 rfl)) (by decide) (t := .int) (t' := .int) (by decide) (by decide))))
 have f9 := (Fld.other W2 F_x1_versions (Or.inr (slot_ne (Or.inl (wd hw 197 rfl)) (Or.inl (wd hw 188 rfl)) (by decide) (t := .int) (t' := .int) (by decide) (by decide))))
 have f10 := (Fld.other W2 F_x1_comments (Or.inr (slot_ne (Or.inl (wd hw 201 rfl)) (Or.inl (wd hw 188 rfl)) (by decide) (t := .int) (t' := .int) (by decide) (by decide))))
 obtain ⟨fs, hr, hrun, hended, hW, hsame⟩ := X2.leave (v := none) (fun _ => rfl)
 refine ⟨_, _, ?_, hrun, hended, _, _, rfl, ?_, ⟨_, rfl⟩, hW, hsame.mono (by decide) (by decide)⟩
 · show SH s₁ 0 #[lR x1] []
   refine XS.aloadN X0.here hx rfl (hb hby d45_0) rfl rfl ?_
   show SH s₁ 1 #[lR x1] [(.ref x1)]
   refine XS.dup X0.here hx rfl (hb hby d45_1) rfl rfl ?_
   show SH s₁ 2 #[lR x1] [(.ref x1), (.ref x1)]
   refine st1 _ ?_
   show SH T1 5 #[lR x1] [(.int i5), (.ref x1)]
   refine XS.iconst X1.here hx rfl (hb hby d45_5) ?_
   show SH T1 6 #[lR x1] [(vI 1), (.int i5), (.ref x1)]
   refine XS.iadd X1.here hx rfl (hb hby d45_6) rfl ?_
   show SH T1 7 #[lR x1] [(.int (i5 + (1 : Int32))), (.ref x1)]
   refine st2 _ ?_
   show SH T2 10 #[lR x1] []
   exact X2.returnOut hx Bd.returns (hb hby d45_10) hr
 · show Qrm45_5 Z x1 i2 i3 i4 i5 i6 i7 i8 i9 h0 n0 _ T2.heap _
   rw [e2]
   exact ⟨rfl, N2, Ks3, f4, f5, f6, Fw2, f7, f8, f9, f10⟩
theorem sg_50 {p : Program} {l : Launch} {e : Env} {s : State} {m : MethodId} {args : Array Value} {below : List Frame} {meth : Method} {c : Code} {T0 : State} {locs : List Loc} {Z : State} {a0 : Array Value} {h0 : Heap} {n0 : Nat} {cz : Int32} {dg : Addr} {fm : Value} (p0 : Int32) (o : Addr) (v0 v1 v2 v3 v4 v5 v6 v7 : Int32)
   (X0 : Stand p l e room_1 (s.setVm s.vm) m args below meth c T0 locs 1 8) (hx : p.tables.exec = Jvm.exec) (hZ : Z.Warmed39 s.vm) (hw : HW Z a0) (hby : c.code = code) (hml : c.maxLocals = 12) (hown : s.vm.findClass sL = some m.cls) (e0 : T0.heap = h0) (O0 : Old Z n0 h0) (P : Pins Z cz dg fm) (N0 : Fr n0 locs) (go : n0 ≤ o) (E_o : Exa Z h0 o sI) (F0 : iF Z h0 o "groups" v0) (F1 : iF Z h0 o "users" v1) (F2 : iF Z h0 o "projects" v2) (F3 : iF Z h0 o "projectShares" v3) (F4 : iF Z h0 o "documents" v4) (F5 : iF Z h0 o "documentShares" v5) (F6 : iF Z h0 o "versions" v6) (F7 : iF Z h0 o "comments" v7) :
   ∃ (T' : State) (h' : Heap) (locs' : List Loc) (v' : Int32), Stand p l e room_1 (s.setVm s.vm) m args below meth c T' locs' 1 8 ∧ T'.heap = h' ∧ Keep h0 h' [o] ∧ Fr n0 locs' ∧ v' = inc1 p0 (8 : Int32) v3 ∧ Exa Z h' o sI ∧ iF Z h' o "groups" v0 ∧ iF Z h' o "users" v1 ∧ iF Z h' o "projects" v2 ∧ iF Z h' o "projectShares" v' ∧ iF Z h' o "documents" v4 ∧ iF Z h' o "documentShares" v5 ∧ iF Z h' o "versions" v6 ∧ iF Z h' o "comments" v7 ∧
     ∀ target, SG p e below T' m 61 #[lI p0, lR o, lU, lU, lU, lU, lU, lU, lU, lU, lU, lU] [] target → SG p e below T0 m 50 #[lI p0, lR o, lU, lU, lU, lU, lU, lU, lU, lU, lU, lU] [] target := by
 have Kr : Keep h0 h0 [o] := Keep.refl h0 _
 have Z0 : n0 ≤ h0.size := O0.1 ▸ O0.2.1
 by_cases q : (p0 &&& (8 : Int32)) = (0 : Int32)
 · refine ⟨T0, h0, locs, v3, X0, e0, Keep.refl h0 _, N0, own_iy q, E_o, F0, F1, F2, F3, F4, F5, F6, F7, fun target kt => ?_⟩
   show SH T0 50 #[lI p0, lR o, lU, lU, lU, lU, lU, lU, lU, lU, lU, lU] []
   refine XS.iloadN X0.here hx rfl (hb hby at_50) rfl ?_
   show SH T0 51 #[lI p0, lR o, lU, lU, lU, lU, lU, lU, lU, lU, lU, lU] [(.int p0)]
   refine XS.bipush X0.here hx rfl (hb hby at_51) ?_
   show SH T0 53 #[lI p0, lR o, lU, lU, lU, lU, lU, lU, lU, lU, lU, lU] [(vI 8), (.int p0)]
   refine XS.iand X0.here hx rfl (hb hby at_53) rfl ?_
   show SH T0 54 #[lI p0, lR o, lU, lU, lU, lU, lU, lU, lU, lU, lU, lU] [(.int (p0 &&& (8 : Int32)))]
   refine XS.ifYes X0.here hx rfl (pc0 := 54) (pc' := 61) rfl (hb hby at_54) rfl ((if0 _ _).trans (teq q).1) (by decide) (by decide) ?_
   exact kt
 · obtain ⟨cq1, kq1, q1a, q1b, q1c⟩ := isOf hZ e0 E_o
   obtain ⟨_, _, ⟨T1, L1, k1, n1⟩, -, X1, ⟨Lc1, hQ1, l1, y1, z1⟩, st1⟩ := X0.virtualBack hx (y := M4) (z := M4) hown (mvT (s := s.setVm s.vm) hZ (wd hw 263 rfl)) (mvT (s := s.setVm s.vm) hZ (wd hw 264 rfl)) (notFace_of_selects (args := #[]) (mvT (s := s.setVm s.vm) hZ (wd hw 266 rfl))) (mvT (s := s.setVm s.vm) hZ (wd hw 266 rfl)) (mvT (s := s.setVm s.vm) hZ (wd hw 265 rfl)) (by decide) (backOf (W := 0) (rm45_5 l Z a0 hw [] cz dg fm o v0 v1 v2 v3 v4 v5 v6 v7 h0 n0 O0 P F0 F1 F2 F3 F4 F5 F6 F7 E_o go) hZ (wd hw 267 rfl) (wd hw 2 rfl) (by decide) (by decide)) q1a q1c (g := (mkF m 58 #[lI p0, lR o, lU, lU, lU, lU, lU, lU, lU, lU, lU, lU] [(.ref o)])) rfl (by rw [hml]; rfl) (Steps.refl _) (argsL := []) (rest := []) (lenOf pd_0 rfl) rfl (lz rfl) (hb hby at_58) (fun _ _ => ⟨rfl, e0, (by decide : 1 + 0 ≤ _), (by decide : 8 + 0 ≤ _)⟩)
   dsimp only [Pt.U, Pt.locs, Pt.cells, Pt.slots] at X1 l1 y1 z1 st1 hQ1
   subst y1 z1
   obtain ⟨rfl, N1q, K1, q1_0, q1_1, q1_2, q1_3, q1_4, q1_5, q1_6, q1_7⟩ := hQ1
   have N1 : Fr n0 L1 := by rw [l1]; exact Fr.app N0 N1q
   have f3 := (E_o.keep K1)
   refine ⟨T1, T1.heap, _, (v3 + (1 : Int32)), X1, rfl, K1, N1, own_in q, f3, q1_0, q1_1, q1_2, q1_3, q1_4, q1_5, q1_6, q1_7, fun target kt => ?_⟩
   show SH T0 50 #[lI p0, lR o, lU, lU, lU, lU, lU, lU, lU, lU, lU, lU] []
   refine XS.iloadN X0.here hx rfl (hb hby at_50) rfl ?_
   show SH T0 51 #[lI p0, lR o, lU, lU, lU, lU, lU, lU, lU, lU, lU, lU] [(.int p0)]
   refine XS.bipush X0.here hx rfl (hb hby at_51) ?_
   show SH T0 53 #[lI p0, lR o, lU, lU, lU, lU, lU, lU, lU, lU, lU, lU] [(vI 8), (.int p0)]
   refine XS.iand X0.here hx rfl (hb hby at_53) rfl ?_
   show SH T0 54 #[lI p0, lR o, lU, lU, lU, lU, lU, lU, lU, lU, lU, lU] [(.int (p0 &&& (8 : Int32)))]
   refine XS.ifNo X0.here hx rfl (hb hby at_54) rfl ((if0 _ _).trans (feq q).1) ?_
   show SH T0 57 #[lI p0, lR o, lU, lU, lU, lU, lU, lU, lU, lU, lU, lU] []
   refine XS.aloadN X0.here hx rfl (hb hby at_57) rfl rfl ?_
   show SH T0 58 #[lI p0, lR o, lU, lU, lU, lU, lU, lU, lU, lU, lU, lU] [(.ref o)]
   refine st1.trans ?_
   exact kt
theorem d49_0 : decode K49 0 = .ok (.aload_n 0, 1) := by decide +kernel
theorem d49_1 : decode K49 1 = .ok (.dup, 1) := by decide +kernel
theorem d49_2 : decode K49 2 = .ok (.getfield 22, 3) := by decide +kernel
theorem d49_5 : decode K49 5 = .ok (.iconst 1, 1) := by decide +kernel
theorem d49_6 : decode K49 6 = .ok (.iadd, 1) := by decide +kernel
theorem d49_7 : decode K49 7 = .ok (.putfield 22, 3) := by decide +kernel
theorem d49_10 : decode K49 10 = .ok (.return_, 1) := by decide +kernel
theorem ef_49_R (m : MethodId) (x0 : Addr) : entryFrame m #[(.ref x0)] 1 = mkF m 0 #[.val (.ref x0)] [] := by first | (simp [entryFrame, mkF, argsToLocals, Value.category]; done) | rfl
def Qrm49_6 (Z : State) (x1 : Addr) (i2 : Int32) (i3 : Int32) (i4 : Int32) (i5 : Int32) (i6 : Int32) (i7 : Int32) (i8 : Int32) (i9 : Int32) (h0 : Heap) (n0 : Nat) (v : Option Value) (h : Heap) (L : List Loc) : Prop := v = none ∧ Fr n0 L ∧ Keep h0 h [x1] ∧ iF Z h x1 "groups" i2 ∧ iF Z h x1 "users" i3 ∧ iF Z h x1 "projects" i4 ∧ iF Z h x1 "projectShares" i5 ∧ iF Z h x1 "documents" (i6 + (1 : Int32)) ∧ iF Z h x1 "documentShares" i7 ∧ iF Z h x1 "versions" i8 ∧ iF Z h x1 "comments" i9
theorem rm49_6 (l : Launch) (Z : State) (a0 : Array Value) (hw : HW Z a0) (ws : List Jvm.Cond) (cz : Int32) (dg : Addr) (fm : Value) (x1 : Addr) (i2 : Int32) (i3 : Int32) (i4 : Int32) (i5 : Int32) (i6 : Int32) (i7 : Int32) (i8 : Int32) (i9 : Int32) (h0 : Heap) (n0 : Nat) (O0 : Old Z n0 h0) (P : Pins Z cz dg fm) (F_x1_groups : iF Z h0 x1 "groups" i2) (F_x1_users : iF Z h0 x1 "users" i3) (F_x1_projects : iF Z h0 x1 "projects" i4) (F_x1_projectShares : iF Z h0 x1 "projectShares" i5) (F_x1_documents : iF Z h0 x1 "documents" i6) (F_x1_documentShares : iF Z h0 x1 "documentShares" i7) (F_x1_versions : iF Z h0 x1 "versions" i8) (F_x1_comments : iF Z h0 x1 "comments" i9) (E_x1 : Exa Z h0 x1 sI) (g_x1 : n0 ≤ x1) :
   Ctr l M5 (Jvm.Cond.code M5 prog_21_method_6_code 1 none :: ws) (rO 0 0 0 0) Z h0 #[(.ref x1)] (Qrm49_6 Z x1 i2 i3 i4 i5 i6 i7 i8 i9 h0 n0) := by
 refine own_body (own := sI) rfl (plainFor_of_name pN1) O0 (fun m => ef_49_R m x1) ?_
 intro p e s m below meth c s₁ Bd hZ hx hby hml hown X0 e0 Z0
 have N0 := Fr.nil n0
 have Kr : Keep h0 h0 [x1] := Keep.refl h0 _
 obtain ⟨T1, X1, e1, st1⟩ := getF X0 hx hZ hown (host := "") (Or.inl (wd hw 190 rfl)) Via.refl e0 F_x1_documents (g := (mkF m 2 #[lR x1] [(.ref x1), (.ref x1)])) rfl rfl (hb hby d49_2)
 obtain ⟨T2, h2, X2, e2, W2, st2⟩ := putF X1 hx hZ hown (host := "") (Or.inl (wd hw 190 rfl)) Via.refl e1 F_x1_documents E_x1 (Or.inl (wd hw 191 rfl)) (wd hw 1 rfl) (ty := .int) (by decide) rfl rfl (g := (mkF m 7 #[lR x1] [(.int (i6 + (1 : Int32))), (.ref x1)])) rfl rfl (hb hby d49_7)
 have Ks3 := Kr.wr W2 (Or.inl (mg 0 rfl))
 have Fw2 := Fld.same W2 F_x1_documents
 have N2 := Fr.snoc X2 N0 g_x1
 have f4 := (Fld.other W2 F_x1_groups (Or.inr (slot_ne (Or.inl (wd hw 35 rfl)) (Or.inl (wd hw 191 rfl)) (by decide) (t := .int) (t' := .int) (by decide) (by decide))))
 have f5 := (Fld.other W2 F_x1_users (Or.inr (slot_ne (Or.inl (wd hw 164 rfl)) (Or.inl (wd hw 191 rfl)) (by decide) (t := .int) (t' := .int) (by decide) (by decide))))
 have f6 := (Fld.other W2 F_x1_projects (Or.inr (slot_ne (Or.inl (wd hw 184 rfl)) (Or.inl (wd hw 191 rfl)) (by decide) (t := .int) (t' := .int) (by decide) (by decide))))
 have f7 := (Fld.other W2 F_x1_projectShares (Or.inr (slot_ne (Or.inl (wd hw 188 rfl)) (Or.inl (wd hw 191 rfl)) (by decide) (t := .int) (t' := .int) (by decide) (by decide))))
 have f8 := (Fld.other W2 F_x1_documentShares (Or.inr (slot_ne (Or.inl (wd hw 194 rfl)) (Or.inl (wd hw 191 rfl)) (by decide) (t := .int) (t' := .int) (by decide) (by decide))))
 have f9 := (Fld.other W2 F_x1_versions (Or.inr (slot_ne (Or.inl (wd hw 197 rfl)) (Or.inl (wd hw 191 rfl)) (by decide) (t := .int) (t' := .int) (by decide) (by decide))))
 have f10 := (Fld.other W2 F_x1_comments (Or.inr (slot_ne (Or.inl (wd hw 201 rfl)) (Or.inl (wd hw 191 rfl)) (by decide) (t := .int) (t' := .int) (by decide) (by decide))))
 obtain ⟨fs, hr, hrun, hended, hW, hsame⟩ := X2.leave (v := none) (fun _ => rfl)
 refine ⟨_, _, ?_, hrun, hended, _, _, rfl, ?_, ⟨_, rfl⟩, hW, hsame.mono (by decide) (by decide)⟩
 · show SH s₁ 0 #[lR x1] []
   refine XS.aloadN X0.here hx rfl (hb hby d49_0) rfl rfl ?_
   show SH s₁ 1 #[lR x1] [(.ref x1)]
   refine XS.dup X0.here hx rfl (hb hby d49_1) rfl rfl ?_
   show SH s₁ 2 #[lR x1] [(.ref x1), (.ref x1)]
   refine st1 _ ?_
   show SH T1 5 #[lR x1] [(.int i6), (.ref x1)]
   refine XS.iconst X1.here hx rfl (hb hby d49_5) ?_
   show SH T1 6 #[lR x1] [(vI 1), (.int i6), (.ref x1)]
   refine XS.iadd X1.here hx rfl (hb hby d49_6) rfl ?_
   show SH T1 7 #[lR x1] [(.int (i6 + (1 : Int32))), (.ref x1)]
   refine st2 _ ?_
   show SH T2 10 #[lR x1] []
   exact X2.returnOut hx Bd.returns (hb hby d49_10) hr
 · show Qrm49_6 Z x1 i2 i3 i4 i5 i6 i7 i8 i9 h0 n0 _ T2.heap _
   rw [e2]
   exact ⟨rfl, N2, Ks3, f4, f5, f6, f7, Fw2, f8, f9, f10⟩
theorem sg_61 {p : Program} {l : Launch} {e : Env} {s : State} {m : MethodId} {args : Array Value} {below : List Frame} {meth : Method} {c : Code} {T0 : State} {locs : List Loc} {Z : State} {a0 : Array Value} {h0 : Heap} {n0 : Nat} {cz : Int32} {dg : Addr} {fm : Value} (p0 : Int32) (o : Addr) (v0 v1 v2 v3 v4 v5 v6 v7 : Int32)
   (X0 : Stand p l e room_1 (s.setVm s.vm) m args below meth c T0 locs 1 8) (hx : p.tables.exec = Jvm.exec) (hZ : Z.Warmed39 s.vm) (hw : HW Z a0) (hby : c.code = code) (hml : c.maxLocals = 12) (hown : s.vm.findClass sL = some m.cls) (e0 : T0.heap = h0) (O0 : Old Z n0 h0) (P : Pins Z cz dg fm) (N0 : Fr n0 locs) (go : n0 ≤ o) (E_o : Exa Z h0 o sI) (F0 : iF Z h0 o "groups" v0) (F1 : iF Z h0 o "users" v1) (F2 : iF Z h0 o "projects" v2) (F3 : iF Z h0 o "projectShares" v3) (F4 : iF Z h0 o "documents" v4) (F5 : iF Z h0 o "documentShares" v5) (F6 : iF Z h0 o "versions" v6) (F7 : iF Z h0 o "comments" v7) :
   ∃ (T' : State) (h' : Heap) (locs' : List Loc) (v' : Int32), Stand p l e room_1 (s.setVm s.vm) m args below meth c T' locs' 1 8 ∧ T'.heap = h' ∧ Keep h0 h' [o] ∧ Fr n0 locs' ∧ v' = inc1 p0 (16 : Int32) v4 ∧ Exa Z h' o sI ∧ iF Z h' o "groups" v0 ∧ iF Z h' o "users" v1 ∧ iF Z h' o "projects" v2 ∧ iF Z h' o "projectShares" v3 ∧ iF Z h' o "documents" v' ∧ iF Z h' o "documentShares" v5 ∧ iF Z h' o "versions" v6 ∧ iF Z h' o "comments" v7 ∧
     ∀ target, SG p e below T' m 72 #[lI p0, lR o, lU, lU, lU, lU, lU, lU, lU, lU, lU, lU] [] target → SG p e below T0 m 61 #[lI p0, lR o, lU, lU, lU, lU, lU, lU, lU, lU, lU, lU] [] target := by
 have Kr : Keep h0 h0 [o] := Keep.refl h0 _
 have Z0 : n0 ≤ h0.size := O0.1 ▸ O0.2.1
 by_cases q : (p0 &&& (16 : Int32)) = (0 : Int32)
 · refine ⟨T0, h0, locs, v4, X0, e0, Keep.refl h0 _, N0, own_iy q, E_o, F0, F1, F2, F3, F4, F5, F6, F7, fun target kt => ?_⟩
   show SH T0 61 #[lI p0, lR o, lU, lU, lU, lU, lU, lU, lU, lU, lU, lU] []
   refine XS.iloadN X0.here hx rfl (hb hby at_61) rfl ?_
   show SH T0 62 #[lI p0, lR o, lU, lU, lU, lU, lU, lU, lU, lU, lU, lU] [(.int p0)]
   refine XS.bipush X0.here hx rfl (hb hby at_62) ?_
   show SH T0 64 #[lI p0, lR o, lU, lU, lU, lU, lU, lU, lU, lU, lU, lU] [(vI 16), (.int p0)]
   refine XS.iand X0.here hx rfl (hb hby at_64) rfl ?_
   show SH T0 65 #[lI p0, lR o, lU, lU, lU, lU, lU, lU, lU, lU, lU, lU] [(.int (p0 &&& (16 : Int32)))]
   refine XS.ifYes X0.here hx rfl (pc0 := 65) (pc' := 72) rfl (hb hby at_65) rfl ((if0 _ _).trans (teq q).1) (by decide) (by decide) ?_
   exact kt
 · obtain ⟨cq1, kq1, q1a, q1b, q1c⟩ := isOf hZ e0 E_o
   obtain ⟨_, _, ⟨T1, L1, k1, n1⟩, -, X1, ⟨Lc1, hQ1, l1, y1, z1⟩, st1⟩ := X0.virtualBack hx (y := M5) (z := M5) hown (mvT (s := s.setVm s.vm) hZ (wd hw 283 rfl)) (mvT (s := s.setVm s.vm) hZ (wd hw 284 rfl)) (notFace_of_selects (args := #[]) (mvT (s := s.setVm s.vm) hZ (wd hw 286 rfl))) (mvT (s := s.setVm s.vm) hZ (wd hw 286 rfl)) (mvT (s := s.setVm s.vm) hZ (wd hw 285 rfl)) (by decide) (backOf (W := 0) (rm49_6 l Z a0 hw [] cz dg fm o v0 v1 v2 v3 v4 v5 v6 v7 h0 n0 O0 P F0 F1 F2 F3 F4 F5 F6 F7 E_o go) hZ (wd hw 287 rfl) (wd hw 2 rfl) (by decide) (by decide)) q1a q1c (g := (mkF m 69 #[lI p0, lR o, lU, lU, lU, lU, lU, lU, lU, lU, lU, lU] [(.ref o)])) rfl (by rw [hml]; rfl) (Steps.refl _) (argsL := []) (rest := []) (lenOf pd_0 rfl) rfl (lz rfl) (hb hby at_69) (fun _ _ => ⟨rfl, e0, (by decide : 1 + 0 ≤ _), (by decide : 8 + 0 ≤ _)⟩)
   dsimp only [Pt.U, Pt.locs, Pt.cells, Pt.slots] at X1 l1 y1 z1 st1 hQ1
   subst y1 z1
   obtain ⟨rfl, N1q, K1, q1_0, q1_1, q1_2, q1_3, q1_4, q1_5, q1_6, q1_7⟩ := hQ1
   have N1 : Fr n0 L1 := by rw [l1]; exact Fr.app N0 N1q
   have f3 := (E_o.keep K1)
   refine ⟨T1, T1.heap, _, (v4 + (1 : Int32)), X1, rfl, K1, N1, own_in q, f3, q1_0, q1_1, q1_2, q1_3, q1_4, q1_5, q1_6, q1_7, fun target kt => ?_⟩
   show SH T0 61 #[lI p0, lR o, lU, lU, lU, lU, lU, lU, lU, lU, lU, lU] []
   refine XS.iloadN X0.here hx rfl (hb hby at_61) rfl ?_
   show SH T0 62 #[lI p0, lR o, lU, lU, lU, lU, lU, lU, lU, lU, lU, lU] [(.int p0)]
   refine XS.bipush X0.here hx rfl (hb hby at_62) ?_
   show SH T0 64 #[lI p0, lR o, lU, lU, lU, lU, lU, lU, lU, lU, lU, lU] [(vI 16), (.int p0)]
   refine XS.iand X0.here hx rfl (hb hby at_64) rfl ?_
   show SH T0 65 #[lI p0, lR o, lU, lU, lU, lU, lU, lU, lU, lU, lU, lU] [(.int (p0 &&& (16 : Int32)))]
   refine XS.ifNo X0.here hx rfl (hb hby at_65) rfl ((if0 _ _).trans (feq q).1) ?_
   show SH T0 68 #[lI p0, lR o, lU, lU, lU, lU, lU, lU, lU, lU, lU, lU] []
   refine XS.aloadN X0.here hx rfl (hb hby at_68) rfl rfl ?_
   show SH T0 69 #[lI p0, lR o, lU, lU, lU, lU, lU, lU, lU, lU, lU, lU] [(.ref o)]
   refine st1.trans ?_
   exact kt
theorem d46_0 : decode K46 0 = .ok (.aload_n 0, 1) := by decide +kernel
theorem d46_1 : decode K46 1 = .ok (.dup, 1) := by decide +kernel
theorem d46_2 : decode K46 2 = .ok (.getfield 25, 3) := by decide +kernel
theorem d46_5 : decode K46 5 = .ok (.iconst 1, 1) := by decide +kernel
theorem d46_6 : decode K46 6 = .ok (.iadd, 1) := by decide +kernel
theorem d46_7 : decode K46 7 = .ok (.putfield 25, 3) := by decide +kernel
theorem d46_10 : decode K46 10 = .ok (.return_, 1) := by decide +kernel
theorem ef_46_R (m : MethodId) (x0 : Addr) : entryFrame m #[(.ref x0)] 1 = mkF m 0 #[.val (.ref x0)] [] := by first | (simp [entryFrame, mkF, argsToLocals, Value.category]; done) | rfl
def Qrm46_7 (Z : State) (x1 : Addr) (i2 : Int32) (i3 : Int32) (i4 : Int32) (i5 : Int32) (i6 : Int32) (i7 : Int32) (i8 : Int32) (i9 : Int32) (h0 : Heap) (n0 : Nat) (v : Option Value) (h : Heap) (L : List Loc) : Prop := v = none ∧ Fr n0 L ∧ Keep h0 h [x1] ∧ iF Z h x1 "groups" i2 ∧ iF Z h x1 "users" i3 ∧ iF Z h x1 "projects" i4 ∧ iF Z h x1 "projectShares" i5 ∧ iF Z h x1 "documents" i6 ∧ iF Z h x1 "documentShares" (i7 + (1 : Int32)) ∧ iF Z h x1 "versions" i8 ∧ iF Z h x1 "comments" i9
theorem rm46_7 (l : Launch) (Z : State) (a0 : Array Value) (hw : HW Z a0) (ws : List Jvm.Cond) (cz : Int32) (dg : Addr) (fm : Value) (x1 : Addr) (i2 : Int32) (i3 : Int32) (i4 : Int32) (i5 : Int32) (i6 : Int32) (i7 : Int32) (i8 : Int32) (i9 : Int32) (h0 : Heap) (n0 : Nat) (O0 : Old Z n0 h0) (P : Pins Z cz dg fm) (F_x1_groups : iF Z h0 x1 "groups" i2) (F_x1_users : iF Z h0 x1 "users" i3) (F_x1_projects : iF Z h0 x1 "projects" i4) (F_x1_projectShares : iF Z h0 x1 "projectShares" i5) (F_x1_documents : iF Z h0 x1 "documents" i6) (F_x1_documentShares : iF Z h0 x1 "documentShares" i7) (F_x1_versions : iF Z h0 x1 "versions" i8) (F_x1_comments : iF Z h0 x1 "comments" i9) (E_x1 : Exa Z h0 x1 sI) (g_x1 : n0 ≤ x1) :
   Ctr l M6 (Jvm.Cond.code M6 prog_21_method_7_code 1 none :: ws) (rO 0 0 0 0) Z h0 #[(.ref x1)] (Qrm46_7 Z x1 i2 i3 i4 i5 i6 i7 i8 i9 h0 n0) := by
 refine own_body (own := sI) rfl (plainFor_of_name pN1) O0 (fun m => ef_46_R m x1) ?_
 intro p e s m below meth c s₁ Bd hZ hx hby hml hown X0 e0 Z0
 have N0 := Fr.nil n0
 have Kr : Keep h0 h0 [x1] := Keep.refl h0 _
 obtain ⟨T1, X1, e1, st1⟩ := getF X0 hx hZ hown (host := "") (Or.inl (wd hw 193 rfl)) Via.refl e0 F_x1_documentShares (g := (mkF m 2 #[lR x1] [(.ref x1), (.ref x1)])) rfl rfl (hb hby d46_2)
 obtain ⟨T2, h2, X2, e2, W2, st2⟩ := putF X1 hx hZ hown (host := "") (Or.inl (wd hw 193 rfl)) Via.refl e1 F_x1_documentShares E_x1 (Or.inl (wd hw 194 rfl)) (wd hw 1 rfl) (ty := .int) (by decide) rfl rfl (g := (mkF m 7 #[lR x1] [(.int (i7 + (1 : Int32))), (.ref x1)])) rfl rfl (hb hby d46_7)
 have Ks3 := Kr.wr W2 (Or.inl (mg 0 rfl))
 have Fw2 := Fld.same W2 F_x1_documentShares
 have N2 := Fr.snoc X2 N0 g_x1
 have f4 := (Fld.other W2 F_x1_groups (Or.inr (slot_ne (Or.inl (wd hw 35 rfl)) (Or.inl (wd hw 194 rfl)) (by decide) (t := .int) (t' := .int) (by decide) (by decide))))
 have f5 := (Fld.other W2 F_x1_users (Or.inr (slot_ne (Or.inl (wd hw 164 rfl)) (Or.inl (wd hw 194 rfl)) (by decide) (t := .int) (t' := .int) (by decide) (by decide))))
 have f6 := (Fld.other W2 F_x1_projects (Or.inr (slot_ne (Or.inl (wd hw 184 rfl)) (Or.inl (wd hw 194 rfl)) (by decide) (t := .int) (t' := .int) (by decide) (by decide))))
 have f7 := (Fld.other W2 F_x1_projectShares (Or.inr (slot_ne (Or.inl (wd hw 188 rfl)) (Or.inl (wd hw 194 rfl)) (by decide) (t := .int) (t' := .int) (by decide) (by decide))))
 have f8 := (Fld.other W2 F_x1_documents (Or.inr (slot_ne (Or.inl (wd hw 191 rfl)) (Or.inl (wd hw 194 rfl)) (by decide) (t := .int) (t' := .int) (by decide) (by decide))))
 have f9 := (Fld.other W2 F_x1_versions (Or.inr (slot_ne (Or.inl (wd hw 197 rfl)) (Or.inl (wd hw 194 rfl)) (by decide) (t := .int) (t' := .int) (by decide) (by decide))))
 have f10 := (Fld.other W2 F_x1_comments (Or.inr (slot_ne (Or.inl (wd hw 201 rfl)) (Or.inl (wd hw 194 rfl)) (by decide) (t := .int) (t' := .int) (by decide) (by decide))))
 obtain ⟨fs, hr, hrun, hended, hW, hsame⟩ := X2.leave (v := none) (fun _ => rfl)
 refine ⟨_, _, ?_, hrun, hended, _, _, rfl, ?_, ⟨_, rfl⟩, hW, hsame.mono (by decide) (by decide)⟩
 · show SH s₁ 0 #[lR x1] []
   refine XS.aloadN X0.here hx rfl (hb hby d46_0) rfl rfl ?_
   show SH s₁ 1 #[lR x1] [(.ref x1)]
   refine XS.dup X0.here hx rfl (hb hby d46_1) rfl rfl ?_
   show SH s₁ 2 #[lR x1] [(.ref x1), (.ref x1)]
   refine st1 _ ?_
   show SH T1 5 #[lR x1] [(.int i7), (.ref x1)]
   refine XS.iconst X1.here hx rfl (hb hby d46_5) ?_
   show SH T1 6 #[lR x1] [(vI 1), (.int i7), (.ref x1)]
   refine XS.iadd X1.here hx rfl (hb hby d46_6) rfl ?_
   show SH T1 7 #[lR x1] [(.int (i7 + (1 : Int32))), (.ref x1)]
   refine st2 _ ?_
   show SH T2 10 #[lR x1] []
   exact X2.returnOut hx Bd.returns (hb hby d46_10) hr
 · show Qrm46_7 Z x1 i2 i3 i4 i5 i6 i7 i8 i9 h0 n0 _ T2.heap _
   rw [e2]
   exact ⟨rfl, N2, Ks3, f4, f5, f6, f7, f8, Fw2, f9, f10⟩
theorem sg_72 {p : Program} {l : Launch} {e : Env} {s : State} {m : MethodId} {args : Array Value} {below : List Frame} {meth : Method} {c : Code} {T0 : State} {locs : List Loc} {Z : State} {a0 : Array Value} {h0 : Heap} {n0 : Nat} {cz : Int32} {dg : Addr} {fm : Value} (p0 : Int32) (o : Addr) (v0 v1 v2 v3 v4 v5 v6 v7 : Int32)
   (X0 : Stand p l e room_1 (s.setVm s.vm) m args below meth c T0 locs 1 8) (hx : p.tables.exec = Jvm.exec) (hZ : Z.Warmed39 s.vm) (hw : HW Z a0) (hby : c.code = code) (hml : c.maxLocals = 12) (hown : s.vm.findClass sL = some m.cls) (e0 : T0.heap = h0) (O0 : Old Z n0 h0) (P : Pins Z cz dg fm) (N0 : Fr n0 locs) (go : n0 ≤ o) (E_o : Exa Z h0 o sI) (F0 : iF Z h0 o "groups" v0) (F1 : iF Z h0 o "users" v1) (F2 : iF Z h0 o "projects" v2) (F3 : iF Z h0 o "projectShares" v3) (F4 : iF Z h0 o "documents" v4) (F5 : iF Z h0 o "documentShares" v5) (F6 : iF Z h0 o "versions" v6) (F7 : iF Z h0 o "comments" v7) :
   ∃ (T' : State) (h' : Heap) (locs' : List Loc) (v' : Int32), Stand p l e room_1 (s.setVm s.vm) m args below meth c T' locs' 1 8 ∧ T'.heap = h' ∧ Keep h0 h' [o] ∧ Fr n0 locs' ∧ v' = inc1 p0 (32 : Int32) v5 ∧ Exa Z h' o sI ∧ iF Z h' o "groups" v0 ∧ iF Z h' o "users" v1 ∧ iF Z h' o "projects" v2 ∧ iF Z h' o "projectShares" v3 ∧ iF Z h' o "documents" v4 ∧ iF Z h' o "documentShares" v' ∧ iF Z h' o "versions" v6 ∧ iF Z h' o "comments" v7 ∧
     ∀ target, SG p e below T' m 83 #[lI p0, lR o, lU, lU, lU, lU, lU, lU, lU, lU, lU, lU] [] target → SG p e below T0 m 72 #[lI p0, lR o, lU, lU, lU, lU, lU, lU, lU, lU, lU, lU] [] target := by
 have Kr : Keep h0 h0 [o] := Keep.refl h0 _
 have Z0 : n0 ≤ h0.size := O0.1 ▸ O0.2.1
 by_cases q : (p0 &&& (32 : Int32)) = (0 : Int32)
 · refine ⟨T0, h0, locs, v5, X0, e0, Keep.refl h0 _, N0, own_iy q, E_o, F0, F1, F2, F3, F4, F5, F6, F7, fun target kt => ?_⟩
   show SH T0 72 #[lI p0, lR o, lU, lU, lU, lU, lU, lU, lU, lU, lU, lU] []
   refine XS.iloadN X0.here hx rfl (hb hby at_72) rfl ?_
   show SH T0 73 #[lI p0, lR o, lU, lU, lU, lU, lU, lU, lU, lU, lU, lU] [(.int p0)]
   refine XS.bipush X0.here hx rfl (hb hby at_73) ?_
   show SH T0 75 #[lI p0, lR o, lU, lU, lU, lU, lU, lU, lU, lU, lU, lU] [(vI 32), (.int p0)]
   refine XS.iand X0.here hx rfl (hb hby at_75) rfl ?_
   show SH T0 76 #[lI p0, lR o, lU, lU, lU, lU, lU, lU, lU, lU, lU, lU] [(.int (p0 &&& (32 : Int32)))]
   refine XS.ifYes X0.here hx rfl (pc0 := 76) (pc' := 83) rfl (hb hby at_76) rfl ((if0 _ _).trans (teq q).1) (by decide) (by decide) ?_
   exact kt
 · obtain ⟨cq1, kq1, q1a, q1b, q1c⟩ := isOf hZ e0 E_o
   obtain ⟨_, _, ⟨T1, L1, k1, n1⟩, -, X1, ⟨Lc1, hQ1, l1, y1, z1⟩, st1⟩ := X0.virtualBack hx (y := M6) (z := M6) hown (mvT (s := s.setVm s.vm) hZ (wd hw 268 rfl)) (mvT (s := s.setVm s.vm) hZ (wd hw 269 rfl)) (notFace_of_selects (args := #[]) (mvT (s := s.setVm s.vm) hZ (wd hw 271 rfl))) (mvT (s := s.setVm s.vm) hZ (wd hw 271 rfl)) (mvT (s := s.setVm s.vm) hZ (wd hw 270 rfl)) (by decide) (backOf (W := 0) (rm46_7 l Z a0 hw [] cz dg fm o v0 v1 v2 v3 v4 v5 v6 v7 h0 n0 O0 P F0 F1 F2 F3 F4 F5 F6 F7 E_o go) hZ (wd hw 272 rfl) (wd hw 2 rfl) (by decide) (by decide)) q1a q1c (g := (mkF m 80 #[lI p0, lR o, lU, lU, lU, lU, lU, lU, lU, lU, lU, lU] [(.ref o)])) rfl (by rw [hml]; rfl) (Steps.refl _) (argsL := []) (rest := []) (lenOf pd_0 rfl) rfl (lz rfl) (hb hby at_80) (fun _ _ => ⟨rfl, e0, (by decide : 1 + 0 ≤ _), (by decide : 8 + 0 ≤ _)⟩)
   dsimp only [Pt.U, Pt.locs, Pt.cells, Pt.slots] at X1 l1 y1 z1 st1 hQ1
   subst y1 z1
   obtain ⟨rfl, N1q, K1, q1_0, q1_1, q1_2, q1_3, q1_4, q1_5, q1_6, q1_7⟩ := hQ1
   have N1 : Fr n0 L1 := by rw [l1]; exact Fr.app N0 N1q
   have f3 := (E_o.keep K1)
   refine ⟨T1, T1.heap, _, (v5 + (1 : Int32)), X1, rfl, K1, N1, own_in q, f3, q1_0, q1_1, q1_2, q1_3, q1_4, q1_5, q1_6, q1_7, fun target kt => ?_⟩
   show SH T0 72 #[lI p0, lR o, lU, lU, lU, lU, lU, lU, lU, lU, lU, lU] []
   refine XS.iloadN X0.here hx rfl (hb hby at_72) rfl ?_
   show SH T0 73 #[lI p0, lR o, lU, lU, lU, lU, lU, lU, lU, lU, lU, lU] [(.int p0)]
   refine XS.bipush X0.here hx rfl (hb hby at_73) ?_
   show SH T0 75 #[lI p0, lR o, lU, lU, lU, lU, lU, lU, lU, lU, lU, lU] [(vI 32), (.int p0)]
   refine XS.iand X0.here hx rfl (hb hby at_75) rfl ?_
   show SH T0 76 #[lI p0, lR o, lU, lU, lU, lU, lU, lU, lU, lU, lU, lU] [(.int (p0 &&& (32 : Int32)))]
   refine XS.ifNo X0.here hx rfl (hb hby at_76) rfl ((if0 _ _).trans (feq q).1) ?_
   show SH T0 79 #[lI p0, lR o, lU, lU, lU, lU, lU, lU, lU, lU, lU, lU] []
   refine XS.aloadN X0.here hx rfl (hb hby at_79) rfl rfl ?_
   show SH T0 80 #[lI p0, lR o, lU, lU, lU, lU, lU, lU, lU, lU, lU, lU] [(.ref o)]
   refine st1.trans ?_
   exact kt
theorem d47_0 : decode K47 0 = .ok (.aload_n 0, 1) := by decide +kernel
theorem d47_1 : decode K47 1 = .ok (.dup, 1) := by decide +kernel
theorem d47_2 : decode K47 2 = .ok (.getfield 28, 3) := by decide +kernel
theorem d47_5 : decode K47 5 = .ok (.iconst 1, 1) := by decide +kernel
theorem d47_6 : decode K47 6 = .ok (.iadd, 1) := by decide +kernel
theorem d47_7 : decode K47 7 = .ok (.putfield 28, 3) := by decide +kernel
theorem d47_10 : decode K47 10 = .ok (.return_, 1) := by decide +kernel
theorem ef_47_R (m : MethodId) (x0 : Addr) : entryFrame m #[(.ref x0)] 1 = mkF m 0 #[.val (.ref x0)] [] := by first | (simp [entryFrame, mkF, argsToLocals, Value.category]; done) | rfl
def Qrm47_8 (Z : State) (x1 : Addr) (i2 : Int32) (i3 : Int32) (i4 : Int32) (i5 : Int32) (i6 : Int32) (i7 : Int32) (i8 : Int32) (i9 : Int32) (h0 : Heap) (n0 : Nat) (v : Option Value) (h : Heap) (L : List Loc) : Prop := v = none ∧ Fr n0 L ∧ Keep h0 h [x1] ∧ iF Z h x1 "groups" i2 ∧ iF Z h x1 "users" i3 ∧ iF Z h x1 "projects" i4 ∧ iF Z h x1 "projectShares" i5 ∧ iF Z h x1 "documents" i6 ∧ iF Z h x1 "documentShares" i7 ∧ iF Z h x1 "versions" (i8 + (1 : Int32)) ∧ iF Z h x1 "comments" i9
theorem rm47_8 (l : Launch) (Z : State) (a0 : Array Value) (hw : HW Z a0) (ws : List Jvm.Cond) (cz : Int32) (dg : Addr) (fm : Value) (x1 : Addr) (i2 : Int32) (i3 : Int32) (i4 : Int32) (i5 : Int32) (i6 : Int32) (i7 : Int32) (i8 : Int32) (i9 : Int32) (h0 : Heap) (n0 : Nat) (O0 : Old Z n0 h0) (P : Pins Z cz dg fm) (F_x1_groups : iF Z h0 x1 "groups" i2) (F_x1_users : iF Z h0 x1 "users" i3) (F_x1_projects : iF Z h0 x1 "projects" i4) (F_x1_projectShares : iF Z h0 x1 "projectShares" i5) (F_x1_documents : iF Z h0 x1 "documents" i6) (F_x1_documentShares : iF Z h0 x1 "documentShares" i7) (F_x1_versions : iF Z h0 x1 "versions" i8) (F_x1_comments : iF Z h0 x1 "comments" i9) (E_x1 : Exa Z h0 x1 sI) (g_x1 : n0 ≤ x1) :
   Ctr l M7 (Jvm.Cond.code M7 prog_21_method_8_code 1 none :: ws) (rO 0 0 0 0) Z h0 #[(.ref x1)] (Qrm47_8 Z x1 i2 i3 i4 i5 i6 i7 i8 i9 h0 n0) := by
 refine own_body (own := sI) rfl (plainFor_of_name pN1) O0 (fun m => ef_47_R m x1) ?_
 intro p e s m below meth c s₁ Bd hZ hx hby hml hown X0 e0 Z0
 have N0 := Fr.nil n0
 have Kr : Keep h0 h0 [x1] := Keep.refl h0 _
 obtain ⟨T1, X1, e1, st1⟩ := getF X0 hx hZ hown (host := "") (Or.inl (wd hw 196 rfl)) Via.refl e0 F_x1_versions (g := (mkF m 2 #[lR x1] [(.ref x1), (.ref x1)])) rfl rfl (hb hby d47_2)
 obtain ⟨T2, h2, X2, e2, W2, st2⟩ := putF X1 hx hZ hown (host := "") (Or.inl (wd hw 196 rfl)) Via.refl e1 F_x1_versions E_x1 (Or.inl (wd hw 197 rfl)) (wd hw 1 rfl) (ty := .int) (by decide) rfl rfl (g := (mkF m 7 #[lR x1] [(.int (i8 + (1 : Int32))), (.ref x1)])) rfl rfl (hb hby d47_7)
 have Ks3 := Kr.wr W2 (Or.inl (mg 0 rfl))
 have Fw2 := Fld.same W2 F_x1_versions
 have N2 := Fr.snoc X2 N0 g_x1
 have f4 := (Fld.other W2 F_x1_groups (Or.inr (slot_ne (Or.inl (wd hw 35 rfl)) (Or.inl (wd hw 197 rfl)) (by decide) (t := .int) (t' := .int) (by decide) (by decide))))
 have f5 := (Fld.other W2 F_x1_users (Or.inr (slot_ne (Or.inl (wd hw 164 rfl)) (Or.inl (wd hw 197 rfl)) (by decide) (t := .int) (t' := .int) (by decide) (by decide))))
 have f6 := (Fld.other W2 F_x1_projects (Or.inr (slot_ne (Or.inl (wd hw 184 rfl)) (Or.inl (wd hw 197 rfl)) (by decide) (t := .int) (t' := .int) (by decide) (by decide))))
 have f7 := (Fld.other W2 F_x1_projectShares (Or.inr (slot_ne (Or.inl (wd hw 188 rfl)) (Or.inl (wd hw 197 rfl)) (by decide) (t := .int) (t' := .int) (by decide) (by decide))))
 have f8 := (Fld.other W2 F_x1_documents (Or.inr (slot_ne (Or.inl (wd hw 191 rfl)) (Or.inl (wd hw 197 rfl)) (by decide) (t := .int) (t' := .int) (by decide) (by decide))))
 have f9 := (Fld.other W2 F_x1_documentShares (Or.inr (slot_ne (Or.inl (wd hw 194 rfl)) (Or.inl (wd hw 197 rfl)) (by decide) (t := .int) (t' := .int) (by decide) (by decide))))
 have f10 := (Fld.other W2 F_x1_comments (Or.inr (slot_ne (Or.inl (wd hw 201 rfl)) (Or.inl (wd hw 197 rfl)) (by decide) (t := .int) (t' := .int) (by decide) (by decide))))
 obtain ⟨fs, hr, hrun, hended, hW, hsame⟩ := X2.leave (v := none) (fun _ => rfl)
 refine ⟨_, _, ?_, hrun, hended, _, _, rfl, ?_, ⟨_, rfl⟩, hW, hsame.mono (by decide) (by decide)⟩
 · show SH s₁ 0 #[lR x1] []
   refine XS.aloadN X0.here hx rfl (hb hby d47_0) rfl rfl ?_
   show SH s₁ 1 #[lR x1] [(.ref x1)]
   refine XS.dup X0.here hx rfl (hb hby d47_1) rfl rfl ?_
   show SH s₁ 2 #[lR x1] [(.ref x1), (.ref x1)]
   refine st1 _ ?_
   show SH T1 5 #[lR x1] [(.int i8), (.ref x1)]
   refine XS.iconst X1.here hx rfl (hb hby d47_5) ?_
   show SH T1 6 #[lR x1] [(vI 1), (.int i8), (.ref x1)]
   refine XS.iadd X1.here hx rfl (hb hby d47_6) rfl ?_
   show SH T1 7 #[lR x1] [(.int (i8 + (1 : Int32))), (.ref x1)]
   refine st2 _ ?_
   show SH T2 10 #[lR x1] []
   exact X2.returnOut hx Bd.returns (hb hby d47_10) hr
 · show Qrm47_8 Z x1 i2 i3 i4 i5 i6 i7 i8 i9 h0 n0 _ T2.heap _
   rw [e2]
   exact ⟨rfl, N2, Ks3, f4, f5, f6, f7, f8, f9, Fw2, f10⟩
theorem sg_83 {p : Program} {l : Launch} {e : Env} {s : State} {m : MethodId} {args : Array Value} {below : List Frame} {meth : Method} {c : Code} {T0 : State} {locs : List Loc} {Z : State} {a0 : Array Value} {h0 : Heap} {n0 : Nat} {cz : Int32} {dg : Addr} {fm : Value} (p0 : Int32) (o : Addr) (v0 v1 v2 v3 v4 v5 v6 v7 : Int32)
   (X0 : Stand p l e room_1 (s.setVm s.vm) m args below meth c T0 locs 1 8) (hx : p.tables.exec = Jvm.exec) (hZ : Z.Warmed39 s.vm) (hw : HW Z a0) (hby : c.code = code) (hml : c.maxLocals = 12) (hown : s.vm.findClass sL = some m.cls) (e0 : T0.heap = h0) (O0 : Old Z n0 h0) (P : Pins Z cz dg fm) (N0 : Fr n0 locs) (go : n0 ≤ o) (E_o : Exa Z h0 o sI) (F0 : iF Z h0 o "groups" v0) (F1 : iF Z h0 o "users" v1) (F2 : iF Z h0 o "projects" v2) (F3 : iF Z h0 o "projectShares" v3) (F4 : iF Z h0 o "documents" v4) (F5 : iF Z h0 o "documentShares" v5) (F6 : iF Z h0 o "versions" v6) (F7 : iF Z h0 o "comments" v7) :
   ∃ (T' : State) (h' : Heap) (locs' : List Loc) (v' : Int32), Stand p l e room_1 (s.setVm s.vm) m args below meth c T' locs' 1 8 ∧ T'.heap = h' ∧ Keep h0 h' [o] ∧ Fr n0 locs' ∧ v' = inc1 p0 (64 : Int32) v6 ∧ Exa Z h' o sI ∧ iF Z h' o "groups" v0 ∧ iF Z h' o "users" v1 ∧ iF Z h' o "projects" v2 ∧ iF Z h' o "projectShares" v3 ∧ iF Z h' o "documents" v4 ∧ iF Z h' o "documentShares" v5 ∧ iF Z h' o "versions" v' ∧ iF Z h' o "comments" v7 ∧
     ∀ target, SG p e below T' m 94 #[lI p0, lR o, lU, lU, lU, lU, lU, lU, lU, lU, lU, lU] [] target → SG p e below T0 m 83 #[lI p0, lR o, lU, lU, lU, lU, lU, lU, lU, lU, lU, lU] [] target := by
 have Kr : Keep h0 h0 [o] := Keep.refl h0 _
 have Z0 : n0 ≤ h0.size := O0.1 ▸ O0.2.1
 by_cases q : (p0 &&& (64 : Int32)) = (0 : Int32)
 · refine ⟨T0, h0, locs, v6, X0, e0, Keep.refl h0 _, N0, own_iy q, E_o, F0, F1, F2, F3, F4, F5, F6, F7, fun target kt => ?_⟩
   show SH T0 83 #[lI p0, lR o, lU, lU, lU, lU, lU, lU, lU, lU, lU, lU] []
   refine XS.iloadN X0.here hx rfl (hb hby at_83) rfl ?_
   show SH T0 84 #[lI p0, lR o, lU, lU, lU, lU, lU, lU, lU, lU, lU, lU] [(.int p0)]
   refine XS.bipush X0.here hx rfl (hb hby at_84) ?_
   show SH T0 86 #[lI p0, lR o, lU, lU, lU, lU, lU, lU, lU, lU, lU, lU] [(vI 64), (.int p0)]
   refine XS.iand X0.here hx rfl (hb hby at_86) rfl ?_
   show SH T0 87 #[lI p0, lR o, lU, lU, lU, lU, lU, lU, lU, lU, lU, lU] [(.int (p0 &&& (64 : Int32)))]
   refine XS.ifYes X0.here hx rfl (pc0 := 87) (pc' := 94) rfl (hb hby at_87) rfl ((if0 _ _).trans (teq q).1) (by decide) (by decide) ?_
   exact kt
 · obtain ⟨cq1, kq1, q1a, q1b, q1c⟩ := isOf hZ e0 E_o
   obtain ⟨_, _, ⟨T1, L1, k1, n1⟩, -, X1, ⟨Lc1, hQ1, l1, y1, z1⟩, st1⟩ := X0.virtualBack hx (y := M7) (z := M7) hown (mvT (s := s.setVm s.vm) hZ (wd hw 273 rfl)) (mvT (s := s.setVm s.vm) hZ (wd hw 274 rfl)) (notFace_of_selects (args := #[]) (mvT (s := s.setVm s.vm) hZ (wd hw 276 rfl))) (mvT (s := s.setVm s.vm) hZ (wd hw 276 rfl)) (mvT (s := s.setVm s.vm) hZ (wd hw 275 rfl)) (by decide) (backOf (W := 0) (rm47_8 l Z a0 hw [] cz dg fm o v0 v1 v2 v3 v4 v5 v6 v7 h0 n0 O0 P F0 F1 F2 F3 F4 F5 F6 F7 E_o go) hZ (wd hw 277 rfl) (wd hw 2 rfl) (by decide) (by decide)) q1a q1c (g := (mkF m 91 #[lI p0, lR o, lU, lU, lU, lU, lU, lU, lU, lU, lU, lU] [(.ref o)])) rfl (by rw [hml]; rfl) (Steps.refl _) (argsL := []) (rest := []) (lenOf pd_0 rfl) rfl (lz rfl) (hb hby at_91) (fun _ _ => ⟨rfl, e0, (by decide : 1 + 0 ≤ _), (by decide : 8 + 0 ≤ _)⟩)
   dsimp only [Pt.U, Pt.locs, Pt.cells, Pt.slots] at X1 l1 y1 z1 st1 hQ1
   subst y1 z1
   obtain ⟨rfl, N1q, K1, q1_0, q1_1, q1_2, q1_3, q1_4, q1_5, q1_6, q1_7⟩ := hQ1
   have N1 : Fr n0 L1 := by rw [l1]; exact Fr.app N0 N1q
   have f3 := (E_o.keep K1)
   refine ⟨T1, T1.heap, _, (v6 + (1 : Int32)), X1, rfl, K1, N1, own_in q, f3, q1_0, q1_1, q1_2, q1_3, q1_4, q1_5, q1_6, q1_7, fun target kt => ?_⟩
   show SH T0 83 #[lI p0, lR o, lU, lU, lU, lU, lU, lU, lU, lU, lU, lU] []
   refine XS.iloadN X0.here hx rfl (hb hby at_83) rfl ?_
   show SH T0 84 #[lI p0, lR o, lU, lU, lU, lU, lU, lU, lU, lU, lU, lU] [(.int p0)]
   refine XS.bipush X0.here hx rfl (hb hby at_84) ?_
   show SH T0 86 #[lI p0, lR o, lU, lU, lU, lU, lU, lU, lU, lU, lU, lU] [(vI 64), (.int p0)]
   refine XS.iand X0.here hx rfl (hb hby at_86) rfl ?_
   show SH T0 87 #[lI p0, lR o, lU, lU, lU, lU, lU, lU, lU, lU, lU, lU] [(.int (p0 &&& (64 : Int32)))]
   refine XS.ifNo X0.here hx rfl (hb hby at_87) rfl ((if0 _ _).trans (feq q).1) ?_
   show SH T0 90 #[lI p0, lR o, lU, lU, lU, lU, lU, lU, lU, lU, lU, lU] []
   refine XS.aloadN X0.here hx rfl (hb hby at_90) rfl rfl ?_
   show SH T0 91 #[lI p0, lR o, lU, lU, lU, lU, lU, lU, lU, lU, lU, lU] [(.ref o)]
   refine st1.trans ?_
   exact kt
theorem d48_0 : decode K48 0 = .ok (.aload_n 0, 1) := by decide +kernel
theorem d48_1 : decode K48 1 = .ok (.dup, 1) := by decide +kernel
theorem d48_2 : decode K48 2 = .ok (.getfield 31, 3) := by decide +kernel
theorem d48_5 : decode K48 5 = .ok (.iconst 1, 1) := by decide +kernel
theorem d48_6 : decode K48 6 = .ok (.iadd, 1) := by decide +kernel
theorem d48_7 : decode K48 7 = .ok (.putfield 31, 3) := by decide +kernel
theorem d48_10 : decode K48 10 = .ok (.return_, 1) := by decide +kernel
theorem ef_48_R (m : MethodId) (x0 : Addr) : entryFrame m #[(.ref x0)] 1 = mkF m 0 #[.val (.ref x0)] [] := by first | (simp [entryFrame, mkF, argsToLocals, Value.category]; done) | rfl
def Qrm48_9 (Z : State) (x1 : Addr) (i2 : Int32) (i3 : Int32) (i4 : Int32) (i5 : Int32) (i6 : Int32) (i7 : Int32) (i8 : Int32) (i9 : Int32) (h0 : Heap) (n0 : Nat) (v : Option Value) (h : Heap) (L : List Loc) : Prop := v = none ∧ Fr n0 L ∧ Keep h0 h [x1] ∧ iF Z h x1 "groups" i2 ∧ iF Z h x1 "users" i3 ∧ iF Z h x1 "projects" i4 ∧ iF Z h x1 "projectShares" i5 ∧ iF Z h x1 "documents" i6 ∧ iF Z h x1 "documentShares" i7 ∧ iF Z h x1 "versions" i8 ∧ iF Z h x1 "comments" (i9 + (1 : Int32))
theorem rm48_9 (l : Launch) (Z : State) (a0 : Array Value) (hw : HW Z a0) (ws : List Jvm.Cond) (cz : Int32) (dg : Addr) (fm : Value) (x1 : Addr) (i2 : Int32) (i3 : Int32) (i4 : Int32) (i5 : Int32) (i6 : Int32) (i7 : Int32) (i8 : Int32) (i9 : Int32) (h0 : Heap) (n0 : Nat) (O0 : Old Z n0 h0) (P : Pins Z cz dg fm) (F_x1_groups : iF Z h0 x1 "groups" i2) (F_x1_users : iF Z h0 x1 "users" i3) (F_x1_projects : iF Z h0 x1 "projects" i4) (F_x1_projectShares : iF Z h0 x1 "projectShares" i5) (F_x1_documents : iF Z h0 x1 "documents" i6) (F_x1_documentShares : iF Z h0 x1 "documentShares" i7) (F_x1_versions : iF Z h0 x1 "versions" i8) (F_x1_comments : iF Z h0 x1 "comments" i9) (E_x1 : Exa Z h0 x1 sI) (g_x1 : n0 ≤ x1) :
   Ctr l M8 (Jvm.Cond.code M8 prog_21_method_9_code 1 none :: ws) (rO 0 0 0 0) Z h0 #[(.ref x1)] (Qrm48_9 Z x1 i2 i3 i4 i5 i6 i7 i8 i9 h0 n0) := by
 refine own_body (own := sI) rfl (plainFor_of_name pN1) O0 (fun m => ef_48_R m x1) ?_
 intro p e s m below meth c s₁ Bd hZ hx hby hml hown X0 e0 Z0
 have N0 := Fr.nil n0
 have Kr : Keep h0 h0 [x1] := Keep.refl h0 _
 obtain ⟨T1, X1, e1, st1⟩ := getF X0 hx hZ hown (host := "") (Or.inl (wd hw 200 rfl)) Via.refl e0 F_x1_comments (g := (mkF m 2 #[lR x1] [(.ref x1), (.ref x1)])) rfl rfl (hb hby d48_2)
 obtain ⟨T2, h2, X2, e2, W2, st2⟩ := putF X1 hx hZ hown (host := "") (Or.inl (wd hw 200 rfl)) Via.refl e1 F_x1_comments E_x1 (Or.inl (wd hw 201 rfl)) (wd hw 1 rfl) (ty := .int) (by decide) rfl rfl (g := (mkF m 7 #[lR x1] [(.int (i9 + (1 : Int32))), (.ref x1)])) rfl rfl (hb hby d48_7)
 have Ks3 := Kr.wr W2 (Or.inl (mg 0 rfl))
 have Fw2 := Fld.same W2 F_x1_comments
 have N2 := Fr.snoc X2 N0 g_x1
 have f4 := (Fld.other W2 F_x1_groups (Or.inr (slot_ne (Or.inl (wd hw 35 rfl)) (Or.inl (wd hw 201 rfl)) (by decide) (t := .int) (t' := .int) (by decide) (by decide))))
 have f5 := (Fld.other W2 F_x1_users (Or.inr (slot_ne (Or.inl (wd hw 164 rfl)) (Or.inl (wd hw 201 rfl)) (by decide) (t := .int) (t' := .int) (by decide) (by decide))))
 have f6 := (Fld.other W2 F_x1_projects (Or.inr (slot_ne (Or.inl (wd hw 184 rfl)) (Or.inl (wd hw 201 rfl)) (by decide) (t := .int) (t' := .int) (by decide) (by decide))))
 have f7 := (Fld.other W2 F_x1_projectShares (Or.inr (slot_ne (Or.inl (wd hw 188 rfl)) (Or.inl (wd hw 201 rfl)) (by decide) (t := .int) (t' := .int) (by decide) (by decide))))
 have f8 := (Fld.other W2 F_x1_documents (Or.inr (slot_ne (Or.inl (wd hw 191 rfl)) (Or.inl (wd hw 201 rfl)) (by decide) (t := .int) (t' := .int) (by decide) (by decide))))
 have f9 := (Fld.other W2 F_x1_documentShares (Or.inr (slot_ne (Or.inl (wd hw 194 rfl)) (Or.inl (wd hw 201 rfl)) (by decide) (t := .int) (t' := .int) (by decide) (by decide))))
 have f10 := (Fld.other W2 F_x1_versions (Or.inr (slot_ne (Or.inl (wd hw 197 rfl)) (Or.inl (wd hw 201 rfl)) (by decide) (t := .int) (t' := .int) (by decide) (by decide))))
 obtain ⟨fs, hr, hrun, hended, hW, hsame⟩ := X2.leave (v := none) (fun _ => rfl)
 refine ⟨_, _, ?_, hrun, hended, _, _, rfl, ?_, ⟨_, rfl⟩, hW, hsame.mono (by decide) (by decide)⟩
 · show SH s₁ 0 #[lR x1] []
   refine XS.aloadN X0.here hx rfl (hb hby d48_0) rfl rfl ?_
   show SH s₁ 1 #[lR x1] [(.ref x1)]
   refine XS.dup X0.here hx rfl (hb hby d48_1) rfl rfl ?_
   show SH s₁ 2 #[lR x1] [(.ref x1), (.ref x1)]
   refine st1 _ ?_
   show SH T1 5 #[lR x1] [(.int i9), (.ref x1)]
   refine XS.iconst X1.here hx rfl (hb hby d48_5) ?_
   show SH T1 6 #[lR x1] [(vI 1), (.int i9), (.ref x1)]
   refine XS.iadd X1.here hx rfl (hb hby d48_6) rfl ?_
   show SH T1 7 #[lR x1] [(.int (i9 + (1 : Int32))), (.ref x1)]
   refine st2 _ ?_
   show SH T2 10 #[lR x1] []
   exact X2.returnOut hx Bd.returns (hb hby d48_10) hr
 · show Qrm48_9 Z x1 i2 i3 i4 i5 i6 i7 i8 i9 h0 n0 _ T2.heap _
   rw [e2]
   exact ⟨rfl, N2, Ks3, f4, f5, f6, f7, f8, f9, f10, Fw2⟩
theorem sg_94 {p : Program} {l : Launch} {e : Env} {s : State} {m : MethodId} {args : Array Value} {below : List Frame} {meth : Method} {c : Code} {T0 : State} {locs : List Loc} {Z : State} {a0 : Array Value} {h0 : Heap} {n0 : Nat} {cz : Int32} {dg : Addr} {fm : Value} (p0 : Int32) (o : Addr) (v0 v1 v2 v3 v4 v5 v6 v7 : Int32)
   (X0 : Stand p l e room_1 (s.setVm s.vm) m args below meth c T0 locs 1 8) (hx : p.tables.exec = Jvm.exec) (hZ : Z.Warmed39 s.vm) (hw : HW Z a0) (hby : c.code = code) (hml : c.maxLocals = 12) (hown : s.vm.findClass sL = some m.cls) (e0 : T0.heap = h0) (O0 : Old Z n0 h0) (P : Pins Z cz dg fm) (N0 : Fr n0 locs) (go : n0 ≤ o) (E_o : Exa Z h0 o sI) (F0 : iF Z h0 o "groups" v0) (F1 : iF Z h0 o "users" v1) (F2 : iF Z h0 o "projects" v2) (F3 : iF Z h0 o "projectShares" v3) (F4 : iF Z h0 o "documents" v4) (F5 : iF Z h0 o "documentShares" v5) (F6 : iF Z h0 o "versions" v6) (F7 : iF Z h0 o "comments" v7) :
   ∃ (T' : State) (h' : Heap) (locs' : List Loc) (v' : Int32), Stand p l e room_1 (s.setVm s.vm) m args below meth c T' locs' 1 8 ∧ T'.heap = h' ∧ Keep h0 h' [o] ∧ Fr n0 locs' ∧ v' = inc1 p0 (128 : Int32) v7 ∧ Exa Z h' o sI ∧ iF Z h' o "groups" v0 ∧ iF Z h' o "users" v1 ∧ iF Z h' o "projects" v2 ∧ iF Z h' o "projectShares" v3 ∧ iF Z h' o "documents" v4 ∧ iF Z h' o "documentShares" v5 ∧ iF Z h' o "versions" v6 ∧ iF Z h' o "comments" v' ∧
     ∀ target, SG p e below T' m 106 #[lI p0, lR o, lU, lU, lU, lU, lU, lU, lU, lU, lU, lU] [] target → SG p e below T0 m 94 #[lI p0, lR o, lU, lU, lU, lU, lU, lU, lU, lU, lU, lU] [] target := by
 have Kr : Keep h0 h0 [o] := Keep.refl h0 _
 have Z0 : n0 ≤ h0.size := O0.1 ▸ O0.2.1
 by_cases q : (p0 &&& (128 : Int32)) = (0 : Int32)
 · refine ⟨T0, h0, locs, v7, X0, e0, Keep.refl h0 _, N0, own_iy q, E_o, F0, F1, F2, F3, F4, F5, F6, F7, fun target kt => ?_⟩
   show SH T0 94 #[lI p0, lR o, lU, lU, lU, lU, lU, lU, lU, lU, lU, lU] []
   refine XS.iloadN X0.here hx rfl (hb hby at_94) rfl ?_
   show SH T0 95 #[lI p0, lR o, lU, lU, lU, lU, lU, lU, lU, lU, lU, lU] [(.int p0)]
   refine XS.sipush X0.here hx rfl (hb hby at_95) ?_
   show SH T0 98 #[lI p0, lR o, lU, lU, lU, lU, lU, lU, lU, lU, lU, lU] [(vI 128), (.int p0)]
   refine XS.iand X0.here hx rfl (hb hby at_98) rfl ?_
   show SH T0 99 #[lI p0, lR o, lU, lU, lU, lU, lU, lU, lU, lU, lU, lU] [(.int (p0 &&& (128 : Int32)))]
   refine XS.ifYes X0.here hx rfl (pc0 := 99) (pc' := 106) rfl (hb hby at_99) rfl ((if0 _ _).trans (teq q).1) (by decide) (by decide) ?_
   exact kt
 · obtain ⟨cq1, kq1, q1a, q1b, q1c⟩ := isOf hZ e0 E_o
   obtain ⟨_, _, ⟨T1, L1, k1, n1⟩, -, X1, ⟨Lc1, hQ1, l1, y1, z1⟩, st1⟩ := X0.virtualBack hx (y := M8) (z := M8) hown (mvT (s := s.setVm s.vm) hZ (wd hw 278 rfl)) (mvT (s := s.setVm s.vm) hZ (wd hw 279 rfl)) (notFace_of_selects (args := #[]) (mvT (s := s.setVm s.vm) hZ (wd hw 281 rfl))) (mvT (s := s.setVm s.vm) hZ (wd hw 281 rfl)) (mvT (s := s.setVm s.vm) hZ (wd hw 280 rfl)) (by decide) (backOf (W := 0) (rm48_9 l Z a0 hw [] cz dg fm o v0 v1 v2 v3 v4 v5 v6 v7 h0 n0 O0 P F0 F1 F2 F3 F4 F5 F6 F7 E_o go) hZ (wd hw 282 rfl) (wd hw 2 rfl) (by decide) (by decide)) q1a q1c (g := (mkF m 103 #[lI p0, lR o, lU, lU, lU, lU, lU, lU, lU, lU, lU, lU] [(.ref o)])) rfl (by rw [hml]; rfl) (Steps.refl _) (argsL := []) (rest := []) (lenOf pd_0 rfl) rfl (lz rfl) (hb hby at_103) (fun _ _ => ⟨rfl, e0, (by decide : 1 + 0 ≤ _), (by decide : 8 + 0 ≤ _)⟩)
   dsimp only [Pt.U, Pt.locs, Pt.cells, Pt.slots] at X1 l1 y1 z1 st1 hQ1
   subst y1 z1
   obtain ⟨rfl, N1q, K1, q1_0, q1_1, q1_2, q1_3, q1_4, q1_5, q1_6, q1_7⟩ := hQ1
   have N1 : Fr n0 L1 := by rw [l1]; exact Fr.app N0 N1q
   have f3 := (E_o.keep K1)
   refine ⟨T1, T1.heap, _, (v7 + (1 : Int32)), X1, rfl, K1, N1, own_in q, f3, q1_0, q1_1, q1_2, q1_3, q1_4, q1_5, q1_6, q1_7, fun target kt => ?_⟩
   show SH T0 94 #[lI p0, lR o, lU, lU, lU, lU, lU, lU, lU, lU, lU, lU] []
   refine XS.iloadN X0.here hx rfl (hb hby at_94) rfl ?_
   show SH T0 95 #[lI p0, lR o, lU, lU, lU, lU, lU, lU, lU, lU, lU, lU] [(.int p0)]
   refine XS.sipush X0.here hx rfl (hb hby at_95) ?_
   show SH T0 98 #[lI p0, lR o, lU, lU, lU, lU, lU, lU, lU, lU, lU, lU] [(vI 128), (.int p0)]
   refine XS.iand X0.here hx rfl (hb hby at_98) rfl ?_
   show SH T0 99 #[lI p0, lR o, lU, lU, lU, lU, lU, lU, lU, lU, lU, lU] [(.int (p0 &&& (128 : Int32)))]
   refine XS.ifNo X0.here hx rfl (hb hby at_99) rfl ((if0 _ _).trans (feq q).1) ?_
   show SH T0 102 #[lI p0, lR o, lU, lU, lU, lU, lU, lU, lU, lU, lU, lU] []
   refine XS.aloadN X0.here hx rfl (hb hby at_102) rfl rfl ?_
   show SH T0 103 #[lI p0, lR o, lU, lU, lU, lU, lU, lU, lU, lU, lU, lU] [(.ref o)]
   refine st1.trans ?_
   exact kt
theorem d3_0 : decode K3 0 = .ok (.new 34, 3) := by decide +kernel
theorem d3_3 : decode K3 3 = .ok (.dup, 1) := by decide +kernel
theorem d3_4 : decode K3 4 = .ok (.invokespecial 36, 3) := by decide +kernel
theorem d4_0 : decode K4 0 = .ok (.aload_n 0, 1) := by decide +kernel
theorem d4_1 : decode K4 1 = .ok (.bipush 16, 2) := by decide +kernel
theorem d4_3 : decode K4 3 = .ok (.invokespecial 1, 3) := by decide +kernel
theorem d5_0 : decode K5 0 = .ok (.aload_n 0, 1) := by decide +kernel
theorem d5_1 : decode K5 1 = .ok (.invokespecial 3, 3) := by decide +kernel
theorem d5_4 : decode K5 4 = .ok (.getstatic 18, 3) := by decide +kernel
theorem d5_7 : decode K5 7 = .ok (.ifCond .eq 18, 3) := by decide +kernel
theorem d5_10 : decode K5 10 = .ok (.aload_n 0, 1) := by decide +kernel
theorem d5_11 : decode K5 11 = .ok (.iload_n 1, 1) := by decide +kernel
theorem d5_12 : decode K5 12 = .ok (.newarray .byte, 2) := by decide +kernel
theorem d5_14 : decode K5 14 = .ok (.putfield 15, 3) := by decide +kernel
theorem d5_17 : decode K5 17 = .ok (.aload_n 0, 1) := by decide +kernel
theorem d5_18 : decode K5 18 = .ok (.iconst 0, 1) := by decide +kernel
theorem d5_19 : decode K5 19 = .ok (.putfield 22, 3) := by decide +kernel
theorem d5_22 : decode K5 22 = .ok (.goto 16, 3) := by decide +kernel
theorem d5_38 : decode K5 38 = .ok (.return_, 1) := by decide +kernel
theorem ef_5_RI (m : MethodId) (x0 : Addr) (x1 : Int32) : entryFrame m #[(.ref x0), (.int x1)] 2 = mkF m 0 #[.val (.ref x0), .val (.int x1)] [] := by first | (simp [entryFrame, mkF, argsToLocals, Value.category]; done) | rfl
theorem pN3 : plainName sA = true := by first | (simp [plainName, overriddenIn]; done) | decide +kernel
def Qrm5_10 (Z : State) (x1 : Addr) (h0 : Heap) (n0 : Nat) (v : Option Value) (h : Heap) (L : List Loc) : Prop := ∃ y1 : Addr, ∃ k1_ : ClassId, v = none ∧ Fr n0 L ∧ Keep h0 h [x1] ∧ h0.size ≤ y1 ∧ aN Z h x1 0 ∧ aV Z h x1 y1 ∧ aC Z h x1 ∧ bA Z h y1 k1_ 16 []
theorem rm5_10 (l : Launch) (Z : State) (a0 : Array Value) (hw : HW Z a0) (ws : List Jvm.Cond) (cz : Int32) (dg : Addr) (fm : Value) (x1 : Addr) (h0 : Heap) (n0 : Nat) (O0 : Old Z n0 h0) (P : Pins Z cz dg fm) (F_x1_count : aN Z h0 x1 0) (E_x1 : Exa Z h0 x1 sB) (F_x1_value : Fld Z h0 x1 sA "value" "[B" .null) (g_x1 : n0 ≤ x1) (F_x1_coder : aC Z h0 x1) :
   Ctr l M9 (Jvm.Cond.code M9 jdk_68_method_2_code 2 none :: ws) (rO 1 1 16 12) Z h0 #[(.ref x1), (vI 16)] (Qrm5_10 Z x1 h0 n0) := by
 have S_compact : Sta Z Z.heap sS "COMPACT_STRINGS" "Z" (.int cz) := P.1
 have N_cz : ¬ cz = 0 := P.2.1
 refine own_body (own := sA) rfl (plainFor_of_name pN3) O0 (fun m => ef_5_RI m x1 (16 : Int32)) ?_
 intro p e s m below meth c s₁ Bd hZ hx hby hml hown X0 e0 Z0
 have N0 := Fr.nil n0
 have Kr : Keep h0 h0 [x1] := Keep.refl h0 _
 obtain ⟨T1, X1, e1, st1⟩ := initO X0 hx hZ hown (wd hw 26 rfl) (wd hw 7 rfl) (wd hw 8 rfl) e0 (g := (mkF m 1 #[lR x1, lI 16] [(.ref x1)])) rfl (by rw [hml]; rfl) rfl (hb hby d5_1) (by decide) (W := 0) (lz rfl) (by decide)
 obtain ⟨T2, X2, e2, st2⟩ := getS2 X1 hx hZ hown (host := "") (Or.inl (wd hw 27 rfl)) Via.refl e1 (S_compact.ext O0.2) (g := (mkF m 4 #[lR x1, lI 16] [])) rfl (hb hby d5_4)
 obtain ⟨T3, h3, k3, X3, e3, E3, A3, st3⟩ := newP X2 hx hZ (wd hw 29 rfl) e2 (g := (mkF m 12 #[lR x1, lI 16] [(vI 16), (.ref x1)])) rfl (hb hby d5_12) rfl (by decide) (cap := 16) (by decide) (by decide) (by decide) (by decide)
 obtain ⟨b3, g3⟩ : ∃ z, z = (h0).size := ⟨_, rfl⟩
 rw [← g3] at A3 st3
 have V3 : bA Z h3 b3 k3 16 [] := Arv.new A3 (by decide)
 have Ks4 := Kr.ext E3
 have f5 := (E_x1.ext E3)
 have f6 := (F_x1_value.ext E3)
 obtain ⟨T7, h7, X7, e7, W7, st7⟩ := putF X3 hx hZ hown (host := "") (Or.inl (wd hw 30 rfl)) Via.refl e3 f6 f5 (Or.inl (wd hw 31 rfl)) (wd hw 15 rfl) (ty := (.array .byte)) (by decide) rfl rfl (g := (mkF m 14 #[lR x1, lI 16] [(.ref b3), (.ref x1)])) rfl rfl (hb hby d5_14)
 have Ks8 := Ks4.wr W7 (Or.inl (mg 0 rfl))
 have Fw7 := Fld.same W7 f6
 have N7 := Fr.snoc X7 N0 g_x1
 have f9 := (Exa.wr W7 f5)
 have f10 := (Fld.other W7 (F_x1_coder.ext E3) (Or.inr (slot_ne (Or.inl (wd hw 33 rfl)) (Or.inl (wd hw 31 rfl)) (by decide) (t := .byte) (t' := (.array .byte)) (by decide) (by decide))))
 obtain ⟨T11, h11, X11, e11, W11, st11⟩ := putFN X7 hx hZ hown (wd hw 32 rfl) Via.refl e7 f10 f9 (Or.inl (wd hw 33 rfl)) (wd hw 15 rfl) (ty := .byte) (v' := (vI 0)) (by decide) (by decide) (by decide) (g := (mkF m 19 #[lR x1, lI 16] [(vI 0), (.ref x1)])) rfl rfl (hb hby d5_19)
 have Ks12 := Ks8.wr W11 (Or.inl (mg 0 rfl))
 have Fw11 := Fld.same W11 f10
 have N11 := Fr.snoc X11 N7 g_x1
 have f13 := (Fld.other W11 (Fld.other W7 (F_x1_count.ext E3) (Or.inr (slot_ne (Or.inl (wd hw 56 rfl)) (Or.inl (wd hw 31 rfl)) (by decide) (t := .int) (t' := (.array .byte)) (by decide) (by decide)))) (Or.inr (slot_ne (Or.inl (wd hw 56 rfl)) (Or.inl (wd hw 33 rfl)) (by decide) (t := .int) (t' := .byte) (by decide) (by decide))))
 have f14 := (Fld.other W11 Fw7 (Or.inr (slot_ne (Or.inl (wd hw 31 rfl)) (Or.inl (wd hw 33 rfl)) (by decide) (t := (.array .byte)) (t' := .byte) (by decide) (by decide))))
 have nz15 := (Nat.ne_of_lt (Nat.lt_of_lt_of_le (E_x1).lt (Nat.le_of_eq g3.symm)))
 have f16 := ((V3.other W7 (Ne.symm nz15)).other W11 (Ne.symm nz15))
 obtain ⟨fs, hr, hrun, hended, hW, hsame⟩ := X11.leave (v := none) (fun _ => rfl)
 refine ⟨_, _, ?_, hrun, hended, _, _, rfl, ?_, ⟨_, rfl⟩, hW, hsame.mono (by decide) (by decide)⟩
 · show SH s₁ 0 #[lR x1, lI 16] []
   refine XS.aloadN X0.here hx rfl (hb hby d5_0) rfl rfl ?_
   show SH s₁ 1 #[lR x1, lI 16] [(.ref x1)]
   refine st1 _ ?_
   show SH T1 4 #[lR x1, lI 16] []
   refine st2 _ ?_
   show SH T2 7 #[lR x1, lI 16] [(.int cz)]
   refine XS.ifNo X2.here hx rfl (hb hby d5_7) rfl ((if0 _ _).trans (feq N_cz).1) ?_
   show SH T2 10 #[lR x1, lI 16] []
   refine XS.aloadN X2.here hx rfl (hb hby d5_10) rfl rfl ?_
   show SH T2 11 #[lR x1, lI 16] [(.ref x1)]
   refine XS.iloadN X2.here hx rfl (hb hby d5_11) rfl ?_
   show SH T2 12 #[lR x1, lI 16] [(vI 16), (.ref x1)]
   refine st3 _ ?_
   show SH T3 14 #[lR x1, lI 16] [(.ref b3), (.ref x1)]
   refine st7 _ ?_
   show SH T7 17 #[lR x1, lI 16] []
   refine XS.aloadN X7.here hx rfl (hb hby d5_17) rfl rfl ?_
   show SH T7 18 #[lR x1, lI 16] [(.ref x1)]
   refine XS.iconst X7.here hx rfl (hb hby d5_18) ?_
   show SH T7 19 #[lR x1, lI 16] [(vI 0), (.ref x1)]
   refine st11 _ ?_
   show SH T11 22 #[lR x1, lI 16] []
   refine XS.goto X11.here hx rfl (pc0 := 22) (pc' := 38) rfl (hb hby d5_22) (by decide) (by decide) ?_
   show SH T11 38 #[lR x1, lI 16] []
   exact X11.returnOut hx Bd.returns (hb hby d5_38) hr
 · show Qrm5_10 Z x1 h0 n0 _ T11.heap _
   rw [e11]
   exact ⟨b3, k3, rfl, N11, Ks12, (Nat.le_trans Kr.1 (Nat.le_of_eq g3.symm)), f13, f14, Fw11, f16⟩
theorem pd_1 : parseMethodDescriptor "(I)V" = some ⟨[.int], none⟩ := by decide +kernel
theorem d4_6 : decode K4 6 = .ok (.return_, 1) := by decide +kernel
theorem ef_4_R (m : MethodId) (x0 : Addr) : entryFrame m #[(.ref x0)] 1 = mkF m 0 #[.val (.ref x0)] [] := by first | (simp [entryFrame, mkF, argsToLocals, Value.category]; done) | rfl
theorem pN5 : plainName sB = true := by first | (simp [plainName, overriddenIn]; done) | decide +kernel
def Qrm4_11 (Z : State) (x1 : Addr) (h0 : Heap) (n0 : Nat) (v : Option Value) (h : Heap) (L : List Loc) : Prop := ∃ y1 : Addr, ∃ k1_ : ClassId, v = none ∧ Fr n0 L ∧ Keep h0 h [x1] ∧ h0.size ≤ y1 ∧ aN Z h x1 0 ∧ aV Z h x1 y1 ∧ aC Z h x1 ∧ bA Z h y1 k1_ 16 []
theorem rm4_11 (l : Launch) (Z : State) (a0 : Array Value) (hw : HW Z a0) (ws : List Jvm.Cond) (cz : Int32) (dg : Addr) (fm : Value) (x1 : Addr) (h0 : Heap) (n0 : Nat) (O0 : Old Z n0 h0) (P : Pins Z cz dg fm) (F_x1_count : aN Z h0 x1 0) (E_x1 : Exa Z h0 x1 sB) (F_x1_value : Fld Z h0 x1 sA "value" "[B" .null) (g_x1 : n0 ≤ x1) (F_x1_coder : aC Z h0 x1) :
   Ctr l M10 (Jvm.Cond.code M10 jdk_67_method_1_code 1 none :: ws) (rO 2 1 16 25) Z h0 #[(.ref x1)] (Qrm4_11 Z x1 h0 n0) := by
 refine own_body (own := sB) rfl (plainFor_of_name pN5) O0 (fun m => ef_4_R m x1) ?_
 intro p e s m below meth c s₁ Bd hZ hx hby hml hown X0 e0 Z0
 have N0 := Fr.nil n0
 have Kr : Keep h0 h0 [x1] := Keep.refl h0 _
 obtain ⟨_, _, ⟨T1, L1, k1, n1⟩, -, X1, ⟨Lc1, hQ1, l1, y1, z1⟩, st1⟩ := X0.specialBack hx (y := M9) rfl hown (mvT hZ (wd hw 20 rfl)) (mvT hZ (wd hw 21 rfl)) (mvT hZ (wd hw 25 rfl)) (by decide) (backOf (W := 0) (rm5_10 l Z a0 hw [] cz dg fm x1 h0 n0 O0 P F_x1_count E_x1 F_x1_value g_x1 F_x1_coder) hZ (wd hw 25 rfl) (wd hw 24 rfl) (by decide) (by decide)) (g := (mkF m 3 #[lR x1] [(vI 16), (.ref x1)])) rfl (by rw [hml]; rfl) (Steps.refl _) (a := x1) (argsL := [(vI 16)]) (rest := []) (lenOf pd_1 rfl) rfl (lz rfl) (hb hby d4_3) (fun _ _ => ⟨rfl, e0, (by decide : 0 + 1 ≤ _), (by decide : 0 + 16 ≤ _)⟩)
 dsimp only [Pt.U, Pt.locs, Pt.cells, Pt.slots] at X1 l1 y1 z1 st1 hQ1
 subst y1 z1
 obtain ⟨b1_0, k1_0, rfl, N1q, K1, l1_0, q1_0, q1_1, q1_2, q1_3⟩ := hQ1
 have N1 : Fr n0 L1 := by rw [l1]; exact Fr.app N0 N1q
 have Ks2 := Kr.trans K1 (allS (Or.inl (mg 0 rfl)) all0)
 obtain ⟨fs, hr, hrun, hended, hW, hsame⟩ := X1.leave (v := none) (fun _ => rfl)
 refine ⟨_, _, ?_, hrun, hended, _, _, rfl, ?_, ⟨_, rfl⟩, hW, hsame.mono (by decide) (by decide)⟩
 · show SH s₁ 0 #[lR x1] []
   refine XS.aloadN X0.here hx rfl (hb hby d4_0) rfl rfl ?_
   show SH s₁ 1 #[lR x1] [(.ref x1)]
   refine XS.bipush X0.here hx rfl (hb hby d4_1) ?_
   show SH s₁ 3 #[lR x1] [(vI 16), (.ref x1)]
   refine st1.trans ?_
   show SH T1 6 #[lR x1] []
   exact X1.returnOut hx Bd.returns (hb hby d4_6) hr
 · show Qrm4_11 Z x1 h0 n0 _ T1.heap _
   exact ⟨b1_0, k1_0, rfl, N1, Ks2, (Nat.le_trans Kr.1 l1_0), q1_0, q1_1, q1_2, q1_3⟩
theorem d3_7 : decode K3 7 = .ok (.aload_n 0, 1) := by decide +kernel
theorem d3_8 : decode K3 8 = .ok (.getfield 7, 3) := by decide +kernel
theorem d3_11 : decode K3 11 = .ok (.ldc 37, 2) := by decide +kernel
theorem d3_13 : decode K3 13 = .ok (.invokestatic 39, 3) := by decide +kernel
def segc (n : Int32) (u : List Value) : List Value := .int ((48 : Int32) + n) :: .int (32 : Int32) :: (u ++ if n = (1 : Int32) then [] else [.int (115 : Int32)])
theorem own_sl (n : Int32) (u : List Value) : u.length + 2 ≤ (segc n u).length ∧ (segc n u).length ≤ u.length + 3 := by
 unfold segc; split <;> simp <;> omega
def QC (Z : State) (i1 : Int32) (u5 : List Value) (h0 : Heap) (n0 : Nat) (v : Option Value) (h : Heap) (L : List Loc) : Prop := ∃ y1 : Addr, ∃ y2 : Addr, ∃ k1_ : ClassId, ∃ n1 : Nat, ∃ w1 : List Value, w1 = segc i1 u5 ∧ w1.length = n1 ∧ u5.length + 2 ≤ n1 ∧ n1 ≤ u5.length + 3 ∧ v = some (.ref y1) ∧ Fr n0 L ∧ Keep h0 h [] ∧ h0.size ≤ y1 ∧ h0.size ≤ y2 ∧ Exa Z h y1 sS ∧ sC Z h y1 ∧ sV Z h y1 y2 ∧ bA Z h y2 k1_ (oN n1) w1
theorem own_sc {Z : State} {h : Heap} {b : Addr} {k : ClassId} {N : Nat} {i : Int32} {u W : List Value} {d : Value} (A : Arv Z h b k .byte (Int32.ofNat N) W d) (e : W = segc i u) (hn : W.length = N) : Arv Z h b k .byte (Int32.ofNat (segc i u).length) (segc i u) d := by
 subst e hn; exact A
theorem d6_0 : decode K6 0 = .ok (.new 34, 3) := by decide +kernel
theorem d6_3 : decode K6 3 = .ok (.dup, 1) := by decide +kernel
theorem d6_4 : decode K6 4 = .ok (.invokespecial 36, 3) := by decide +kernel
theorem d6_7 : decode K6 7 = .ok (.iload_n 0, 1) := by decide +kernel
theorem d6_8 : decode K6 8 = .ok (.invokevirtual 71, 3) := by decide +kernel
theorem d7_0 : decode K7 0 = .ok (.aload_n 0, 1) := by decide +kernel
theorem d7_1 : decode K7 1 = .ok (.iload_n 1, 1) := by decide +kernel
theorem d7_2 : decode K7 2 = .ok (.invokespecial 53, 3) := by decide +kernel
theorem d8_0 : decode K8 0 = .ok (.aload_n 0, 1) := by decide +kernel
theorem d8_1 : decode K8 1 = .ok (.getfield 79, 3) := by decide +kernel
theorem d8_4 : decode K8 4 = .ok (.istore_n 2, 1) := by decide +kernel
theorem d8_5 : decode K8 5 = .ok (.iload_n 2, 1) := by decide +kernel
theorem d8_6 : decode K8 6 = .ok (.iload_n 1, 1) := by decide +kernel
theorem d8_7 : decode K8 7 = .ok (.invokestatic 245, 3) := by decide +kernel
theorem d9_0 : decode K9 0 = .ok (.iconst 1, 1) := by decide +kernel
theorem d9_1 : decode K9 1 = .ok (.istore_n 1, 1) := by decide +kernel
theorem d9_2 : decode K9 2 = .ok (.iload_n 0, 1) := by decide +kernel
theorem d9_3 : decode K9 3 = .ok (.ifCond .lt 8, 3) := by decide +kernel
theorem d9_6 : decode K9 6 = .ok (.iconst 0, 1) := by decide +kernel
theorem d9_7 : decode K9 7 = .ok (.istore_n 1, 1) := by decide +kernel
theorem d9_8 : decode K9 8 = .ok (.iload_n 0, 1) := by decide +kernel
theorem d9_9 : decode K9 9 = .ok (.ineg, 1) := by decide +kernel
theorem d9_10 : decode K9 10 = .ok (.istore_n 0, 1) := by decide +kernel
theorem d9_11 : decode K9 11 = .ok (.bipush (-10), 2) := by decide +kernel
theorem d9_13 : decode K9 13 = .ok (.istore_n 2, 1) := by decide +kernel
theorem d9_14 : decode K9 14 = .ok (.iconst 1, 1) := by decide +kernel
theorem d9_15 : decode K9 15 = .ok (.istore_n 3, 1) := by decide +kernel
theorem d9_16 : decode K9 16 = .ok (.iload_n 3, 1) := by decide +kernel
theorem d9_17 : decode K9 17 = .ok (.bipush 10, 2) := by decide +kernel
theorem d9_19 : decode K9 19 = .ok (.if_icmp .ge 23, 3) := by decide +kernel
theorem d9_22 : decode K9 22 = .ok (.iload_n 0, 1) := by decide +kernel
theorem d9_23 : decode K9 23 = .ok (.iload_n 2, 1) := by decide +kernel
theorem d9_24 : decode K9 24 = .ok (.if_icmp .le 7, 3) := by decide +kernel
theorem d9_27 : decode K9 27 = .ok (.iload_n 3, 1) := by decide +kernel
theorem d9_28 : decode K9 28 = .ok (.iload_n 1, 1) := by decide +kernel
theorem d9_29 : decode K9 29 = .ok (.iadd, 1) := by decide +kernel
theorem d9_30 : decode K9 30 = .ok (.ireturn, 1) := by decide +kernel
theorem ef_9_I (m : MethodId) (x0 : Int32) : entryFrame m #[(.int x0)] 4 = mkF m 0 #[.val (.int x0), .unset, .unset, .unset] [] := by first | (simp [entryFrame, mkF, argsToLocals, Value.category]; done) | rfl
theorem pN7 : plainName sN = true := by first | (simp [plainName, overriddenIn]; done) | decide +kernel
def Qrm9_12 (Z : State)  (h0 : Heap) (n0 : Nat) (v : Option Value) (h : Heap) (L : List Loc) : Prop := v = some (vI 1) ∧ Fr n0 L ∧ h = h0
theorem rm9_12 (l : Launch) (Z : State) (a0 : Array Value) (hw : HW Z a0) (ws : List Jvm.Cond) (cz : Int32) (dg : Addr) (fm : Value)  (h0 : Heap) (n0 : Nat) (O0 : Old Z n0 h0) (P : Pins Z cz dg fm) :
   Ctr l M11 (Jvm.Cond.code M11 jdk_33_method_13_code 4 (some .int) :: ws) (rO 0 0 0 0) Z h0 #[(vI 0)] (Qrm9_12 Z  h0 n0) := by
 refine own_body (own := sN) rfl (plainFor_of_name pN7) O0 (fun m => ef_9_I m (0 : Int32)) ?_
 intro p e s m below meth c s₁ Bd hZ hx hby hml hown X0 e0 Z0
 have N0 := Fr.nil n0
 obtain ⟨fs, hr, hrun, hended, hW, hsame⟩ := X0.leave (v := some (vI 1)) (fun h => by rw [Bd.returns] at h; cases h)
 refine ⟨_, _, ?_, hrun, hended, _, _, rfl, ?_, ⟨_, rfl⟩, hW, hsame.mono (by decide) (by decide)⟩
 · show SH s₁ 0 #[lI 0, lU, lU, lU] []
   refine XS.iconst X0.here hx rfl (hb hby d9_0) ?_
   show SH s₁ 1 #[lI 0, lU, lU, lU] [(vI 1)]
   refine XS.istoreN X0.here hx rfl (hb hby d9_1) rfl (l' := #[lI 0, lI 1, lU, lU]) rfl ?_
   show SH s₁ 2 #[lI 0, lI 1, lU, lU] []
   refine XS.iloadN X0.here hx rfl (hb hby d9_2) rfl ?_
   show SH s₁ 3 #[lI 0, lI 1, lU, lU] [(vI 0)]
   refine XS.ifNo X0.here hx rfl (hb hby d9_3) rfl (by decide) ?_
   show SH s₁ 6 #[lI 0, lI 1, lU, lU] []
   refine XS.iconst X0.here hx rfl (hb hby d9_6) ?_
   show SH s₁ 7 #[lI 0, lI 1, lU, lU] [(vI 0)]
   refine XS.istoreN X0.here hx rfl (hb hby d9_7) rfl (l' := #[lI 0, lI 0, lU, lU]) rfl ?_
   show SH s₁ 8 #[lI 0, lI 0, lU, lU] []
   refine XS.iloadN X0.here hx rfl (hb hby d9_8) rfl ?_
   show SH s₁ 9 #[lI 0, lI 0, lU, lU] [(vI 0)]
   refine XS.ineg X0.here hx rfl (hb hby d9_9) rfl ?_
   show SH s₁ 10 #[lI 0, lI 0, lU, lU] [(.int (-(0 : Int32)))]
   rw [show (-(0 : Int32)) = (0 : Int32) from by decide]
   refine XS.istoreN X0.here hx rfl (hb hby d9_10) rfl (l' := #[lI 0, lI 0, lU, lU]) rfl ?_
   show SH s₁ 11 #[lI 0, lI 0, lU, lU] []
   refine XS.bipush X0.here hx rfl (hb hby d9_11) ?_
   show SH s₁ 13 #[lI 0, lI 0, lU, lU] [(vI (-10))]
   refine XS.istoreN X0.here hx rfl (hb hby d9_13) rfl (l' := #[lI 0, lI 0, lI (-10), lU]) rfl ?_
   show SH s₁ 14 #[lI 0, lI 0, lI (-10), lU] []
   refine XS.iconst X0.here hx rfl (hb hby d9_14) ?_
   show SH s₁ 15 #[lI 0, lI 0, lI (-10), lU] [(vI 1)]
   refine XS.istoreN X0.here hx rfl (hb hby d9_15) rfl (l' := #[lI 0, lI 0, lI (-10), lI 1]) rfl ?_
   show SH s₁ 16 #[lI 0, lI 0, lI (-10), lI 1] []
   refine XS.iloadN X0.here hx rfl (hb hby d9_16) rfl ?_
   show SH s₁ 17 #[lI 0, lI 0, lI (-10), lI 1] [(vI 1)]
   refine XS.bipush X0.here hx rfl (hb hby d9_17) ?_
   show SH s₁ 19 #[lI 0, lI 0, lI (-10), lI 1] [(vI 10), (vI 1)]
   refine XS.icmpNo X0.here hx rfl (hb hby d9_19) rfl (by decide) ?_
   show SH s₁ 22 #[lI 0, lI 0, lI (-10), lI 1] []
   refine XS.iloadN X0.here hx rfl (hb hby d9_22) rfl ?_
   show SH s₁ 23 #[lI 0, lI 0, lI (-10), lI 1] [(vI 0)]
   refine XS.iloadN X0.here hx rfl (hb hby d9_23) rfl ?_
   show SH s₁ 24 #[lI 0, lI 0, lI (-10), lI 1] [(vI (-10)), (vI 0)]
   refine XS.icmpNo X0.here hx rfl (hb hby d9_24) rfl (by decide) ?_
   show SH s₁ 27 #[lI 0, lI 0, lI (-10), lI 1] []
   refine XS.iloadN X0.here hx rfl (hb hby d9_27) rfl ?_
   show SH s₁ 28 #[lI 0, lI 0, lI (-10), lI 1] [(vI 1)]
   refine XS.iloadN X0.here hx rfl (hb hby d9_28) rfl ?_
   show SH s₁ 29 #[lI 0, lI 0, lI (-10), lI 1] [(vI 0), (vI 1)]
   refine XS.iadd X0.here hx rfl (hb hby d9_29) rfl ?_
   show SH s₁ 30 #[lI 0, lI 0, lI (-10), lI 1] [(.int ((1 : Int32) + (0 : Int32)))]
   rw [show ((1 : Int32) + (0 : Int32)) = (1 : Int32) from by decide]
   exact retI X0 hx Bd.returns (hb hby d9_30) hr
 · exact ⟨rfl, N0, e0⟩
theorem pd_2 : parseMethodDescriptor "(I)I" = some ⟨[.int], some .int⟩ := by decide +kernel
theorem d8_10 : decode K8 10 = .ok (.iadd, 1) := by decide +kernel
theorem d8_11 : decode K8 11 = .ok (.istore_n 3, 1) := by decide +kernel
theorem d8_12 : decode K8 12 = .ok (.aload_n 0, 1) := by decide +kernel
theorem d8_13 : decode K8 13 = .ok (.iload_n 3, 1) := by decide +kernel
theorem d8_14 : decode K8 14 = .ok (.invokevirtual 100, 3) := by decide +kernel
theorem d10_0 : decode K10 0 = .ok (.aload_n 0, 1) := by decide +kernel
theorem d10_1 : decode K10 1 = .ok (.getfield 15, 3) := by decide +kernel
theorem d10_4 : decode K10 4 = .ok (.arraylength, 1) := by decide +kernel
theorem d10_5 : decode K10 5 = .ok (.aload_n 0, 1) := by decide +kernel
theorem d10_6 : decode K10 6 = .ok (.getfield 22, 3) := by decide +kernel
theorem d10_9 : decode K10 9 = .ok (.ishr, 1) := by decide +kernel
theorem d10_10 : decode K10 10 = .ok (.istore_n 2, 1) := by decide +kernel
theorem d10_11 : decode K10 11 = .ok (.iload_n 1, 1) := by decide +kernel
theorem d10_12 : decode K10 12 = .ok (.iload_n 2, 1) := by decide +kernel
theorem d10_13 : decode K10 13 = .ok (.isub, 1) := by decide +kernel
theorem d10_14 : decode K10 14 = .ok (.ifCond .le 24, 3) := by decide +kernel
theorem d10_38 : decode K10 38 = .ok (.return_, 1) := by decide +kernel
theorem ef_10_RI (m : MethodId) (x0 : Addr) (x1 : Int32) : entryFrame m #[(.ref x0), (.int x1)] 3 = mkF m 0 #[.val (.ref x0), .val (.int x1), .unset] [] := by first | (simp [entryFrame, mkF, argsToLocals, Value.category]; done) | rfl
def Qrm10_13 (Z : State) (x1 : Addr) (x2 : Addr) (c3 : ClassId) (h0 : Heap) (n0 : Nat) (v : Option Value) (h : Heap) (L : List Loc) : Prop := v = none ∧ Fr n0 L ∧ h = h0
theorem rm10_13 (l : Launch) (Z : State) (a0 : Array Value) (hw : HW Z a0) (ws : List Jvm.Cond) (cz : Int32) (dg : Addr) (fm : Value) (x1 : Addr) (x2 : Addr) (c3 : ClassId) (h0 : Heap) (n0 : Nat) (O0 : Old Z n0 h0) (P : Pins Z cz dg fm) (F_x1_count : aN Z h0 x1 0) (F_x1_value : aV Z h0 x1 x2) (V_x2 : bA Z h0 x2 c3 16 []) (F_x1_coder : aC Z h0 x1) :
   Ctr l M12 (Jvm.Cond.code M12 jdk_68_method_9_code 3 none :: ws) (rO 0 0 0 0) Z h0 #[(.ref x1), (vI 1)] (Qrm10_13 Z x1 x2 c3 h0 n0) := by
 refine own_body (own := sA) rfl (plainFor_of_name pN3) O0 (fun m => ef_10_RI m x1 (1 : Int32)) ?_
 intro p e s m below meth c s₁ Bd hZ hx hby hml hown X0 e0 Z0
 have N0 := Fr.nil n0
 obtain ⟨T1, X1, e1, st1⟩ := getF X0 hx hZ hown (host := "") (Or.inl (wd hw 30 rfl)) Via.refl e0 F_x1_value (g := (mkF m 1 #[lR x1, lI 1, lU] [(.ref x1)])) rfl rfl (hb hby d10_1)
 obtain ⟨cl2, A2, -, S2, M2, -, -⟩ := id V_x2
 obtain ⟨T3, X3, e3, st3⟩ := getF X1 hx hZ hown (host := "") (Or.inl (wd hw 32 rfl)) Via.refl e1 F_x1_coder (g := (mkF m 6 #[lR x1, lI 1, lU] [(.ref x1), (vI 16)])) rfl rfl (hb hby d10_6)
 obtain ⟨fs, hr, hrun, hended, hW, hsame⟩ := X3.leave (v := none) (fun _ => rfl)
 refine ⟨_, _, ?_, hrun, hended, _, _, rfl, ?_, ⟨_, rfl⟩, hW, hsame.mono (by decide) (by decide)⟩
 · show SH s₁ 0 #[lR x1, lI 1, lU] []
   refine XS.aloadN X0.here hx rfl (hb hby d10_0) rfl rfl ?_
   show SH s₁ 1 #[lR x1, lI 1, lU] [(.ref x1)]
   refine st1 _ ?_
   show SH T1 4 #[lR x1, lI 1, lU] [(.ref x2)]
   refine X1.arraylength hx (by rw [e1]; exact A2.1) (State.isArrayOf_alike hZ.alike A2.2.1) (g := (mkF m 4 #[lR x1, lI 1, lU] [(.ref x2)])) rfl rfl (hb hby d10_4) _ ?_
   rw [len_of S2 M2]
   refine XS.aloadN X1.here hx rfl (hb hby d10_5) rfl rfl ?_
   show SH T1 6 #[lR x1, lI 1, lU] [(.ref x1), (vI 16)]
   refine st3 _ ?_
   show SH T3 9 #[lR x1, lI 1, lU] [(vI 0), (vI 16)]
   refine XS.ishr X3.here hx rfl (hb hby d10_9) rfl ?_
   show SH T3 10 #[lR x1, lI 1, lU] [(.int ((16 : Int32) >>> ((0 : Int32) &&& 31)))]
   rw [show ((16 : Int32) >>> ((0 : Int32) &&& 31)) = (16 : Int32) from by decide]
   refine XS.istoreN X3.here hx rfl (hb hby d10_10) rfl (l' := #[lR x1, lI 1, lI 16]) rfl ?_
   show SH T3 11 #[lR x1, lI 1, lI 16] []
   refine XS.iloadN X3.here hx rfl (hb hby d10_11) rfl ?_
   show SH T3 12 #[lR x1, lI 1, lI 16] [(vI 1)]
   refine XS.iloadN X3.here hx rfl (hb hby d10_12) rfl ?_
   show SH T3 13 #[lR x1, lI 1, lI 16] [(vI 16), (vI 1)]
   refine XS.isub X3.here hx rfl (hb hby d10_13) rfl ?_
   show SH T3 14 #[lR x1, lI 1, lI 16] [(.int ((1 : Int32) - (16 : Int32)))]
   rw [show ((1 : Int32) - (16 : Int32)) = (-15 : Int32) from by decide]
   refine XS.ifYes X3.here hx rfl (pc0 := 14) (pc' := 38) rfl (hb hby d10_14) rfl (by decide) (by decide) (by decide) ?_
   show SH T3 38 #[lR x1, lI 1, lI 16] []
   exact X3.returnOut hx Bd.returns (hb hby d10_38) hr
 · exact ⟨rfl, N0, e3⟩
theorem d8_17 : decode K8 17 = .ok (.aload_n 0, 1) := by decide +kernel
theorem d8_18 : decode K8 18 = .ok (.invokevirtual 83, 3) := by decide +kernel
theorem d11_0 : decode K11 0 = .ok (.getstatic 18, 3) := by decide +kernel
theorem d11_3 : decode K11 3 = .ok (.ifCond .eq 14, 3) := by decide +kernel
theorem d11_6 : decode K11 6 = .ok (.aload_n 0, 1) := by decide +kernel
theorem d11_7 : decode K11 7 = .ok (.getfield 22, 3) := by decide +kernel
theorem d11_10 : decode K11 10 = .ok (.ifCond .ne 7, 3) := by decide +kernel
theorem d11_13 : decode K11 13 = .ok (.iconst 1, 1) := by decide +kernel
theorem d11_14 : decode K11 14 = .ok (.goto 4, 3) := by decide +kernel
theorem d11_18 : decode K11 18 = .ok (.ireturn, 1) := by decide +kernel
theorem ef_11_R (m : MethodId) (x0 : Addr) : entryFrame m #[(.ref x0)] 1 = mkF m 0 #[.val (.ref x0)] [] := by first | (simp [entryFrame, mkF, argsToLocals, Value.category]; done) | rfl
def Qrm11_14 (Z : State) (x1 : Addr) (h0 : Heap) (n0 : Nat) (v : Option Value) (h : Heap) (L : List Loc) : Prop := v = some (vI 1) ∧ Fr n0 L ∧ h = h0
theorem rm11_14 (l : Launch) (Z : State) (a0 : Array Value) (hw : HW Z a0) (ws : List Jvm.Cond) (cz : Int32) (dg : Addr) (fm : Value) (x1 : Addr) (h0 : Heap) (n0 : Nat) (O0 : Old Z n0 h0) (P : Pins Z cz dg fm) (F_x1_coder : aC Z h0 x1) :
   Ctr l M13 (Jvm.Cond.code M13 jdk_68_method_68_code 1 (some .boolean) :: ws) (rO 0 0 0 0) Z h0 #[(.ref x1)] (Qrm11_14 Z x1 h0 n0) := by
 have S_compact : Sta Z Z.heap sS "COMPACT_STRINGS" "Z" (.int cz) := P.1
 have N_cz : ¬ cz = 0 := P.2.1
 refine own_body (own := sA) rfl (plainFor_of_name pN3) O0 (fun m => ef_11_R m x1) ?_
 intro p e s m below meth c s₁ Bd hZ hx hby hml hown X0 e0 Z0
 have N0 := Fr.nil n0
 obtain ⟨T1, X1, e1, st1⟩ := getS2 X0 hx hZ hown (host := "") (Or.inl (wd hw 27 rfl)) Via.refl e0 (S_compact.ext O0.2) (g := (mkF m 0 #[lR x1] [])) rfl (hb hby d11_0)
 obtain ⟨T2, X2, e2, st2⟩ := getF X1 hx hZ hown (host := "") (Or.inl (wd hw 32 rfl)) Via.refl e1 F_x1_coder (g := (mkF m 7 #[lR x1] [(.ref x1)])) rfl rfl (hb hby d11_7)
 obtain ⟨fs, hr, hrun, hended, hW, hsame⟩ := X2.leave (v := some (vI 1)) (fun h => by rw [Bd.returns] at h; cases h)
 refine ⟨_, _, ?_, hrun, hended, _, _, rfl, ?_, ⟨_, rfl⟩, hW, hsame.mono (by decide) (by decide)⟩
 · show SH s₁ 0 #[lR x1] []
   refine st1 _ ?_
   show SH T1 3 #[lR x1] [(.int cz)]
   refine XS.ifNo X1.here hx rfl (hb hby d11_3) rfl ((if0 _ _).trans (feq N_cz).1) ?_
   show SH T1 6 #[lR x1] []
   refine XS.aloadN X1.here hx rfl (hb hby d11_6) rfl rfl ?_
   show SH T1 7 #[lR x1] [(.ref x1)]
   refine st2 _ ?_
   show SH T2 10 #[lR x1] [(vI 0)]
   refine XS.ifNo X2.here hx rfl (hb hby d11_10) rfl (by decide) ?_
   show SH T2 13 #[lR x1] []
   refine XS.iconst X2.here hx rfl (hb hby d11_13) ?_
   show SH T2 14 #[lR x1] [(vI 1)]
   refine XS.goto X2.here hx rfl (pc0 := 14) (pc' := 18) rfl (hb hby d11_14) (by decide) (by decide) ?_
   show SH T2 18 #[lR x1] [(vI 1)]
   exact retN X2 hx (t := .boolean) Bd.returns (by simp) (hb hby d11_18) hr
 · exact ⟨rfl, N0, e2⟩
theorem pd_3 : parseMethodDescriptor "()Z" = some ⟨[], some .boolean⟩ := by decide +kernel
theorem d8_21 : decode K8 21 = .ok (.ifCond .eq 16, 3) := by decide +kernel
theorem d8_24 : decode K8 24 = .ok (.iload_n 1, 1) := by decide +kernel
theorem d8_25 : decode K8 25 = .ok (.iload_n 3, 1) := by decide +kernel
theorem d8_26 : decode K8 26 = .ok (.aload_n 0, 1) := by decide +kernel
theorem d8_27 : decode K8 27 = .ok (.getfield 15, 3) := by decide +kernel
theorem d8_30 : decode K8 30 = .ok (.invokestatic 248, 3) := by decide +kernel
theorem d12_0 : decode K12 0 = .ok (.iload_n 1, 1) := by decide +kernel
theorem d12_1 : decode K12 1 = .ok (.istore 5, 2) := by decide +kernel
theorem d12_3 : decode K12 3 = .ok (.iload_n 0, 1) := by decide +kernel
theorem d12_4 : decode K12 4 = .ok (.ifCond .ge 7, 3) := by decide +kernel
theorem d12_11 : decode K12 11 = .ok (.iconst 0, 1) := by decide +kernel
theorem d12_12 : decode K12 12 = .ok (.istore 6, 2) := by decide +kernel
theorem d12_14 : decode K12 14 = .ok (.iload 6, 2) := by decide +kernel
theorem d12_16 : decode K12 16 = .ok (.ifCond .ne 6, 3) := by decide +kernel
theorem d12_19 : decode K12 19 = .ok (.iload_n 0, 1) := by decide +kernel
theorem d12_20 : decode K12 20 = .ok (.ineg, 1) := by decide +kernel
theorem d12_21 : decode K12 21 = .ok (.istore_n 0, 1) := by decide +kernel
theorem d12_22 : decode K12 22 = .ok (.iload_n 0, 1) := by decide +kernel
theorem d12_23 : decode K12 23 = .ok (.bipush (-100), 2) := by decide +kernel
theorem d12_25 : decode K12 25 = .ok (.if_icmp .gt 47, 3) := by decide +kernel
theorem d12_72 : decode K12 72 = .ok (.aload_n 2, 1) := by decide +kernel
theorem d12_73 : decode K12 73 = .ok (.iinc 5 (-1), 3) := by decide +kernel
theorem d12_76 : decode K12 76 = .ok (.iload 5, 2) := by decide +kernel
theorem d12_78 : decode K12 78 = .ok (.getstatic 83, 3) := by decide +kernel
theorem d12_81 : decode K12 81 = .ok (.iload_n 0, 1) := by decide +kernel
theorem d12_82 : decode K12 82 = .ok (.ineg, 1) := by decide +kernel
theorem d12_83 : decode K12 83 = .ok (.baload, 1) := by decide +kernel
theorem d12_84 : decode K12 84 = .ok (.bastore, 1) := by decide +kernel
theorem d12_85 : decode K12 85 = .ok (.iload_n 0, 1) := by decide +kernel
theorem d12_86 : decode K12 86 = .ok (.bipush (-9), 2) := by decide +kernel
theorem d12_88 : decode K12 88 = .ok (.if_icmp .ge 16, 3) := by decide +kernel
theorem d12_104 : decode K12 104 = .ok (.iload 6, 2) := by decide +kernel
theorem d12_106 : decode K12 106 = .ok (.ifCond .eq 12, 3) := by decide +kernel
theorem d12_118 : decode K12 118 = .ok (.iload 5, 2) := by decide +kernel
theorem d12_120 : decode K12 120 = .ok (.ireturn, 1) := by decide +kernel
theorem ef_12_IIR (m : MethodId) (x0 : Int32) (x1 : Int32) (x2 : Addr) : entryFrame m #[(.int x0), (.int x1), (.ref x2)] 7 = mkF m 0 #[.val (.int x0), .val (.int x1), .val (.ref x2), .unset, .unset, .unset, .unset] [] := by first | (simp [entryFrame, mkF, argsToLocals, Value.category]; done) | rfl
def Qrm12_15 (Z : State) (x1 : Addr) (c2 : ClassId) (h0 : Heap) (n0 : Nat) (v : Option Value) (h : Heap) (L : List Loc) : Prop := v = some (vI 0) ∧ Fr n0 L ∧ Keep h0 h [x1] ∧ bA Z h x1 c2 16 [(vI 48)]
theorem rm12_15 (l : Launch) (Z : State) (a0 : Array Value) (hw : HW Z a0) (ws : List Jvm.Cond) (cz : Int32) (dg : Addr) (fm : Value) (x1 : Addr) (c2 : ClassId) (h0 : Heap) (n0 : Nat) (O0 : Old Z n0 h0) (P : Pins Z cz dg fm) (V_x1 : bA Z h0 x1 c2 16 []) (g_x1 : n0 ≤ x1) :
   Ctr l M14 (Jvm.Cond.code M14 jdk_33_method_12_code 7 (some .int) :: ws) (rO 0 0 0 0) Z h0 #[(vI 0), (vI 1), (.ref x1)] (Qrm12_15 Z x1 c2 h0 n0) := by
 have S_dg : Sta Z Z.heap sN "DigitOnes" "[B" (.ref dg) := P.2.2.1
 have A_dg : ∃ cl : Cell, Arr Z Z.heap dg cl .byte ∧ 3 ≤ cl.slots.size ∧ cl.slots[(0 : Int32).toNatClampNeg]? = some (vI 48) ∧ cl.slots[(1 : Int32).toNatClampNeg]? = some (vI 49) ∧ cl.slots[(2 : Int32).toNatClampNeg]? = some (vI 50) := P.2.2.2.1
 refine own_body (own := sN) rfl (plainFor_of_name pN7) O0 (fun m => ef_12_IIR m (0 : Int32) (1 : Int32) x1) ?_
 intro p e s m below meth c s₁ Bd hZ hx hby hml hown X0 e0 Z0
 have N0 := Fr.nil n0
 have Kr : Keep h0 h0 [x1] := Keep.refl h0 _
 obtain ⟨T1, X1, e1, st1⟩ := getS2 X0 hx hZ hown (host := "") (Or.inl (wd hw 74 rfl)) Via.refl e0 (S_dg.ext O0.2) (g := (mkF m 78 #[lI 0, lI 1, lR x1, lU, lU, lI 0, lI 0] [(vI 0), (.ref x1)])) rfl (hb hby d12_78)
 obtain ⟨cl2, Ar2, sz2, el2_0, el2_1, el2_2⟩ := A_dg
 have Ax2 := Ar2.ext O0.2
 have Vp3 : bA Z (h0) x1 c2 16 [(vI 0)] := Arv.pad V_x1 (pad_rep [] (vI 0) 1)
 obtain ⟨cl3, A3, q3, S3, M3, H3, G3⟩ := id Vp3
 have hin3 : ¬ ((0 : Int32) < 0 ∨ cl3.slots.size ≤ ((0 : Int32)).toNatClampNeg) := inb_of S3 ⟨by decide, by decide⟩
 obtain ⟨T4, h4, X4, e4, W4, st4⟩ := stB X1 hx hZ e1 A3 (j := (0 : Int32)) hin3 (g := (mkF m 84 #[lI 0, lI 1, lR x1, lU, lU, lI 0, lI 0] [(vI 48), (vI 0), (.ref x1)])) rfl rfl (hb hby d12_84)
 have V4 := Arv.set A3 q3 S3 M3 H3 G3 (fits_nar_byte _) W4 0 rfl (Nat.le_of_ble_eq_true rfl)
 have V4' : bA Z h4 x1 c2 16 [(vI 48)] := V4
 have Ks5 := Kr.wr W4 (Or.inl (mg 0 rfl))
 have N4 := Fr.snoc X4 N0 g_x1
 obtain ⟨fs, hr, hrun, hended, hW, hsame⟩ := X4.leave (v := some (vI 0)) (fun h => by rw [Bd.returns] at h; cases h)
 refine ⟨_, _, ?_, hrun, hended, _, _, rfl, ?_, ⟨_, rfl⟩, hW, hsame.mono (by decide) (by decide)⟩
 · show SH s₁ 0 #[lI 0, lI 1, lR x1, lU, lU, lU, lU] []
   refine XS.iloadN X0.here hx rfl (hb hby d12_0) rfl ?_
   show SH s₁ 1 #[lI 0, lI 1, lR x1, lU, lU, lU, lU] [(vI 1)]
   refine XS.istore X0.here hx rfl (hb hby d12_1) rfl (l' := #[lI 0, lI 1, lR x1, lU, lU, lI 1, lU]) rfl ?_
   show SH s₁ 3 #[lI 0, lI 1, lR x1, lU, lU, lI 1, lU] []
   refine XS.iloadN X0.here hx rfl (hb hby d12_3) rfl ?_
   show SH s₁ 4 #[lI 0, lI 1, lR x1, lU, lU, lI 1, lU] [(vI 0)]
   refine XS.ifYes X0.here hx rfl (pc0 := 4) (pc' := 11) rfl (hb hby d12_4) rfl (by decide) (by decide) (by decide) ?_
   show SH s₁ 11 #[lI 0, lI 1, lR x1, lU, lU, lI 1, lU] []
   refine XS.iconst X0.here hx rfl (hb hby d12_11) ?_
   show SH s₁ 12 #[lI 0, lI 1, lR x1, lU, lU, lI 1, lU] [(vI 0)]
   refine XS.istore X0.here hx rfl (hb hby d12_12) rfl (l' := #[lI 0, lI 1, lR x1, lU, lU, lI 1, lI 0]) rfl ?_
   show SH s₁ 14 #[lI 0, lI 1, lR x1, lU, lU, lI 1, lI 0] []
   refine XS.iload X0.here hx rfl (hb hby d12_14) rfl ?_
   show SH s₁ 16 #[lI 0, lI 1, lR x1, lU, lU, lI 1, lI 0] [(vI 0)]
   refine XS.ifNo X0.here hx rfl (hb hby d12_16) rfl (by decide) ?_
   show SH s₁ 19 #[lI 0, lI 1, lR x1, lU, lU, lI 1, lI 0] []
   refine XS.iloadN X0.here hx rfl (hb hby d12_19) rfl ?_
   show SH s₁ 20 #[lI 0, lI 1, lR x1, lU, lU, lI 1, lI 0] [(vI 0)]
   refine XS.ineg X0.here hx rfl (hb hby d12_20) rfl ?_
   show SH s₁ 21 #[lI 0, lI 1, lR x1, lU, lU, lI 1, lI 0] [(.int (-(0 : Int32)))]
   rw [show (-(0 : Int32)) = (0 : Int32) from by decide]
   refine XS.istoreN X0.here hx rfl (hb hby d12_21) rfl (l' := #[lI 0, lI 1, lR x1, lU, lU, lI 1, lI 0]) rfl ?_
   show SH s₁ 22 #[lI 0, lI 1, lR x1, lU, lU, lI 1, lI 0] []
   refine XS.iloadN X0.here hx rfl (hb hby d12_22) rfl ?_
   show SH s₁ 23 #[lI 0, lI 1, lR x1, lU, lU, lI 1, lI 0] [(vI 0)]
   refine XS.bipush X0.here hx rfl (hb hby d12_23) ?_
   show SH s₁ 25 #[lI 0, lI 1, lR x1, lU, lU, lI 1, lI 0] [(vI (-100)), (vI 0)]
   refine XS.icmpYes X0.here hx rfl (pc0 := 25) (pc' := 72) rfl (hb hby d12_25) rfl (by decide) (by decide) (by decide) ?_
   show SH s₁ 72 #[lI 0, lI 1, lR x1, lU, lU, lI 1, lI 0] []
   refine XS.aloadN X0.here hx rfl (hb hby d12_72) rfl rfl ?_
   show SH s₁ 73 #[lI 0, lI 1, lR x1, lU, lU, lI 1, lI 0] [(.ref x1)]
   refine XS.iinc X0.here hx rfl (hb hby d12_73) rfl (l' := #[lI 0, lI 1, lR x1, lU, lU, lI (((1 : Int32) + (-1 : Int32))), lI 0]) rfl ?_
   show SH s₁ 76 #[lI 0, lI 1, lR x1, lU, lU, lI (((1 : Int32) + (-1 : Int32))), lI 0] [(.ref x1)]
   rw [show ((1 : Int32) + (-1 : Int32)) = (0 : Int32) from by decide]
   refine XS.iload X0.here hx rfl (hb hby d12_76) rfl ?_
   show SH s₁ 78 #[lI 0, lI 1, lR x1, lU, lU, lI 0, lI 0] [(vI 0), (.ref x1)]
   refine st1 _ ?_
   show SH T1 81 #[lI 0, lI 1, lR x1, lU, lU, lI 0, lI 0] [(.ref dg), (vI 0), (.ref x1)]
   refine XS.iloadN X1.here hx rfl (hb hby d12_81) rfl ?_
   show SH T1 82 #[lI 0, lI 1, lR x1, lU, lU, lI 0, lI 0] [(vI 0), (.ref dg), (vI 0), (.ref x1)]
   refine XS.ineg X1.here hx rfl (hb hby d12_82) rfl ?_
   show SH T1 83 #[lI 0, lI 1, lR x1, lU, lU, lI 0, lI 0] [(.int (-(0 : Int32))), (.ref dg), (vI 0), (.ref x1)]
   rw [show (-(0 : Int32)) = (0 : Int32) from by decide]
   refine X1.baloadBytes hx (j := (0 : Int32)) (v := (vI 48)) (by rw [e1]; exact Ax2.1) (State.isArrayOf_alike hZ.alike Ax2.2.1) Ax2.2.2 (fun q => q.elim (by decide) (fun r => absurd (Nat.le_trans sz2 r) (by decide))) el2_0 (g := (mkF m 83 #[lI 0, lI 1, lR x1, lU, lU, lI 0, lI 0] [(vI 0), (.ref dg), (vI 0), (.ref x1)])) rfl rfl (hb hby d12_83) _ ?_
   show SH T1 84 #[lI 0, lI 1, lR x1, lU, lU, lI 0, lI 0] [(vI 48), (vI 0), (.ref x1)]
   refine st4 _ ?_
   show SH T4 85 #[lI 0, lI 1, lR x1, lU, lU, lI 0, lI 0] []
   refine XS.iloadN X4.here hx rfl (hb hby d12_85) rfl ?_
   show SH T4 86 #[lI 0, lI 1, lR x1, lU, lU, lI 0, lI 0] [(vI 0)]
   refine XS.bipush X4.here hx rfl (hb hby d12_86) ?_
   show SH T4 88 #[lI 0, lI 1, lR x1, lU, lU, lI 0, lI 0] [(vI (-9)), (vI 0)]
   refine XS.icmpYes X4.here hx rfl (pc0 := 88) (pc' := 104) rfl (hb hby d12_88) rfl (by decide) (by decide) (by decide) ?_
   show SH T4 104 #[lI 0, lI 1, lR x1, lU, lU, lI 0, lI 0] []
   refine XS.iload X4.here hx rfl (hb hby d12_104) rfl ?_
   show SH T4 106 #[lI 0, lI 1, lR x1, lU, lU, lI 0, lI 0] [(vI 0)]
   refine XS.ifYes X4.here hx rfl (pc0 := 106) (pc' := 118) rfl (hb hby d12_106) rfl (by decide) (by decide) (by decide) ?_
   show SH T4 118 #[lI 0, lI 1, lR x1, lU, lU, lI 0, lI 0] []
   refine XS.iload X4.here hx rfl (hb hby d12_118) rfl ?_
   show SH T4 120 #[lI 0, lI 1, lR x1, lU, lU, lI 0, lI 0] [(vI 0)]
   exact retI X4 hx Bd.returns (hb hby d12_120) hr
 · show Qrm12_15 Z x1 c2 h0 n0 _ T4.heap _
   rw [e4]
   exact ⟨rfl, N4, Ks5, V4'⟩
theorem pd_4 : parseMethodDescriptor "(II[B)I" = some ⟨[.int, .int, (.array .byte)], some .int⟩ := by decide +kernel
theorem d8_33 : decode K8 33 = .ok (.pop, 1) := by decide +kernel
theorem d8_34 : decode K8 34 = .ok (.goto 14, 3) := by decide +kernel
theorem d8_48 : decode K8 48 = .ok (.aload_n 0, 1) := by decide +kernel
theorem d8_49 : decode K8 49 = .ok (.iload_n 3, 1) := by decide +kernel
theorem d8_50 : decode K8 50 = .ok (.putfield 79, 3) := by decide +kernel
theorem d8_53 : decode K8 53 = .ok (.aload_n 0, 1) := by decide +kernel
theorem d8_54 : decode K8 54 = .ok (.areturn, 1) := by decide +kernel
theorem ef_8_RI (m : MethodId) (x0 : Addr) (x1 : Int32) : entryFrame m #[(.ref x0), (.int x1)] 4 = mkF m 0 #[.val (.ref x0), .val (.int x1), .unset, .unset] [] := by first | (simp [entryFrame, mkF, argsToLocals, Value.category]; done) | rfl
def Qrm8_16 (Z : State) (x1 : Addr) (x2 : Addr) (c3 : ClassId) (h0 : Heap) (n0 : Nat) (v : Option Value) (h : Heap) (L : List Loc) : Prop := v = some (.ref x1) ∧ Fr n0 L ∧ Keep h0 h [x2, x1] ∧ aN Z h x1 1 ∧ aV Z h x1 x2 ∧ aC Z h x1 ∧ bA Z h x2 c3 16 [(vI 48)]
theorem rm8_16 (l : Launch) (Z : State) (a0 : Array Value) (hw : HW Z a0) (ws : List Jvm.Cond) (cz : Int32) (dg : Addr) (fm : Value) (x1 : Addr) (x2 : Addr) (c3 : ClassId) (h0 : Heap) (n0 : Nat) (O0 : Old Z n0 h0) (P : Pins Z cz dg fm) (F_x1_count : aN Z h0 x1 0) (E_x1 : Exa Z h0 x1 sB) (F_x1_value : aV Z h0 x1 x2) (V_x2 : bA Z h0 x2 c3 16 []) (F_x1_coder : aC Z h0 x1) (g_x2 : n0 ≤ x2) (ne_x1_x2 : x1 ≠ x2) (g_x1 : n0 ≤ x1) (ne_x2_x1 : x2 ≠ x1) :
   Ctr l M15 (Jvm.Cond.code M15 jdk_68_method_32_code 4 (some (.object sA)) :: ws) (rO 1 0 0 18) Z h0 #[(.ref x1), (vI 0)] (Qrm8_16 Z x1 x2 c3 h0 n0) := by
 refine own_body (own := sA) rfl (plainFor_of_name pN3) O0 (fun m => ef_8_RI m x1 (0 : Int32)) ?_
 intro p e s m below meth c s₁ Bd hZ hx hby hml hown X0 e0 Z0
 have N0 := Fr.nil n0
 have Kr : Keep h0 h0 [x2, x1] := Keep.refl h0 _
 obtain ⟨T1, X1, e1, st1⟩ := getF X0 hx hZ hown (host := "") (Or.inl (wd hw 55 rfl)) Via.refl e0 F_x1_count (g := (mkF m 1 #[lR x1, lI 0, lU, lU] [(.ref x1)])) rfl rfl (hb hby d8_1)
 obtain ⟨_, _, ⟨T2, L2, k2, n2⟩, -, X2, ⟨Lc2, hQ2, l2, y2, z2⟩, st2⟩ := Jvm.LawKit.callS X1 hx (y := M11) hown (mvT hZ (wd hw 57 rfl)) (mvT hZ (wd hw 58 rfl)) (mvT hZ (wd hw 59 rfl)) (mvT hZ (wd hw 60 rfl)) (by decide) (backOf (W := 1) (rm9_12 l Z a0 hw [] cz dg fm  h0 n0 O0 P ) hZ (wd hw 60 rfl) (wd hw 59 rfl) (by decide) (by decide)) (g := (mkF m 7 #[lR x1, lI 0, lI 0, lU] [(vI 0), (vI 0)])) rfl (by rw [hml]; rfl) (argsL := [(vI 0)]) (rest := [(vI 0)]) (lenOf pd_2 rfl) rfl (lz rfl) (hb hby d8_7) (fun _ _ => ⟨rfl, e1, (by decide : 0 + 0 ≤ _), (by decide : 0 + 0 ≤ _)⟩)
 dsimp only [Pt.U, Pt.locs, Pt.cells, Pt.slots] at X2 l2 y2 z2 st2 hQ2
 subst y2 z2
 obtain ⟨rfl, N2q, e2⟩ := hQ2
 have N2 : Fr n0 L2 := by rw [l2]; exact Fr.app N0 N2q
 obtain ⟨cq3, kq3, q3a, q3b, q3c⟩ := isOf hZ e2 E_x1
 obtain ⟨_, _, ⟨T3, L3, k3, n3⟩, -, X3, ⟨Lc3, hQ3, l3, y3, z3⟩, st3⟩ := X2.virtualBack hx (y := M12) (z := M12) hown (mvT hZ (wd hw 61 rfl)) (mvT hZ (own_decl (wd hw 62 rfl) (wd hw 65 rfl))) (notFace_of_selects (args := #[]) (mvT hZ (wd hw 64 rfl))) (mvT hZ (wd hw 64 rfl)) (mvT hZ (wd hw 62 rfl)) (by decide) (backOf (W := 0) (rm10_13 l Z a0 hw [] cz dg fm x1 x2 c3 h0 n0 O0 P F_x1_count F_x1_value V_x2 F_x1_coder) hZ (wd hw 65 rfl) (wd hw 24 rfl) (by decide) (by decide)) q3a q3c (g := (mkF m 14 #[lR x1, lI 0, lI 0, lI 1] [(vI 1), (.ref x1)])) rfl (by rw [hml]; rfl) (Steps.refl _) (argsL := [(vI 1)]) (rest := []) (lenOf pd_1 rfl) rfl (lz rfl) (hb hby d8_14) (fun _ _ => ⟨rfl, e2, (by decide : 0 + 0 ≤ _), (by decide : 0 + 0 ≤ _)⟩)
 dsimp only [Pt.U, Pt.locs, Pt.cells, Pt.slots] at X3 l3 y3 z3 st3 hQ3
 subst y3 z3
 obtain ⟨rfl, N3q, e3⟩ := hQ3
 have N3 : Fr n0 L3 := by rw [l3]; exact Fr.app N2 N3q
 obtain ⟨cq4, kq4, q4a, q4b, q4c⟩ := isOf hZ e3 E_x1
 obtain ⟨_, _, ⟨T4, L4, k4, n4⟩, -, X4, ⟨Lc4, hQ4, l4, y4, z4⟩, st4⟩ := X3.virtualBack hx (y := M13) (z := M13) hown (mvT hZ (wd hw 66 rfl)) (mvT hZ (wd hw 67 rfl)) (notFace_of_selects (args := #[]) (mvT hZ (wd hw 69 rfl))) (mvT hZ (wd hw 69 rfl)) (mvT hZ (wd hw 68 rfl)) (by decide) (backOf (W := 0) (rm11_14 l Z a0 hw [] cz dg fm x1 h0 n0 O0 P F_x1_coder) hZ (wd hw 70 rfl) (wd hw 24 rfl) (by decide) (by decide)) q4a q4c (g := (mkF m 18 #[lR x1, lI 0, lI 0, lI 1] [(.ref x1)])) rfl (by rw [hml]; rfl) (Steps.refl _) (argsL := []) (rest := []) (lenOf pd_3 rfl) rfl (lz rfl) (hb hby d8_18) (fun _ _ => ⟨rfl, e3, (by decide : 0 + 0 ≤ _), (by decide : 0 + 0 ≤ _)⟩)
 dsimp only [Pt.U, Pt.locs, Pt.cells, Pt.slots] at X4 l4 y4 z4 st4 hQ4
 subst y4 z4
 obtain ⟨rfl, N4q, e4⟩ := hQ4
 have N4 : Fr n0 L4 := by rw [l4]; exact Fr.app N3 N4q
 obtain ⟨T5, X5, e5, st5⟩ := getF X4 hx hZ hown (host := "") (Or.inl (wd hw 30 rfl)) Via.refl e4 F_x1_value (g := (mkF m 27 #[lR x1, lI 0, lI 0, lI 1] [(.ref x1), (vI 1), (vI 0)])) rfl rfl (hb hby d8_27)
 obtain ⟨_, _, ⟨T6, L6, k6, n6⟩, -, X6, ⟨Lc6, hQ6, l6, y6, z6⟩, st6⟩ := Jvm.LawKit.callS X5 hx (y := M14) hown (mvT hZ (wd hw 71 rfl)) (mvT hZ (wd hw 72 rfl)) (mvT hZ (wd hw 59 rfl)) (mvT hZ (wd hw 73 rfl)) (by decide) (backOf (W := 0) (rm12_15 l Z a0 hw [] cz dg fm x2 c3 h0 n0 O0 P V_x2 g_x2) hZ (wd hw 73 rfl) (wd hw 59 rfl) (by decide) (by decide)) (g := (mkF m 30 #[lR x1, lI 0, lI 0, lI 1] [(.ref x2), (vI 1), (vI 0)])) rfl (by rw [hml]; rfl) (argsL := [(vI 0), (vI 1), (.ref x2)]) (rest := []) (lenOf pd_4 rfl) rfl (lz rfl) (hb hby d8_30) (fun _ _ => ⟨rfl, e5, (by decide : 0 + 0 ≤ _), (by decide : 0 + 0 ≤ _)⟩)
 dsimp only [Pt.U, Pt.locs, Pt.cells, Pt.slots] at X6 l6 y6 z6 st6 hQ6
 subst y6 z6
 obtain ⟨rfl, N6q, K6, q6_0⟩ := hQ6
 have N6 : Fr n0 L6 := by rw [l6]; exact Fr.app N4 N6q
 have Ks7 := Kr.trans K6 (allS (Or.inl (mg 0 rfl)) all0)
 have f8 := (E_x1.keep K6)
 have f9 := (F_x1_count.keep K6 (ninS ne_x1_x2 nin0))
 obtain ⟨T10, h10, X10, e10, W10, st10⟩ := putF X6 hx hZ hown (host := "") (Or.inl (wd hw 55 rfl)) Via.refl rfl f9 f8 (Or.inl (wd hw 56 rfl)) (wd hw 15 rfl) (ty := .int) (by decide) rfl rfl (g := (mkF m 50 #[lR x1, lI 0, lI 0, lI 1] [(vI 1), (.ref x1)])) rfl rfl (hb hby d8_50)
 have Ks11 := Ks7.wr W10 (Or.inl (mg 1 rfl))
 have Fw10 := Fld.same W10 f9
 have N10 := Fr.snoc X10 N6 g_x1
 have f12 := (Fld.other W10 (F_x1_value.keep K6 (ninS ne_x1_x2 nin0)) (Or.inr (slot_ne (Or.inl (wd hw 31 rfl)) (Or.inl (wd hw 56 rfl)) (by decide) (t := (.array .byte)) (t' := .int) (by decide) (by decide))))
 have f13 := (Fld.other W10 (F_x1_coder.keep K6 (ninS ne_x1_x2 nin0)) (Or.inr (slot_ne (Or.inl (wd hw 33 rfl)) (Or.inl (wd hw 56 rfl)) (by decide) (t := .byte) (t' := .int) (by decide) (by decide))))
 have f14 := (q6_0.other W10 ne_x2_x1)
 obtain ⟨fs, hr, hrun, hended, hW, hsame⟩ := X10.leave (v := some (.ref x1)) (fun h => by rw [Bd.returns] at h; cases h)
 refine ⟨_, _, ?_, hrun, hended, _, _, rfl, ?_, ⟨_, rfl⟩, hW, hsame.mono (by decide) (by decide)⟩
 · show SH s₁ 0 #[lR x1, lI 0, lU, lU] []
   refine XS.aloadN X0.here hx rfl (hb hby d8_0) rfl rfl ?_
   show SH s₁ 1 #[lR x1, lI 0, lU, lU] [(.ref x1)]
   refine st1 _ ?_
   show SH T1 4 #[lR x1, lI 0, lU, lU] [(vI 0)]
   refine XS.istoreN X1.here hx rfl (hb hby d8_4) rfl (l' := #[lR x1, lI 0, lI 0, lU]) rfl ?_
   show SH T1 5 #[lR x1, lI 0, lI 0, lU] []
   refine XS.iloadN X1.here hx rfl (hb hby d8_5) rfl ?_
   show SH T1 6 #[lR x1, lI 0, lI 0, lU] [(vI 0)]
   refine XS.iloadN X1.here hx rfl (hb hby d8_6) rfl ?_
   show SH T1 7 #[lR x1, lI 0, lI 0, lU] [(vI 0), (vI 0)]
   refine st2 _ ?_
   show SH T2 10 #[lR x1, lI 0, lI 0, lU] [(vI 1), (vI 0)]
   refine XS.iadd X2.here hx rfl (hb hby d8_10) rfl ?_
   show SH T2 11 #[lR x1, lI 0, lI 0, lU] [(.int ((0 : Int32) + (1 : Int32)))]
   rw [show ((0 : Int32) + (1 : Int32)) = (1 : Int32) from by decide]
   refine XS.istoreN X2.here hx rfl (hb hby d8_11) rfl (l' := #[lR x1, lI 0, lI 0, lI 1]) rfl ?_
   show SH T2 12 #[lR x1, lI 0, lI 0, lI 1] []
   refine XS.aloadN X2.here hx rfl (hb hby d8_12) rfl rfl ?_
   show SH T2 13 #[lR x1, lI 0, lI 0, lI 1] [(.ref x1)]
   refine XS.iloadN X2.here hx rfl (hb hby d8_13) rfl ?_
   show SH T2 14 #[lR x1, lI 0, lI 0, lI 1] [(vI 1), (.ref x1)]
   refine st3.trans ?_
   show SH T3 17 #[lR x1, lI 0, lI 0, lI 1] []
   refine XS.aloadN X3.here hx rfl (hb hby d8_17) rfl rfl ?_
   show SH T3 18 #[lR x1, lI 0, lI 0, lI 1] [(.ref x1)]
   refine st4.trans ?_
   show SH T4 21 #[lR x1, lI 0, lI 0, lI 1] [(vI 1)]
   refine XS.ifNo X4.here hx rfl (hb hby d8_21) rfl (by decide) ?_
   show SH T4 24 #[lR x1, lI 0, lI 0, lI 1] []
   refine XS.iloadN X4.here hx rfl (hb hby d8_24) rfl ?_
   show SH T4 25 #[lR x1, lI 0, lI 0, lI 1] [(vI 0)]
   refine XS.iloadN X4.here hx rfl (hb hby d8_25) rfl ?_
   show SH T4 26 #[lR x1, lI 0, lI 0, lI 1] [(vI 1), (vI 0)]
   refine XS.aloadN X4.here hx rfl (hb hby d8_26) rfl rfl ?_
   show SH T4 27 #[lR x1, lI 0, lI 0, lI 1] [(.ref x1), (vI 1), (vI 0)]
   refine st5 _ ?_
   show SH T5 30 #[lR x1, lI 0, lI 0, lI 1] [(.ref x2), (vI 1), (vI 0)]
   refine st6 _ ?_
   show SH T6 33 #[lR x1, lI 0, lI 0, lI 1] [(vI 0)]
   refine XS.pop X6.here hx rfl (hb hby d8_33) rfl rfl ?_
   show SH T6 34 #[lR x1, lI 0, lI 0, lI 1] []
   refine XS.goto X6.here hx rfl (pc0 := 34) (pc' := 48) rfl (hb hby d8_34) (by decide) (by decide) ?_
   show SH T6 48 #[lR x1, lI 0, lI 0, lI 1] []
   refine XS.aloadN X6.here hx rfl (hb hby d8_48) rfl rfl ?_
   show SH T6 49 #[lR x1, lI 0, lI 0, lI 1] [(.ref x1)]
   refine XS.iloadN X6.here hx rfl (hb hby d8_49) rfl ?_
   show SH T6 50 #[lR x1, lI 0, lI 0, lI 1] [(vI 1), (.ref x1)]
   refine st10 _ ?_
   show SH T10 53 #[lR x1, lI 0, lI 0, lI 1] []
   refine XS.aloadN X10.here hx rfl (hb hby d8_53) rfl rfl ?_
   show SH T10 54 #[lR x1, lI 0, lI 0, lI 1] [(.ref x1)]
   exact retOut X10 hx Bd.returns rfl (Or.inr (Or.inr (Or.inr (Or.inr ⟨rfl, rfl, rfl⟩)))) (hb hby d8_54) hr
 · show Qrm8_16 Z x1 x2 c3 h0 n0 _ T10.heap _
   rw [e10]
   exact ⟨rfl, N10, Ks11, Fw10, f12, f13, f14⟩
theorem pd_5 : parseMethodDescriptor "(I)Ljava/lang/AbstractStringBuilder;" = some ⟨[.int], some (.object sA)⟩ := by decide +kernel
theorem d7_5 : decode K7 5 = .ok (.pop, 1) := by decide +kernel
theorem d7_6 : decode K7 6 = .ok (.aload_n 0, 1) := by decide +kernel
theorem d7_7 : decode K7 7 = .ok (.areturn, 1) := by decide +kernel
theorem ef_7_RI (m : MethodId) (x0 : Addr) (x1 : Int32) : entryFrame m #[(.ref x0), (.int x1)] 2 = mkF m 0 #[.val (.ref x0), .val (.int x1)] [] := by first | (simp [entryFrame, mkF, argsToLocals, Value.category]; done) | rfl
def Qrm7_17 (Z : State) (x1 : Addr) (x2 : Addr) (c3 : ClassId) (h0 : Heap) (n0 : Nat) (v : Option Value) (h : Heap) (L : List Loc) : Prop := v = some (.ref x1) ∧ Fr n0 L ∧ Keep h0 h [x1, x2] ∧ aN Z h x1 1 ∧ aV Z h x1 x2 ∧ aC Z h x1 ∧ bA Z h x2 c3 16 [(vI 48)]
theorem rm7_17 (l : Launch) (Z : State) (a0 : Array Value) (hw : HW Z a0) (ws : List Jvm.Cond) (cz : Int32) (dg : Addr) (fm : Value) (x1 : Addr) (x2 : Addr) (c3 : ClassId) (h0 : Heap) (n0 : Nat) (O0 : Old Z n0 h0) (P : Pins Z cz dg fm) (F_x1_count : aN Z h0 x1 0) (E_x1 : Exa Z h0 x1 sB) (F_x1_value : aV Z h0 x1 x2) (V_x2 : bA Z h0 x2 c3 16 []) (F_x1_coder : aC Z h0 x1) (g_x2 : n0 ≤ x2) (ne_x1_x2 : x1 ≠ x2) (g_x1 : n0 ≤ x1) (ne_x2_x1 : x2 ≠ x1) :
   Ctr l M16 (Jvm.Cond.code M16 jdk_67_method_15_code 2 (some (.object sB)) :: ws) (rO 2 0 0 33) Z h0 #[(.ref x1), (vI 0)] (Qrm7_17 Z x1 x2 c3 h0 n0) := by
 refine own_body (own := sB) rfl (plainFor_of_name pN5) O0 (fun m => ef_7_RI m x1 (0 : Int32)) ?_
 intro p e s m below meth c s₁ Bd hZ hx hby hml hown X0 e0 Z0
 have N0 := Fr.nil n0
 have Kr : Keep h0 h0 [x1, x2] := Keep.refl h0 _
 obtain ⟨_, _, ⟨T1, L1, k1, n1⟩, -, X1, ⟨Lc1, hQ1, l1, y1, z1⟩, st1⟩ := superBack X0 hx hZ (y := M15) hown (wd hw 50 rfl) (own_same (wd hw 53 rfl) (wd hw 64 rfl) rfl (by decide)) (wd hw 51 rfl) (wd hw 52 rfl) (by decide) (backOf (W := 0) (rm8_16 l Z a0 hw [] cz dg fm x1 x2 c3 h0 n0 O0 P F_x1_count E_x1 F_x1_value V_x2 F_x1_coder g_x2 ne_x1_x2 g_x1 ne_x2_x1) hZ (wd hw 54 rfl) (wd hw 24 rfl) (by decide) (by decide)) e0 (Ins.self E_x1) (g := (mkF m 2 #[lR x1, lI 0] [(vI 0), (.ref x1)])) rfl (by rw [hml]; rfl) (wd hw 54 rfl) (argsL := [(vI 0)]) (rest := []) (lenOf pd_5 rfl) rfl (lz rfl) (hb hby d7_2) (fun _ _ => ⟨rfl, e0, (by decide : 0 + 0 ≤ _), (by decide : 0 + 0 ≤ _)⟩)
 dsimp only [Pt.U, Pt.locs, Pt.cells, Pt.slots] at X1 l1 y1 z1 st1 hQ1
 subst y1 z1
 obtain ⟨rfl, N1q, K1, q1_0, q1_1, q1_2, q1_3⟩ := hQ1
 have N1 : Fr n0 L1 := by rw [l1]; exact Fr.app N0 N1q
 have Ks2 := Kr.trans K1 (allS (Or.inl (mg 1 rfl)) (allS (Or.inl (mg 0 rfl)) all0))
 obtain ⟨fs, hr, hrun, hended, hW, hsame⟩ := X1.leave (v := some (.ref x1)) (fun h => by rw [Bd.returns] at h; cases h)
 refine ⟨_, _, ?_, hrun, hended, _, _, rfl, ?_, ⟨_, rfl⟩, hW, hsame.mono (by decide) (by decide)⟩
 · show SH s₁ 0 #[lR x1, lI 0] []
   refine XS.aloadN X0.here hx rfl (hb hby d7_0) rfl rfl ?_
   show SH s₁ 1 #[lR x1, lI 0] [(.ref x1)]
   refine XS.iloadN X0.here hx rfl (hb hby d7_1) rfl ?_
   show SH s₁ 2 #[lR x1, lI 0] [(vI 0), (.ref x1)]
   refine st1.trans ?_
   show SH T1 5 #[lR x1, lI 0] [(.ref x1)]
   refine XS.pop X1.here hx rfl (hb hby d7_5) rfl rfl ?_
   show SH T1 6 #[lR x1, lI 0] []
   refine XS.aloadN X1.here hx rfl (hb hby d7_6) rfl rfl ?_
   show SH T1 7 #[lR x1, lI 0] [(.ref x1)]
   exact retOut X1 hx Bd.returns rfl (Or.inr (Or.inr (Or.inr (Or.inr ⟨rfl, rfl, rfl⟩)))) (hb hby d7_7) hr
 · show Qrm7_17 Z x1 x2 c3 h0 n0 _ T1.heap _
   exact ⟨rfl, N1, Ks2, q1_0, q1_1, q1_2, q1_3⟩
theorem pd_6 : parseMethodDescriptor "(I)Ljava/lang/StringBuilder;" = some ⟨[.int], some (.object sB)⟩ := by decide +kernel
theorem d6_11 : decode K6 11 = .ok (.ldc 74, 2) := by decide +kernel
theorem d6_13 : decode K6 13 = .ok (.invokevirtual 43, 3) := by decide +kernel
theorem d13_0 : decode K13 0 = .ok (.aload_n 0, 1) := by decide +kernel
theorem d13_1 : decode K13 1 = .ok (.aload_n 1, 1) := by decide +kernel
theorem d13_2 : decode K13 2 = .ok (.invokespecial 29, 3) := by decide +kernel
theorem d14_0 : decode K14 0 = .ok (.aload_n 1, 1) := by decide +kernel
theorem d14_1 : decode K14 1 = .ok (.ifnonnull 8, 3) := by decide +kernel
theorem d14_9 : decode K14 9 = .ok (.aload_n 1, 1) := by decide +kernel
theorem d14_10 : decode K14 10 = .ok (.invokevirtual 32, 3) := by decide +kernel
theorem d15_0 : decode K15 0 = .ok (.aload_n 0, 1) := by decide +kernel
theorem d15_1 : decode K15 1 = .ok (.getfield 9, 3) := by decide +kernel
theorem d15_4 : decode K15 4 = .ok (.arraylength, 1) := by decide +kernel
theorem d15_5 : decode K15 5 = .ok (.aload_n 0, 1) := by decide +kernel
theorem d15_6 : decode K15 6 = .ok (.invokevirtual 335, 3) := by decide +kernel
theorem d16_0 : decode K16 0 = .ok (.getstatic 38, 3) := by decide +kernel
theorem d16_3 : decode K16 3 = .ok (.ifCond .eq 10, 3) := by decide +kernel
theorem d16_6 : decode K16 6 = .ok (.aload_n 0, 1) := by decide +kernel
theorem d16_7 : decode K16 7 = .ok (.getfield 15, 3) := by decide +kernel
theorem d16_10 : decode K16 10 = .ok (.goto 4, 3) := by decide +kernel
theorem d16_14 : decode K16 14 = .ok (.ireturn, 1) := by decide +kernel
theorem ef_16_R (m : MethodId) (x0 : Addr) : entryFrame m #[(.ref x0)] 1 = mkF m 0 #[.val (.ref x0)] [] := by first | (simp [entryFrame, mkF, argsToLocals, Value.category]; done) | rfl
theorem pN9 : plainName sS = true := by first | (simp [plainName, overriddenIn]; done) | decide +kernel
def Qrm16_18 (Z : State) (x1 : Addr) (h0 : Heap) (n0 : Nat) (v : Option Value) (h : Heap) (L : List Loc) : Prop := v = some (vI 0) ∧ Fr n0 L ∧ h = h0
theorem rm16_18 (l : Launch) (Z : State) (a0 : Array Value) (hw : HW Z a0) (ws : List Jvm.Cond) (cz : Int32) (dg : Addr) (fm : Value) (x1 : Addr) (h0 : Heap) (n0 : Nat) (O0 : Old Z n0 h0) (P : Pins Z cz dg fm) (F_x1_coder : sC Z h0 x1) :
   Ctr l M17 (Jvm.Cond.code M17 jdk_42_method_152_code 1 (some .byte) :: ws) (rO 0 0 0 0) Z h0 #[(.ref x1)] (Qrm16_18 Z x1 h0 n0) := by
 have S_compact : Sta Z Z.heap sS "COMPACT_STRINGS" "Z" (.int cz) := P.1
 have N_cz : ¬ cz = 0 := P.2.1
 refine own_body (own := sS) rfl (plainFor_of_name pN9) O0 (fun m => ef_16_R m x1) ?_
 intro p e s m below meth c s₁ Bd hZ hx hby hml hown X0 e0 Z0
 have N0 := Fr.nil n0
 obtain ⟨T1, X1, e1, st1⟩ := getS2 X0 hx hZ hown (host := "") (Or.inl (wd hw 96 rfl)) Via.refl e0 (S_compact.ext O0.2) (g := (mkF m 0 #[lR x1] [])) rfl (hb hby d16_0)
 obtain ⟨T2, X2, e2, st2⟩ := getF X1 hx hZ hown (host := "") (Or.inl (wd hw 97 rfl)) Via.refl e1 F_x1_coder (g := (mkF m 7 #[lR x1] [(.ref x1)])) rfl rfl (hb hby d16_7)
 obtain ⟨fs, hr, hrun, hended, hW, hsame⟩ := X2.leave (v := some (vI 0)) (fun h => by rw [Bd.returns] at h; cases h)
 refine ⟨_, _, ?_, hrun, hended, _, _, rfl, ?_, ⟨_, rfl⟩, hW, hsame.mono (by decide) (by decide)⟩
 · show SH s₁ 0 #[lR x1] []
   refine st1 _ ?_
   show SH T1 3 #[lR x1] [(.int cz)]
   refine XS.ifNo X1.here hx rfl (hb hby d16_3) rfl ((if0 _ _).trans (feq N_cz).1) ?_
   show SH T1 6 #[lR x1] []
   refine XS.aloadN X1.here hx rfl (hb hby d16_6) rfl rfl ?_
   show SH T1 7 #[lR x1] [(.ref x1)]
   refine st2 _ ?_
   show SH T2 10 #[lR x1] [(vI 0)]
   refine XS.goto X2.here hx rfl (pc0 := 10) (pc' := 14) rfl (hb hby d16_10) (by decide) (by decide) ?_
   show SH T2 14 #[lR x1] [(vI 0)]
   exact retN X2 hx (t := .byte) Bd.returns (by simp) (hb hby d16_14) hr
 · exact ⟨rfl, N0, e2⟩
theorem pd_7 : parseMethodDescriptor "()B" = some ⟨[], some .byte⟩ := by decide +kernel
theorem d15_9 : decode K15 9 = .ok (.ishr, 1) := by decide +kernel
theorem d15_10 : decode K15 10 = .ok (.ireturn, 1) := by decide +kernel
theorem ef_15_R (m : MethodId) (x0 : Addr) : entryFrame m #[(.ref x0)] 1 = mkF m 0 #[.val (.ref x0)] [] := by first | (simp [entryFrame, mkF, argsToLocals, Value.category]; done) | rfl
def Qrm15_19 (Z : State) (x1 : Addr) (x2 : Addr) (c3 : ClassId) (d4 : Nat) (u5 : List Value) (h0 : Heap) (n0 : Nat) (v : Option Value) (h : Heap) (L : List Loc) : Prop := v = some (.int (oN d4)) ∧ Fr n0 L ∧ h = h0
theorem rm15_19 (l : Launch) (Z : State) (a0 : Array Value) (hw : HW Z a0) (ws : List Jvm.Cond) (cz : Int32) (dg : Addr) (fm : Value) (x1 : Addr) (x2 : Addr) (c3 : ClassId) (d4 : Nat) (u5 : List Value) (h0 : Heap) (n0 : Nat) (O0 : Old Z n0 h0) (P : Pins Z cz dg fm) (F_x1_value : sV Z h0 x1 x2) (V_x2 : bA Z h0 x2 c3 (oN d4) u5) (E_x1 : Exa Z h0 x1 sS) (F_x1_coder : sC Z h0 x1) :
   Ctr l M18 (Jvm.Cond.code M18 jdk_42_method_54_code 1 (some .int) :: ws) (rO 1 0 0 13) Z h0 #[(.ref x1)] (Qrm15_19 Z x1 x2 c3 d4 u5 h0 n0) := by
 refine own_body (own := sS) rfl (plainFor_of_name pN9) O0 (fun m => ef_15_R m x1) ?_
 intro p e s m below meth c s₁ Bd hZ hx hby hml hown X0 e0 Z0
 have N0 := Fr.nil n0
 obtain ⟨T1, X1, e1, st1⟩ := getF X0 hx hZ hown (host := "") (Or.inl (wd hw 90 rfl)) Via.refl e0 F_x1_value (g := (mkF m 1 #[lR x1] [(.ref x1)])) rfl rfl (hb hby d15_1)
 obtain ⟨cl2, A2, -, S2, M2, -, -⟩ := id V_x2
 obtain ⟨cq3, kq3, q3a, q3b, q3c⟩ := isOf hZ e1 E_x1
 obtain ⟨_, _, ⟨T3, L3, k3, n3⟩, -, X3, ⟨Lc3, hQ3, l3, y3, z3⟩, st3⟩ := X1.virtualBack hx (y := M17) (z := M17) hown (mvT hZ (wd hw 91 rfl)) (mvT hZ (wd hw 92 rfl)) (notFace_of_selects (args := #[]) (mvT hZ (wd hw 94 rfl))) (mvT hZ (wd hw 94 rfl)) (mvT hZ (wd hw 93 rfl)) (by decide) (backOf (W := 1) (rm16_18 l Z a0 hw [] cz dg fm x1 h0 n0 O0 P F_x1_coder) hZ (wd hw 95 rfl) (wd hw 28 rfl) (by decide) (by decide)) q3a q3c (g := (mkF m 6 #[lR x1] [(.ref x1), (.int (oN d4))])) rfl (by rw [hml]; rfl) (Steps.refl _) (argsL := []) (rest := [(.int (oN d4))]) (lenOf pd_7 rfl) rfl (lz rfl) (hb hby d15_6) (fun _ _ => ⟨rfl, e1, (by decide : 0 + 0 ≤ _), (by decide : 0 + 0 ≤ _)⟩)
 dsimp only [Pt.U, Pt.locs, Pt.cells, Pt.slots] at X3 l3 y3 z3 st3 hQ3
 subst y3 z3
 obtain ⟨rfl, N3q, e3⟩ := hQ3
 have N3 : Fr n0 L3 := by rw [l3]; exact Fr.app N0 N3q
 obtain ⟨fs, hr, hrun, hended, hW, hsame⟩ := X3.leave (v := some (.int (oN d4))) (fun h => by rw [Bd.returns] at h; cases h)
 refine ⟨_, _, ?_, hrun, hended, _, _, rfl, ?_, ⟨_, rfl⟩, hW, hsame.mono (by decide) (by decide)⟩
 · show SH s₁ 0 #[lR x1] []
   refine XS.aloadN X0.here hx rfl (hb hby d15_0) rfl rfl ?_
   show SH s₁ 1 #[lR x1] [(.ref x1)]
   refine st1 _ ?_
   show SH T1 4 #[lR x1] [(.ref x2)]
   refine X1.arraylength hx (by rw [e1]; exact A2.1) (State.isArrayOf_alike hZ.alike A2.2.1) (g := (mkF m 4 #[lR x1] [(.ref x2)])) rfl rfl (hb hby d15_4) _ ?_
   rw [len_of S2 M2]
   refine XS.aloadN X1.here hx rfl (hb hby d15_5) rfl rfl ?_
   show SH T1 6 #[lR x1] [(.ref x1), (.int (oN d4))]
   refine st3.trans ?_
   show SH T3 9 #[lR x1] [(vI 0), (.int (oN d4))]
   refine XS.ishr X3.here hx rfl (hb hby d15_9) rfl ?_
   show SH T3 10 #[lR x1] [(.int ((oN d4) >>> ((0 : Int32) &&& 31)))]
   rw [(own_sh0 (oN d4)).1]
   exact retI X3 hx Bd.returns (hb hby d15_10) hr
 · exact ⟨rfl, N3, e3⟩
theorem pd_8 : parseMethodDescriptor "()I" = some ⟨[], some .int⟩ := by decide +kernel
theorem d14_13 : decode K14 13 = .ok (.istore_n 2, 1) := by decide +kernel
theorem d14_14 : decode K14 14 = .ok (.aload_n 0, 1) := by decide +kernel
theorem d14_15 : decode K14 15 = .ok (.aload_n 0, 1) := by decide +kernel
theorem d14_16 : decode K14 16 = .ok (.getfield 79, 3) := by decide +kernel
theorem d14_19 : decode K14 19 = .ok (.iload_n 2, 1) := by decide +kernel
theorem d14_20 : decode K14 20 = .ok (.iadd, 1) := by decide +kernel
theorem d14_21 : decode K14 21 = .ok (.invokevirtual 100, 3) := by decide +kernel
def Qrm10_20 (Z : State) (x1 : Addr) (d2 : Nat) (d3 : Nat) (x4 : Addr) (c5 : ClassId) (d6 : Nat) (u7 : List Value) (h0 : Heap) (n0 : Nat) (v : Option Value) (h : Heap) (L : List Loc) : Prop := v = none ∧ Fr n0 L ∧ h = h0
theorem rm10_20 (l : Launch) (Z : State) (a0 : Array Value) (hw : HW Z a0) (ws : List Jvm.Cond) (cz : Int32) (dg : Addr) (fm : Value) (x1 : Addr) (d2 : Nat) (d3 : Nat) (x4 : Addr) (c5 : ClassId) (d6 : Nat) (u7 : List Value) (h0 : Heap) (n0 : Nat) (O0 : Old Z n0 h0) (P : Pins Z cz dg fm) (F_x1_count : aN Z h0 x1 (oN d3)) (F_x1_value : aV Z h0 x1 x4) (V_x4 : bA Z h0 x4 c5 (oN d6) u7) (F_x1_coder : aC Z h0 x1) (hn0 : d2 ≤ d6) (hn1 : d6 < 2147483648) :
   Ctr l M12 (Jvm.Cond.code M12 jdk_68_method_9_code 3 none :: ws) (rO 0 0 0 0) Z h0 #[(.ref x1), (.int (oN d2))] (Qrm10_20 Z x1 d2 d3 x4 c5 d6 u7 h0 n0) := by
 refine own_body (own := sA) rfl (plainFor_of_name pN3) O0 (fun m => ef_10_RI m x1 (oN d2)) ?_
 intro p e s m below meth c s₁ Bd hZ hx hby hml hown X0 e0 Z0
 have N0 := Fr.nil n0
 obtain ⟨T1, X1, e1, st1⟩ := getF X0 hx hZ hown (host := "") (Or.inl (wd hw 30 rfl)) Via.refl e0 F_x1_value (g := (mkF m 1 #[lR x1, lI ((oN d2)), lU] [(.ref x1)])) rfl rfl (hb hby d10_1)
 obtain ⟨cl2, A2, -, S2, M2, -, -⟩ := id V_x4
 obtain ⟨T3, X3, e3, st3⟩ := getF X1 hx hZ hown (host := "") (Or.inl (wd hw 32 rfl)) Via.refl e1 F_x1_coder (g := (mkF m 6 #[lR x1, lI ((oN d2)), lU] [(.ref x1), (.int (oN d6))])) rfl rfl (hb hby d10_6)
 obtain ⟨fs, hr, hrun, hended, hW, hsame⟩ := X3.leave (v := none) (fun _ => rfl)
 refine ⟨_, _, ?_, hrun, hended, _, _, rfl, ?_, ⟨_, rfl⟩, hW, hsame.mono (by decide) (by decide)⟩
 · show SH s₁ 0 #[lR x1, lI ((oN d2)), lU] []
   refine XS.aloadN X0.here hx rfl (hb hby d10_0) rfl rfl ?_
   show SH s₁ 1 #[lR x1, lI ((oN d2)), lU] [(.ref x1)]
   refine st1 _ ?_
   show SH T1 4 #[lR x1, lI ((oN d2)), lU] [(.ref x4)]
   refine X1.arraylength hx (by rw [e1]; exact A2.1) (State.isArrayOf_alike hZ.alike A2.2.1) (g := (mkF m 4 #[lR x1, lI ((oN d2)), lU] [(.ref x4)])) rfl rfl (hb hby d10_4) _ ?_
   rw [len_of S2 M2]
   refine XS.aloadN X1.here hx rfl (hb hby d10_5) rfl rfl ?_
   show SH T1 6 #[lR x1, lI ((oN d2)), lU] [(.ref x1), (.int (oN d6))]
   refine st3 _ ?_
   show SH T3 9 #[lR x1, lI ((oN d2)), lU] [(vI 0), (.int (oN d6))]
   refine XS.ishr X3.here hx rfl (hb hby d10_9) rfl ?_
   show SH T3 10 #[lR x1, lI ((oN d2)), lU] [(.int ((oN d6) >>> ((0 : Int32) &&& 31)))]
   rw [(own_sh0 (oN d6)).1]
   refine XS.istoreN X3.here hx rfl (hb hby d10_10) rfl (l' := #[lR x1, lI ((oN d2)), lI ((oN d6))]) rfl ?_
   show SH T3 11 #[lR x1, lI ((oN d2)), lI ((oN d6))] []
   refine XS.iloadN X3.here hx rfl (hb hby d10_11) rfl ?_
   show SH T3 12 #[lR x1, lI ((oN d2)), lI ((oN d6))] [(.int (oN d2))]
   refine XS.iloadN X3.here hx rfl (hb hby d10_12) rfl ?_
   show SH T3 13 #[lR x1, lI ((oN d2)), lI ((oN d6))] [(.int (oN d6)), (.int (oN d2))]
   refine XS.isub X3.here hx rfl (hb hby d10_13) rfl ?_
   show SH T3 14 #[lR x1, lI ((oN d2)), lI ((oN d6))] [(.int ((oN d2) - (oN d6)))]
   refine XS.ifYes X3.here hx rfl (pc0 := 14) (pc' := 38) rfl (hb hby d10_14) rfl ((if0 _ _).trans (flt (own_subN (A := d2) (B := d6) hn0 hn1)).2.2.2) (by decide) (by decide) ?_
   show SH T3 38 #[lR x1, lI ((oN d2)), lI ((oN d6))] []
   exact X3.returnOut hx Bd.returns (hb hby d10_38) hr
 · exact ⟨rfl, N0, e3⟩
theorem d14_24 : decode K14 24 = .ok (.aload_n 0, 1) := by decide +kernel
theorem d14_25 : decode K14 25 = .ok (.aload_n 0, 1) := by decide +kernel
theorem d14_26 : decode K14 26 = .ok (.getfield 79, 3) := by decide +kernel
theorem d14_29 : decode K14 29 = .ok (.aload_n 1, 1) := by decide +kernel
theorem d14_30 : decode K14 30 = .ok (.invokevirtual 208, 3) := by decide +kernel
theorem d17_0 : decode K17 0 = .ok (.aload_n 0, 1) := by decide +kernel
theorem d17_1 : decode K17 1 = .ok (.aload_n 2, 1) := by decide +kernel
theorem d17_2 : decode K17 2 = .ok (.invokevirtual 397, 3) := by decide +kernel
theorem d18_0 : decode K18 0 = .ok (.getstatic 18, 3) := by decide +kernel
theorem d18_3 : decode K18 3 = .ok (.ifCond .eq 18, 3) := by decide +kernel
theorem d18_6 : decode K18 6 = .ok (.aload_n 0, 1) := by decide +kernel
theorem d18_7 : decode K18 7 = .ok (.getfield 22, 3) := by decide +kernel
theorem d18_10 : decode K18 10 = .ok (.aload_n 1, 1) := by decide +kernel
theorem d18_11 : decode K18 11 = .ok (.invokevirtual 40, 3) := by decide +kernel
theorem d18_14 : decode K18 14 = .ok (.if_icmp .eq 7, 3) := by decide +kernel
theorem d18_21 : decode K18 21 = .ok (.return_, 1) := by decide +kernel
theorem ef_18_RR (m : MethodId) (x0 : Addr) (x1 : Addr) : entryFrame m #[(.ref x0), (.ref x1)] 2 = mkF m 0 #[.val (.ref x0), .val (.ref x1)] [] := by first | (simp [entryFrame, mkF, argsToLocals, Value.category]; done) | rfl
def Qrm18_21 (Z : State) (x1 : Addr) (x2 : Addr) (h0 : Heap) (n0 : Nat) (v : Option Value) (h : Heap) (L : List Loc) : Prop := v = none ∧ Fr n0 L ∧ h = h0
theorem rm18_21 (l : Launch) (Z : State) (a0 : Array Value) (hw : HW Z a0) (ws : List Jvm.Cond) (cz : Int32) (dg : Addr) (fm : Value) (x1 : Addr) (x2 : Addr) (h0 : Heap) (n0 : Nat) (O0 : Old Z n0 h0) (P : Pins Z cz dg fm) (F_x1_coder : aC Z h0 x1) (E_x2 : Exa Z h0 x2 sS) (F_x2_coder : sC Z h0 x2) :
   Ctr l M19 (Jvm.Cond.code M19 jdk_68_method_71_code 2 none :: ws) (rO 1 0 0 13) Z h0 #[(.ref x1), (.ref x2)] (Qrm18_21 Z x1 x2 h0 n0) := by
 have S_compact : Sta Z Z.heap sS "COMPACT_STRINGS" "Z" (.int cz) := P.1
 have N_cz : ¬ cz = 0 := P.2.1
 refine own_body (own := sA) rfl (plainFor_of_name pN3) O0 (fun m => ef_18_RR m x1 x2) ?_
 intro p e s m below meth c s₁ Bd hZ hx hby hml hown X0 e0 Z0
 have N0 := Fr.nil n0
 obtain ⟨T1, X1, e1, st1⟩ := getS2 X0 hx hZ hown (host := "") (Or.inl (wd hw 27 rfl)) Via.refl e0 (S_compact.ext O0.2) (g := (mkF m 0 #[lR x1, lR x2] [])) rfl (hb hby d18_0)
 obtain ⟨T2, X2, e2, st2⟩ := getF X1 hx hZ hown (host := "") (Or.inl (wd hw 32 rfl)) Via.refl e1 F_x1_coder (g := (mkF m 7 #[lR x1, lR x2] [(.ref x1)])) rfl rfl (hb hby d18_7)
 obtain ⟨cq3, kq3, q3a, q3b, q3c⟩ := isOf hZ e2 E_x2
 obtain ⟨_, _, ⟨T3, L3, k3, n3⟩, -, X3, ⟨Lc3, hQ3, l3, y3, z3⟩, st3⟩ := X2.virtualBack hx (y := M17) (z := M17) hown (mvT hZ (wd hw 108 rfl)) (mvT hZ (wd hw 92 rfl)) (notFace_of_selects (args := #[]) (mvT hZ (wd hw 94 rfl))) (mvT hZ (wd hw 94 rfl)) (mvT hZ (wd hw 93 rfl)) (by decide) (backOf (W := 1) (rm16_18 l Z a0 hw [] cz dg fm x2 h0 n0 O0 P F_x2_coder) hZ (wd hw 95 rfl) (wd hw 28 rfl) (by decide) (by decide)) q3a q3c (g := (mkF m 11 #[lR x1, lR x2] [(.ref x2), (vI 0)])) rfl (by rw [hml]; rfl) (Steps.refl _) (argsL := []) (rest := [(vI 0)]) (lenOf pd_7 rfl) rfl (lz rfl) (hb hby d18_11) (fun _ _ => ⟨rfl, e2, (by decide : 0 + 0 ≤ _), (by decide : 0 + 0 ≤ _)⟩)
 dsimp only [Pt.U, Pt.locs, Pt.cells, Pt.slots] at X3 l3 y3 z3 st3 hQ3
 subst y3 z3
 obtain ⟨rfl, N3q, e3⟩ := hQ3
 have N3 : Fr n0 L3 := by rw [l3]; exact Fr.app N0 N3q
 obtain ⟨fs, hr, hrun, hended, hW, hsame⟩ := X3.leave (v := none) (fun _ => rfl)
 refine ⟨_, _, ?_, hrun, hended, _, _, rfl, ?_, ⟨_, rfl⟩, hW, hsame.mono (by decide) (by decide)⟩
 · show SH s₁ 0 #[lR x1, lR x2] []
   refine st1 _ ?_
   show SH T1 3 #[lR x1, lR x2] [(.int cz)]
   refine XS.ifNo X1.here hx rfl (hb hby d18_3) rfl ((if0 _ _).trans (feq N_cz).1) ?_
   show SH T1 6 #[lR x1, lR x2] []
   refine XS.aloadN X1.here hx rfl (hb hby d18_6) rfl rfl ?_
   show SH T1 7 #[lR x1, lR x2] [(.ref x1)]
   refine st2 _ ?_
   show SH T2 10 #[lR x1, lR x2] [(vI 0)]
   refine XS.aloadN X2.here hx rfl (hb hby d18_10) rfl rfl ?_
   show SH T2 11 #[lR x1, lR x2] [(.ref x2), (vI 0)]
   refine st3.trans ?_
   show SH T3 14 #[lR x1, lR x2] [(vI 0), (vI 0)]
   refine XS.icmpYes X3.here hx rfl (pc0 := 14) (pc' := 21) rfl (hb hby d18_14) rfl (by decide) (by decide) (by decide) ?_
   show SH T3 21 #[lR x1, lR x2] []
   exact X3.returnOut hx Bd.returns (hb hby d18_21) hr
 · exact ⟨rfl, N3, e3⟩
theorem pd_9 : parseMethodDescriptor "(Ljava/lang/String;)V" = some ⟨[(.object sS)], none⟩ := by decide +kernel
theorem d17_5 : decode K17 5 = .ok (.aload_n 2, 1) := by decide +kernel
theorem d17_6 : decode K17 6 = .ok (.aload_n 0, 1) := by decide +kernel
theorem d17_7 : decode K17 7 = .ok (.getfield 15, 3) := by decide +kernel
theorem d17_10 : decode K17 10 = .ok (.iload_n 1, 1) := by decide +kernel
theorem d17_11 : decode K17 11 = .ok (.aload_n 0, 1) := by decide +kernel
theorem d17_12 : decode K17 12 = .ok (.getfield 22, 3) := by decide +kernel
theorem d17_15 : decode K17 15 = .ok (.invokevirtual 399, 3) := by decide +kernel
theorem d19_0 : decode K19 0 = .ok (.aload_n 0, 1) := by decide +kernel
theorem d19_1 : decode K19 1 = .ok (.invokevirtual 335, 3) := by decide +kernel
theorem d19_4 : decode K19 4 = .ok (.iload_n 3, 1) := by decide +kernel
theorem d19_5 : decode K19 5 = .ok (.if_icmp .ne 23, 3) := by decide +kernel
theorem d19_8 : decode K19 8 = .ok (.aload_n 0, 1) := by decide +kernel
theorem d19_9 : decode K19 9 = .ok (.getfield 9, 3) := by decide +kernel
theorem d19_12 : decode K19 12 = .ok (.iconst 0, 1) := by decide +kernel
theorem d19_13 : decode K19 13 = .ok (.aload_n 1, 1) := by decide +kernel
theorem d19_14 : decode K19 14 = .ok (.iload_n 2, 1) := by decide +kernel
theorem d19_15 : decode K19 15 = .ok (.iload_n 3, 1) := by decide +kernel
theorem d19_16 : decode K19 16 = .ok (.ishl, 1) := by decide +kernel
theorem d19_17 : decode K19 17 = .ok (.aload_n 0, 1) := by decide +kernel
theorem d19_18 : decode K19 18 = .ok (.getfield 9, 3) := by decide +kernel
theorem d19_21 : decode K19 21 = .ok (.arraylength, 1) := by decide +kernel
theorem d19_22 : decode K19 22 = .ok (.invokestatic 212, 3) := by decide +kernel
theorem d19_25 : decode K19 25 = .ok (.goto 18, 3) := by decide +kernel
theorem d19_43 : decode K19 43 = .ok (.return_, 1) := by decide +kernel
theorem ef_19_RRII (m : MethodId) (x0 : Addr) (x1 : Addr) (x2 : Int32) (x3 : Int32) : entryFrame m #[(.ref x0), (.ref x1), (.int x2), (.int x3)] 4 = mkF m 0 #[.val (.ref x0), .val (.ref x1), .val (.int x2), .val (.int x3)] [] := by first | (simp [entryFrame, mkF, argsToLocals, Value.category]; done) | rfl
def Qrm19_22 (Z : State) (x1 : Addr) (x2 : Addr) (d3 : Nat) (x4 : Addr) (c5 : ClassId) (d6 : Nat) (u7 : List Value) (c8 : ClassId) (d9 : Nat) (u10 : List Value) (h0 : Heap) (n0 : Nat) (v : Option Value) (h : Heap) (L : List Loc) : Prop := v = none ∧ Fr n0 L ∧ Keep h0 h [x2] ∧ Arv Z h x2 c8 .byte (oN d9) (u10 ++ u7) (vI 0)
theorem rm19_22 (l : Launch) (Z : State) (a0 : Array Value) (hw : HW Z a0) (ws : List Jvm.Cond) (cz : Int32) (dg : Addr) (fm : Value) (x1 : Addr) (x2 : Addr) (d3 : Nat) (x4 : Addr) (c5 : ClassId) (d6 : Nat) (u7 : List Value) (c8 : ClassId) (d9 : Nat) (u10 : List Value) (h0 : Heap) (n0 : Nat) (O0 : Old Z n0 h0) (P : Pins Z cz dg fm) (E_x1 : Exa Z h0 x1 sS) (F_x1_coder : sC Z h0 x1) (F_x1_value : sV Z h0 x1 x4) (V_x4 : bA Z h0 x4 c5 (oN d6) u7) (V_x2 : bA Z h0 x2 c8 (oN d9) u10) (hn0 : u10.length = d3) (hn1 : u7.length ≤ d6) (g_x2 : n0 ≤ x2) (hn2 : d6 ≤ d6) (hn3 : d3 + d6 ≤ d9) (hn4 : d6 < 2147483648) (hn5 : d9 < 2147483648) :
   Ctr l M20 (Jvm.Cond.code M20 jdk_42_method_147_code 4 none :: ws) (rO 1 0 0 18) Z h0 #[(.ref x1), (.ref x2), (.int (oN d3)), (vI 0)] (Qrm19_22 Z x1 x2 d3 x4 c5 d6 u7 c8 d9 u10 h0 n0) := by
 refine own_body (own := sS) rfl (plainFor_of_name pN9) O0 (fun m => ef_19_RRII m x1 x2 (oN d3) (0 : Int32)) ?_
 intro p e s m below meth c s₁ Bd hZ hx hby hml hown X0 e0 Z0
 have N0 := Fr.nil n0
 have Kr : Keep h0 h0 [x2] := Keep.refl h0 _
 obtain ⟨cq1, kq1, q1a, q1b, q1c⟩ := isOf hZ e0 E_x1
 obtain ⟨_, _, ⟨T1, L1, k1, n1⟩, -, X1, ⟨Lc1, hQ1, l1, y1, z1⟩, st1⟩ := X0.virtualBack hx (y := M17) (z := M17) hown (mvT hZ (wd hw 91 rfl)) (mvT hZ (wd hw 92 rfl)) (notFace_of_selects (args := #[]) (mvT hZ (wd hw 94 rfl))) (mvT hZ (wd hw 94 rfl)) (mvT hZ (wd hw 93 rfl)) (by decide) (backOf (W := 0) (rm16_18 l Z a0 hw [] cz dg fm x1 h0 n0 O0 P F_x1_coder) hZ (wd hw 95 rfl) (wd hw 28 rfl) (by decide) (by decide)) q1a q1c (g := (mkF m 1 #[lR x1, lR x2, lI ((oN d3)), lI 0] [(.ref x1)])) rfl (by rw [hml]; rfl) (Steps.refl _) (argsL := []) (rest := []) (lenOf pd_7 rfl) rfl (lz rfl) (hb hby d19_1) (fun _ _ => ⟨rfl, e0, (by decide : 0 + 0 ≤ _), (by decide : 0 + 0 ≤ _)⟩)
 dsimp only [Pt.U, Pt.locs, Pt.cells, Pt.slots] at X1 l1 y1 z1 st1 hQ1
 subst y1 z1
 obtain ⟨rfl, N1q, e1⟩ := hQ1
 have N1 : Fr n0 L1 := by rw [l1]; exact Fr.app N0 N1q
 obtain ⟨T2, X2, e2, st2⟩ := getF X1 hx hZ hown (host := "") (Or.inl (wd hw 90 rfl)) Via.refl e1 F_x1_value (g := (mkF m 9 #[lR x1, lR x2, lI ((oN d3)), lI 0] [(.ref x1)])) rfl rfl (hb hby d19_9)
 obtain ⟨T3, X3, e3, st3⟩ := getF X2 hx hZ hown (host := "") (Or.inl (wd hw 90 rfl)) Via.refl e2 F_x1_value (g := (mkF m 18 #[lR x1, lR x2, lI ((oN d3)), lI 0] [(.ref x1), (.int (oN d3)), (.ref x2), (vI 0), (.ref x4)])) rfl rfl (hb hby d19_18)
 obtain ⟨cl4, A4, -, S4, M4, -, -⟩ := id V_x4
 obtain ⟨T5, h5, L5, X5, e5, N5, K5, V5, st5⟩ := own_cp X3 hx hZ hown (wd hw 114 rfl) (wd hw 117 rfl) (wd hw 115 rfl) (wd hw 116 rfl) e3 (ZA := d6) (ZB := d9) (DP := d3) (N := d6) V_x4 V_x2 hn0 hn1 hn2 hn3 hn4 hn5 N1 g_x2 (g := (mkF m 22 #[lR x1, lR x2, lI ((oN d3)), lI 0] [(.int (oN d6)), (.int (oN d3)), (.ref x2), (vI 0), (.ref x4)])) rfl (by rw [hml]; rfl) rfl (hb hby d19_22) (by decide) (W' := 0) (lz rfl) (by decide)
 have Vz5 : Arv Z h5 x2 c8 .byte (oN d9) (u10 ++ u7) (vI 0) := V5
 have Ks6 := Kr.trans K5 (allS (Or.inl (mg 0 rfl)) all0)
 obtain ⟨fs, hr, hrun, hended, hW, hsame⟩ := X5.leave (v := none) (fun _ => rfl)
 refine ⟨_, _, ?_, hrun, hended, _, _, rfl, ?_, ⟨_, rfl⟩, hW, hsame.mono (by decide) (by decide)⟩
 · show SH s₁ 0 #[lR x1, lR x2, lI ((oN d3)), lI 0] []
   refine XS.aloadN X0.here hx rfl (hb hby d19_0) rfl rfl ?_
   show SH s₁ 1 #[lR x1, lR x2, lI ((oN d3)), lI 0] [(.ref x1)]
   refine st1.trans ?_
   show SH T1 4 #[lR x1, lR x2, lI ((oN d3)), lI 0] [(vI 0)]
   refine XS.iloadN X1.here hx rfl (hb hby d19_4) rfl ?_
   show SH T1 5 #[lR x1, lR x2, lI ((oN d3)), lI 0] [(vI 0), (vI 0)]
   refine XS.icmpNo X1.here hx rfl (hb hby d19_5) rfl (by decide) ?_
   show SH T1 8 #[lR x1, lR x2, lI ((oN d3)), lI 0] []
   refine XS.aloadN X1.here hx rfl (hb hby d19_8) rfl rfl ?_
   show SH T1 9 #[lR x1, lR x2, lI ((oN d3)), lI 0] [(.ref x1)]
   refine st2 _ ?_
   show SH T2 12 #[lR x1, lR x2, lI ((oN d3)), lI 0] [(.ref x4)]
   refine XS.iconst X2.here hx rfl (hb hby d19_12) ?_
   show SH T2 13 #[lR x1, lR x2, lI ((oN d3)), lI 0] [(vI 0), (.ref x4)]
   refine XS.aloadN X2.here hx rfl (hb hby d19_13) rfl rfl ?_
   show SH T2 14 #[lR x1, lR x2, lI ((oN d3)), lI 0] [(.ref x2), (vI 0), (.ref x4)]
   refine XS.iloadN X2.here hx rfl (hb hby d19_14) rfl ?_
   show SH T2 15 #[lR x1, lR x2, lI ((oN d3)), lI 0] [(.int (oN d3)), (.ref x2), (vI 0), (.ref x4)]
   refine XS.iloadN X2.here hx rfl (hb hby d19_15) rfl ?_
   show SH T2 16 #[lR x1, lR x2, lI ((oN d3)), lI 0] [(vI 0), (.int (oN d3)), (.ref x2), (vI 0), (.ref x4)]
   refine XS.ishl X2.here hx rfl (hb hby d19_16) rfl ?_
   show SH T2 17 #[lR x1, lR x2, lI ((oN d3)), lI 0] [(.int ((oN d3) <<< ((0 : Int32) &&& 31))), (.ref x2), (vI 0), (.ref x4)]
   rw [(own_sh0 (oN d3)).2]
   refine XS.aloadN X2.here hx rfl (hb hby d19_17) rfl rfl ?_
   show SH T2 18 #[lR x1, lR x2, lI ((oN d3)), lI 0] [(.ref x1), (.int (oN d3)), (.ref x2), (vI 0), (.ref x4)]
   refine st3 _ ?_
   show SH T3 21 #[lR x1, lR x2, lI ((oN d3)), lI 0] [(.ref x4), (.int (oN d3)), (.ref x2), (vI 0), (.ref x4)]
   refine X3.arraylength hx (by rw [e3]; exact A4.1) (State.isArrayOf_alike hZ.alike A4.2.1) (g := (mkF m 21 #[lR x1, lR x2, lI ((oN d3)), lI 0] [(.ref x4), (.int (oN d3)), (.ref x2), (vI 0), (.ref x4)])) rfl rfl (hb hby d19_21) _ ?_
   rw [len_of S4 M4]
   refine st5 _ ?_
   show SH T5 25 #[lR x1, lR x2, lI ((oN d3)), lI 0] []
   refine XS.goto X5.here hx rfl (pc0 := 25) (pc' := 43) rfl (hb hby d19_25) (by decide) (by decide) ?_
   show SH T5 43 #[lR x1, lR x2, lI ((oN d3)), lI 0] []
   exact X5.returnOut hx Bd.returns (hb hby d19_43) hr
 · show Qrm19_22 Z x1 x2 d3 x4 c5 d6 u7 c8 d9 u10 h0 n0 _ T5.heap _
   rw [e5]
   exact ⟨rfl, N5, Ks6, Vz5⟩
theorem pd_10 : parseMethodDescriptor "([BIB)V" = some ⟨[(.array .byte), .int, .byte], none⟩ := by decide +kernel
theorem d17_18 : decode K17 18 = .ok (.return_, 1) := by decide +kernel
theorem ef_17_RIR (m : MethodId) (x0 : Addr) (x1 : Int32) (x2 : Addr) : entryFrame m #[(.ref x0), (.int x1), (.ref x2)] 3 = mkF m 0 #[.val (.ref x0), .val (.int x1), .val (.ref x2)] [] := by first | (simp [entryFrame, mkF, argsToLocals, Value.category]; done) | rfl
def Qrm17_23 (Z : State) (x1 : Addr) (d2 : Nat) (x3 : Addr) (x4 : Addr) (x5 : Addr) (c6 : ClassId) (d7 : Nat) (u8 : List Value) (c9 : ClassId) (d10 : Nat) (u11 : List Value) (h0 : Heap) (n0 : Nat) (v : Option Value) (h : Heap) (L : List Loc) : Prop := v = none ∧ Fr n0 L ∧ Keep h0 h [x4] ∧ Arv Z h x4 c9 .byte (oN d10) (u11 ++ u8) (vI 0)
theorem rm17_23 (l : Launch) (Z : State) (a0 : Array Value) (hw : HW Z a0) (ws : List Jvm.Cond) (cz : Int32) (dg : Addr) (fm : Value) (x1 : Addr) (d2 : Nat) (x3 : Addr) (x4 : Addr) (x5 : Addr) (c6 : ClassId) (d7 : Nat) (u8 : List Value) (c9 : ClassId) (d10 : Nat) (u11 : List Value) (h0 : Heap) (n0 : Nat) (O0 : Old Z n0 h0) (P : Pins Z cz dg fm) (E_x1 : Exa Z h0 x1 sB) (F_x1_coder : aC Z h0 x1) (E_x3 : Exa Z h0 x3 sS) (F_x3_coder : sC Z h0 x3) (F_x1_value : aV Z h0 x1 x4) (F_x3_value : sV Z h0 x3 x5) (V_x5 : bA Z h0 x5 c6 (oN d7) u8) (V_x4 : bA Z h0 x4 c9 (oN d10) u11) (hn0 : u11.length = d2) (hn1 : u8.length ≤ d7) (g_x4 : n0 ≤ x4) (hn2 : d7 ≤ d7) (hn3 : d2 + d7 ≤ d10) (hn4 : d7 < 2147483648) (hn5 : d10 < 2147483648) :
   Ctr l M21 (Jvm.Cond.code M21 jdk_68_method_73_code 3 none :: ws) (rO 2 0 0 33) Z h0 #[(.ref x1), (.int (oN d2)), (.ref x3)] (Qrm17_23 Z x1 d2 x3 x4 x5 c6 d7 u8 c9 d10 u11 h0 n0) := by
 refine own_body (own := sA) rfl (plainFor_of_name pN3) O0 (fun m => ef_17_RIR m x1 (oN d2) x3) ?_
 intro p e s m below meth c s₁ Bd hZ hx hby hml hown X0 e0 Z0
 have N0 := Fr.nil n0
 have Kr : Keep h0 h0 [x4] := Keep.refl h0 _
 obtain ⟨cq1, kq1, q1a, q1b, q1c⟩ := isOf hZ e0 E_x1
 obtain ⟨_, _, ⟨T1, L1, k1, n1⟩, -, X1, ⟨Lc1, hQ1, l1, y1, z1⟩, st1⟩ := X0.virtualBack hx (y := M19) (z := M19) hown (mvT hZ (wd hw 103 rfl)) (mvT hZ (own_decl (wd hw 104 rfl) (wd hw 107 rfl))) (notFace_of_selects (args := #[]) (mvT hZ (wd hw 106 rfl))) (mvT hZ (wd hw 106 rfl)) (mvT hZ (wd hw 104 rfl)) (by decide) (backOf (W := 0) (rm18_21 l Z a0 hw [] cz dg fm x1 x3 h0 n0 O0 P F_x1_coder E_x3 F_x3_coder) hZ (wd hw 107 rfl) (wd hw 24 rfl) (by decide) (by decide)) q1a q1c (g := (mkF m 2 #[lR x1, lI ((oN d2)), lR x3] [(.ref x3), (.ref x1)])) rfl (by rw [hml]; rfl) (Steps.refl _) (argsL := [(.ref x3)]) (rest := []) (lenOf pd_9 rfl) rfl (lz rfl) (hb hby d17_2) (fun _ _ => ⟨rfl, e0, (by decide : 0 + 0 ≤ _), (by decide : 0 + 0 ≤ _)⟩)
 dsimp only [Pt.U, Pt.locs, Pt.cells, Pt.slots] at X1 l1 y1 z1 st1 hQ1
 subst y1 z1
 obtain ⟨rfl, N1q, e1⟩ := hQ1
 have N1 : Fr n0 L1 := by rw [l1]; exact Fr.app N0 N1q
 obtain ⟨T2, X2, e2, st2⟩ := getF X1 hx hZ hown (host := "") (Or.inl (wd hw 30 rfl)) Via.refl e1 F_x1_value (g := (mkF m 7 #[lR x1, lI ((oN d2)), lR x3] [(.ref x1), (.ref x3)])) rfl rfl (hb hby d17_7)
 obtain ⟨T3, X3, e3, st3⟩ := getF X2 hx hZ hown (host := "") (Or.inl (wd hw 32 rfl)) Via.refl e2 F_x1_coder (g := (mkF m 12 #[lR x1, lI ((oN d2)), lR x3] [(.ref x1), (.int (oN d2)), (.ref x4), (.ref x3)])) rfl rfl (hb hby d17_12)
 obtain ⟨cq4, kq4, q4a, q4b, q4c⟩ := isOf hZ e3 E_x3
 obtain ⟨_, _, ⟨T4, L4, k4, n4⟩, -, X4, ⟨Lc4, hQ4, l4, y4, z4⟩, st4⟩ := X3.virtualBack hx (y := M20) (z := M20) hown (mvT hZ (wd hw 109 rfl)) (mvT hZ (wd hw 110 rfl)) (notFace_of_selects (args := #[]) (mvT hZ (wd hw 112 rfl))) (mvT hZ (wd hw 112 rfl)) (mvT hZ (wd hw 111 rfl)) (by decide) (backOf (W := 0) (rm19_22 l Z a0 hw [] cz dg fm x3 x4 d2 x5 c6 d7 u8 c9 d10 u11 h0 n0 O0 P E_x3 F_x3_coder F_x3_value V_x5 V_x4 hn0 hn1 g_x4 hn2 hn3 hn4 hn5) hZ (wd hw 113 rfl) (wd hw 28 rfl) (by decide) (by decide)) q4a q4c (g := (mkF m 15 #[lR x1, lI ((oN d2)), lR x3] [(vI 0), (.int (oN d2)), (.ref x4), (.ref x3)])) rfl (by rw [hml]; rfl) (Steps.refl _) (argsL := [(.ref x4), (.int (oN d2)), (vI 0)]) (rest := []) (lenOf pd_10 rfl) rfl (lz rfl) (hb hby d17_15) (fun _ _ => ⟨rfl, e3, (by decide : 0 + 0 ≤ _), (by decide : 0 + 0 ≤ _)⟩)
 dsimp only [Pt.U, Pt.locs, Pt.cells, Pt.slots] at X4 l4 y4 z4 st4 hQ4
 subst y4 z4
 obtain ⟨rfl, N4q, K4, q4_0⟩ := hQ4
 have N4 : Fr n0 L4 := by rw [l4]; exact Fr.app N1 N4q
 have Ks5 := Kr.trans K4 (allS (Or.inl (mg 0 rfl)) all0)
 obtain ⟨fs, hr, hrun, hended, hW, hsame⟩ := X4.leave (v := none) (fun _ => rfl)
 refine ⟨_, _, ?_, hrun, hended, _, _, rfl, ?_, ⟨_, rfl⟩, hW, hsame.mono (by decide) (by decide)⟩
 · show SH s₁ 0 #[lR x1, lI ((oN d2)), lR x3] []
   refine XS.aloadN X0.here hx rfl (hb hby d17_0) rfl rfl ?_
   show SH s₁ 1 #[lR x1, lI ((oN d2)), lR x3] [(.ref x1)]
   refine XS.aloadN X0.here hx rfl (hb hby d17_1) rfl rfl ?_
   show SH s₁ 2 #[lR x1, lI ((oN d2)), lR x3] [(.ref x3), (.ref x1)]
   refine st1.trans ?_
   show SH T1 5 #[lR x1, lI ((oN d2)), lR x3] []
   refine XS.aloadN X1.here hx rfl (hb hby d17_5) rfl rfl ?_
   show SH T1 6 #[lR x1, lI ((oN d2)), lR x3] [(.ref x3)]
   refine XS.aloadN X1.here hx rfl (hb hby d17_6) rfl rfl ?_
   show SH T1 7 #[lR x1, lI ((oN d2)), lR x3] [(.ref x1), (.ref x3)]
   refine st2 _ ?_
   show SH T2 10 #[lR x1, lI ((oN d2)), lR x3] [(.ref x4), (.ref x3)]
   refine XS.iloadN X2.here hx rfl (hb hby d17_10) rfl ?_
   show SH T2 11 #[lR x1, lI ((oN d2)), lR x3] [(.int (oN d2)), (.ref x4), (.ref x3)]
   refine XS.aloadN X2.here hx rfl (hb hby d17_11) rfl rfl ?_
   show SH T2 12 #[lR x1, lI ((oN d2)), lR x3] [(.ref x1), (.int (oN d2)), (.ref x4), (.ref x3)]
   refine st3 _ ?_
   show SH T3 15 #[lR x1, lI ((oN d2)), lR x3] [(vI 0), (.int (oN d2)), (.ref x4), (.ref x3)]
   refine st4.trans ?_
   show SH T4 18 #[lR x1, lI ((oN d2)), lR x3] []
   exact X4.returnOut hx Bd.returns (hb hby d17_18) hr
 · show Qrm17_23 Z x1 d2 x3 x4 x5 c6 d7 u8 c9 d10 u11 h0 n0 _ T4.heap _
   exact ⟨rfl, N4, Ks5, q4_0⟩
theorem pd_11 : parseMethodDescriptor "(ILjava/lang/String;)V" = some ⟨[.int, (.object sS)], none⟩ := by decide +kernel
theorem d14_33 : decode K14 33 = .ok (.aload_n 0, 1) := by decide +kernel
theorem d14_34 : decode K14 34 = .ok (.dup, 1) := by decide +kernel
theorem d14_35 : decode K14 35 = .ok (.getfield 79, 3) := by decide +kernel
theorem d14_38 : decode K14 38 = .ok (.iload_n 2, 1) := by decide +kernel
theorem d14_39 : decode K14 39 = .ok (.iadd, 1) := by decide +kernel
theorem d14_40 : decode K14 40 = .ok (.putfield 79, 3) := by decide +kernel
theorem d14_43 : decode K14 43 = .ok (.aload_n 0, 1) := by decide +kernel
theorem d14_44 : decode K14 44 = .ok (.areturn, 1) := by decide +kernel
theorem ef_14_RR (m : MethodId) (x0 : Addr) (x1 : Addr) : entryFrame m #[(.ref x0), (.ref x1)] 3 = mkF m 0 #[.val (.ref x0), .val (.ref x1), .unset] [] := by first | (simp [entryFrame, mkF, argsToLocals, Value.category]; done) | rfl
def Qrm14_24 (Z : State) (x1 : Addr) (x2 : Addr) (x3 : Addr) (c4 : ClassId) (d5 : Nat) (u6 : List Value) (d7 : Nat) (x8 : Addr) (c9 : ClassId) (d10 : Nat) (u11 : List Value) (h0 : Heap) (n0 : Nat) (v : Option Value) (h : Heap) (L : List Loc) : Prop := v = some (.ref x1) ∧ Fr n0 L ∧ Keep h0 h [x8, x1] ∧ Fld Z h x1 sA "count" "I" (.int (oN (d7 + d5))) ∧ aV Z h x1 x8 ∧ aC Z h x1 ∧ Arv Z h x8 c9 .byte (oN d10) (u11 ++ u6) (vI 0)
theorem rm14_24 (l : Launch) (Z : State) (a0 : Array Value) (hw : HW Z a0) (ws : List Jvm.Cond) (cz : Int32) (dg : Addr) (fm : Value) (x1 : Addr) (x2 : Addr) (x3 : Addr) (c4 : ClassId) (d5 : Nat) (u6 : List Value) (d7 : Nat) (x8 : Addr) (c9 : ClassId) (d10 : Nat) (u11 : List Value) (h0 : Heap) (n0 : Nat) (O0 : Old Z n0 h0) (P : Pins Z cz dg fm) (E_x2 : Exa Z h0 x2 sS) (F_x2_value : sV Z h0 x2 x3) (V_x3 : bA Z h0 x3 c4 (oN d5) u6) (F_x2_coder : sC Z h0 x2) (F_x1_count : aN Z h0 x1 (oN d7)) (E_x1 : Exa Z h0 x1 sB) (F_x1_value : aV Z h0 x1 x8) (V_x8 : bA Z h0 x8 c9 (oN d10) u11) (F_x1_coder : aC Z h0 x1) (hn0 : (d7 + d5) ≤ d10) (hn1 : d10 < 2147483648) (hn2 : u11.length = d7) (hn3 : u6.length ≤ d5) (g_x8 : n0 ≤ x8) (hn4 : d5 ≤ d5) (hn5 : d7 + d5 ≤ d10) (hn6 : d5 < 2147483648) (ne_x1_x8 : x1 ≠ x8) (g_x1 : n0 ≤ x1) (ne_x8_x1 : x8 ≠ x1) :
   Ctr l M22 (Jvm.Cond.code M22 jdk_68_method_22_code 3 (some (.object sA)) :: ws) (rO 3 0 0 47) Z h0 #[(.ref x1), (.ref x2)] (Qrm14_24 Z x1 x2 x3 c4 d5 u6 d7 x8 c9 d10 u11 h0 n0) := by
 refine own_body (own := sA) rfl (plainFor_of_name pN3) O0 (fun m => ef_14_RR m x1 x2) ?_
 intro p e s m below meth c s₁ Bd hZ hx hby hml hown X0 e0 Z0
 have N0 := Fr.nil n0
 have Kr : Keep h0 h0 [x8, x1] := Keep.refl h0 _
 obtain ⟨cq1, kq1, q1a, q1b, q1c⟩ := isOf hZ e0 E_x2
 obtain ⟨_, _, ⟨T1, L1, k1, n1⟩, -, X1, ⟨Lc1, hQ1, l1, y1, z1⟩, st1⟩ := X0.virtualBack hx (y := M18) (z := M18) hown (mvT hZ (wd hw 85 rfl)) (mvT hZ (wd hw 86 rfl)) (notFace_of_selects (args := #[]) (mvT hZ (wd hw 88 rfl))) (mvT hZ (wd hw 88 rfl)) (mvT hZ (wd hw 87 rfl)) (by decide) (backOf (W := 0) (rm15_19 l Z a0 hw [] cz dg fm x2 x3 c4 d5 u6 h0 n0 O0 P F_x2_value V_x3 E_x2 F_x2_coder) hZ (wd hw 89 rfl) (wd hw 28 rfl) (by decide) (by decide)) q1a q1c (g := (mkF m 10 #[lR x1, lR x2, lU] [(.ref x2)])) rfl (by rw [hml]; rfl) (Steps.refl _) (argsL := []) (rest := []) (lenOf pd_8 rfl) rfl (lz rfl) (hb hby d14_10) (fun _ _ => ⟨rfl, e0, (by decide : 0 + 0 ≤ _), (by decide : 0 + 0 ≤ _)⟩)
 dsimp only [Pt.U, Pt.locs, Pt.cells, Pt.slots] at X1 l1 y1 z1 st1 hQ1
 subst y1 z1
 obtain ⟨rfl, N1q, e1⟩ := hQ1
 have N1 : Fr n0 L1 := by rw [l1]; exact Fr.app N0 N1q
 obtain ⟨T2, X2, e2, st2⟩ := getF X1 hx hZ hown (host := "") (Or.inl (wd hw 55 rfl)) Via.refl e1 F_x1_count (g := (mkF m 16 #[lR x1, lR x2, lI ((oN d5))] [(.ref x1), (.ref x1)])) rfl rfl (hb hby d14_16)
 obtain ⟨cq3, kq3, q3a, q3b, q3c⟩ := isOf hZ e2 E_x1
 obtain ⟨_, _, ⟨T3, L3, k3, n3⟩, -, X3, ⟨Lc3, hQ3, l3, y3, z3⟩, st3⟩ := X2.virtualBack hx (y := M12) (z := M12) hown (mvT hZ (wd hw 61 rfl)) (mvT hZ (own_decl (wd hw 62 rfl) (wd hw 65 rfl))) (notFace_of_selects (args := #[]) (mvT hZ (wd hw 64 rfl))) (mvT hZ (wd hw 64 rfl)) (mvT hZ (wd hw 62 rfl)) (by decide) (backOf (W := 0) (rm10_20 l Z a0 hw [] cz dg fm x1 (d7 + d5) d7 x8 c9 d10 u11 h0 n0 O0 P F_x1_count F_x1_value V_x8 F_x1_coder hn0 hn1) hZ (wd hw 65 rfl) (wd hw 24 rfl) (by decide) (by decide)) q3a q3c (g := (mkF m 21 #[lR x1, lR x2, lI ((oN d5))] [(.int (oN (d7 + d5))), (.ref x1)])) rfl (by rw [hml]; rfl) (Steps.refl _) (argsL := [(.int (oN (d7 + d5)))]) (rest := []) (lenOf pd_1 rfl) rfl (lz rfl) (hb hby d14_21) (fun _ _ => ⟨rfl, e2, (by decide : 0 + 0 ≤ _), (by decide : 0 + 0 ≤ _)⟩)
 dsimp only [Pt.U, Pt.locs, Pt.cells, Pt.slots] at X3 l3 y3 z3 st3 hQ3
 subst y3 z3
 obtain ⟨rfl, N3q, e3⟩ := hQ3
 have N3 : Fr n0 L3 := by rw [l3]; exact Fr.app N1 N3q
 obtain ⟨T4, X4, e4, st4⟩ := getF X3 hx hZ hown (host := "") (Or.inl (wd hw 55 rfl)) Via.refl e3 F_x1_count (g := (mkF m 26 #[lR x1, lR x2, lI ((oN d5))] [(.ref x1), (.ref x1)])) rfl rfl (hb hby d14_26)
 obtain ⟨cq5, kq5, q5a, q5b, q5c⟩ := isOf hZ e4 E_x1
 obtain ⟨_, _, ⟨T5, L5, k5, n5⟩, -, X5, ⟨Lc5, hQ5, l5, y5, z5⟩, st5⟩ := X4.virtualBack hx (y := M21) (z := M21) hown (mvT hZ (wd hw 98 rfl)) (mvT hZ (own_decl (wd hw 99 rfl) (wd hw 102 rfl))) (notFace_of_selects (args := #[]) (mvT hZ (wd hw 101 rfl))) (mvT hZ (wd hw 101 rfl)) (mvT hZ (wd hw 99 rfl)) (by decide) (backOf (W := 0) (rm17_23 l Z a0 hw [] cz dg fm x1 d7 x2 x8 x3 c4 d5 u6 c9 d10 u11 h0 n0 O0 P E_x1 F_x1_coder E_x2 F_x2_coder F_x1_value F_x2_value V_x3 V_x8 hn2 hn3 g_x8 hn4 hn5 hn6 hn1) hZ (wd hw 102 rfl) (wd hw 24 rfl) (by decide) (by decide)) q5a q5c (g := (mkF m 30 #[lR x1, lR x2, lI ((oN d5))] [(.ref x2), (.int (oN d7)), (.ref x1)])) rfl (by rw [hml]; rfl) (Steps.refl _) (argsL := [(.int (oN d7)), (.ref x2)]) (rest := []) (lenOf pd_11 rfl) rfl (lz rfl) (hb hby d14_30) (fun _ _ => ⟨rfl, e4, (by decide : 0 + 0 ≤ _), (by decide : 0 + 0 ≤ _)⟩)
 dsimp only [Pt.U, Pt.locs, Pt.cells, Pt.slots] at X5 l5 y5 z5 st5 hQ5
 subst y5 z5
 obtain ⟨rfl, N5q, K5, q5_0⟩ := hQ5
 have N5 : Fr n0 L5 := by rw [l5]; exact Fr.app N3 N5q
 have Ks6 := Kr.trans K5 (allS (Or.inl (mg 0 rfl)) all0)
 have f7 := (F_x1_count.keep K5 (ninS ne_x1_x8 nin0))
 obtain ⟨T8, X8, e8, st8⟩ := getF X5 hx hZ hown (host := "") (Or.inl (wd hw 55 rfl)) Via.refl rfl f7 (g := (mkF m 35 #[lR x1, lR x2, lI ((oN d5))] [(.ref x1), (.ref x1)])) rfl rfl (hb hby d14_35)
 have f9 := (E_x1.keep K5)
 obtain ⟨T10, h10, X10, e10, W10, st10⟩ := putF X8 hx hZ hown (host := "") (Or.inl (wd hw 55 rfl)) Via.refl e8 f7 f9 (Or.inl (wd hw 56 rfl)) (wd hw 15 rfl) (ty := .int) (by decide) rfl rfl (g := (mkF m 40 #[lR x1, lR x2, lI ((oN d5))] [(.int (oN (d7 + d5))), (.ref x1)])) rfl rfl (hb hby d14_40)
 have Ks11 := Ks6.wr W10 (Or.inl (mg 1 rfl))
 have Fw10 := Fld.same W10 f7
 have N10 := Fr.snoc X10 N5 g_x1
 have f12 := (Fld.other W10 (F_x1_value.keep K5 (ninS ne_x1_x8 nin0)) (Or.inr (slot_ne (Or.inl (wd hw 31 rfl)) (Or.inl (wd hw 56 rfl)) (by decide) (t := (.array .byte)) (t' := .int) (by decide) (by decide))))
 have f13 := (Fld.other W10 (F_x1_coder.keep K5 (ninS ne_x1_x8 nin0)) (Or.inr (slot_ne (Or.inl (wd hw 33 rfl)) (Or.inl (wd hw 56 rfl)) (by decide) (t := .byte) (t' := .int) (by decide) (by decide))))
 have f14 := (q5_0.other W10 ne_x8_x1)
 obtain ⟨fs, hr, hrun, hended, hW, hsame⟩ := X10.leave (v := some (.ref x1)) (fun h => by rw [Bd.returns] at h; cases h)
 refine ⟨_, _, ?_, hrun, hended, _, _, rfl, ?_, ⟨_, rfl⟩, hW, hsame.mono (by decide) (by decide)⟩
 · show SH s₁ 0 #[lR x1, lR x2, lU] []
   refine XS.aloadN X0.here hx rfl (hb hby d14_0) rfl rfl ?_
   show SH s₁ 1 #[lR x1, lR x2, lU] [(.ref x2)]
   refine XS.ifnonnullYes X0.here hx rfl (pc0 := 1) (pc' := 9) rfl (hb hby d14_1) rfl (by decide) (by decide) ?_
   show SH s₁ 9 #[lR x1, lR x2, lU] []
   refine XS.aloadN X0.here hx rfl (hb hby d14_9) rfl rfl ?_
   show SH s₁ 10 #[lR x1, lR x2, lU] [(.ref x2)]
   refine st1.trans ?_
   show SH T1 13 #[lR x1, lR x2, lU] [(.int (oN d5))]
   refine XS.istoreN X1.here hx rfl (hb hby d14_13) rfl (l' := #[lR x1, lR x2, lI ((oN d5))]) rfl ?_
   show SH T1 14 #[lR x1, lR x2, lI ((oN d5))] []
   refine XS.aloadN X1.here hx rfl (hb hby d14_14) rfl rfl ?_
   show SH T1 15 #[lR x1, lR x2, lI ((oN d5))] [(.ref x1)]
   refine XS.aloadN X1.here hx rfl (hb hby d14_15) rfl rfl ?_
   show SH T1 16 #[lR x1, lR x2, lI ((oN d5))] [(.ref x1), (.ref x1)]
   refine st2 _ ?_
   show SH T2 19 #[lR x1, lR x2, lI ((oN d5))] [(.int (oN d7)), (.ref x1)]
   refine XS.iloadN X2.here hx rfl (hb hby d14_19) rfl ?_
   show SH T2 20 #[lR x1, lR x2, lI ((oN d5))] [(.int (oN d5)), (.int (oN d7)), (.ref x1)]
   refine XS.iadd X2.here hx rfl (hb hby d14_20) rfl ?_
   show SH T2 21 #[lR x1, lR x2, lI ((oN d5))] [(.int ((oN d7) + (oN d5))), (.ref x1)]
   rw [show ((oN d7) + (oN d5)) = (oN (d7 + d5)) from own_addI d7 d5]
   refine st3.trans ?_
   show SH T3 24 #[lR x1, lR x2, lI ((oN d5))] []
   refine XS.aloadN X3.here hx rfl (hb hby d14_24) rfl rfl ?_
   show SH T3 25 #[lR x1, lR x2, lI ((oN d5))] [(.ref x1)]
   refine XS.aloadN X3.here hx rfl (hb hby d14_25) rfl rfl ?_
   show SH T3 26 #[lR x1, lR x2, lI ((oN d5))] [(.ref x1), (.ref x1)]
   refine st4 _ ?_
   show SH T4 29 #[lR x1, lR x2, lI ((oN d5))] [(.int (oN d7)), (.ref x1)]
   refine XS.aloadN X4.here hx rfl (hb hby d14_29) rfl rfl ?_
   show SH T4 30 #[lR x1, lR x2, lI ((oN d5))] [(.ref x2), (.int (oN d7)), (.ref x1)]
   refine st5.trans ?_
   show SH T5 33 #[lR x1, lR x2, lI ((oN d5))] []
   refine XS.aloadN X5.here hx rfl (hb hby d14_33) rfl rfl ?_
   show SH T5 34 #[lR x1, lR x2, lI ((oN d5))] [(.ref x1)]
   refine XS.dup X5.here hx rfl (hb hby d14_34) rfl rfl ?_
   show SH T5 35 #[lR x1, lR x2, lI ((oN d5))] [(.ref x1), (.ref x1)]
   refine st8 _ ?_
   show SH T8 38 #[lR x1, lR x2, lI ((oN d5))] [(.int (oN d7)), (.ref x1)]
   refine XS.iloadN X8.here hx rfl (hb hby d14_38) rfl ?_
   show SH T8 39 #[lR x1, lR x2, lI ((oN d5))] [(.int (oN d5)), (.int (oN d7)), (.ref x1)]
   refine XS.iadd X8.here hx rfl (hb hby d14_39) rfl ?_
   show SH T8 40 #[lR x1, lR x2, lI ((oN d5))] [(.int ((oN d7) + (oN d5))), (.ref x1)]
   rw [show ((oN d7) + (oN d5)) = (oN (d7 + d5)) from own_addI d7 d5]
   refine st10 _ ?_
   show SH T10 43 #[lR x1, lR x2, lI ((oN d5))] []
   refine XS.aloadN X10.here hx rfl (hb hby d14_43) rfl rfl ?_
   show SH T10 44 #[lR x1, lR x2, lI ((oN d5))] [(.ref x1)]
   exact retOut X10 hx Bd.returns rfl (Or.inr (Or.inr (Or.inr (Or.inr ⟨rfl, rfl, rfl⟩)))) (hb hby d14_44) hr
 · show Qrm14_24 Z x1 x2 x3 c4 d5 u6 d7 x8 c9 d10 u11 h0 n0 _ T10.heap _
   rw [e10]
   exact ⟨rfl, N10, Ks11, Fw10, f12, f13, f14⟩
theorem pd_12 : parseMethodDescriptor "(Ljava/lang/String;)Ljava/lang/AbstractStringBuilder;" = some ⟨[(.object sS)], some (.object sA)⟩ := by decide +kernel
theorem d13_5 : decode K13 5 = .ok (.pop, 1) := by decide +kernel
theorem d13_6 : decode K13 6 = .ok (.aload_n 0, 1) := by decide +kernel
theorem d13_7 : decode K13 7 = .ok (.areturn, 1) := by decide +kernel
theorem ef_13_RR (m : MethodId) (x0 : Addr) (x1 : Addr) : entryFrame m #[(.ref x0), (.ref x1)] 2 = mkF m 0 #[.val (.ref x0), .val (.ref x1)] [] := by first | (simp [entryFrame, mkF, argsToLocals, Value.category]; done) | rfl
def Qrm13_25 (Z : State) (x1 : Addr) (x2 : Addr) (x3 : Addr) (c4 : ClassId) (d5 : Nat) (u6 : List Value) (d7 : Nat) (x8 : Addr) (c9 : ClassId) (d10 : Nat) (u11 : List Value) (h0 : Heap) (n0 : Nat) (v : Option Value) (h : Heap) (L : List Loc) : Prop := v = some (.ref x1) ∧ Fr n0 L ∧ Keep h0 h [x1, x8] ∧ Fld Z h x1 sA "count" "I" (.int (oN (d7 + d5))) ∧ aV Z h x1 x8 ∧ aC Z h x1 ∧ Arv Z h x8 c9 .byte (oN d10) (u11 ++ u6) (vI 0)
theorem rm13_25 (l : Launch) (Z : State) (a0 : Array Value) (hw : HW Z a0) (ws : List Jvm.Cond) (cz : Int32) (dg : Addr) (fm : Value) (x1 : Addr) (x2 : Addr) (x3 : Addr) (c4 : ClassId) (d5 : Nat) (u6 : List Value) (d7 : Nat) (x8 : Addr) (c9 : ClassId) (d10 : Nat) (u11 : List Value) (h0 : Heap) (n0 : Nat) (O0 : Old Z n0 h0) (P : Pins Z cz dg fm) (E_x2 : Exa Z h0 x2 sS) (F_x2_value : sV Z h0 x2 x3) (V_x3 : bA Z h0 x3 c4 (oN d5) u6) (F_x2_coder : sC Z h0 x2) (F_x1_count : aN Z h0 x1 (oN d7)) (E_x1 : Exa Z h0 x1 sB) (F_x1_value : aV Z h0 x1 x8) (V_x8 : bA Z h0 x8 c9 (oN d10) u11) (F_x1_coder : aC Z h0 x1) (hn0 : (d7 + d5) ≤ d10) (hn1 : d10 < 2147483648) (hn2 : u11.length = d7) (hn3 : u6.length ≤ d5) (g_x8 : n0 ≤ x8) (hn4 : d5 ≤ d5) (hn5 : d7 + d5 ≤ d10) (hn6 : d5 < 2147483648) (ne_x1_x8 : x1 ≠ x8) (g_x1 : n0 ≤ x1) (ne_x8_x1 : x8 ≠ x1) :
   Ctr l M23 (Jvm.Cond.code M23 jdk_67_method_7_code 2 (some (.object sB)) :: ws) (rO 4 0 0 61) Z h0 #[(.ref x1), (.ref x2)] (Qrm13_25 Z x1 x2 x3 c4 d5 u6 d7 x8 c9 d10 u11 h0 n0) := by
 refine own_body (own := sB) rfl (plainFor_of_name pN5) O0 (fun m => ef_13_RR m x1 x2) ?_
 intro p e s m below meth c s₁ Bd hZ hx hby hml hown X0 e0 Z0
 have N0 := Fr.nil n0
 have Kr : Keep h0 h0 [x1, x8] := Keep.refl h0 _
 obtain ⟨_, _, ⟨T1, L1, k1, n1⟩, -, X1, ⟨Lc1, hQ1, l1, y1, z1⟩, st1⟩ := superBack X0 hx hZ (y := M22) hown (wd hw 81 rfl) (own_same (wd hw 83 rfl) (wd hw 64 rfl) rfl (by decide)) (wd hw 82 rfl) (wd hw 52 rfl) (by decide) (backOf (W := 0) (rm14_24 l Z a0 hw [] cz dg fm x1 x2 x3 c4 d5 u6 d7 x8 c9 d10 u11 h0 n0 O0 P E_x2 F_x2_value V_x3 F_x2_coder F_x1_count E_x1 F_x1_value V_x8 F_x1_coder hn0 hn1 hn2 hn3 g_x8 hn4 hn5 hn6 ne_x1_x8 g_x1 ne_x8_x1) hZ (wd hw 84 rfl) (wd hw 24 rfl) (by decide) (by decide)) e0 (Ins.self E_x1) (g := (mkF m 2 #[lR x1, lR x2] [(.ref x2), (.ref x1)])) rfl (by rw [hml]; rfl) (wd hw 84 rfl) (argsL := [(.ref x2)]) (rest := []) (lenOf pd_12 rfl) rfl (lz rfl) (hb hby d13_2) (fun _ _ => ⟨rfl, e0, (by decide : 0 + 0 ≤ _), (by decide : 0 + 0 ≤ _)⟩)
 dsimp only [Pt.U, Pt.locs, Pt.cells, Pt.slots] at X1 l1 y1 z1 st1 hQ1
 subst y1 z1
 obtain ⟨rfl, N1q, K1, q1_0, q1_1, q1_2, q1_3⟩ := hQ1
 have N1 : Fr n0 L1 := by rw [l1]; exact Fr.app N0 N1q
 have Ks2 := Kr.trans K1 (allS (Or.inl (mg 1 rfl)) (allS (Or.inl (mg 0 rfl)) all0))
 obtain ⟨fs, hr, hrun, hended, hW, hsame⟩ := X1.leave (v := some (.ref x1)) (fun h => by rw [Bd.returns] at h; cases h)
 refine ⟨_, _, ?_, hrun, hended, _, _, rfl, ?_, ⟨_, rfl⟩, hW, hsame.mono (by decide) (by decide)⟩
 · show SH s₁ 0 #[lR x1, lR x2] []
   refine XS.aloadN X0.here hx rfl (hb hby d13_0) rfl rfl ?_
   show SH s₁ 1 #[lR x1, lR x2] [(.ref x1)]
   refine XS.aloadN X0.here hx rfl (hb hby d13_1) rfl rfl ?_
   show SH s₁ 2 #[lR x1, lR x2] [(.ref x2), (.ref x1)]
   refine st1.trans ?_
   show SH T1 5 #[lR x1, lR x2] [(.ref x1)]
   refine XS.pop X1.here hx rfl (hb hby d13_5) rfl rfl ?_
   show SH T1 6 #[lR x1, lR x2] []
   refine XS.aloadN X1.here hx rfl (hb hby d13_6) rfl rfl ?_
   show SH T1 7 #[lR x1, lR x2] [(.ref x1)]
   exact retOut X1 hx Bd.returns rfl (Or.inr (Or.inr (Or.inr (Or.inr ⟨rfl, rfl, rfl⟩)))) (hb hby d13_7) hr
 · show Qrm13_25 Z x1 x2 x3 c4 d5 u6 d7 x8 c9 d10 u11 h0 n0 _ T1.heap _
   exact ⟨rfl, N1, Ks2, q1_0, q1_1, q1_2, q1_3⟩
theorem pd_13 : parseMethodDescriptor "(Ljava/lang/String;)Ljava/lang/StringBuilder;" = some ⟨[(.object sS)], some (.object sB)⟩ := by decide +kernel
theorem d6_16 : decode K6 16 = .ok (.aload_n 1, 1) := by decide +kernel
theorem d6_17 : decode K6 17 = .ok (.invokevirtual 43, 3) := by decide +kernel
theorem d6_20 : decode K6 20 = .ok (.iload_n 0, 1) := by decide +kernel
theorem d6_21 : decode K6 21 = .ok (.iconst 1, 1) := by decide +kernel
theorem d6_22 : decode K6 22 = .ok (.if_icmp .ne 8, 3) := by decide +kernel
theorem d6_30 : decode K6 30 = .ok (.ldc 78, 2) := by decide +kernel
theorem d6_32 : decode K6 32 = .ok (.invokevirtual 43, 3) := by decide +kernel
theorem d6_35 : decode K6 35 = .ok (.invokevirtual 67, 3) := by decide +kernel
theorem d20_0 : decode K20 0 = .ok (.new 18, 3) := by decide +kernel
theorem d20_3 : decode K20 3 = .ok (.dup, 1) := by decide +kernel
theorem d20_4 : decode K20 4 = .ok (.aload_n 0, 1) := by decide +kernel
theorem d20_5 : decode K20 5 = .ok (.invokespecial 137, 3) := by decide +kernel
theorem d21_0 : decode K21 0 = .ok (.aload_n 0, 1) := by decide +kernel
theorem d21_1 : decode K21 1 = .ok (.aload_n 1, 1) := by decide +kernel
theorem d21_2 : decode K21 2 = .ok (.aconst_null, 1) := by decide +kernel
theorem d21_3 : decode K21 3 = .ok (.invokespecial 489, 3) := by decide +kernel
theorem d22_0 : decode K22 0 = .ok (.aload_n 0, 1) := by decide +kernel
theorem d22_1 : decode K22 1 = .ok (.invokespecial 1, 3) := by decide +kernel
theorem d22_4 : decode K22 4 = .ok (.aload_n 1, 1) := by decide +kernel
theorem d22_5 : decode K22 5 = .ok (.invokevirtual 552, 3) := by decide +kernel
theorem d23_0 : decode K23 0 = .ok (.aload_n 0, 1) := by decide +kernel
theorem d23_1 : decode K23 1 = .ok (.getfield 15, 3) := by decide +kernel
theorem d23_4 : decode K23 4 = .ok (.areturn, 1) := by decide +kernel
theorem ef_23_R (m : MethodId) (x0 : Addr) : entryFrame m #[(.ref x0)] 1 = mkF m 0 #[.val (.ref x0)] [] := by first | (simp [entryFrame, mkF, argsToLocals, Value.category]; done) | rfl
def Qrm23_26 (Z : State) (x1 : Addr) (x2 : Addr) (h0 : Heap) (n0 : Nat) (v : Option Value) (h : Heap) (L : List Loc) : Prop := v = some (.ref x2) ∧ Fr n0 L ∧ h = h0
theorem rm23_26 (l : Launch) (Z : State) (a0 : Array Value) (hw : HW Z a0) (ws : List Jvm.Cond) (cz : Int32) (dg : Addr) (fm : Value) (x1 : Addr) (x2 : Addr) (h0 : Heap) (n0 : Nat) (O0 : Old Z n0 h0) (P : Pins Z cz dg fm) (F_x1_value : aV Z h0 x1 x2) :
   Ctr l M24 (Jvm.Cond.code M24 jdk_68_method_64_code 1 (some (.array .byte)) :: ws) (rO 0 0 0 0) Z h0 #[(.ref x1)] (Qrm23_26 Z x1 x2 h0 n0) := by
 refine own_body (own := sA) rfl (plainFor_of_name pN3) O0 (fun m => ef_23_R m x1) ?_
 intro p e s m below meth c s₁ Bd hZ hx hby hml hown X0 e0 Z0
 have N0 := Fr.nil n0
 obtain ⟨T1, X1, e1, st1⟩ := getF X0 hx hZ hown (host := "") (Or.inl (wd hw 30 rfl)) Via.refl e0 F_x1_value (g := (mkF m 1 #[lR x1] [(.ref x1)])) rfl rfl (hb hby d23_1)
 obtain ⟨fs, hr, hrun, hended, hW, hsame⟩ := X1.leave (v := some (.ref x2)) (fun h => by rw [Bd.returns] at h; cases h)
 refine ⟨_, _, ?_, hrun, hended, _, _, rfl, ?_, ⟨_, rfl⟩, hW, hsame.mono (by decide) (by decide)⟩
 · show SH s₁ 0 #[lR x1] []
   refine XS.aloadN X0.here hx rfl (hb hby d23_0) rfl rfl ?_
   show SH s₁ 1 #[lR x1] [(.ref x1)]
   refine st1 _ ?_
   show SH T1 4 #[lR x1] [(.ref x2)]
   exact retOut X1 hx Bd.returns rfl (Or.inr (Or.inr (Or.inr (Or.inr ⟨rfl, rfl, rfl⟩)))) (hb hby d23_4) hr
 · exact ⟨rfl, N0, e1⟩
theorem pd_14 : parseMethodDescriptor "()[B" = some ⟨[], some (.array .byte)⟩ := by decide +kernel
theorem d22_8 : decode K22 8 = .ok (.astore_n 3, 1) := by decide +kernel
theorem d22_9 : decode K22 9 = .ok (.aload_n 1, 1) := by decide +kernel
theorem d22_10 : decode K22 10 = .ok (.invokevirtual 549, 3) := by decide +kernel
theorem d24_0 : decode K24 0 = .ok (.aload_n 0, 1) := by decide +kernel
theorem d24_1 : decode K24 1 = .ok (.invokespecial 343, 3) := by decide +kernel
theorem d25_0 : decode K25 0 = .ok (.aload_n 0, 1) := by decide +kernel
theorem d25_1 : decode K25 1 = .ok (.getfield 79, 3) := by decide +kernel
theorem d25_4 : decode K25 4 = .ok (.ireturn, 1) := by decide +kernel
theorem ef_25_R (m : MethodId) (x0 : Addr) : entryFrame m #[(.ref x0)] 1 = mkF m 0 #[.val (.ref x0)] [] := by first | (simp [entryFrame, mkF, argsToLocals, Value.category]; done) | rfl
def Qrm25_27 (Z : State) (x1 : Addr) (d2 : Nat) (h0 : Heap) (n0 : Nat) (v : Option Value) (h : Heap) (L : List Loc) : Prop := v = some (.int (oN d2)) ∧ Fr n0 L ∧ h = h0
theorem rm25_27 (l : Launch) (Z : State) (a0 : Array Value) (hw : HW Z a0) (ws : List Jvm.Cond) (cz : Int32) (dg : Addr) (fm : Value) (x1 : Addr) (d2 : Nat) (h0 : Heap) (n0 : Nat) (O0 : Old Z n0 h0) (P : Pins Z cz dg fm) (F_x1_count : aN Z h0 x1 (oN d2)) :
   Ctr l M25 (Jvm.Cond.code M25 jdk_68_method_6_code 1 (some .int) :: ws) (rO 0 0 0 0) Z h0 #[(.ref x1)] (Qrm25_27 Z x1 d2 h0 n0) := by
 refine own_body (own := sA) rfl (plainFor_of_name pN3) O0 (fun m => ef_25_R m x1) ?_
 intro p e s m below meth c s₁ Bd hZ hx hby hml hown X0 e0 Z0
 have N0 := Fr.nil n0
 obtain ⟨T1, X1, e1, st1⟩ := getF X0 hx hZ hown (host := "") (Or.inl (wd hw 55 rfl)) Via.refl e0 F_x1_count (g := (mkF m 1 #[lR x1] [(.ref x1)])) rfl rfl (hb hby d25_1)
 obtain ⟨fs, hr, hrun, hended, hW, hsame⟩ := X1.leave (v := some (.int (oN d2))) (fun h => by rw [Bd.returns] at h; cases h)
 refine ⟨_, _, ?_, hrun, hended, _, _, rfl, ?_, ⟨_, rfl⟩, hW, hsame.mono (by decide) (by decide)⟩
 · show SH s₁ 0 #[lR x1] []
   refine XS.aloadN X0.here hx rfl (hb hby d25_0) rfl rfl ?_
   show SH s₁ 1 #[lR x1] [(.ref x1)]
   refine st1 _ ?_
   show SH T1 4 #[lR x1] [(.int (oN d2))]
   exact retI X1 hx Bd.returns (hb hby d25_4) hr
 · exact ⟨rfl, N0, e1⟩
theorem d24_4 : decode K24 4 = .ok (.ireturn, 1) := by decide +kernel
theorem ef_24_R (m : MethodId) (x0 : Addr) : entryFrame m #[(.ref x0)] 1 = mkF m 0 #[.val (.ref x0)] [] := by first | (simp [entryFrame, mkF, argsToLocals, Value.category]; done) | rfl
def Qrm24_28 (Z : State) (x1 : Addr) (d2 : Nat) (h0 : Heap) (n0 : Nat) (v : Option Value) (h : Heap) (L : List Loc) : Prop := v = some (.int (oN d2)) ∧ Fr n0 L ∧ h = h0
theorem rm24_28 (l : Launch) (Z : State) (a0 : Array Value) (hw : HW Z a0) (ws : List Jvm.Cond) (cz : Int32) (dg : Addr) (fm : Value) (x1 : Addr) (d2 : Nat) (h0 : Heap) (n0 : Nat) (O0 : Old Z n0 h0) (P : Pins Z cz dg fm) (F_x1_count : aN Z h0 x1 (oN d2)) (E_x1 : Exa Z h0 x1 sB) :
   Ctr l M26 (Jvm.Cond.code M26 jdk_67_method_93_code 1 (some .int) :: ws) (rO 1 0 0 12) Z h0 #[(.ref x1)] (Qrm24_28 Z x1 d2 h0 n0) := by
 refine own_body (own := sB) rfl (plainFor_of_name pN5) O0 (fun m => ef_24_R m x1) ?_
 intro p e s m below meth c s₁ Bd hZ hx hby hml hown X0 e0 Z0
 have N0 := Fr.nil n0
 obtain ⟨_, _, ⟨T1, L1, k1, n1⟩, -, X1, ⟨Lc1, hQ1, l1, y1, z1⟩, st1⟩ := superBack X0 hx hZ (y := M25) hown (wd hw 144 rfl) (own_same (wd hw 139 rfl) (wd hw 64 rfl) rfl (by decide)) (wd hw 140 rfl) (wd hw 52 rfl) (by decide) (backOf (W := 0) (rm25_27 l Z a0 hw [] cz dg fm x1 d2 h0 n0 O0 P F_x1_count) hZ (wd hw 145 rfl) (wd hw 24 rfl) (by decide) (by decide)) e0 (Ins.self E_x1) (g := (mkF m 1 #[lR x1] [(.ref x1)])) rfl (by rw [hml]; rfl) (wd hw 145 rfl) (argsL := []) (rest := []) (lenOf pd_8 rfl) rfl (lz rfl) (hb hby d24_1) (fun _ _ => ⟨rfl, e0, (by decide : 0 + 0 ≤ _), (by decide : 0 + 0 ≤ _)⟩)
 dsimp only [Pt.U, Pt.locs, Pt.cells, Pt.slots] at X1 l1 y1 z1 st1 hQ1
 subst y1 z1
 obtain ⟨rfl, N1q, e1⟩ := hQ1
 have N1 : Fr n0 L1 := by rw [l1]; exact Fr.app N0 N1q
 obtain ⟨fs, hr, hrun, hended, hW, hsame⟩ := X1.leave (v := some (.int (oN d2))) (fun h => by rw [Bd.returns] at h; cases h)
 refine ⟨_, _, ?_, hrun, hended, _, _, rfl, ?_, ⟨_, rfl⟩, hW, hsame.mono (by decide) (by decide)⟩
 · show SH s₁ 0 #[lR x1] []
   refine XS.aloadN X0.here hx rfl (hb hby d24_0) rfl rfl ?_
   show SH s₁ 1 #[lR x1] [(.ref x1)]
   refine st1.trans ?_
   show SH T1 4 #[lR x1] [(.int (oN d2))]
   exact retI X1 hx Bd.returns (hb hby d24_4) hr
 · exact ⟨rfl, N1, e1⟩
theorem d22_13 : decode K22 13 = .ok (.istore 4, 2) := by decide +kernel
theorem d22_15 : decode K22 15 = .ok (.aload_n 1, 1) := by decide +kernel
theorem d22_16 : decode K22 16 = .ok (.invokevirtual 1047, 3) := by decide +kernel
theorem d22_19 : decode K22 19 = .ok (.ifCond .eq 22, 3) := by decide +kernel
theorem d22_22 : decode K22 22 = .ok (.aload_n 0, 1) := by decide +kernel
theorem d22_23 : decode K22 23 = .ok (.iconst 0, 1) := by decide +kernel
theorem d22_24 : decode K22 24 = .ok (.putfield 15, 3) := by decide +kernel
theorem d22_27 : decode K22 27 = .ok (.aload_n 0, 1) := by decide +kernel
theorem d22_28 : decode K22 28 = .ok (.aload_n 3, 1) := by decide +kernel
theorem d22_29 : decode K22 29 = .ok (.iconst 0, 1) := by decide +kernel
theorem d22_30 : decode K22 30 = .ok (.iload 4, 2) := by decide +kernel
theorem d22_32 : decode K22 32 = .ok (.invokestatic 54, 3) := by decide +kernel
theorem d26_0 : decode K26 0 = .ok (.iload_n 1, 1) := by decide +kernel
theorem d26_1 : decode K26 1 = .ok (.ifCond .ne 9, 3) := by decide +kernel
theorem d26_4 : decode K26 4 = .ok (.iload_n 2, 1) := by decide +kernel
theorem d26_5 : decode K26 5 = .ok (.aload_n 0, 1) := by decide +kernel
theorem d26_6 : decode K26 6 = .ok (.arraylength, 1) := by decide +kernel
theorem d26_7 : decode K26 7 = .ok (.if_icmp .eq 10, 3) := by decide +kernel
theorem d26_10 : decode K26 10 = .ok (.aload_n 0, 1) := by decide +kernel
theorem d26_11 : decode K26 11 = .ok (.iload_n 1, 1) := by decide +kernel
theorem d26_12 : decode K26 12 = .ok (.iload_n 2, 1) := by decide +kernel
theorem d26_13 : decode K26 13 = .ok (.invokestatic 339, 3) := by decide +kernel
theorem d27_0 : decode K27 0 = .ok (.iload_n 1, 1) := by decide +kernel
theorem d27_1 : decode K27 1 = .ok (.iload_n 2, 1) := by decide +kernel
theorem d27_2 : decode K27 2 = .ok (.invokestatic 343, 3) := by decide +kernel
theorem d28_0 : decode K28 0 = .ok (.iload_n 1, 1) := by decide +kernel
theorem d28_1 : decode K28 1 = .ok (.iload_n 0, 1) := by decide +kernel
theorem d28_2 : decode K28 2 = .ok (.if_icmp .ge 35, 3) := by decide +kernel
theorem d28_37 : decode K28 37 = .ok (.return_, 1) := by decide +kernel
theorem ef_28_II (m : MethodId) (x0 : Int32) (x1 : Int32) : entryFrame m #[(.int x0), (.int x1)] 2 = mkF m 0 #[.val (.int x0), .val (.int x1)] [] := by first | (simp [entryFrame, mkF, argsToLocals, Value.category]; done) | rfl
theorem pN8 : plainName "java/util/Arrays" = true := by first | (simp [plainName, overriddenIn]; done) | decide +kernel
def Qrm28_29 (Z : State) (d1 : Nat) (h0 : Heap) (n0 : Nat) (v : Option Value) (h : Heap) (L : List Loc) : Prop := v = none ∧ Fr n0 L ∧ h = h0
theorem rm28_29 (l : Launch) (Z : State) (a0 : Array Value) (hw : HW Z a0) (ws : List Jvm.Cond) (cz : Int32) (dg : Addr) (fm : Value) (d1 : Nat) (h0 : Heap) (n0 : Nat) (O0 : Old Z n0 h0) (P : Pins Z cz dg fm) (hn0 : 0 ≤ d1) (hn1 : d1 < 2147483648) :
   Ctr l M27 (Jvm.Cond.code M27 jdk_65_method_131_code 2 none :: ws) (rO 0 0 0 0) Z h0 #[(vI 0), (.int (oN d1))] (Qrm28_29 Z d1 h0 n0) := by
 refine own_body (own := "java/util/Arrays") rfl (plainFor_of_name pN8) O0 (fun m => ef_28_II m (0 : Int32) (oN d1)) ?_
 intro p e s m below meth c s₁ Bd hZ hx hby hml hown X0 e0 Z0
 have N0 := Fr.nil n0
 obtain ⟨fs, hr, hrun, hended, hW, hsame⟩ := X0.leave (v := none) (fun _ => rfl)
 refine ⟨_, _, ?_, hrun, hended, _, _, rfl, ?_, ⟨_, rfl⟩, hW, hsame.mono (by decide) (by decide)⟩
 · show SH s₁ 0 #[lI 0, lI ((oN d1))] []
   refine XS.iloadN X0.here hx rfl (hb hby d28_0) rfl ?_
   show SH s₁ 1 #[lI 0, lI ((oN d1))] [(.int (oN d1))]
   refine XS.iloadN X0.here hx rfl (hb hby d28_1) rfl ?_
   show SH s₁ 2 #[lI 0, lI ((oN d1))] [(vI 0), (.int (oN d1))]
   refine XS.icmpYes X0.here hx rfl (pc0 := 2) (pc' := 37) rfl (hb hby d28_2) rfl (flt (show ¬ ((oN d1) < (0 : Int32)) from own_leI (A := d1) (B := 0) hn0 hn1)).2.1 (by decide) (by decide) ?_
   show SH s₁ 37 #[lI 0, lI ((oN d1))] []
   exact X0.returnOut hx Bd.returns (hb hby d28_37) hr
 · exact ⟨rfl, N0, e0⟩
theorem pd_15 : parseMethodDescriptor "(II)V" = some ⟨[.int, .int], none⟩ := by decide +kernel
theorem d27_5 : decode K27 5 = .ok (.iload_n 2, 1) := by decide +kernel
theorem d27_6 : decode K27 6 = .ok (.iload_n 1, 1) := by decide +kernel
theorem d27_7 : decode K27 7 = .ok (.isub, 1) := by decide +kernel
theorem d27_8 : decode K27 8 = .ok (.istore_n 3, 1) := by decide +kernel
theorem d27_9 : decode K27 9 = .ok (.iload_n 3, 1) := by decide +kernel
theorem d27_10 : decode K27 10 = .ok (.newarray .byte, 2) := by decide +kernel
theorem d27_12 : decode K27 12 = .ok (.astore 4, 2) := by decide +kernel
theorem d27_14 : decode K27 14 = .ok (.aload_n 0, 1) := by decide +kernel
theorem d27_15 : decode K27 15 = .ok (.iload_n 1, 1) := by decide +kernel
theorem d27_16 : decode K27 16 = .ok (.aload 4, 2) := by decide +kernel
theorem d27_18 : decode K27 18 = .ok (.iconst 0, 1) := by decide +kernel
theorem d27_19 : decode K27 19 = .ok (.aload_n 0, 1) := by decide +kernel
theorem d27_20 : decode K27 20 = .ok (.arraylength, 1) := by decide +kernel
theorem d27_21 : decode K27 21 = .ok (.iload_n 1, 1) := by decide +kernel
theorem d27_22 : decode K27 22 = .ok (.isub, 1) := by decide +kernel
theorem d27_23 : decode K27 23 = .ok (.iload_n 3, 1) := by decide +kernel
theorem d27_24 : decode K27 24 = .ok (.invokestatic 304, 3) := by decide +kernel
theorem d29_0 : decode K29 0 = .ok (.iload_n 0, 1) := by decide +kernel
theorem d29_1 : decode K29 1 = .ok (.iload_n 1, 1) := by decide +kernel
theorem d29_2 : decode K29 2 = .ok (.if_icmp .gt 7, 3) := by decide +kernel
theorem d29_9 : decode K29 9 = .ok (.iload_n 1, 1) := by decide +kernel
theorem d29_10 : decode K29 10 = .ok (.ireturn, 1) := by decide +kernel
theorem ef_29_II (m : MethodId) (x0 : Int32) (x1 : Int32) : entryFrame m #[(.int x0), (.int x1)] 2 = mkF m 0 #[.val (.int x0), .val (.int x1)] [] := by first | (simp [entryFrame, mkF, argsToLocals, Value.category]; done) | rfl
def Qrm29_30 (Z : State) (d1 : Nat) (d2 : Nat) (h0 : Heap) (n0 : Nat) (v : Option Value) (h : Heap) (L : List Loc) : Prop := v = some (.int (oN d2)) ∧ Fr n0 L ∧ h = h0
theorem rm29_30 (l : Launch) (Z : State) (a0 : Array Value) (hw : HW Z a0) (ws : List Jvm.Cond) (cz : Int32) (dg : Addr) (fm : Value) (d1 : Nat) (d2 : Nat) (h0 : Heap) (n0 : Nat) (O0 : Old Z n0 h0) (P : Pins Z cz dg fm) (hn0 : d2 < d1) (hn1 : d1 < 2147483648) :
   Ctr l M28 (Jvm.Cond.code M28 jdk_29_method_69_code 2 (some .int) :: ws) (rO 0 0 0 0) Z h0 #[(.int (oN d1)), (.int (oN d2))] (Qrm29_30 Z d1 d2 h0 n0) := by
 refine own_body (own := "java/lang/Math") rfl (Jvm.Free.JP.mathPlain rfl (by decide +kernel)) O0 (fun m => ef_29_II m (oN d1) (oN d2)) ?_
 intro p e s m below meth c s₁ Bd hZ hx hby hml hown X0 e0 Z0
 have N0 := Fr.nil n0
 obtain ⟨fs, hr, hrun, hended, hW, hsame⟩ := X0.leave (v := some (.int (oN d2))) (fun h => by rw [Bd.returns] at h; cases h)
 refine ⟨_, _, ?_, hrun, hended, _, _, rfl, ?_, ⟨_, rfl⟩, hW, hsame.mono (by decide) (by decide)⟩
 · show SH s₁ 0 #[lI ((oN d1)), lI ((oN d2))] []
   refine XS.iloadN X0.here hx rfl (hb hby d29_0) rfl ?_
   show SH s₁ 1 #[lI ((oN d1)), lI ((oN d2))] [(.int (oN d1))]
   refine XS.iloadN X0.here hx rfl (hb hby d29_1) rfl ?_
   show SH s₁ 2 #[lI ((oN d1)), lI ((oN d2))] [(.int (oN d2)), (.int (oN d1))]
   refine XS.icmpYes X0.here hx rfl (pc0 := 2) (pc' := 9) rfl (hb hby d29_2) rfl (tlt (show (oN d2) < (oN d1) from own_ltI (A := d2) (B := d1) hn0 hn1)).2.2.1 (by decide) (by decide) ?_
   show SH s₁ 9 #[lI ((oN d1)), lI ((oN d2))] []
   refine XS.iloadN X0.here hx rfl (hb hby d29_9) rfl ?_
   show SH s₁ 10 #[lI ((oN d1)), lI ((oN d2))] [(.int (oN d2))]
   exact retI X0 hx Bd.returns (hb hby d29_10) hr
 · exact ⟨rfl, N0, e0⟩
theorem pd_16 : parseMethodDescriptor "(II)I" = some ⟨[.int, .int], some .int⟩ := by decide +kernel
theorem d27_27 : decode K27 27 = .ok (.invokestatic 150, 3) := by decide +kernel
theorem d27_30 : decode K27 30 = .ok (.aload 4, 2) := by decide +kernel
theorem d27_32 : decode K27 32 = .ok (.areturn, 1) := by decide +kernel
theorem ef_27_RII (m : MethodId) (x0 : Addr) (x1 : Int32) (x2 : Int32) : entryFrame m #[(.ref x0), (.int x1), (.int x2)] 5 = mkF m 0 #[.val (.ref x0), .val (.int x1), .val (.int x2), .unset, .unset] [] := by first | (simp [entryFrame, mkF, argsToLocals, Value.category]; done) | rfl
def Qrm27_31 (Z : State) (x1 : Addr) (d2 : Nat) (c3 : ClassId) (d4 : Nat) (u5 : List Value) (h0 : Heap) (n0 : Nat) (v : Option Value) (h : Heap) (L : List Loc) : Prop := ∃ y1 : Addr, ∃ k1_ : ClassId, v = some (.ref y1) ∧ Fr n0 L ∧ Keep h0 h [] ∧ h0.size ≤ y1 ∧ Arv Z h y1 k1_ .byte (oN (d2 - 0)) u5 (vI 0)
theorem rm27_31 (l : Launch) (Z : State) (a0 : Array Value) (hw : HW Z a0) (ws : List Jvm.Cond) (cz : Int32) (dg : Addr) (fm : Value) (x1 : Addr) (d2 : Nat) (c3 : ClassId) (d4 : Nat) (u5 : List Value) (h0 : Heap) (n0 : Nat) (O0 : Old Z n0 h0) (P : Pins Z cz dg fm) (hn0 : 0 ≤ d2) (hn1 : d2 < 2147483648) (hn2 : (d2 - 0) < 2147483648) (hn3 : (d2 - 0) ≤ 142) (V_x1 : bA Z h0 x1 c3 (oN d4) u5) (hn4 : 0 ≤ d4) (hn5 : (d2 - 0) < (d4 - 0)) (hn6 : (d4 - 0) < 2147483648) (hn7 : u5.length ≤ (d2 - 0)) (hn8 : (d2 - 0) ≤ d4) (hn9 : 0 + (d2 - 0) ≤ (d2 - 0)) (hn10 : d4 < 2147483648) :
   Ctr l M29 (Jvm.Cond.code M29 jdk_65_method_133_code 5 (some (.array .byte)) :: ws) (rO 1 1 142 18) Z h0 #[(.ref x1), (vI 0), (.int (oN d2))] (Qrm27_31 Z x1 d2 c3 d4 u5 h0 n0) := by
 refine own_body (own := "java/util/Arrays") rfl (plainFor_of_name pN8) O0 (fun m => ef_27_RII m x1 (0 : Int32) (oN d2)) ?_
 intro p e s m below meth c s₁ Bd hZ hx hby hml hown X0 e0 Z0
 have N0 := Fr.nil n0
 have Kr : Keep h0 h0 [] := Keep.refl h0 _
 obtain ⟨_, _, ⟨T1, L1, k1, n1⟩, -, X1, ⟨Lc1, hQ1, l1, y1, z1⟩, st1⟩ := Jvm.LawKit.callS X0 hx (y := M27) hown (mvT hZ (wd hw 154 rfl)) (mvT hZ (wd hw 155 rfl)) (mvT hZ (wd hw 149 rfl)) (mvT hZ (wd hw 156 rfl)) (by decide) (backOf (W := 0) (rm28_29 l Z a0 hw [] cz dg fm d2 h0 n0 O0 P hn0 hn1) hZ (wd hw 156 rfl) (wd hw 149 rfl) (by decide) (by decide)) (g := (mkF m 2 #[lR x1, lI 0, lI ((oN d2)), lU, lU] [(.int (oN d2)), (vI 0)])) rfl (by rw [hml]; rfl) (argsL := [(vI 0), (.int (oN d2))]) (rest := []) (lenOf pd_15 rfl) rfl (lz rfl) (hb hby d27_2) (fun _ _ => ⟨rfl, e0, (by decide : 0 + 0 ≤ _), (by decide : 0 + 0 ≤ _)⟩)
 dsimp only [Pt.U, Pt.locs, Pt.cells, Pt.slots] at X1 l1 y1 z1 st1 hQ1
 subst y1 z1
 obtain ⟨rfl, N1q, e1⟩ := hQ1
 have N1 : Fr n0 L1 := by rw [l1]; exact Fr.app N0 N1q
 obtain ⟨T2, h2, k2, X2, e2, E2, A2, st2⟩ := newP X1 hx hZ (wd hw 29 rfl) e1 (g := (mkF m 10 #[lR x1, lI 0, lI ((oN d2)), lI ((oN (d2 - 0))), lU] [(.int (oN (d2 - 0)))])) rfl (hb hby d27_10) rfl (own_nn (A := (d2 - 0)) hn2) (cap := 142) (by rw [own_tn (A := (d2 - 0)) hn2]; exact hn3) (by decide) (by decide) (by decide)
 obtain ⟨b2, g2⟩ : ∃ z, z = (h0).size := ⟨_, rfl⟩
 rw [← g2] at A2 st2
 have V2 : Arv Z h2 b2 k2 .byte (oN (d2 - 0)) [] (vI 0) := Arv.new A2 (own_nn (A := (d2 - 0)) hn2)
 have Os3 := O0.ext E2
 have Ks3 := Kr.ext E2
 have f4 := (V_x1.ext E2)
 obtain ⟨cl5, A5, -, S5, M5, -, -⟩ := id f4
 obtain ⟨_, _, ⟨T6, L6, k6, n6⟩, -, X6, ⟨Lc6, hQ6, l6, y6, z6⟩, st6⟩ := Jvm.LawKit.callS X2 hx (y := M28) hown (mvT hZ (wd hw 157 rfl)) (mvT hZ (wd hw 158 rfl)) (mvT hZ (wd hw 159 rfl)) (mvT hZ (wd hw 160 rfl)) (by decide) (backOf (W := 4) (rm29_30 l Z a0 hw [] cz dg fm (d4 - 0) (d2 - 0) h2 n0 Os3 P hn5 hn6) hZ (wd hw 160 rfl) (wd hw 159 rfl) (by decide) (by decide)) (g := (mkF m 24 #[lR x1, lI 0, lI ((oN d2)), lI ((oN (d2 - 0))), lR b2] [(.int (oN (d2 - 0))), (.int (oN (d4 - 0))), (vI 0), (.ref b2), (vI 0), (.ref x1)])) rfl (by rw [hml]; rfl) (argsL := [(.int (oN (d4 - 0))), (.int (oN (d2 - 0)))]) (rest := [(vI 0), (.ref b2), (vI 0), (.ref x1)]) (lenOf pd_16 rfl) rfl (lz rfl) (hb hby d27_24) (fun _ _ => ⟨rfl, e2, (by decide : 1 + 0 ≤ _), (by decide : 142 + 0 ≤ _)⟩)
 dsimp only [Pt.U, Pt.locs, Pt.cells, Pt.slots] at X6 l6 y6 z6 st6 hQ6
 subst y6 z6
 obtain ⟨rfl, N6q, e6⟩ := hQ6
 have N6 : Fr n0 L6 := by rw [l6]; exact Fr.app N1 N6q
 obtain ⟨T7, h7, L7, X7, e7, N7, K7, V7, st7⟩ := own_cp X6 hx hZ hown (wd hw 161 rfl) (wd hw 117 rfl) (wd hw 115 rfl) (wd hw 116 rfl) e6 (ZA := d4) (ZB := (d2 - 0)) (DP := 0) (N := (d2 - 0)) f4 V2 rfl hn7 hn8 hn9 hn10 hn2 N6 (Nat.le_trans Z0 (Nat.le_of_eq g2.symm)) (g := (mkF m 27 #[lR x1, lI 0, lI ((oN d2)), lI ((oN (d2 - 0))), lR b2] [(.int (oN (d2 - 0))), (vI 0), (.ref b2), (vI 0), (.ref x1)])) rfl (by rw [hml]; rfl) rfl (hb hby d27_27) (by decide) (W' := 0) (lz rfl) (by decide)
 have Vz7 : Arv Z h7 b2 k2 .byte (oN (d2 - 0)) u5 (vI 0) := V7
 have Ks8 := Ks3.trans K7 (allS (Or.inr (Nat.le_trans Kr.1 (Nat.le_of_eq g2.symm))) all0)
 obtain ⟨fs, hr, hrun, hended, hW, hsame⟩ := X7.leave (v := some (.ref b2)) (fun h => by rw [Bd.returns] at h; cases h)
 refine ⟨_, _, ?_, hrun, hended, _, _, rfl, ?_, ⟨_, rfl⟩, hW, hsame.mono (by decide) (by decide)⟩
 · show SH s₁ 0 #[lR x1, lI 0, lI ((oN d2)), lU, lU] []
   refine XS.iloadN X0.here hx rfl (hb hby d27_0) rfl ?_
   show SH s₁ 1 #[lR x1, lI 0, lI ((oN d2)), lU, lU] [(vI 0)]
   refine XS.iloadN X0.here hx rfl (hb hby d27_1) rfl ?_
   show SH s₁ 2 #[lR x1, lI 0, lI ((oN d2)), lU, lU] [(.int (oN d2)), (vI 0)]
   refine st1 _ ?_
   show SH T1 5 #[lR x1, lI 0, lI ((oN d2)), lU, lU] []
   refine XS.iloadN X1.here hx rfl (hb hby d27_5) rfl ?_
   show SH T1 6 #[lR x1, lI 0, lI ((oN d2)), lU, lU] [(.int (oN d2))]
   refine XS.iloadN X1.here hx rfl (hb hby d27_6) rfl ?_
   show SH T1 7 #[lR x1, lI 0, lI ((oN d2)), lU, lU] [(vI 0), (.int (oN d2))]
   refine XS.isub X1.here hx rfl (hb hby d27_7) rfl ?_
   show SH T1 8 #[lR x1, lI 0, lI ((oN d2)), lU, lU] [(.int ((oN d2) - (0 : Int32)))]
   rw [show ((oN d2) - (0 : Int32)) = (oN (d2 - 0)) from own_subI (A := d2) (B := 0) hn0]
   refine XS.istoreN X1.here hx rfl (hb hby d27_8) rfl (l' := #[lR x1, lI 0, lI ((oN d2)), lI ((oN (d2 - 0))), lU]) rfl ?_
   show SH T1 9 #[lR x1, lI 0, lI ((oN d2)), lI ((oN (d2 - 0))), lU] []
   refine XS.iloadN X1.here hx rfl (hb hby d27_9) rfl ?_
   show SH T1 10 #[lR x1, lI 0, lI ((oN d2)), lI ((oN (d2 - 0))), lU] [(.int (oN (d2 - 0)))]
   refine st2 _ ?_
   show SH T2 12 #[lR x1, lI 0, lI ((oN d2)), lI ((oN (d2 - 0))), lU] [(.ref b2)]
   refine XS.astore X2.here hx rfl (hb hby d27_12) rfl rfl (l' := #[lR x1, lI 0, lI ((oN d2)), lI ((oN (d2 - 0))), lR b2]) rfl ?_
   show SH T2 14 #[lR x1, lI 0, lI ((oN d2)), lI ((oN (d2 - 0))), lR b2] []
   refine XS.aloadN X2.here hx rfl (hb hby d27_14) rfl rfl ?_
   show SH T2 15 #[lR x1, lI 0, lI ((oN d2)), lI ((oN (d2 - 0))), lR b2] [(.ref x1)]
   refine XS.iloadN X2.here hx rfl (hb hby d27_15) rfl ?_
   show SH T2 16 #[lR x1, lI 0, lI ((oN d2)), lI ((oN (d2 - 0))), lR b2] [(vI 0), (.ref x1)]
   refine XS.aload X2.here hx rfl (hb hby d27_16) rfl rfl ?_
   show SH T2 18 #[lR x1, lI 0, lI ((oN d2)), lI ((oN (d2 - 0))), lR b2] [(.ref b2), (vI 0), (.ref x1)]
   refine XS.iconst X2.here hx rfl (hb hby d27_18) ?_
   show SH T2 19 #[lR x1, lI 0, lI ((oN d2)), lI ((oN (d2 - 0))), lR b2] [(vI 0), (.ref b2), (vI 0), (.ref x1)]
   refine XS.aloadN X2.here hx rfl (hb hby d27_19) rfl rfl ?_
   show SH T2 20 #[lR x1, lI 0, lI ((oN d2)), lI ((oN (d2 - 0))), lR b2] [(.ref x1), (vI 0), (.ref b2), (vI 0), (.ref x1)]
   refine X2.arraylength hx (by rw [e2]; exact A5.1) (State.isArrayOf_alike hZ.alike A5.2.1) (g := (mkF m 20 #[lR x1, lI 0, lI ((oN d2)), lI ((oN (d2 - 0))), lR b2] [(.ref x1), (vI 0), (.ref b2), (vI 0), (.ref x1)])) rfl rfl (hb hby d27_20) _ ?_
   rw [len_of S5 M5]
   refine XS.iloadN X2.here hx rfl (hb hby d27_21) rfl ?_
   show SH T2 22 #[lR x1, lI 0, lI ((oN d2)), lI ((oN (d2 - 0))), lR b2] [(vI 0), (.int (oN d4)), (vI 0), (.ref b2), (vI 0), (.ref x1)]
   refine XS.isub X2.here hx rfl (hb hby d27_22) rfl ?_
   show SH T2 23 #[lR x1, lI 0, lI ((oN d2)), lI ((oN (d2 - 0))), lR b2] [(.int ((oN d4) - (0 : Int32))), (vI 0), (.ref b2), (vI 0), (.ref x1)]
   rw [show ((oN d4) - (0 : Int32)) = (oN (d4 - 0)) from own_subI (A := d4) (B := 0) hn4]
   refine XS.iloadN X2.here hx rfl (hb hby d27_23) rfl ?_
   show SH T2 24 #[lR x1, lI 0, lI ((oN d2)), lI ((oN (d2 - 0))), lR b2] [(.int (oN (d2 - 0))), (.int (oN (d4 - 0))), (vI 0), (.ref b2), (vI 0), (.ref x1)]
   refine st6 _ ?_
   show SH T6 27 #[lR x1, lI 0, lI ((oN d2)), lI ((oN (d2 - 0))), lR b2] [(.int (oN (d2 - 0))), (vI 0), (.ref b2), (vI 0), (.ref x1)]
   refine st7 _ ?_
   show SH T7 30 #[lR x1, lI 0, lI ((oN d2)), lI ((oN (d2 - 0))), lR b2] []
   refine XS.aload X7.here hx rfl (hb hby d27_30) rfl rfl ?_
   show SH T7 32 #[lR x1, lI 0, lI ((oN d2)), lI ((oN (d2 - 0))), lR b2] [(.ref b2)]
   exact retOut X7 hx Bd.returns rfl (Or.inr (Or.inr (Or.inr (Or.inr ⟨rfl, rfl, rfl⟩)))) (hb hby d27_32) hr
 · show Qrm27_31 Z x1 d2 c3 d4 u5 h0 n0 _ T7.heap _
   rw [e7]
   exact ⟨b2, k2, rfl, N7, Ks8, (Nat.le_trans Kr.1 (Nat.le_of_eq g2.symm)), Vz7⟩
theorem pd_17 : parseMethodDescriptor "([BII)[B" = some ⟨[(.array .byte), .int, .int], some (.array .byte)⟩ := by decide +kernel
theorem d26_16 : decode K26 16 = .ok (.areturn, 1) := by decide +kernel
theorem ef_26_RII (m : MethodId) (x0 : Addr) (x1 : Int32) (x2 : Int32) : entryFrame m #[(.ref x0), (.int x1), (.int x2)] 3 = mkF m 0 #[.val (.ref x0), .val (.int x1), .val (.int x2)] [] := by first | (simp [entryFrame, mkF, argsToLocals, Value.category]; done) | rfl
def Qrm26_32 (Z : State) (x1 : Addr) (d2 : Nat) (c3 : ClassId) (d4 : Nat) (u5 : List Value) (h0 : Heap) (n0 : Nat) (v : Option Value) (h : Heap) (L : List Loc) : Prop := ∃ y1 : Addr, ∃ k1_ : ClassId, v = some (.ref y1) ∧ Fr n0 L ∧ Keep h0 h [] ∧ h0.size ≤ y1 ∧ Arv Z h y1 k1_ .byte (oN (d2 - 0)) u5 (vI 0)
theorem rm26_32 (l : Launch) (Z : State) (a0 : Array Value) (hw : HW Z a0) (ws : List Jvm.Cond) (cz : Int32) (dg : Addr) (fm : Value) (x1 : Addr) (d2 : Nat) (c3 : ClassId) (d4 : Nat) (u5 : List Value) (h0 : Heap) (n0 : Nat) (O0 : Old Z n0 h0) (P : Pins Z cz dg fm) (V_x1 : bA Z h0 x1 c3 (oN d4) u5) (hn0 : d2 ≠ d4) (hn1 : d2 < 2147483648) (hn2 : d4 < 2147483648) (hn3 : 0 ≤ d2) (hn4 : (d2 - 0) < 2147483648) (hn5 : (d2 - 0) ≤ 142) (hn6 : 0 ≤ d4) (hn7 : (d2 - 0) < (d4 - 0)) (hn8 : (d4 - 0) < 2147483648) (hn9 : u5.length ≤ (d2 - 0)) (hn10 : (d2 - 0) ≤ d4) (hn11 : 0 + (d2 - 0) ≤ (d2 - 0)) :
   Ctr l M30 (Jvm.Cond.code M30 jdk_65_method_132_code 3 (some (.array .byte)) :: ws) (rO 2 1 142 34) Z h0 #[(.ref x1), (vI 0), (.int (oN d2))] (Qrm26_32 Z x1 d2 c3 d4 u5 h0 n0) := by
 refine own_body (own := "java/util/Arrays") rfl (plainFor_of_name pN8) O0 (fun m => ef_26_RII m x1 (0 : Int32) (oN d2)) ?_
 intro p e s m below meth c s₁ Bd hZ hx hby hml hown X0 e0 Z0
 have N0 := Fr.nil n0
 have Kr : Keep h0 h0 [] := Keep.refl h0 _
 obtain ⟨cl1, A1, -, S1, M1, -, -⟩ := id V_x1
 obtain ⟨_, _, ⟨T2, L2, k2, n2⟩, -, X2, ⟨Lc2, hQ2, l2, y2, z2⟩, st2⟩ := Jvm.LawKit.callS X0 hx (y := M29) hown (mvT hZ (wd hw 151 rfl)) (mvT hZ (wd hw 152 rfl)) (mvT hZ (wd hw 149 rfl)) (mvT hZ (wd hw 153 rfl)) (by decide) (backOf (W := 0) (rm27_31 l Z a0 hw [] cz dg fm x1 d2 c3 d4 u5 h0 n0 O0 P hn3 hn1 hn4 hn5 V_x1 hn6 hn7 hn8 hn9 hn10 hn11 hn2) hZ (wd hw 153 rfl) (wd hw 149 rfl) (by decide) (by decide)) (g := (mkF m 13 #[lR x1, lI 0, lI ((oN d2))] [(.int (oN d2)), (vI 0), (.ref x1)])) rfl (by rw [hml]; rfl) (argsL := [(.ref x1), (vI 0), (.int (oN d2))]) (rest := []) (lenOf pd_17 rfl) rfl (lz rfl) (hb hby d26_13) (fun _ _ => ⟨rfl, e0, (by decide : 0 + 1 ≤ _), (by decide : 0 + 142 ≤ _)⟩)
 dsimp only [Pt.U, Pt.locs, Pt.cells, Pt.slots] at X2 l2 y2 z2 st2 hQ2
 subst y2 z2
 obtain ⟨b2_0, k2_0, rfl, N2q, K2, l2_0, q2_0⟩ := hQ2
 have N2 : Fr n0 L2 := by rw [l2]; exact Fr.app N0 N2q
 have Ks3 := Kr.trans K2 all0
 obtain ⟨fs, hr, hrun, hended, hW, hsame⟩ := X2.leave (v := some (.ref b2_0)) (fun h => by rw [Bd.returns] at h; cases h)
 refine ⟨_, _, ?_, hrun, hended, _, _, rfl, ?_, ⟨_, rfl⟩, hW, hsame.mono (by decide) (by decide)⟩
 · show SH s₁ 0 #[lR x1, lI 0, lI ((oN d2))] []
   refine XS.iloadN X0.here hx rfl (hb hby d26_0) rfl ?_
   show SH s₁ 1 #[lR x1, lI 0, lI ((oN d2))] [(vI 0)]
   refine XS.ifNo X0.here hx rfl (hb hby d26_1) rfl (by decide) ?_
   show SH s₁ 4 #[lR x1, lI 0, lI ((oN d2))] []
   refine XS.iloadN X0.here hx rfl (hb hby d26_4) rfl ?_
   show SH s₁ 5 #[lR x1, lI 0, lI ((oN d2))] [(.int (oN d2))]
   refine XS.aloadN X0.here hx rfl (hb hby d26_5) rfl rfl ?_
   show SH s₁ 6 #[lR x1, lI 0, lI ((oN d2))] [(.ref x1), (.int (oN d2))]
   refine X0.arraylength hx (by rw [e0]; exact A1.1) (State.isArrayOf_alike hZ.alike A1.2.1) (g := (mkF m 6 #[lR x1, lI 0, lI ((oN d2))] [(.ref x1), (.int (oN d2))])) rfl rfl (hb hby d26_6) _ ?_
   rw [len_of S1 M1]
   refine XS.icmpNo X0.here hx rfl (hb hby d26_7) rfl (feq (show ¬ ((oN d2) = (oN d4)) from own_neI (A := d2) (B := d4) hn0 hn1 hn2)).1 ?_
   show SH s₁ 10 #[lR x1, lI 0, lI ((oN d2))] []
   refine XS.aloadN X0.here hx rfl (hb hby d26_10) rfl rfl ?_
   show SH s₁ 11 #[lR x1, lI 0, lI ((oN d2))] [(.ref x1)]
   refine XS.iloadN X0.here hx rfl (hb hby d26_11) rfl ?_
   show SH s₁ 12 #[lR x1, lI 0, lI ((oN d2))] [(vI 0), (.ref x1)]
   refine XS.iloadN X0.here hx rfl (hb hby d26_12) rfl ?_
   show SH s₁ 13 #[lR x1, lI 0, lI ((oN d2))] [(.int (oN d2)), (vI 0), (.ref x1)]
   refine st2 _ ?_
   show SH T2 16 #[lR x1, lI 0, lI ((oN d2))] [(.ref b2_0)]
   exact retOut X2 hx Bd.returns rfl (Or.inr (Or.inr (Or.inr (Or.inr ⟨rfl, rfl, rfl⟩)))) (hb hby d26_16) hr
 · show Qrm26_32 Z x1 d2 c3 d4 u5 h0 n0 _ T2.heap _
   exact ⟨b2_0, k2_0, rfl, N2, Ks3, (Nat.le_trans Kr.1 l2_0), q2_0⟩
theorem d22_35 : decode K22 35 = .ok (.putfield 9, 3) := by decide +kernel
theorem d22_38 : decode K22 38 = .ok (.goto 59, 3) := by decide +kernel
theorem d22_97 : decode K22 97 = .ok (.return_, 1) := by decide +kernel
theorem ef_22_RR0 (m : MethodId) (x0 : Addr) (x1 : Addr) : entryFrame m #[(.ref x0), (.ref x1), .null] 5 = mkF m 0 #[.val (.ref x0), .val (.ref x1), .val .null, .unset, .unset] [] := by first | (simp [entryFrame, mkF, argsToLocals, Value.category]; done) | rfl
def Qrm22_33 (Z : State) (x1 : Addr) (x2 : Addr) (x3 : Addr) (d4 : Nat) (c5 : ClassId) (d6 : Nat) (u7 : List Value) (h0 : Heap) (n0 : Nat) (v : Option Value) (h : Heap) (L : List Loc) : Prop := ∃ y1 : Addr, ∃ k1_ : ClassId, v = none ∧ Fr n0 L ∧ Keep h0 h [x1] ∧ h0.size ≤ y1 ∧ sC Z h x1 ∧ sV Z h x1 y1 ∧ Arv Z h y1 k1_ .byte (oN (d4 - 0)) u7 (vI 0)
theorem rm22_33 (l : Launch) (Z : State) (a0 : Array Value) (hw : HW Z a0) (ws : List Jvm.Cond) (cz : Int32) (dg : Addr) (fm : Value) (x1 : Addr) (x2 : Addr) (x3 : Addr) (d4 : Nat) (c5 : ClassId) (d6 : Nat) (u7 : List Value) (h0 : Heap) (n0 : Nat) (O0 : Old Z n0 h0) (P : Pins Z cz dg fm) (E_x2 : Exa Z h0 x2 sB) (F_x2_value : aV Z h0 x2 x3) (F_x2_count : aN Z h0 x2 (oN d4)) (F_x2_coder : aC Z h0 x2) (E_x1 : Exa Z h0 x1 sS) (F_x1_coder : sC Z h0 x1) (g_x1 : n0 ≤ x1) (V_x3 : bA Z h0 x3 c5 (oN d6) u7) (ne_x3_x1 : x3 ≠ x1) (hn0 : d4 ≠ d6) (hn1 : d4 < 2147483648) (hn2 : d6 < 2147483648) (hn3 : 0 ≤ d4) (hn4 : (d4 - 0) < 2147483648) (hn5 : (d4 - 0) ≤ 142) (hn6 : 0 ≤ d6) (hn7 : (d4 - 0) < (d6 - 0)) (hn8 : (d6 - 0) < 2147483648) (hn9 : u7.length ≤ (d4 - 0)) (hn10 : (d4 - 0) ≤ d6) (hn11 : 0 + (d4 - 0) ≤ (d4 - 0)) (F_x1_value : Fld Z h0 x1 sS "value" "[B" .null) :
   Ctr l M31 (Jvm.Cond.code M31 jdk_42_method_150_code 5 none :: ws) (rO 3 1 142 49) Z h0 #[(.ref x1), (.ref x2), .null] (Qrm22_33 Z x1 x2 x3 d4 c5 d6 u7 h0 n0) := by
 refine own_body (own := sS) rfl (plainFor_of_name pN9) O0 (fun m => ef_22_RR0 m x1 x2) ?_
 intro p e s m below meth c s₁ Bd hZ hx hby hml hown X0 e0 Z0
 have N0 := Fr.nil n0
 have hnm := (name_of_methodNamed Bd.named Bd.method).1
 have Kr : Keep h0 h0 [x1] := Keep.refl h0 _
 obtain ⟨T1, X1, e1, st1⟩ := initO X0 hx hZ hown (wd hw 132 rfl) (wd hw 7 rfl) (wd hw 8 rfl) e0 (g := (mkF m 1 #[lR x1, lR x2, .val .null, lU, lU] [(.ref x1)])) rfl (by rw [hml]; rfl) rfl (hb hby d22_1) (by decide) (W := 0) (lz rfl) (by decide)
 obtain ⟨cq2, kq2, q2a, q2b, q2c⟩ := isOf hZ e1 E_x2
 obtain ⟨_, _, ⟨T2, L2, k2, n2⟩, -, X2, ⟨Lc2, hQ2, l2, y2, z2⟩, st2⟩ := X1.virtualBack hx (y := M24) (z := M24) hown (mvT hZ (wd hw 133 rfl)) (mvT hZ (wd hw 134 rfl)) (notFace_of_selects (args := #[]) (mvT hZ (wd hw 136 rfl))) (mvT hZ (wd hw 136 rfl)) (mvT hZ (wd hw 135 rfl)) (by decide) (backOf (W := 0) (rm23_26 l Z a0 hw [] cz dg fm x2 x3 h0 n0 O0 P F_x2_value) hZ (wd hw 137 rfl) (wd hw 24 rfl) (by decide) (by decide)) q2a q2c (g := (mkF m 5 #[lR x1, lR x2, .val .null, lU, lU] [(.ref x2)])) rfl (by rw [hml]; rfl) (Steps.refl _) (argsL := []) (rest := []) (lenOf pd_14 rfl) rfl (lz rfl) (hb hby d22_5) (fun _ _ => ⟨rfl, e1, (by decide : 0 + 0 ≤ _), (by decide : 0 + 0 ≤ _)⟩)
 dsimp only [Pt.U, Pt.locs, Pt.cells, Pt.slots] at X2 l2 y2 z2 st2 hQ2
 subst y2 z2
 obtain ⟨rfl, N2q, e2⟩ := hQ2
 have N2 : Fr n0 L2 := by rw [l2]; exact Fr.app N0 N2q
 obtain ⟨cq3, kq3, q3a, q3b, q3c⟩ := isOf hZ e2 E_x2
 obtain ⟨_, _, ⟨T3, L3, k3, n3⟩, -, X3, ⟨Lc3, hQ3, l3, y3, z3⟩, st3⟩ := X2.virtualBack hx (y := M25) (z := M26) hown (mvT hZ (wd hw 138 rfl)) (mvT hZ (wd hw 139 rfl)) (own_nf (args := #[]) (mvT hZ (wd hw 64 rfl)) rfl) (mvT hZ (wd hw 141 rfl)) (mvT hZ (wd hw 142 rfl)) (by decide) (backOf (W := 0) (rm24_28 l Z a0 hw [] cz dg fm x2 d4 h0 n0 O0 P F_x2_count E_x2) hZ (wd hw 143 rfl) (wd hw 16 rfl) (by decide) (by decide)) q3a q3c (g := (mkF m 10 #[lR x1, lR x2, .val .null, lR x3, lU] [(.ref x2)])) rfl (by rw [hml]; rfl) (Steps.refl _) (argsL := []) (rest := []) (lenOf pd_8 rfl) rfl (lz rfl) (hb hby d22_10) (fun _ _ => ⟨rfl, e2, (by decide : 0 + 0 ≤ _), (by decide : 0 + 0 ≤ _)⟩)
 dsimp only [Pt.U, Pt.locs, Pt.cells, Pt.slots] at X3 l3 y3 z3 st3 hQ3
 subst y3 z3
 obtain ⟨rfl, N3q, e3⟩ := hQ3
 have N3 : Fr n0 L3 := by rw [l3]; exact Fr.app N2 N3q
 obtain ⟨cq4, kq4, q4a, q4b, q4c⟩ := isOf hZ e3 E_x2
 obtain ⟨_, _, ⟨T4, L4, k4, n4⟩, -, X4, ⟨Lc4, hQ4, l4, y4, z4⟩, st4⟩ := X3.virtualBack hx (y := M13) (z := M13) hown (mvT hZ (wd hw 146 rfl)) (mvT hZ (wd hw 67 rfl)) (notFace_of_selects (args := #[]) (mvT hZ (wd hw 69 rfl))) (mvT hZ (wd hw 69 rfl)) (mvT hZ (wd hw 68 rfl)) (by decide) (backOf (W := 0) (rm11_14 l Z a0 hw [] cz dg fm x2 h0 n0 O0 P F_x2_coder) hZ (wd hw 70 rfl) (wd hw 24 rfl) (by decide) (by decide)) q4a q4c (g := (mkF m 16 #[lR x1, lR x2, .val .null, lR x3, lI ((oN d4))] [(.ref x2)])) rfl (by rw [hml]; rfl) (Steps.refl _) (argsL := []) (rest := []) (lenOf pd_3 rfl) rfl (lz rfl) (hb hby d22_16) (fun _ _ => ⟨rfl, e3, (by decide : 0 + 0 ≤ _), (by decide : 0 + 0 ≤ _)⟩)
 dsimp only [Pt.U, Pt.locs, Pt.cells, Pt.slots] at X4 l4 y4 z4 st4 hQ4
 subst y4 z4
 obtain ⟨rfl, N4q, e4⟩ := hQ4
 have N4 : Fr n0 L4 := by rw [l4]; exact Fr.app N3 N4q
 obtain ⟨T5, h5, X5, e5, W5, st5⟩ := putFN X4 hx hZ hown (wd hw 97 rfl) Via.refl e4 F_x1_coder E_x1 (Or.inr ⟨(wd hw 39 rfl), rfl, hnm⟩) (wd hw 37 rfl) (ty := .byte) (v' := (vI 0)) (by decide) (by decide) (by decide) (g := (mkF m 24 #[lR x1, lR x2, .val .null, lR x3, lI ((oN d4))] [(vI 0), (.ref x1)])) rfl rfl (hb hby d22_24)
 have Ks6 := Kr.wr W5 (Or.inl (mg 0 rfl))
 have Os6 := O0.wr W5 g_x1
 have Fw5 := Fld.same W5 F_x1_coder
 have N5 := Fr.snoc X5 N4 g_x1
 have f7 := (V_x3.other W5 ne_x3_x1)
 obtain ⟨_, _, ⟨T8, L8, k8, n8⟩, -, X8, ⟨Lc8, hQ8, l8, y8, z8⟩, st8⟩ := Jvm.LawKit.callS X5 hx (y := M30) hown (mvT hZ (wd hw 147 rfl)) (mvT hZ (wd hw 148 rfl)) (mvT hZ (wd hw 149 rfl)) (mvT hZ (wd hw 150 rfl)) (by decide) (backOf (W := 1) (rm26_32 l Z a0 hw [] cz dg fm x3 d4 c5 d6 u7 h5 n0 Os6 P f7 hn0 hn1 hn2 hn3 hn4 hn5 hn6 hn7 hn8 hn9 hn10 hn11) hZ (wd hw 150 rfl) (wd hw 149 rfl) (by decide) (by decide)) (g := (mkF m 32 #[lR x1, lR x2, .val .null, lR x3, lI ((oN d4))] [(.int (oN d4)), (vI 0), (.ref x3), (.ref x1)])) rfl (by rw [hml]; rfl) (argsL := [(.ref x3), (vI 0), (.int (oN d4))]) (rest := [(.ref x1)]) (lenOf pd_17 rfl) rfl (lz rfl) (hb hby d22_32) (fun _ _ => ⟨rfl, e5, (by decide : 0 + 1 ≤ _), (by decide : 0 + 142 ≤ _)⟩)
 dsimp only [Pt.U, Pt.locs, Pt.cells, Pt.slots] at X8 l8 y8 z8 st8 hQ8
 subst y8 z8
 obtain ⟨b8_0, k8_0, rfl, N8q, K8, l8_0, q8_0⟩ := hQ8
 have N8 : Fr n0 L8 := by rw [l8]; exact Fr.app N5 N8q
 have Ks9 := Ks6.trans K8 all0
 have f10 := ((Exa.wr W5 E_x1).keep K8)
 have f11 := ((Fld.other W5 F_x1_value (Or.inr (slot_ne (Or.inr (wd hw 38 rfl)) (Or.inr (wd hw 39 rfl)) (by decide) (t := (.array .byte)) (t' := .byte) (by decide) (by decide)))).keep K8 nin0)
 obtain ⟨T12, h12, X12, e12, W12, st12⟩ := putF X8 hx hZ hown (host := "") (Or.inl (wd hw 90 rfl)) Via.refl rfl f11 f10 (Or.inr ⟨(wd hw 38 rfl), rfl, hnm⟩) (wd hw 37 rfl) (ty := (.array .byte)) (by decide) rfl rfl (g := (mkF m 35 #[lR x1, lR x2, .val .null, lR x3, lI ((oN d4))] [(.ref b8_0), (.ref x1)])) rfl rfl (hb hby d22_35)
 have Ks13 := Ks9.wr W12 (Or.inl (mg 0 rfl))
 have Fw12 := Fld.same W12 f11
 have N12 := Fr.snoc X12 N8 g_x1
 have f14 := (Fld.other W12 (Fw5.keep K8 nin0) (Or.inr (slot_ne (Or.inr (wd hw 39 rfl)) (Or.inr (wd hw 38 rfl)) (by decide) (t := .byte) (t' := (.array .byte)) (by decide) (by decide))))
 have nz15 := (Nat.ne_of_lt (Nat.lt_of_lt_of_le (Fw5).lt l8_0))
 have f16 := (q8_0.other W12 (Ne.symm nz15))
 obtain ⟨fs, hr, hrun, hended, hW, hsame⟩ := X12.leave (v := none) (fun _ => rfl)
 refine ⟨_, _, ?_, hrun, hended, _, _, rfl, ?_, ⟨_, rfl⟩, hW, hsame.mono (by decide) (by decide)⟩
 · show SH s₁ 0 #[lR x1, lR x2, .val .null, lU, lU] []
   refine XS.aloadN X0.here hx rfl (hb hby d22_0) rfl rfl ?_
   show SH s₁ 1 #[lR x1, lR x2, .val .null, lU, lU] [(.ref x1)]
   refine st1 _ ?_
   show SH T1 4 #[lR x1, lR x2, .val .null, lU, lU] []
   refine XS.aloadN X1.here hx rfl (hb hby d22_4) rfl rfl ?_
   show SH T1 5 #[lR x1, lR x2, .val .null, lU, lU] [(.ref x2)]
   refine st2.trans ?_
   show SH T2 8 #[lR x1, lR x2, .val .null, lU, lU] [(.ref x3)]
   refine XS.astoreN X2.here hx rfl (hb hby d22_8) rfl rfl (l' := #[lR x1, lR x2, .val .null, lR x3, lU]) rfl ?_
   show SH T2 9 #[lR x1, lR x2, .val .null, lR x3, lU] []
   refine XS.aloadN X2.here hx rfl (hb hby d22_9) rfl rfl ?_
   show SH T2 10 #[lR x1, lR x2, .val .null, lR x3, lU] [(.ref x2)]
   refine st3.trans ?_
   show SH T3 13 #[lR x1, lR x2, .val .null, lR x3, lU] [(.int (oN d4))]
   refine XS.istore X3.here hx rfl (hb hby d22_13) rfl (l' := #[lR x1, lR x2, .val .null, lR x3, lI ((oN d4))]) rfl ?_
   show SH T3 15 #[lR x1, lR x2, .val .null, lR x3, lI ((oN d4))] []
   refine XS.aloadN X3.here hx rfl (hb hby d22_15) rfl rfl ?_
   show SH T3 16 #[lR x1, lR x2, .val .null, lR x3, lI ((oN d4))] [(.ref x2)]
   refine st4.trans ?_
   show SH T4 19 #[lR x1, lR x2, .val .null, lR x3, lI ((oN d4))] [(vI 1)]
   refine XS.ifNo X4.here hx rfl (hb hby d22_19) rfl (by decide) ?_
   show SH T4 22 #[lR x1, lR x2, .val .null, lR x3, lI ((oN d4))] []
   refine XS.aloadN X4.here hx rfl (hb hby d22_22) rfl rfl ?_
   show SH T4 23 #[lR x1, lR x2, .val .null, lR x3, lI ((oN d4))] [(.ref x1)]
   refine XS.iconst X4.here hx rfl (hb hby d22_23) ?_
   show SH T4 24 #[lR x1, lR x2, .val .null, lR x3, lI ((oN d4))] [(vI 0), (.ref x1)]
   refine st5 _ ?_
   show SH T5 27 #[lR x1, lR x2, .val .null, lR x3, lI ((oN d4))] []
   refine XS.aloadN X5.here hx rfl (hb hby d22_27) rfl rfl ?_
   show SH T5 28 #[lR x1, lR x2, .val .null, lR x3, lI ((oN d4))] [(.ref x1)]
   refine XS.aloadN X5.here hx rfl (hb hby d22_28) rfl rfl ?_
   show SH T5 29 #[lR x1, lR x2, .val .null, lR x3, lI ((oN d4))] [(.ref x3), (.ref x1)]
   refine XS.iconst X5.here hx rfl (hb hby d22_29) ?_
   show SH T5 30 #[lR x1, lR x2, .val .null, lR x3, lI ((oN d4))] [(vI 0), (.ref x3), (.ref x1)]
   refine XS.iload X5.here hx rfl (hb hby d22_30) rfl ?_
   show SH T5 32 #[lR x1, lR x2, .val .null, lR x3, lI ((oN d4))] [(.int (oN d4)), (vI 0), (.ref x3), (.ref x1)]
   refine st8 _ ?_
   show SH T8 35 #[lR x1, lR x2, .val .null, lR x3, lI ((oN d4))] [(.ref b8_0), (.ref x1)]
   refine st12 _ ?_
   show SH T12 38 #[lR x1, lR x2, .val .null, lR x3, lI ((oN d4))] []
   refine XS.goto X12.here hx rfl (pc0 := 38) (pc' := 97) rfl (hb hby d22_38) (by decide) (by decide) ?_
   show SH T12 97 #[lR x1, lR x2, .val .null, lR x3, lI ((oN d4))] []
   exact X12.returnOut hx Bd.returns (hb hby d22_97) hr
 · show Qrm22_33 Z x1 x2 x3 d4 c5 d6 u7 h0 n0 _ T12.heap _
   rw [e12]
   exact ⟨b8_0, k8_0, rfl, N12, Ks13, (Nat.le_trans Ks6.1 l8_0), f14, Fw12, f16⟩
theorem pd_18 : parseMethodDescriptor "(Ljava/lang/AbstractStringBuilder;Ljava/lang/Void;)V" = some ⟨[(.object sA), (.object "java/lang/Void")], none⟩ := by decide +kernel
theorem d21_6 : decode K21 6 = .ok (.return_, 1) := by decide +kernel
theorem ef_21_RR (m : MethodId) (x0 : Addr) (x1 : Addr) : entryFrame m #[(.ref x0), (.ref x1)] 2 = mkF m 0 #[.val (.ref x0), .val (.ref x1)] [] := by first | (simp [entryFrame, mkF, argsToLocals, Value.category]; done) | rfl
def Qrm21_34 (Z : State) (x1 : Addr) (x2 : Addr) (x3 : Addr) (d4 : Nat) (c5 : ClassId) (d6 : Nat) (u7 : List Value) (h0 : Heap) (n0 : Nat) (v : Option Value) (h : Heap) (L : List Loc) : Prop := ∃ y1 : Addr, ∃ k1_ : ClassId, v = none ∧ Fr n0 L ∧ Keep h0 h [x1] ∧ h0.size ≤ y1 ∧ sC Z h x1 ∧ sV Z h x1 y1 ∧ Arv Z h y1 k1_ .byte (oN (d4 - 0)) u7 (vI 0)
theorem rm21_34 (l : Launch) (Z : State) (a0 : Array Value) (hw : HW Z a0) (ws : List Jvm.Cond) (cz : Int32) (dg : Addr) (fm : Value) (x1 : Addr) (x2 : Addr) (x3 : Addr) (d4 : Nat) (c5 : ClassId) (d6 : Nat) (u7 : List Value) (h0 : Heap) (n0 : Nat) (O0 : Old Z n0 h0) (P : Pins Z cz dg fm) (E_x2 : Exa Z h0 x2 sB) (F_x2_value : aV Z h0 x2 x3) (F_x2_count : aN Z h0 x2 (oN d4)) (F_x2_coder : aC Z h0 x2) (E_x1 : Exa Z h0 x1 sS) (F_x1_coder : sC Z h0 x1) (g_x1 : n0 ≤ x1) (V_x3 : bA Z h0 x3 c5 (oN d6) u7) (ne_x3_x1 : x3 ≠ x1) (hn0 : d4 ≠ d6) (hn1 : d4 < 2147483648) (hn2 : d6 < 2147483648) (hn3 : 0 ≤ d4) (hn4 : (d4 - 0) < 2147483648) (hn5 : (d4 - 0) ≤ 142) (hn6 : 0 ≤ d6) (hn7 : (d4 - 0) < (d6 - 0)) (hn8 : (d6 - 0) < 2147483648) (hn9 : u7.length ≤ (d4 - 0)) (hn10 : (d4 - 0) ≤ d6) (hn11 : 0 + (d4 - 0) ≤ (d4 - 0)) (F_x1_value : Fld Z h0 x1 sS "value" "[B" .null) :
   Ctr l M32 (Jvm.Cond.code M32 jdk_42_method_53_code 2 none :: ws) (rO 4 1 142 65) Z h0 #[(.ref x1), (.ref x2)] (Qrm21_34 Z x1 x2 x3 d4 c5 d6 u7 h0 n0) := by
 refine own_body (own := sS) rfl (plainFor_of_name pN9) O0 (fun m => ef_21_RR m x1 x2) ?_
 intro p e s m below meth c s₁ Bd hZ hx hby hml hown X0 e0 Z0
 have N0 := Fr.nil n0
 have Kr : Keep h0 h0 [x1] := Keep.refl h0 _
 obtain ⟨_, _, ⟨T1, L1, k1, n1⟩, -, X1, ⟨Lc1, hQ1, l1, y1, z1⟩, st1⟩ := X0.specialBack hx (y := M31) rfl hown (mvT hZ (wd hw 129 rfl)) (mvT hZ (wd hw 130 rfl)) (mvT hZ (wd hw 131 rfl)) (by decide) (backOf (W := 0) (rm22_33 l Z a0 hw [] cz dg fm x1 x2 x3 d4 c5 d6 u7 h0 n0 O0 P E_x2 F_x2_value F_x2_count F_x2_coder E_x1 F_x1_coder g_x1 V_x3 ne_x3_x1 hn0 hn1 hn2 hn3 hn4 hn5 hn6 hn7 hn8 hn9 hn10 hn11 F_x1_value) hZ (wd hw 131 rfl) (wd hw 28 rfl) (by decide) (by decide)) (g := (mkF m 3 #[lR x1, lR x2] [.null, (.ref x2), (.ref x1)])) rfl (by rw [hml]; rfl) (Steps.refl _) (a := x1) (argsL := [(.ref x2), .null]) (rest := []) (lenOf pd_18 rfl) rfl (lz rfl) (hb hby d21_3) (fun _ _ => ⟨rfl, e0, (by decide : 0 + 1 ≤ _), (by decide : 0 + 142 ≤ _)⟩)
 dsimp only [Pt.U, Pt.locs, Pt.cells, Pt.slots] at X1 l1 y1 z1 st1 hQ1
 subst y1 z1
 obtain ⟨b1_0, k1_0, rfl, N1q, K1, l1_0, q1_0, q1_1, q1_2⟩ := hQ1
 have N1 : Fr n0 L1 := by rw [l1]; exact Fr.app N0 N1q
 have Ks2 := Kr.trans K1 (allS (Or.inl (mg 0 rfl)) all0)
 obtain ⟨fs, hr, hrun, hended, hW, hsame⟩ := X1.leave (v := none) (fun _ => rfl)
 refine ⟨_, _, ?_, hrun, hended, _, _, rfl, ?_, ⟨_, rfl⟩, hW, hsame.mono (by decide) (by decide)⟩
 · show SH s₁ 0 #[lR x1, lR x2] []
   refine XS.aloadN X0.here hx rfl (hb hby d21_0) rfl rfl ?_
   show SH s₁ 1 #[lR x1, lR x2] [(.ref x1)]
   refine XS.aloadN X0.here hx rfl (hb hby d21_1) rfl rfl ?_
   show SH s₁ 2 #[lR x1, lR x2] [(.ref x2), (.ref x1)]
   refine XS.aconstNull X0.here hx rfl (hb hby d21_2) ?_
   show SH s₁ 3 #[lR x1, lR x2] [.null, (.ref x2), (.ref x1)]
   refine st1.trans ?_
   show SH T1 6 #[lR x1, lR x2] []
   exact X1.returnOut hx Bd.returns (hb hby d21_6) hr
 · show Qrm21_34 Z x1 x2 x3 d4 c5 d6 u7 h0 n0 _ T1.heap _
   exact ⟨b1_0, k1_0, rfl, N1, Ks2, (Nat.le_trans Kr.1 l1_0), q1_0, q1_1, q1_2⟩
theorem pd_19 : parseMethodDescriptor "(Ljava/lang/StringBuilder;)V" = some ⟨[(.object sB)], none⟩ := by decide +kernel
theorem d20_8 : decode K20 8 = .ok (.areturn, 1) := by decide +kernel
theorem ef_20_R (m : MethodId) (x0 : Addr) : entryFrame m #[(.ref x0)] 1 = mkF m 0 #[.val (.ref x0)] [] := by first | (simp [entryFrame, mkF, argsToLocals, Value.category]; done) | rfl
def Qrm20_35 (Z : State) (x1 : Addr) (x2 : Addr) (d3 : Nat) (c4 : ClassId) (d5 : Nat) (u6 : List Value) (h0 : Heap) (n0 : Nat) (v : Option Value) (h : Heap) (L : List Loc) : Prop := ∃ y1 : Addr, ∃ y2 : Addr, ∃ k1_ : ClassId, v = some (.ref y1) ∧ Fr n0 L ∧ Keep h0 h [] ∧ h0.size ≤ y1 ∧ h0.size ≤ y2 ∧ Exa Z h y1 sS ∧ sC Z h y1 ∧ sV Z h y1 y2 ∧ Arv Z h y2 k1_ .byte (oN (d3 - 0)) u6 (vI 0)
theorem rm20_35 (l : Launch) (Z : State) (a0 : Array Value) (hw : HW Z a0) (ws : List Jvm.Cond) (cz : Int32) (dg : Addr) (fm : Value) (x1 : Addr) (x2 : Addr) (d3 : Nat) (c4 : ClassId) (d5 : Nat) (u6 : List Value) (h0 : Heap) (n0 : Nat) (O0 : Old Z n0 h0) (P : Pins Z cz dg fm) (E_x1 : Exa Z h0 x1 sB) (F_x1_value : aV Z h0 x1 x2) (F_x1_count : aN Z h0 x1 (oN d3)) (F_x1_coder : aC Z h0 x1) (V_x2 : bA Z h0 x2 c4 (oN d5) u6) (hn0 : d3 ≠ d5) (hn1 : d3 < 2147483648) (hn2 : d5 < 2147483648) (hn3 : 0 ≤ d3) (hn4 : (d3 - 0) < 2147483648) (hn5 : (d3 - 0) ≤ 142) (hn6 : 0 ≤ d5) (hn7 : (d3 - 0) < (d5 - 0)) (hn8 : (d5 - 0) < 2147483648) (hn9 : u6.length ≤ (d3 - 0)) (hn10 : (d3 - 0) ≤ d5) (hn11 : 0 + (d3 - 0) ≤ (d3 - 0)) :
   Ctr l M33 (Jvm.Cond.code M33 jdk_67_method_42_code 1 (some (.object sS)) :: ws) (rO 5 2 146 79) Z h0 #[(.ref x1)] (Qrm20_35 Z x1 x2 d3 c4 d5 u6 h0 n0) := by
 refine own_body (own := sB) rfl (plainFor_of_name pN5) O0 (fun m => ef_20_R m x1) ?_
 intro p e s m below meth c s₁ Bd hZ hx hby hml hown X0 e0 Z0
 have N0 := Fr.nil n0
 have Kr : Keep h0 h0 [] := Keep.refl h0 _
 obtain ⟨T1, h1, X1, e1, E1, A1, D1, -, st1⟩ := newO X0 hx hZ hown (wd hw 124 rfl) (wd hw 37 rfl) (wd hw 28 rfl) e0 (g := (mkF m 0 #[lR x1] [])) rfl (hb hby d20_0) (by decide) (by decide)
 obtain ⟨b1, g1⟩ : ∃ z, z = (h0).size := ⟨_, rfl⟩
 rw [← g1] at A1 D1 st1
 have Os2 := O0.ext E1
 have Ks2 := Kr.ext E1
 have D1_value : Fld Z h1 b1 sS "value" "[B" .null := D1 (Or.inr (wd hw 38 rfl)) (ty := (.array .byte)) (by decide)
 have D1_coder : sC Z h1 b1 := D1 (Or.inr (wd hw 39 rfl)) (ty := .byte) (by decide)
 have f3 := (E_x1.ext E1)
 have f4 := (F_x1_value.ext E1)
 have f5 := (F_x1_count.ext E1)
 have f6 := (F_x1_coder.ext E1)
 have f7 := (V_x2.ext E1)
 have nz8 := (Nat.ne_of_lt (Nat.lt_of_lt_of_le (V_x2).lt (Nat.le_of_eq g1.symm)))
 obtain ⟨_, _, ⟨T9, L9, k9, n9⟩, -, X9, ⟨Lc9, hQ9, l9, y9, z9⟩, st9⟩ := X1.specialBack hx (y := M32) rfl hown (mvT hZ (wd hw 125 rfl)) (mvT hZ (wd hw 126 rfl)) (mvT hZ (wd hw 128 rfl)) (by decide) (backOf (W := 1) (rm21_34 l Z a0 hw [] cz dg fm b1 x1 x2 d3 c4 d5 u6 h1 n0 Os2 P f3 f4 f5 f6 A1 D1_coder (Nat.le_trans Z0 (Nat.le_of_eq g1.symm)) f7 nz8 hn0 hn1 hn2 hn3 hn4 hn5 hn6 hn7 hn8 hn9 hn10 hn11 D1_value) hZ (wd hw 128 rfl) (wd hw 28 rfl) (by decide) (by decide)) (g := (mkF m 5 #[lR x1] [(.ref x1), (.ref b1), (.ref b1)])) rfl (by rw [hml]; rfl) (Steps.refl _) (a := b1) (argsL := [(.ref x1)]) (rest := [(.ref b1)]) (lenOf pd_19 rfl) rfl (lz rfl) (hb hby d20_5) (fun _ _ => ⟨rfl, e1, (by decide : 1 + 1 ≤ _), (by decide : 4 + 142 ≤ _)⟩)
 dsimp only [Pt.U, Pt.locs, Pt.cells, Pt.slots] at X9 l9 y9 z9 st9 hQ9
 subst y9 z9
 obtain ⟨b9_0, k9_0, rfl, N9q, K9, l9_0, q9_0, q9_1, q9_2⟩ := hQ9
 have N9 : Fr n0 L9 := by rw [l9]; exact Fr.app N0 N9q
 have Ks10 := Ks2.trans K9 (allS (Or.inr (Nat.le_trans Kr.1 (Nat.le_of_eq g1.symm))) all0)
 have f11 := (A1.keep K9)
 obtain ⟨fs, hr, hrun, hended, hW, hsame⟩ := X9.leave (v := some (.ref b1)) (fun h => by rw [Bd.returns] at h; cases h)
 refine ⟨_, _, ?_, hrun, hended, _, _, rfl, ?_, ⟨_, rfl⟩, hW, hsame.mono (by decide) (by decide)⟩
 · show SH s₁ 0 #[lR x1] []
   refine st1 _ ?_
   show SH T1 3 #[lR x1] [(.ref b1)]
   refine XS.dup X1.here hx rfl (hb hby d20_3) rfl rfl ?_
   show SH T1 4 #[lR x1] [(.ref b1), (.ref b1)]
   refine XS.aloadN X1.here hx rfl (hb hby d20_4) rfl rfl ?_
   show SH T1 5 #[lR x1] [(.ref x1), (.ref b1), (.ref b1)]
   refine st9.trans ?_
   show SH T9 8 #[lR x1] [(.ref b1)]
   exact retOut X9 hx Bd.returns rfl (Or.inr (Or.inr (Or.inr (Or.inr ⟨rfl, rfl, rfl⟩)))) (hb hby d20_8) hr
 · show Qrm20_35 Z x1 x2 d3 c4 d5 u6 h0 n0 _ T9.heap _
   exact ⟨b1, b9_0, k9_0, rfl, N9, Ks10, (Nat.le_trans Kr.1 (Nat.le_of_eq g1.symm)), (Nat.le_trans Ks2.1 l9_0), f11, q9_0, q9_1, q9_2⟩
theorem pd_20 : parseMethodDescriptor "()Ljava/lang/String;" = some ⟨[], some (.object sS)⟩ := by decide +kernel
theorem d6_38 : decode K6 38 = .ok (.areturn, 1) := by decide +kernel
def Qrm9_36 (Z : State)  (h0 : Heap) (n0 : Nat) (v : Option Value) (h : Heap) (L : List Loc) : Prop := v = some (vI 1) ∧ Fr n0 L ∧ h = h0
theorem rm9_36 (l : Launch) (Z : State) (a0 : Array Value) (hw : HW Z a0) (ws : List Jvm.Cond) (cz : Int32) (dg : Addr) (fm : Value)  (h0 : Heap) (n0 : Nat) (O0 : Old Z n0 h0) (P : Pins Z cz dg fm) :
   Ctr l M11 (Jvm.Cond.code M11 jdk_33_method_13_code 4 (some .int) :: ws) (rO 0 0 0 0) Z h0 #[(vI 1)] (Qrm9_36 Z  h0 n0) := by
 refine own_body (own := sN) rfl (plainFor_of_name pN7) O0 (fun m => ef_9_I m (1 : Int32)) ?_
 intro p e s m below meth c s₁ Bd hZ hx hby hml hown X0 e0 Z0
 have N0 := Fr.nil n0
 obtain ⟨fs, hr, hrun, hended, hW, hsame⟩ := X0.leave (v := some (vI 1)) (fun h => by rw [Bd.returns] at h; cases h)
 refine ⟨_, _, ?_, hrun, hended, _, _, rfl, ?_, ⟨_, rfl⟩, hW, hsame.mono (by decide) (by decide)⟩
 · show SH s₁ 0 #[lI 1, lU, lU, lU] []
   refine XS.iconst X0.here hx rfl (hb hby d9_0) ?_
   show SH s₁ 1 #[lI 1, lU, lU, lU] [(vI 1)]
   refine XS.istoreN X0.here hx rfl (hb hby d9_1) rfl (l' := #[lI 1, lI 1, lU, lU]) rfl ?_
   show SH s₁ 2 #[lI 1, lI 1, lU, lU] []
   refine XS.iloadN X0.here hx rfl (hb hby d9_2) rfl ?_
   show SH s₁ 3 #[lI 1, lI 1, lU, lU] [(vI 1)]
   refine XS.ifNo X0.here hx rfl (hb hby d9_3) rfl (by decide) ?_
   show SH s₁ 6 #[lI 1, lI 1, lU, lU] []
   refine XS.iconst X0.here hx rfl (hb hby d9_6) ?_
   show SH s₁ 7 #[lI 1, lI 1, lU, lU] [(vI 0)]
   refine XS.istoreN X0.here hx rfl (hb hby d9_7) rfl (l' := #[lI 1, lI 0, lU, lU]) rfl ?_
   show SH s₁ 8 #[lI 1, lI 0, lU, lU] []
   refine XS.iloadN X0.here hx rfl (hb hby d9_8) rfl ?_
   show SH s₁ 9 #[lI 1, lI 0, lU, lU] [(vI 1)]
   refine XS.ineg X0.here hx rfl (hb hby d9_9) rfl ?_
   show SH s₁ 10 #[lI 1, lI 0, lU, lU] [(.int (-(1 : Int32)))]
   rw [show (-(1 : Int32)) = (-1 : Int32) from by decide]
   refine XS.istoreN X0.here hx rfl (hb hby d9_10) rfl (l' := #[lI (-1), lI 0, lU, lU]) rfl ?_
   show SH s₁ 11 #[lI (-1), lI 0, lU, lU] []
   refine XS.bipush X0.here hx rfl (hb hby d9_11) ?_
   show SH s₁ 13 #[lI (-1), lI 0, lU, lU] [(vI (-10))]
   refine XS.istoreN X0.here hx rfl (hb hby d9_13) rfl (l' := #[lI (-1), lI 0, lI (-10), lU]) rfl ?_
   show SH s₁ 14 #[lI (-1), lI 0, lI (-10), lU] []
   refine XS.iconst X0.here hx rfl (hb hby d9_14) ?_
   show SH s₁ 15 #[lI (-1), lI 0, lI (-10), lU] [(vI 1)]
   refine XS.istoreN X0.here hx rfl (hb hby d9_15) rfl (l' := #[lI (-1), lI 0, lI (-10), lI 1]) rfl ?_
   show SH s₁ 16 #[lI (-1), lI 0, lI (-10), lI 1] []
   refine XS.iloadN X0.here hx rfl (hb hby d9_16) rfl ?_
   show SH s₁ 17 #[lI (-1), lI 0, lI (-10), lI 1] [(vI 1)]
   refine XS.bipush X0.here hx rfl (hb hby d9_17) ?_
   show SH s₁ 19 #[lI (-1), lI 0, lI (-10), lI 1] [(vI 10), (vI 1)]
   refine XS.icmpNo X0.here hx rfl (hb hby d9_19) rfl (by decide) ?_
   show SH s₁ 22 #[lI (-1), lI 0, lI (-10), lI 1] []
   refine XS.iloadN X0.here hx rfl (hb hby d9_22) rfl ?_
   show SH s₁ 23 #[lI (-1), lI 0, lI (-10), lI 1] [(vI (-1))]
   refine XS.iloadN X0.here hx rfl (hb hby d9_23) rfl ?_
   show SH s₁ 24 #[lI (-1), lI 0, lI (-10), lI 1] [(vI (-10)), (vI (-1))]
   refine XS.icmpNo X0.here hx rfl (hb hby d9_24) rfl (by decide) ?_
   show SH s₁ 27 #[lI (-1), lI 0, lI (-10), lI 1] []
   refine XS.iloadN X0.here hx rfl (hb hby d9_27) rfl ?_
   show SH s₁ 28 #[lI (-1), lI 0, lI (-10), lI 1] [(vI 1)]
   refine XS.iloadN X0.here hx rfl (hb hby d9_28) rfl ?_
   show SH s₁ 29 #[lI (-1), lI 0, lI (-10), lI 1] [(vI 0), (vI 1)]
   refine XS.iadd X0.here hx rfl (hb hby d9_29) rfl ?_
   show SH s₁ 30 #[lI (-1), lI 0, lI (-10), lI 1] [(.int ((1 : Int32) + (0 : Int32)))]
   rw [show ((1 : Int32) + (0 : Int32)) = (1 : Int32) from by decide]
   exact retI X0 hx Bd.returns (hb hby d9_30) hr
 · exact ⟨rfl, N0, e0⟩
def Qrm12_37 (Z : State) (x1 : Addr) (c2 : ClassId) (h0 : Heap) (n0 : Nat) (v : Option Value) (h : Heap) (L : List Loc) : Prop := v = some (vI 0) ∧ Fr n0 L ∧ Keep h0 h [x1] ∧ bA Z h x1 c2 16 [(vI 49)]
theorem rm12_37 (l : Launch) (Z : State) (a0 : Array Value) (hw : HW Z a0) (ws : List Jvm.Cond) (cz : Int32) (dg : Addr) (fm : Value) (x1 : Addr) (c2 : ClassId) (h0 : Heap) (n0 : Nat) (O0 : Old Z n0 h0) (P : Pins Z cz dg fm) (V_x1 : bA Z h0 x1 c2 16 []) (g_x1 : n0 ≤ x1) :
   Ctr l M14 (Jvm.Cond.code M14 jdk_33_method_12_code 7 (some .int) :: ws) (rO 0 0 0 0) Z h0 #[(vI 1), (vI 1), (.ref x1)] (Qrm12_37 Z x1 c2 h0 n0) := by
 have S_dg : Sta Z Z.heap sN "DigitOnes" "[B" (.ref dg) := P.2.2.1
 have A_dg : ∃ cl : Cell, Arr Z Z.heap dg cl .byte ∧ 3 ≤ cl.slots.size ∧ cl.slots[(0 : Int32).toNatClampNeg]? = some (vI 48) ∧ cl.slots[(1 : Int32).toNatClampNeg]? = some (vI 49) ∧ cl.slots[(2 : Int32).toNatClampNeg]? = some (vI 50) := P.2.2.2.1
 refine own_body (own := sN) rfl (plainFor_of_name pN7) O0 (fun m => ef_12_IIR m (1 : Int32) (1 : Int32) x1) ?_
 intro p e s m below meth c s₁ Bd hZ hx hby hml hown X0 e0 Z0
 have N0 := Fr.nil n0
 have Kr : Keep h0 h0 [x1] := Keep.refl h0 _
 obtain ⟨T1, X1, e1, st1⟩ := getS2 X0 hx hZ hown (host := "") (Or.inl (wd hw 74 rfl)) Via.refl e0 (S_dg.ext O0.2) (g := (mkF m 78 #[lI (-1), lI 1, lR x1, lU, lU, lI 0, lI 0] [(vI 0), (.ref x1)])) rfl (hb hby d12_78)
 obtain ⟨cl2, Ar2, sz2, el2_0, el2_1, el2_2⟩ := A_dg
 have Ax2 := Ar2.ext O0.2
 have Vp3 : bA Z (h0) x1 c2 16 [(vI 0)] := Arv.pad V_x1 (pad_rep [] (vI 0) 1)
 obtain ⟨cl3, A3, q3, S3, M3, H3, G3⟩ := id Vp3
 have hin3 : ¬ ((0 : Int32) < 0 ∨ cl3.slots.size ≤ ((0 : Int32)).toNatClampNeg) := inb_of S3 ⟨by decide, by decide⟩
 obtain ⟨T4, h4, X4, e4, W4, st4⟩ := stB X1 hx hZ e1 A3 (j := (0 : Int32)) hin3 (g := (mkF m 84 #[lI (-1), lI 1, lR x1, lU, lU, lI 0, lI 0] [(vI 49), (vI 0), (.ref x1)])) rfl rfl (hb hby d12_84)
 have V4 := Arv.set A3 q3 S3 M3 H3 G3 (fits_nar_byte _) W4 0 rfl (Nat.le_of_ble_eq_true rfl)
 have V4' : bA Z h4 x1 c2 16 [(vI 49)] := V4
 have Ks5 := Kr.wr W4 (Or.inl (mg 0 rfl))
 have N4 := Fr.snoc X4 N0 g_x1
 obtain ⟨fs, hr, hrun, hended, hW, hsame⟩ := X4.leave (v := some (vI 0)) (fun h => by rw [Bd.returns] at h; cases h)
 refine ⟨_, _, ?_, hrun, hended, _, _, rfl, ?_, ⟨_, rfl⟩, hW, hsame.mono (by decide) (by decide)⟩
 · show SH s₁ 0 #[lI 1, lI 1, lR x1, lU, lU, lU, lU] []
   refine XS.iloadN X0.here hx rfl (hb hby d12_0) rfl ?_
   show SH s₁ 1 #[lI 1, lI 1, lR x1, lU, lU, lU, lU] [(vI 1)]
   refine XS.istore X0.here hx rfl (hb hby d12_1) rfl (l' := #[lI 1, lI 1, lR x1, lU, lU, lI 1, lU]) rfl ?_
   show SH s₁ 3 #[lI 1, lI 1, lR x1, lU, lU, lI 1, lU] []
   refine XS.iloadN X0.here hx rfl (hb hby d12_3) rfl ?_
   show SH s₁ 4 #[lI 1, lI 1, lR x1, lU, lU, lI 1, lU] [(vI 1)]
   refine XS.ifYes X0.here hx rfl (pc0 := 4) (pc' := 11) rfl (hb hby d12_4) rfl (by decide) (by decide) (by decide) ?_
   show SH s₁ 11 #[lI 1, lI 1, lR x1, lU, lU, lI 1, lU] []
   refine XS.iconst X0.here hx rfl (hb hby d12_11) ?_
   show SH s₁ 12 #[lI 1, lI 1, lR x1, lU, lU, lI 1, lU] [(vI 0)]
   refine XS.istore X0.here hx rfl (hb hby d12_12) rfl (l' := #[lI 1, lI 1, lR x1, lU, lU, lI 1, lI 0]) rfl ?_
   show SH s₁ 14 #[lI 1, lI 1, lR x1, lU, lU, lI 1, lI 0] []
   refine XS.iload X0.here hx rfl (hb hby d12_14) rfl ?_
   show SH s₁ 16 #[lI 1, lI 1, lR x1, lU, lU, lI 1, lI 0] [(vI 0)]
   refine XS.ifNo X0.here hx rfl (hb hby d12_16) rfl (by decide) ?_
   show SH s₁ 19 #[lI 1, lI 1, lR x1, lU, lU, lI 1, lI 0] []
   refine XS.iloadN X0.here hx rfl (hb hby d12_19) rfl ?_
   show SH s₁ 20 #[lI 1, lI 1, lR x1, lU, lU, lI 1, lI 0] [(vI 1)]
   refine XS.ineg X0.here hx rfl (hb hby d12_20) rfl ?_
   show SH s₁ 21 #[lI 1, lI 1, lR x1, lU, lU, lI 1, lI 0] [(.int (-(1 : Int32)))]
   rw [show (-(1 : Int32)) = (-1 : Int32) from by decide]
   refine XS.istoreN X0.here hx rfl (hb hby d12_21) rfl (l' := #[lI (-1), lI 1, lR x1, lU, lU, lI 1, lI 0]) rfl ?_
   show SH s₁ 22 #[lI (-1), lI 1, lR x1, lU, lU, lI 1, lI 0] []
   refine XS.iloadN X0.here hx rfl (hb hby d12_22) rfl ?_
   show SH s₁ 23 #[lI (-1), lI 1, lR x1, lU, lU, lI 1, lI 0] [(vI (-1))]
   refine XS.bipush X0.here hx rfl (hb hby d12_23) ?_
   show SH s₁ 25 #[lI (-1), lI 1, lR x1, lU, lU, lI 1, lI 0] [(vI (-100)), (vI (-1))]
   refine XS.icmpYes X0.here hx rfl (pc0 := 25) (pc' := 72) rfl (hb hby d12_25) rfl (by decide) (by decide) (by decide) ?_
   show SH s₁ 72 #[lI (-1), lI 1, lR x1, lU, lU, lI 1, lI 0] []
   refine XS.aloadN X0.here hx rfl (hb hby d12_72) rfl rfl ?_
   show SH s₁ 73 #[lI (-1), lI 1, lR x1, lU, lU, lI 1, lI 0] [(.ref x1)]
   refine XS.iinc X0.here hx rfl (hb hby d12_73) rfl (l' := #[lI (-1), lI 1, lR x1, lU, lU, lI (((1 : Int32) + (-1 : Int32))), lI 0]) rfl ?_
   show SH s₁ 76 #[lI (-1), lI 1, lR x1, lU, lU, lI (((1 : Int32) + (-1 : Int32))), lI 0] [(.ref x1)]
   rw [show ((1 : Int32) + (-1 : Int32)) = (0 : Int32) from by decide]
   refine XS.iload X0.here hx rfl (hb hby d12_76) rfl ?_
   show SH s₁ 78 #[lI (-1), lI 1, lR x1, lU, lU, lI 0, lI 0] [(vI 0), (.ref x1)]
   refine st1 _ ?_
   show SH T1 81 #[lI (-1), lI 1, lR x1, lU, lU, lI 0, lI 0] [(.ref dg), (vI 0), (.ref x1)]
   refine XS.iloadN X1.here hx rfl (hb hby d12_81) rfl ?_
   show SH T1 82 #[lI (-1), lI 1, lR x1, lU, lU, lI 0, lI 0] [(vI (-1)), (.ref dg), (vI 0), (.ref x1)]
   refine XS.ineg X1.here hx rfl (hb hby d12_82) rfl ?_
   show SH T1 83 #[lI (-1), lI 1, lR x1, lU, lU, lI 0, lI 0] [(.int (-(-1 : Int32))), (.ref dg), (vI 0), (.ref x1)]
   rw [show (-(-1 : Int32)) = (1 : Int32) from by decide]
   refine X1.baloadBytes hx (j := (1 : Int32)) (v := (vI 49)) (by rw [e1]; exact Ax2.1) (State.isArrayOf_alike hZ.alike Ax2.2.1) Ax2.2.2 (fun q => q.elim (by decide) (fun r => absurd (Nat.le_trans sz2 r) (by decide))) el2_1 (g := (mkF m 83 #[lI (-1), lI 1, lR x1, lU, lU, lI 0, lI 0] [(vI 1), (.ref dg), (vI 0), (.ref x1)])) rfl rfl (hb hby d12_83) _ ?_
   show SH T1 84 #[lI (-1), lI 1, lR x1, lU, lU, lI 0, lI 0] [(vI 49), (vI 0), (.ref x1)]
   refine st4 _ ?_
   show SH T4 85 #[lI (-1), lI 1, lR x1, lU, lU, lI 0, lI 0] []
   refine XS.iloadN X4.here hx rfl (hb hby d12_85) rfl ?_
   show SH T4 86 #[lI (-1), lI 1, lR x1, lU, lU, lI 0, lI 0] [(vI (-1))]
   refine XS.bipush X4.here hx rfl (hb hby d12_86) ?_
   show SH T4 88 #[lI (-1), lI 1, lR x1, lU, lU, lI 0, lI 0] [(vI (-9)), (vI (-1))]
   refine XS.icmpYes X4.here hx rfl (pc0 := 88) (pc' := 104) rfl (hb hby d12_88) rfl (by decide) (by decide) (by decide) ?_
   show SH T4 104 #[lI (-1), lI 1, lR x1, lU, lU, lI 0, lI 0] []
   refine XS.iload X4.here hx rfl (hb hby d12_104) rfl ?_
   show SH T4 106 #[lI (-1), lI 1, lR x1, lU, lU, lI 0, lI 0] [(vI 0)]
   refine XS.ifYes X4.here hx rfl (pc0 := 106) (pc' := 118) rfl (hb hby d12_106) rfl (by decide) (by decide) (by decide) ?_
   show SH T4 118 #[lI (-1), lI 1, lR x1, lU, lU, lI 0, lI 0] []
   refine XS.iload X4.here hx rfl (hb hby d12_118) rfl ?_
   show SH T4 120 #[lI (-1), lI 1, lR x1, lU, lU, lI 0, lI 0] [(vI 0)]
   exact retI X4 hx Bd.returns (hb hby d12_120) hr
 · show Qrm12_37 Z x1 c2 h0 n0 _ T4.heap _
   rw [e4]
   exact ⟨rfl, N4, Ks5, V4'⟩
def Qrm8_38 (Z : State) (x1 : Addr) (x2 : Addr) (c3 : ClassId) (h0 : Heap) (n0 : Nat) (v : Option Value) (h : Heap) (L : List Loc) : Prop := v = some (.ref x1) ∧ Fr n0 L ∧ Keep h0 h [x2, x1] ∧ aN Z h x1 1 ∧ aV Z h x1 x2 ∧ aC Z h x1 ∧ bA Z h x2 c3 16 [(vI 49)]
theorem rm8_38 (l : Launch) (Z : State) (a0 : Array Value) (hw : HW Z a0) (ws : List Jvm.Cond) (cz : Int32) (dg : Addr) (fm : Value) (x1 : Addr) (x2 : Addr) (c3 : ClassId) (h0 : Heap) (n0 : Nat) (O0 : Old Z n0 h0) (P : Pins Z cz dg fm) (F_x1_count : aN Z h0 x1 0) (E_x1 : Exa Z h0 x1 sB) (F_x1_value : aV Z h0 x1 x2) (V_x2 : bA Z h0 x2 c3 16 []) (F_x1_coder : aC Z h0 x1) (g_x2 : n0 ≤ x2) (ne_x1_x2 : x1 ≠ x2) (g_x1 : n0 ≤ x1) (ne_x2_x1 : x2 ≠ x1) :
   Ctr l M15 (Jvm.Cond.code M15 jdk_68_method_32_code 4 (some (.object sA)) :: ws) (rO 1 0 0 18) Z h0 #[(.ref x1), (vI 1)] (Qrm8_38 Z x1 x2 c3 h0 n0) := by
 refine own_body (own := sA) rfl (plainFor_of_name pN3) O0 (fun m => ef_8_RI m x1 (1 : Int32)) ?_
 intro p e s m below meth c s₁ Bd hZ hx hby hml hown X0 e0 Z0
 have N0 := Fr.nil n0
 have Kr : Keep h0 h0 [x2, x1] := Keep.refl h0 _
 obtain ⟨T1, X1, e1, st1⟩ := getF X0 hx hZ hown (host := "") (Or.inl (wd hw 55 rfl)) Via.refl e0 F_x1_count (g := (mkF m 1 #[lR x1, lI 1, lU, lU] [(.ref x1)])) rfl rfl (hb hby d8_1)
 obtain ⟨_, _, ⟨T2, L2, k2, n2⟩, -, X2, ⟨Lc2, hQ2, l2, y2, z2⟩, st2⟩ := Jvm.LawKit.callS X1 hx (y := M11) hown (mvT hZ (wd hw 57 rfl)) (mvT hZ (wd hw 58 rfl)) (mvT hZ (wd hw 59 rfl)) (mvT hZ (wd hw 60 rfl)) (by decide) (backOf (W := 1) (rm9_36 l Z a0 hw [] cz dg fm  h0 n0 O0 P ) hZ (wd hw 60 rfl) (wd hw 59 rfl) (by decide) (by decide)) (g := (mkF m 7 #[lR x1, lI 1, lI 0, lU] [(vI 1), (vI 0)])) rfl (by rw [hml]; rfl) (argsL := [(vI 1)]) (rest := [(vI 0)]) (lenOf pd_2 rfl) rfl (lz rfl) (hb hby d8_7) (fun _ _ => ⟨rfl, e1, (by decide : 0 + 0 ≤ _), (by decide : 0 + 0 ≤ _)⟩)
 dsimp only [Pt.U, Pt.locs, Pt.cells, Pt.slots] at X2 l2 y2 z2 st2 hQ2
 subst y2 z2
 obtain ⟨rfl, N2q, e2⟩ := hQ2
 have N2 : Fr n0 L2 := by rw [l2]; exact Fr.app N0 N2q
 obtain ⟨cq3, kq3, q3a, q3b, q3c⟩ := isOf hZ e2 E_x1
 obtain ⟨_, _, ⟨T3, L3, k3, n3⟩, -, X3, ⟨Lc3, hQ3, l3, y3, z3⟩, st3⟩ := X2.virtualBack hx (y := M12) (z := M12) hown (mvT hZ (wd hw 61 rfl)) (mvT hZ (own_decl (wd hw 62 rfl) (wd hw 65 rfl))) (notFace_of_selects (args := #[]) (mvT hZ (wd hw 64 rfl))) (mvT hZ (wd hw 64 rfl)) (mvT hZ (wd hw 62 rfl)) (by decide) (backOf (W := 0) (rm10_13 l Z a0 hw [] cz dg fm x1 x2 c3 h0 n0 O0 P F_x1_count F_x1_value V_x2 F_x1_coder) hZ (wd hw 65 rfl) (wd hw 24 rfl) (by decide) (by decide)) q3a q3c (g := (mkF m 14 #[lR x1, lI 1, lI 0, lI 1] [(vI 1), (.ref x1)])) rfl (by rw [hml]; rfl) (Steps.refl _) (argsL := [(vI 1)]) (rest := []) (lenOf pd_1 rfl) rfl (lz rfl) (hb hby d8_14) (fun _ _ => ⟨rfl, e2, (by decide : 0 + 0 ≤ _), (by decide : 0 + 0 ≤ _)⟩)
 dsimp only [Pt.U, Pt.locs, Pt.cells, Pt.slots] at X3 l3 y3 z3 st3 hQ3
 subst y3 z3
 obtain ⟨rfl, N3q, e3⟩ := hQ3
 have N3 : Fr n0 L3 := by rw [l3]; exact Fr.app N2 N3q
 obtain ⟨cq4, kq4, q4a, q4b, q4c⟩ := isOf hZ e3 E_x1
 obtain ⟨_, _, ⟨T4, L4, k4, n4⟩, -, X4, ⟨Lc4, hQ4, l4, y4, z4⟩, st4⟩ := X3.virtualBack hx (y := M13) (z := M13) hown (mvT hZ (wd hw 66 rfl)) (mvT hZ (wd hw 67 rfl)) (notFace_of_selects (args := #[]) (mvT hZ (wd hw 69 rfl))) (mvT hZ (wd hw 69 rfl)) (mvT hZ (wd hw 68 rfl)) (by decide) (backOf (W := 0) (rm11_14 l Z a0 hw [] cz dg fm x1 h0 n0 O0 P F_x1_coder) hZ (wd hw 70 rfl) (wd hw 24 rfl) (by decide) (by decide)) q4a q4c (g := (mkF m 18 #[lR x1, lI 1, lI 0, lI 1] [(.ref x1)])) rfl (by rw [hml]; rfl) (Steps.refl _) (argsL := []) (rest := []) (lenOf pd_3 rfl) rfl (lz rfl) (hb hby d8_18) (fun _ _ => ⟨rfl, e3, (by decide : 0 + 0 ≤ _), (by decide : 0 + 0 ≤ _)⟩)
 dsimp only [Pt.U, Pt.locs, Pt.cells, Pt.slots] at X4 l4 y4 z4 st4 hQ4
 subst y4 z4
 obtain ⟨rfl, N4q, e4⟩ := hQ4
 have N4 : Fr n0 L4 := by rw [l4]; exact Fr.app N3 N4q
 obtain ⟨T5, X5, e5, st5⟩ := getF X4 hx hZ hown (host := "") (Or.inl (wd hw 30 rfl)) Via.refl e4 F_x1_value (g := (mkF m 27 #[lR x1, lI 1, lI 0, lI 1] [(.ref x1), (vI 1), (vI 1)])) rfl rfl (hb hby d8_27)
 obtain ⟨_, _, ⟨T6, L6, k6, n6⟩, -, X6, ⟨Lc6, hQ6, l6, y6, z6⟩, st6⟩ := Jvm.LawKit.callS X5 hx (y := M14) hown (mvT hZ (wd hw 71 rfl)) (mvT hZ (wd hw 72 rfl)) (mvT hZ (wd hw 59 rfl)) (mvT hZ (wd hw 73 rfl)) (by decide) (backOf (W := 0) (rm12_37 l Z a0 hw [] cz dg fm x2 c3 h0 n0 O0 P V_x2 g_x2) hZ (wd hw 73 rfl) (wd hw 59 rfl) (by decide) (by decide)) (g := (mkF m 30 #[lR x1, lI 1, lI 0, lI 1] [(.ref x2), (vI 1), (vI 1)])) rfl (by rw [hml]; rfl) (argsL := [(vI 1), (vI 1), (.ref x2)]) (rest := []) (lenOf pd_4 rfl) rfl (lz rfl) (hb hby d8_30) (fun _ _ => ⟨rfl, e5, (by decide : 0 + 0 ≤ _), (by decide : 0 + 0 ≤ _)⟩)
 dsimp only [Pt.U, Pt.locs, Pt.cells, Pt.slots] at X6 l6 y6 z6 st6 hQ6
 subst y6 z6
 obtain ⟨rfl, N6q, K6, q6_0⟩ := hQ6
 have N6 : Fr n0 L6 := by rw [l6]; exact Fr.app N4 N6q
 have Ks7 := Kr.trans K6 (allS (Or.inl (mg 0 rfl)) all0)
 have f8 := (E_x1.keep K6)
 have f9 := (F_x1_count.keep K6 (ninS ne_x1_x2 nin0))
 obtain ⟨T10, h10, X10, e10, W10, st10⟩ := putF X6 hx hZ hown (host := "") (Or.inl (wd hw 55 rfl)) Via.refl rfl f9 f8 (Or.inl (wd hw 56 rfl)) (wd hw 15 rfl) (ty := .int) (by decide) rfl rfl (g := (mkF m 50 #[lR x1, lI 1, lI 0, lI 1] [(vI 1), (.ref x1)])) rfl rfl (hb hby d8_50)
 have Ks11 := Ks7.wr W10 (Or.inl (mg 1 rfl))
 have Fw10 := Fld.same W10 f9
 have N10 := Fr.snoc X10 N6 g_x1
 have f12 := (Fld.other W10 (F_x1_value.keep K6 (ninS ne_x1_x2 nin0)) (Or.inr (slot_ne (Or.inl (wd hw 31 rfl)) (Or.inl (wd hw 56 rfl)) (by decide) (t := (.array .byte)) (t' := .int) (by decide) (by decide))))
 have f13 := (Fld.other W10 (F_x1_coder.keep K6 (ninS ne_x1_x2 nin0)) (Or.inr (slot_ne (Or.inl (wd hw 33 rfl)) (Or.inl (wd hw 56 rfl)) (by decide) (t := .byte) (t' := .int) (by decide) (by decide))))
 have f14 := (q6_0.other W10 ne_x2_x1)
 obtain ⟨fs, hr, hrun, hended, hW, hsame⟩ := X10.leave (v := some (.ref x1)) (fun h => by rw [Bd.returns] at h; cases h)
 refine ⟨_, _, ?_, hrun, hended, _, _, rfl, ?_, ⟨_, rfl⟩, hW, hsame.mono (by decide) (by decide)⟩
 · show SH s₁ 0 #[lR x1, lI 1, lU, lU] []
   refine XS.aloadN X0.here hx rfl (hb hby d8_0) rfl rfl ?_
   show SH s₁ 1 #[lR x1, lI 1, lU, lU] [(.ref x1)]
   refine st1 _ ?_
   show SH T1 4 #[lR x1, lI 1, lU, lU] [(vI 0)]
   refine XS.istoreN X1.here hx rfl (hb hby d8_4) rfl (l' := #[lR x1, lI 1, lI 0, lU]) rfl ?_
   show SH T1 5 #[lR x1, lI 1, lI 0, lU] []
   refine XS.iloadN X1.here hx rfl (hb hby d8_5) rfl ?_
   show SH T1 6 #[lR x1, lI 1, lI 0, lU] [(vI 0)]
   refine XS.iloadN X1.here hx rfl (hb hby d8_6) rfl ?_
   show SH T1 7 #[lR x1, lI 1, lI 0, lU] [(vI 1), (vI 0)]
   refine st2 _ ?_
   show SH T2 10 #[lR x1, lI 1, lI 0, lU] [(vI 1), (vI 0)]
   refine XS.iadd X2.here hx rfl (hb hby d8_10) rfl ?_
   show SH T2 11 #[lR x1, lI 1, lI 0, lU] [(.int ((0 : Int32) + (1 : Int32)))]
   rw [show ((0 : Int32) + (1 : Int32)) = (1 : Int32) from by decide]
   refine XS.istoreN X2.here hx rfl (hb hby d8_11) rfl (l' := #[lR x1, lI 1, lI 0, lI 1]) rfl ?_
   show SH T2 12 #[lR x1, lI 1, lI 0, lI 1] []
   refine XS.aloadN X2.here hx rfl (hb hby d8_12) rfl rfl ?_
   show SH T2 13 #[lR x1, lI 1, lI 0, lI 1] [(.ref x1)]
   refine XS.iloadN X2.here hx rfl (hb hby d8_13) rfl ?_
   show SH T2 14 #[lR x1, lI 1, lI 0, lI 1] [(vI 1), (.ref x1)]
   refine st3.trans ?_
   show SH T3 17 #[lR x1, lI 1, lI 0, lI 1] []
   refine XS.aloadN X3.here hx rfl (hb hby d8_17) rfl rfl ?_
   show SH T3 18 #[lR x1, lI 1, lI 0, lI 1] [(.ref x1)]
   refine st4.trans ?_
   show SH T4 21 #[lR x1, lI 1, lI 0, lI 1] [(vI 1)]
   refine XS.ifNo X4.here hx rfl (hb hby d8_21) rfl (by decide) ?_
   show SH T4 24 #[lR x1, lI 1, lI 0, lI 1] []
   refine XS.iloadN X4.here hx rfl (hb hby d8_24) rfl ?_
   show SH T4 25 #[lR x1, lI 1, lI 0, lI 1] [(vI 1)]
   refine XS.iloadN X4.here hx rfl (hb hby d8_25) rfl ?_
   show SH T4 26 #[lR x1, lI 1, lI 0, lI 1] [(vI 1), (vI 1)]
   refine XS.aloadN X4.here hx rfl (hb hby d8_26) rfl rfl ?_
   show SH T4 27 #[lR x1, lI 1, lI 0, lI 1] [(.ref x1), (vI 1), (vI 1)]
   refine st5 _ ?_
   show SH T5 30 #[lR x1, lI 1, lI 0, lI 1] [(.ref x2), (vI 1), (vI 1)]
   refine st6 _ ?_
   show SH T6 33 #[lR x1, lI 1, lI 0, lI 1] [(vI 0)]
   refine XS.pop X6.here hx rfl (hb hby d8_33) rfl rfl ?_
   show SH T6 34 #[lR x1, lI 1, lI 0, lI 1] []
   refine XS.goto X6.here hx rfl (pc0 := 34) (pc' := 48) rfl (hb hby d8_34) (by decide) (by decide) ?_
   show SH T6 48 #[lR x1, lI 1, lI 0, lI 1] []
   refine XS.aloadN X6.here hx rfl (hb hby d8_48) rfl rfl ?_
   show SH T6 49 #[lR x1, lI 1, lI 0, lI 1] [(.ref x1)]
   refine XS.iloadN X6.here hx rfl (hb hby d8_49) rfl ?_
   show SH T6 50 #[lR x1, lI 1, lI 0, lI 1] [(vI 1), (.ref x1)]
   refine st10 _ ?_
   show SH T10 53 #[lR x1, lI 1, lI 0, lI 1] []
   refine XS.aloadN X10.here hx rfl (hb hby d8_53) rfl rfl ?_
   show SH T10 54 #[lR x1, lI 1, lI 0, lI 1] [(.ref x1)]
   exact retOut X10 hx Bd.returns rfl (Or.inr (Or.inr (Or.inr (Or.inr ⟨rfl, rfl, rfl⟩)))) (hb hby d8_54) hr
 · show Qrm8_38 Z x1 x2 c3 h0 n0 _ T10.heap _
   rw [e10]
   exact ⟨rfl, N10, Ks11, Fw10, f12, f13, f14⟩
def Qrm7_39 (Z : State) (x1 : Addr) (x2 : Addr) (c3 : ClassId) (h0 : Heap) (n0 : Nat) (v : Option Value) (h : Heap) (L : List Loc) : Prop := v = some (.ref x1) ∧ Fr n0 L ∧ Keep h0 h [x1, x2] ∧ aN Z h x1 1 ∧ aV Z h x1 x2 ∧ aC Z h x1 ∧ bA Z h x2 c3 16 [(vI 49)]
theorem rm7_39 (l : Launch) (Z : State) (a0 : Array Value) (hw : HW Z a0) (ws : List Jvm.Cond) (cz : Int32) (dg : Addr) (fm : Value) (x1 : Addr) (x2 : Addr) (c3 : ClassId) (h0 : Heap) (n0 : Nat) (O0 : Old Z n0 h0) (P : Pins Z cz dg fm) (F_x1_count : aN Z h0 x1 0) (E_x1 : Exa Z h0 x1 sB) (F_x1_value : aV Z h0 x1 x2) (V_x2 : bA Z h0 x2 c3 16 []) (F_x1_coder : aC Z h0 x1) (g_x2 : n0 ≤ x2) (ne_x1_x2 : x1 ≠ x2) (g_x1 : n0 ≤ x1) (ne_x2_x1 : x2 ≠ x1) :
   Ctr l M16 (Jvm.Cond.code M16 jdk_67_method_15_code 2 (some (.object sB)) :: ws) (rO 2 0 0 33) Z h0 #[(.ref x1), (vI 1)] (Qrm7_39 Z x1 x2 c3 h0 n0) := by
 refine own_body (own := sB) rfl (plainFor_of_name pN5) O0 (fun m => ef_7_RI m x1 (1 : Int32)) ?_
 intro p e s m below meth c s₁ Bd hZ hx hby hml hown X0 e0 Z0
 have N0 := Fr.nil n0
 have Kr : Keep h0 h0 [x1, x2] := Keep.refl h0 _
 obtain ⟨_, _, ⟨T1, L1, k1, n1⟩, -, X1, ⟨Lc1, hQ1, l1, y1, z1⟩, st1⟩ := superBack X0 hx hZ (y := M15) hown (wd hw 50 rfl) (own_same (wd hw 53 rfl) (wd hw 64 rfl) rfl (by decide)) (wd hw 51 rfl) (wd hw 52 rfl) (by decide) (backOf (W := 0) (rm8_38 l Z a0 hw [] cz dg fm x1 x2 c3 h0 n0 O0 P F_x1_count E_x1 F_x1_value V_x2 F_x1_coder g_x2 ne_x1_x2 g_x1 ne_x2_x1) hZ (wd hw 54 rfl) (wd hw 24 rfl) (by decide) (by decide)) e0 (Ins.self E_x1) (g := (mkF m 2 #[lR x1, lI 1] [(vI 1), (.ref x1)])) rfl (by rw [hml]; rfl) (wd hw 54 rfl) (argsL := [(vI 1)]) (rest := []) (lenOf pd_5 rfl) rfl (lz rfl) (hb hby d7_2) (fun _ _ => ⟨rfl, e0, (by decide : 0 + 0 ≤ _), (by decide : 0 + 0 ≤ _)⟩)
 dsimp only [Pt.U, Pt.locs, Pt.cells, Pt.slots] at X1 l1 y1 z1 st1 hQ1
 subst y1 z1
 obtain ⟨rfl, N1q, K1, q1_0, q1_1, q1_2, q1_3⟩ := hQ1
 have N1 : Fr n0 L1 := by rw [l1]; exact Fr.app N0 N1q
 have Ks2 := Kr.trans K1 (allS (Or.inl (mg 1 rfl)) (allS (Or.inl (mg 0 rfl)) all0))
 obtain ⟨fs, hr, hrun, hended, hW, hsame⟩ := X1.leave (v := some (.ref x1)) (fun h => by rw [Bd.returns] at h; cases h)
 refine ⟨_, _, ?_, hrun, hended, _, _, rfl, ?_, ⟨_, rfl⟩, hW, hsame.mono (by decide) (by decide)⟩
 · show SH s₁ 0 #[lR x1, lI 1] []
   refine XS.aloadN X0.here hx rfl (hb hby d7_0) rfl rfl ?_
   show SH s₁ 1 #[lR x1, lI 1] [(.ref x1)]
   refine XS.iloadN X0.here hx rfl (hb hby d7_1) rfl ?_
   show SH s₁ 2 #[lR x1, lI 1] [(vI 1), (.ref x1)]
   refine st1.trans ?_
   show SH T1 5 #[lR x1, lI 1] [(.ref x1)]
   refine XS.pop X1.here hx rfl (hb hby d7_5) rfl rfl ?_
   show SH T1 6 #[lR x1, lI 1] []
   refine XS.aloadN X1.here hx rfl (hb hby d7_6) rfl rfl ?_
   show SH T1 7 #[lR x1, lI 1] [(.ref x1)]
   exact retOut X1 hx Bd.returns rfl (Or.inr (Or.inr (Or.inr (Or.inr ⟨rfl, rfl, rfl⟩)))) (hb hby d7_7) hr
 · show Qrm7_39 Z x1 x2 c3 h0 n0 _ T1.heap _
   exact ⟨rfl, N1, Ks2, q1_0, q1_1, q1_2, q1_3⟩
theorem d6_25 : decode K6 25 = .ok (.ldc 76, 2) := by decide +kernel
theorem d6_27 : decode K6 27 = .ok (.goto 5, 3) := by decide +kernel
def Qrm9_40 (Z : State)  (h0 : Heap) (n0 : Nat) (v : Option Value) (h : Heap) (L : List Loc) : Prop := v = some (vI 1) ∧ Fr n0 L ∧ h = h0
theorem rm9_40 (l : Launch) (Z : State) (a0 : Array Value) (hw : HW Z a0) (ws : List Jvm.Cond) (cz : Int32) (dg : Addr) (fm : Value)  (h0 : Heap) (n0 : Nat) (O0 : Old Z n0 h0) (P : Pins Z cz dg fm) :
   Ctr l M11 (Jvm.Cond.code M11 jdk_33_method_13_code 4 (some .int) :: ws) (rO 0 0 0 0) Z h0 #[(vI 2)] (Qrm9_40 Z  h0 n0) := by
 refine own_body (own := sN) rfl (plainFor_of_name pN7) O0 (fun m => ef_9_I m (2 : Int32)) ?_
 intro p e s m below meth c s₁ Bd hZ hx hby hml hown X0 e0 Z0
 have N0 := Fr.nil n0
 obtain ⟨fs, hr, hrun, hended, hW, hsame⟩ := X0.leave (v := some (vI 1)) (fun h => by rw [Bd.returns] at h; cases h)
 refine ⟨_, _, ?_, hrun, hended, _, _, rfl, ?_, ⟨_, rfl⟩, hW, hsame.mono (by decide) (by decide)⟩
 · show SH s₁ 0 #[lI 2, lU, lU, lU] []
   refine XS.iconst X0.here hx rfl (hb hby d9_0) ?_
   show SH s₁ 1 #[lI 2, lU, lU, lU] [(vI 1)]
   refine XS.istoreN X0.here hx rfl (hb hby d9_1) rfl (l' := #[lI 2, lI 1, lU, lU]) rfl ?_
   show SH s₁ 2 #[lI 2, lI 1, lU, lU] []
   refine XS.iloadN X0.here hx rfl (hb hby d9_2) rfl ?_
   show SH s₁ 3 #[lI 2, lI 1, lU, lU] [(vI 2)]
   refine XS.ifNo X0.here hx rfl (hb hby d9_3) rfl (by decide) ?_
   show SH s₁ 6 #[lI 2, lI 1, lU, lU] []
   refine XS.iconst X0.here hx rfl (hb hby d9_6) ?_
   show SH s₁ 7 #[lI 2, lI 1, lU, lU] [(vI 0)]
   refine XS.istoreN X0.here hx rfl (hb hby d9_7) rfl (l' := #[lI 2, lI 0, lU, lU]) rfl ?_
   show SH s₁ 8 #[lI 2, lI 0, lU, lU] []
   refine XS.iloadN X0.here hx rfl (hb hby d9_8) rfl ?_
   show SH s₁ 9 #[lI 2, lI 0, lU, lU] [(vI 2)]
   refine XS.ineg X0.here hx rfl (hb hby d9_9) rfl ?_
   show SH s₁ 10 #[lI 2, lI 0, lU, lU] [(.int (-(2 : Int32)))]
   rw [show (-(2 : Int32)) = (-2 : Int32) from by decide]
   refine XS.istoreN X0.here hx rfl (hb hby d9_10) rfl (l' := #[lI (-2), lI 0, lU, lU]) rfl ?_
   show SH s₁ 11 #[lI (-2), lI 0, lU, lU] []
   refine XS.bipush X0.here hx rfl (hb hby d9_11) ?_
   show SH s₁ 13 #[lI (-2), lI 0, lU, lU] [(vI (-10))]
   refine XS.istoreN X0.here hx rfl (hb hby d9_13) rfl (l' := #[lI (-2), lI 0, lI (-10), lU]) rfl ?_
   show SH s₁ 14 #[lI (-2), lI 0, lI (-10), lU] []
   refine XS.iconst X0.here hx rfl (hb hby d9_14) ?_
   show SH s₁ 15 #[lI (-2), lI 0, lI (-10), lU] [(vI 1)]
   refine XS.istoreN X0.here hx rfl (hb hby d9_15) rfl (l' := #[lI (-2), lI 0, lI (-10), lI 1]) rfl ?_
   show SH s₁ 16 #[lI (-2), lI 0, lI (-10), lI 1] []
   refine XS.iloadN X0.here hx rfl (hb hby d9_16) rfl ?_
   show SH s₁ 17 #[lI (-2), lI 0, lI (-10), lI 1] [(vI 1)]
   refine XS.bipush X0.here hx rfl (hb hby d9_17) ?_
   show SH s₁ 19 #[lI (-2), lI 0, lI (-10), lI 1] [(vI 10), (vI 1)]
   refine XS.icmpNo X0.here hx rfl (hb hby d9_19) rfl (by decide) ?_
   show SH s₁ 22 #[lI (-2), lI 0, lI (-10), lI 1] []
   refine XS.iloadN X0.here hx rfl (hb hby d9_22) rfl ?_
   show SH s₁ 23 #[lI (-2), lI 0, lI (-10), lI 1] [(vI (-2))]
   refine XS.iloadN X0.here hx rfl (hb hby d9_23) rfl ?_
   show SH s₁ 24 #[lI (-2), lI 0, lI (-10), lI 1] [(vI (-10)), (vI (-2))]
   refine XS.icmpNo X0.here hx rfl (hb hby d9_24) rfl (by decide) ?_
   show SH s₁ 27 #[lI (-2), lI 0, lI (-10), lI 1] []
   refine XS.iloadN X0.here hx rfl (hb hby d9_27) rfl ?_
   show SH s₁ 28 #[lI (-2), lI 0, lI (-10), lI 1] [(vI 1)]
   refine XS.iloadN X0.here hx rfl (hb hby d9_28) rfl ?_
   show SH s₁ 29 #[lI (-2), lI 0, lI (-10), lI 1] [(vI 0), (vI 1)]
   refine XS.iadd X0.here hx rfl (hb hby d9_29) rfl ?_
   show SH s₁ 30 #[lI (-2), lI 0, lI (-10), lI 1] [(.int ((1 : Int32) + (0 : Int32)))]
   rw [show ((1 : Int32) + (0 : Int32)) = (1 : Int32) from by decide]
   exact retI X0 hx Bd.returns (hb hby d9_30) hr
 · exact ⟨rfl, N0, e0⟩
def Qrm12_41 (Z : State) (x1 : Addr) (c2 : ClassId) (h0 : Heap) (n0 : Nat) (v : Option Value) (h : Heap) (L : List Loc) : Prop := v = some (vI 0) ∧ Fr n0 L ∧ Keep h0 h [x1] ∧ bA Z h x1 c2 16 [(vI 50)]
theorem rm12_41 (l : Launch) (Z : State) (a0 : Array Value) (hw : HW Z a0) (ws : List Jvm.Cond) (cz : Int32) (dg : Addr) (fm : Value) (x1 : Addr) (c2 : ClassId) (h0 : Heap) (n0 : Nat) (O0 : Old Z n0 h0) (P : Pins Z cz dg fm) (V_x1 : bA Z h0 x1 c2 16 []) (g_x1 : n0 ≤ x1) :
   Ctr l M14 (Jvm.Cond.code M14 jdk_33_method_12_code 7 (some .int) :: ws) (rO 0 0 0 0) Z h0 #[(vI 2), (vI 1), (.ref x1)] (Qrm12_41 Z x1 c2 h0 n0) := by
 have S_dg : Sta Z Z.heap sN "DigitOnes" "[B" (.ref dg) := P.2.2.1
 have A_dg : ∃ cl : Cell, Arr Z Z.heap dg cl .byte ∧ 3 ≤ cl.slots.size ∧ cl.slots[(0 : Int32).toNatClampNeg]? = some (vI 48) ∧ cl.slots[(1 : Int32).toNatClampNeg]? = some (vI 49) ∧ cl.slots[(2 : Int32).toNatClampNeg]? = some (vI 50) := P.2.2.2.1
 refine own_body (own := sN) rfl (plainFor_of_name pN7) O0 (fun m => ef_12_IIR m (2 : Int32) (1 : Int32) x1) ?_
 intro p e s m below meth c s₁ Bd hZ hx hby hml hown X0 e0 Z0
 have N0 := Fr.nil n0
 have Kr : Keep h0 h0 [x1] := Keep.refl h0 _
 obtain ⟨T1, X1, e1, st1⟩ := getS2 X0 hx hZ hown (host := "") (Or.inl (wd hw 74 rfl)) Via.refl e0 (S_dg.ext O0.2) (g := (mkF m 78 #[lI (-2), lI 1, lR x1, lU, lU, lI 0, lI 0] [(vI 0), (.ref x1)])) rfl (hb hby d12_78)
 obtain ⟨cl2, Ar2, sz2, el2_0, el2_1, el2_2⟩ := A_dg
 have Ax2 := Ar2.ext O0.2
 have Vp3 : bA Z (h0) x1 c2 16 [(vI 0)] := Arv.pad V_x1 (pad_rep [] (vI 0) 1)
 obtain ⟨cl3, A3, q3, S3, M3, H3, G3⟩ := id Vp3
 have hin3 : ¬ ((0 : Int32) < 0 ∨ cl3.slots.size ≤ ((0 : Int32)).toNatClampNeg) := inb_of S3 ⟨by decide, by decide⟩
 obtain ⟨T4, h4, X4, e4, W4, st4⟩ := stB X1 hx hZ e1 A3 (j := (0 : Int32)) hin3 (g := (mkF m 84 #[lI (-2), lI 1, lR x1, lU, lU, lI 0, lI 0] [(vI 50), (vI 0), (.ref x1)])) rfl rfl (hb hby d12_84)
 have V4 := Arv.set A3 q3 S3 M3 H3 G3 (fits_nar_byte _) W4 0 rfl (Nat.le_of_ble_eq_true rfl)
 have V4' : bA Z h4 x1 c2 16 [(vI 50)] := V4
 have Ks5 := Kr.wr W4 (Or.inl (mg 0 rfl))
 have N4 := Fr.snoc X4 N0 g_x1
 obtain ⟨fs, hr, hrun, hended, hW, hsame⟩ := X4.leave (v := some (vI 0)) (fun h => by rw [Bd.returns] at h; cases h)
 refine ⟨_, _, ?_, hrun, hended, _, _, rfl, ?_, ⟨_, rfl⟩, hW, hsame.mono (by decide) (by decide)⟩
 · show SH s₁ 0 #[lI 2, lI 1, lR x1, lU, lU, lU, lU] []
   refine XS.iloadN X0.here hx rfl (hb hby d12_0) rfl ?_
   show SH s₁ 1 #[lI 2, lI 1, lR x1, lU, lU, lU, lU] [(vI 1)]
   refine XS.istore X0.here hx rfl (hb hby d12_1) rfl (l' := #[lI 2, lI 1, lR x1, lU, lU, lI 1, lU]) rfl ?_
   show SH s₁ 3 #[lI 2, lI 1, lR x1, lU, lU, lI 1, lU] []
   refine XS.iloadN X0.here hx rfl (hb hby d12_3) rfl ?_
   show SH s₁ 4 #[lI 2, lI 1, lR x1, lU, lU, lI 1, lU] [(vI 2)]
   refine XS.ifYes X0.here hx rfl (pc0 := 4) (pc' := 11) rfl (hb hby d12_4) rfl (by decide) (by decide) (by decide) ?_
   show SH s₁ 11 #[lI 2, lI 1, lR x1, lU, lU, lI 1, lU] []
   refine XS.iconst X0.here hx rfl (hb hby d12_11) ?_
   show SH s₁ 12 #[lI 2, lI 1, lR x1, lU, lU, lI 1, lU] [(vI 0)]
   refine XS.istore X0.here hx rfl (hb hby d12_12) rfl (l' := #[lI 2, lI 1, lR x1, lU, lU, lI 1, lI 0]) rfl ?_
   show SH s₁ 14 #[lI 2, lI 1, lR x1, lU, lU, lI 1, lI 0] []
   refine XS.iload X0.here hx rfl (hb hby d12_14) rfl ?_
   show SH s₁ 16 #[lI 2, lI 1, lR x1, lU, lU, lI 1, lI 0] [(vI 0)]
   refine XS.ifNo X0.here hx rfl (hb hby d12_16) rfl (by decide) ?_
   show SH s₁ 19 #[lI 2, lI 1, lR x1, lU, lU, lI 1, lI 0] []
   refine XS.iloadN X0.here hx rfl (hb hby d12_19) rfl ?_
   show SH s₁ 20 #[lI 2, lI 1, lR x1, lU, lU, lI 1, lI 0] [(vI 2)]
   refine XS.ineg X0.here hx rfl (hb hby d12_20) rfl ?_
   show SH s₁ 21 #[lI 2, lI 1, lR x1, lU, lU, lI 1, lI 0] [(.int (-(2 : Int32)))]
   rw [show (-(2 : Int32)) = (-2 : Int32) from by decide]
   refine XS.istoreN X0.here hx rfl (hb hby d12_21) rfl (l' := #[lI (-2), lI 1, lR x1, lU, lU, lI 1, lI 0]) rfl ?_
   show SH s₁ 22 #[lI (-2), lI 1, lR x1, lU, lU, lI 1, lI 0] []
   refine XS.iloadN X0.here hx rfl (hb hby d12_22) rfl ?_
   show SH s₁ 23 #[lI (-2), lI 1, lR x1, lU, lU, lI 1, lI 0] [(vI (-2))]
   refine XS.bipush X0.here hx rfl (hb hby d12_23) ?_
   show SH s₁ 25 #[lI (-2), lI 1, lR x1, lU, lU, lI 1, lI 0] [(vI (-100)), (vI (-2))]
   refine XS.icmpYes X0.here hx rfl (pc0 := 25) (pc' := 72) rfl (hb hby d12_25) rfl (by decide) (by decide) (by decide) ?_
   show SH s₁ 72 #[lI (-2), lI 1, lR x1, lU, lU, lI 1, lI 0] []
   refine XS.aloadN X0.here hx rfl (hb hby d12_72) rfl rfl ?_
   show SH s₁ 73 #[lI (-2), lI 1, lR x1, lU, lU, lI 1, lI 0] [(.ref x1)]
   refine XS.iinc X0.here hx rfl (hb hby d12_73) rfl (l' := #[lI (-2), lI 1, lR x1, lU, lU, lI (((1 : Int32) + (-1 : Int32))), lI 0]) rfl ?_
   show SH s₁ 76 #[lI (-2), lI 1, lR x1, lU, lU, lI (((1 : Int32) + (-1 : Int32))), lI 0] [(.ref x1)]
   rw [show ((1 : Int32) + (-1 : Int32)) = (0 : Int32) from by decide]
   refine XS.iload X0.here hx rfl (hb hby d12_76) rfl ?_
   show SH s₁ 78 #[lI (-2), lI 1, lR x1, lU, lU, lI 0, lI 0] [(vI 0), (.ref x1)]
   refine st1 _ ?_
   show SH T1 81 #[lI (-2), lI 1, lR x1, lU, lU, lI 0, lI 0] [(.ref dg), (vI 0), (.ref x1)]
   refine XS.iloadN X1.here hx rfl (hb hby d12_81) rfl ?_
   show SH T1 82 #[lI (-2), lI 1, lR x1, lU, lU, lI 0, lI 0] [(vI (-2)), (.ref dg), (vI 0), (.ref x1)]
   refine XS.ineg X1.here hx rfl (hb hby d12_82) rfl ?_
   show SH T1 83 #[lI (-2), lI 1, lR x1, lU, lU, lI 0, lI 0] [(.int (-(-2 : Int32))), (.ref dg), (vI 0), (.ref x1)]
   rw [show (-(-2 : Int32)) = (2 : Int32) from by decide]
   refine X1.baloadBytes hx (j := (2 : Int32)) (v := (vI 50)) (by rw [e1]; exact Ax2.1) (State.isArrayOf_alike hZ.alike Ax2.2.1) Ax2.2.2 (fun q => q.elim (by decide) (fun r => absurd (Nat.le_trans sz2 r) (by decide))) el2_2 (g := (mkF m 83 #[lI (-2), lI 1, lR x1, lU, lU, lI 0, lI 0] [(vI 2), (.ref dg), (vI 0), (.ref x1)])) rfl rfl (hb hby d12_83) _ ?_
   show SH T1 84 #[lI (-2), lI 1, lR x1, lU, lU, lI 0, lI 0] [(vI 50), (vI 0), (.ref x1)]
   refine st4 _ ?_
   show SH T4 85 #[lI (-2), lI 1, lR x1, lU, lU, lI 0, lI 0] []
   refine XS.iloadN X4.here hx rfl (hb hby d12_85) rfl ?_
   show SH T4 86 #[lI (-2), lI 1, lR x1, lU, lU, lI 0, lI 0] [(vI (-2))]
   refine XS.bipush X4.here hx rfl (hb hby d12_86) ?_
   show SH T4 88 #[lI (-2), lI 1, lR x1, lU, lU, lI 0, lI 0] [(vI (-9)), (vI (-2))]
   refine XS.icmpYes X4.here hx rfl (pc0 := 88) (pc' := 104) rfl (hb hby d12_88) rfl (by decide) (by decide) (by decide) ?_
   show SH T4 104 #[lI (-2), lI 1, lR x1, lU, lU, lI 0, lI 0] []
   refine XS.iload X4.here hx rfl (hb hby d12_104) rfl ?_
   show SH T4 106 #[lI (-2), lI 1, lR x1, lU, lU, lI 0, lI 0] [(vI 0)]
   refine XS.ifYes X4.here hx rfl (pc0 := 106) (pc' := 118) rfl (hb hby d12_106) rfl (by decide) (by decide) (by decide) ?_
   show SH T4 118 #[lI (-2), lI 1, lR x1, lU, lU, lI 0, lI 0] []
   refine XS.iload X4.here hx rfl (hb hby d12_118) rfl ?_
   show SH T4 120 #[lI (-2), lI 1, lR x1, lU, lU, lI 0, lI 0] [(vI 0)]
   exact retI X4 hx Bd.returns (hb hby d12_120) hr
 · show Qrm12_41 Z x1 c2 h0 n0 _ T4.heap _
   rw [e4]
   exact ⟨rfl, N4, Ks5, V4'⟩
def Qrm8_42 (Z : State) (x1 : Addr) (x2 : Addr) (c3 : ClassId) (h0 : Heap) (n0 : Nat) (v : Option Value) (h : Heap) (L : List Loc) : Prop := v = some (.ref x1) ∧ Fr n0 L ∧ Keep h0 h [x2, x1] ∧ aN Z h x1 1 ∧ aV Z h x1 x2 ∧ aC Z h x1 ∧ bA Z h x2 c3 16 [(vI 50)]
theorem rm8_42 (l : Launch) (Z : State) (a0 : Array Value) (hw : HW Z a0) (ws : List Jvm.Cond) (cz : Int32) (dg : Addr) (fm : Value) (x1 : Addr) (x2 : Addr) (c3 : ClassId) (h0 : Heap) (n0 : Nat) (O0 : Old Z n0 h0) (P : Pins Z cz dg fm) (F_x1_count : aN Z h0 x1 0) (E_x1 : Exa Z h0 x1 sB) (F_x1_value : aV Z h0 x1 x2) (V_x2 : bA Z h0 x2 c3 16 []) (F_x1_coder : aC Z h0 x1) (g_x2 : n0 ≤ x2) (ne_x1_x2 : x1 ≠ x2) (g_x1 : n0 ≤ x1) (ne_x2_x1 : x2 ≠ x1) :
   Ctr l M15 (Jvm.Cond.code M15 jdk_68_method_32_code 4 (some (.object sA)) :: ws) (rO 1 0 0 18) Z h0 #[(.ref x1), (vI 2)] (Qrm8_42 Z x1 x2 c3 h0 n0) := by
 refine own_body (own := sA) rfl (plainFor_of_name pN3) O0 (fun m => ef_8_RI m x1 (2 : Int32)) ?_
 intro p e s m below meth c s₁ Bd hZ hx hby hml hown X0 e0 Z0
 have N0 := Fr.nil n0
 have Kr : Keep h0 h0 [x2, x1] := Keep.refl h0 _
 obtain ⟨T1, X1, e1, st1⟩ := getF X0 hx hZ hown (host := "") (Or.inl (wd hw 55 rfl)) Via.refl e0 F_x1_count (g := (mkF m 1 #[lR x1, lI 2, lU, lU] [(.ref x1)])) rfl rfl (hb hby d8_1)
 obtain ⟨_, _, ⟨T2, L2, k2, n2⟩, -, X2, ⟨Lc2, hQ2, l2, y2, z2⟩, st2⟩ := Jvm.LawKit.callS X1 hx (y := M11) hown (mvT hZ (wd hw 57 rfl)) (mvT hZ (wd hw 58 rfl)) (mvT hZ (wd hw 59 rfl)) (mvT hZ (wd hw 60 rfl)) (by decide) (backOf (W := 1) (rm9_40 l Z a0 hw [] cz dg fm  h0 n0 O0 P ) hZ (wd hw 60 rfl) (wd hw 59 rfl) (by decide) (by decide)) (g := (mkF m 7 #[lR x1, lI 2, lI 0, lU] [(vI 2), (vI 0)])) rfl (by rw [hml]; rfl) (argsL := [(vI 2)]) (rest := [(vI 0)]) (lenOf pd_2 rfl) rfl (lz rfl) (hb hby d8_7) (fun _ _ => ⟨rfl, e1, (by decide : 0 + 0 ≤ _), (by decide : 0 + 0 ≤ _)⟩)
 dsimp only [Pt.U, Pt.locs, Pt.cells, Pt.slots] at X2 l2 y2 z2 st2 hQ2
 subst y2 z2
 obtain ⟨rfl, N2q, e2⟩ := hQ2
 have N2 : Fr n0 L2 := by rw [l2]; exact Fr.app N0 N2q
 obtain ⟨cq3, kq3, q3a, q3b, q3c⟩ := isOf hZ e2 E_x1
 obtain ⟨_, _, ⟨T3, L3, k3, n3⟩, -, X3, ⟨Lc3, hQ3, l3, y3, z3⟩, st3⟩ := X2.virtualBack hx (y := M12) (z := M12) hown (mvT hZ (wd hw 61 rfl)) (mvT hZ (own_decl (wd hw 62 rfl) (wd hw 65 rfl))) (notFace_of_selects (args := #[]) (mvT hZ (wd hw 64 rfl))) (mvT hZ (wd hw 64 rfl)) (mvT hZ (wd hw 62 rfl)) (by decide) (backOf (W := 0) (rm10_13 l Z a0 hw [] cz dg fm x1 x2 c3 h0 n0 O0 P F_x1_count F_x1_value V_x2 F_x1_coder) hZ (wd hw 65 rfl) (wd hw 24 rfl) (by decide) (by decide)) q3a q3c (g := (mkF m 14 #[lR x1, lI 2, lI 0, lI 1] [(vI 1), (.ref x1)])) rfl (by rw [hml]; rfl) (Steps.refl _) (argsL := [(vI 1)]) (rest := []) (lenOf pd_1 rfl) rfl (lz rfl) (hb hby d8_14) (fun _ _ => ⟨rfl, e2, (by decide : 0 + 0 ≤ _), (by decide : 0 + 0 ≤ _)⟩)
 dsimp only [Pt.U, Pt.locs, Pt.cells, Pt.slots] at X3 l3 y3 z3 st3 hQ3
 subst y3 z3
 obtain ⟨rfl, N3q, e3⟩ := hQ3
 have N3 : Fr n0 L3 := by rw [l3]; exact Fr.app N2 N3q
 obtain ⟨cq4, kq4, q4a, q4b, q4c⟩ := isOf hZ e3 E_x1
 obtain ⟨_, _, ⟨T4, L4, k4, n4⟩, -, X4, ⟨Lc4, hQ4, l4, y4, z4⟩, st4⟩ := X3.virtualBack hx (y := M13) (z := M13) hown (mvT hZ (wd hw 66 rfl)) (mvT hZ (wd hw 67 rfl)) (notFace_of_selects (args := #[]) (mvT hZ (wd hw 69 rfl))) (mvT hZ (wd hw 69 rfl)) (mvT hZ (wd hw 68 rfl)) (by decide) (backOf (W := 0) (rm11_14 l Z a0 hw [] cz dg fm x1 h0 n0 O0 P F_x1_coder) hZ (wd hw 70 rfl) (wd hw 24 rfl) (by decide) (by decide)) q4a q4c (g := (mkF m 18 #[lR x1, lI 2, lI 0, lI 1] [(.ref x1)])) rfl (by rw [hml]; rfl) (Steps.refl _) (argsL := []) (rest := []) (lenOf pd_3 rfl) rfl (lz rfl) (hb hby d8_18) (fun _ _ => ⟨rfl, e3, (by decide : 0 + 0 ≤ _), (by decide : 0 + 0 ≤ _)⟩)
 dsimp only [Pt.U, Pt.locs, Pt.cells, Pt.slots] at X4 l4 y4 z4 st4 hQ4
 subst y4 z4
 obtain ⟨rfl, N4q, e4⟩ := hQ4
 have N4 : Fr n0 L4 := by rw [l4]; exact Fr.app N3 N4q
 obtain ⟨T5, X5, e5, st5⟩ := getF X4 hx hZ hown (host := "") (Or.inl (wd hw 30 rfl)) Via.refl e4 F_x1_value (g := (mkF m 27 #[lR x1, lI 2, lI 0, lI 1] [(.ref x1), (vI 1), (vI 2)])) rfl rfl (hb hby d8_27)
 obtain ⟨_, _, ⟨T6, L6, k6, n6⟩, -, X6, ⟨Lc6, hQ6, l6, y6, z6⟩, st6⟩ := Jvm.LawKit.callS X5 hx (y := M14) hown (mvT hZ (wd hw 71 rfl)) (mvT hZ (wd hw 72 rfl)) (mvT hZ (wd hw 59 rfl)) (mvT hZ (wd hw 73 rfl)) (by decide) (backOf (W := 0) (rm12_41 l Z a0 hw [] cz dg fm x2 c3 h0 n0 O0 P V_x2 g_x2) hZ (wd hw 73 rfl) (wd hw 59 rfl) (by decide) (by decide)) (g := (mkF m 30 #[lR x1, lI 2, lI 0, lI 1] [(.ref x2), (vI 1), (vI 2)])) rfl (by rw [hml]; rfl) (argsL := [(vI 2), (vI 1), (.ref x2)]) (rest := []) (lenOf pd_4 rfl) rfl (lz rfl) (hb hby d8_30) (fun _ _ => ⟨rfl, e5, (by decide : 0 + 0 ≤ _), (by decide : 0 + 0 ≤ _)⟩)
 dsimp only [Pt.U, Pt.locs, Pt.cells, Pt.slots] at X6 l6 y6 z6 st6 hQ6
 subst y6 z6
 obtain ⟨rfl, N6q, K6, q6_0⟩ := hQ6
 have N6 : Fr n0 L6 := by rw [l6]; exact Fr.app N4 N6q
 have Ks7 := Kr.trans K6 (allS (Or.inl (mg 0 rfl)) all0)
 have f8 := (E_x1.keep K6)
 have f9 := (F_x1_count.keep K6 (ninS ne_x1_x2 nin0))
 obtain ⟨T10, h10, X10, e10, W10, st10⟩ := putF X6 hx hZ hown (host := "") (Or.inl (wd hw 55 rfl)) Via.refl rfl f9 f8 (Or.inl (wd hw 56 rfl)) (wd hw 15 rfl) (ty := .int) (by decide) rfl rfl (g := (mkF m 50 #[lR x1, lI 2, lI 0, lI 1] [(vI 1), (.ref x1)])) rfl rfl (hb hby d8_50)
 have Ks11 := Ks7.wr W10 (Or.inl (mg 1 rfl))
 have Fw10 := Fld.same W10 f9
 have N10 := Fr.snoc X10 N6 g_x1
 have f12 := (Fld.other W10 (F_x1_value.keep K6 (ninS ne_x1_x2 nin0)) (Or.inr (slot_ne (Or.inl (wd hw 31 rfl)) (Or.inl (wd hw 56 rfl)) (by decide) (t := (.array .byte)) (t' := .int) (by decide) (by decide))))
 have f13 := (Fld.other W10 (F_x1_coder.keep K6 (ninS ne_x1_x2 nin0)) (Or.inr (slot_ne (Or.inl (wd hw 33 rfl)) (Or.inl (wd hw 56 rfl)) (by decide) (t := .byte) (t' := .int) (by decide) (by decide))))
 have f14 := (q6_0.other W10 ne_x2_x1)
 obtain ⟨fs, hr, hrun, hended, hW, hsame⟩ := X10.leave (v := some (.ref x1)) (fun h => by rw [Bd.returns] at h; cases h)
 refine ⟨_, _, ?_, hrun, hended, _, _, rfl, ?_, ⟨_, rfl⟩, hW, hsame.mono (by decide) (by decide)⟩
 · show SH s₁ 0 #[lR x1, lI 2, lU, lU] []
   refine XS.aloadN X0.here hx rfl (hb hby d8_0) rfl rfl ?_
   show SH s₁ 1 #[lR x1, lI 2, lU, lU] [(.ref x1)]
   refine st1 _ ?_
   show SH T1 4 #[lR x1, lI 2, lU, lU] [(vI 0)]
   refine XS.istoreN X1.here hx rfl (hb hby d8_4) rfl (l' := #[lR x1, lI 2, lI 0, lU]) rfl ?_
   show SH T1 5 #[lR x1, lI 2, lI 0, lU] []
   refine XS.iloadN X1.here hx rfl (hb hby d8_5) rfl ?_
   show SH T1 6 #[lR x1, lI 2, lI 0, lU] [(vI 0)]
   refine XS.iloadN X1.here hx rfl (hb hby d8_6) rfl ?_
   show SH T1 7 #[lR x1, lI 2, lI 0, lU] [(vI 2), (vI 0)]
   refine st2 _ ?_
   show SH T2 10 #[lR x1, lI 2, lI 0, lU] [(vI 1), (vI 0)]
   refine XS.iadd X2.here hx rfl (hb hby d8_10) rfl ?_
   show SH T2 11 #[lR x1, lI 2, lI 0, lU] [(.int ((0 : Int32) + (1 : Int32)))]
   rw [show ((0 : Int32) + (1 : Int32)) = (1 : Int32) from by decide]
   refine XS.istoreN X2.here hx rfl (hb hby d8_11) rfl (l' := #[lR x1, lI 2, lI 0, lI 1]) rfl ?_
   show SH T2 12 #[lR x1, lI 2, lI 0, lI 1] []
   refine XS.aloadN X2.here hx rfl (hb hby d8_12) rfl rfl ?_
   show SH T2 13 #[lR x1, lI 2, lI 0, lI 1] [(.ref x1)]
   refine XS.iloadN X2.here hx rfl (hb hby d8_13) rfl ?_
   show SH T2 14 #[lR x1, lI 2, lI 0, lI 1] [(vI 1), (.ref x1)]
   refine st3.trans ?_
   show SH T3 17 #[lR x1, lI 2, lI 0, lI 1] []
   refine XS.aloadN X3.here hx rfl (hb hby d8_17) rfl rfl ?_
   show SH T3 18 #[lR x1, lI 2, lI 0, lI 1] [(.ref x1)]
   refine st4.trans ?_
   show SH T4 21 #[lR x1, lI 2, lI 0, lI 1] [(vI 1)]
   refine XS.ifNo X4.here hx rfl (hb hby d8_21) rfl (by decide) ?_
   show SH T4 24 #[lR x1, lI 2, lI 0, lI 1] []
   refine XS.iloadN X4.here hx rfl (hb hby d8_24) rfl ?_
   show SH T4 25 #[lR x1, lI 2, lI 0, lI 1] [(vI 2)]
   refine XS.iloadN X4.here hx rfl (hb hby d8_25) rfl ?_
   show SH T4 26 #[lR x1, lI 2, lI 0, lI 1] [(vI 1), (vI 2)]
   refine XS.aloadN X4.here hx rfl (hb hby d8_26) rfl rfl ?_
   show SH T4 27 #[lR x1, lI 2, lI 0, lI 1] [(.ref x1), (vI 1), (vI 2)]
   refine st5 _ ?_
   show SH T5 30 #[lR x1, lI 2, lI 0, lI 1] [(.ref x2), (vI 1), (vI 2)]
   refine st6 _ ?_
   show SH T6 33 #[lR x1, lI 2, lI 0, lI 1] [(vI 0)]
   refine XS.pop X6.here hx rfl (hb hby d8_33) rfl rfl ?_
   show SH T6 34 #[lR x1, lI 2, lI 0, lI 1] []
   refine XS.goto X6.here hx rfl (pc0 := 34) (pc' := 48) rfl (hb hby d8_34) (by decide) (by decide) ?_
   show SH T6 48 #[lR x1, lI 2, lI 0, lI 1] []
   refine XS.aloadN X6.here hx rfl (hb hby d8_48) rfl rfl ?_
   show SH T6 49 #[lR x1, lI 2, lI 0, lI 1] [(.ref x1)]
   refine XS.iloadN X6.here hx rfl (hb hby d8_49) rfl ?_
   show SH T6 50 #[lR x1, lI 2, lI 0, lI 1] [(vI 1), (.ref x1)]
   refine st10 _ ?_
   show SH T10 53 #[lR x1, lI 2, lI 0, lI 1] []
   refine XS.aloadN X10.here hx rfl (hb hby d8_53) rfl rfl ?_
   show SH T10 54 #[lR x1, lI 2, lI 0, lI 1] [(.ref x1)]
   exact retOut X10 hx Bd.returns rfl (Or.inr (Or.inr (Or.inr (Or.inr ⟨rfl, rfl, rfl⟩)))) (hb hby d8_54) hr
 · show Qrm8_42 Z x1 x2 c3 h0 n0 _ T10.heap _
   rw [e10]
   exact ⟨rfl, N10, Ks11, Fw10, f12, f13, f14⟩
def Qrm7_43 (Z : State) (x1 : Addr) (x2 : Addr) (c3 : ClassId) (h0 : Heap) (n0 : Nat) (v : Option Value) (h : Heap) (L : List Loc) : Prop := v = some (.ref x1) ∧ Fr n0 L ∧ Keep h0 h [x1, x2] ∧ aN Z h x1 1 ∧ aV Z h x1 x2 ∧ aC Z h x1 ∧ bA Z h x2 c3 16 [(vI 50)]
theorem rm7_43 (l : Launch) (Z : State) (a0 : Array Value) (hw : HW Z a0) (ws : List Jvm.Cond) (cz : Int32) (dg : Addr) (fm : Value) (x1 : Addr) (x2 : Addr) (c3 : ClassId) (h0 : Heap) (n0 : Nat) (O0 : Old Z n0 h0) (P : Pins Z cz dg fm) (F_x1_count : aN Z h0 x1 0) (E_x1 : Exa Z h0 x1 sB) (F_x1_value : aV Z h0 x1 x2) (V_x2 : bA Z h0 x2 c3 16 []) (F_x1_coder : aC Z h0 x1) (g_x2 : n0 ≤ x2) (ne_x1_x2 : x1 ≠ x2) (g_x1 : n0 ≤ x1) (ne_x2_x1 : x2 ≠ x1) :
   Ctr l M16 (Jvm.Cond.code M16 jdk_67_method_15_code 2 (some (.object sB)) :: ws) (rO 2 0 0 33) Z h0 #[(.ref x1), (vI 2)] (Qrm7_43 Z x1 x2 c3 h0 n0) := by
 refine own_body (own := sB) rfl (plainFor_of_name pN5) O0 (fun m => ef_7_RI m x1 (2 : Int32)) ?_
 intro p e s m below meth c s₁ Bd hZ hx hby hml hown X0 e0 Z0
 have N0 := Fr.nil n0
 have Kr : Keep h0 h0 [x1, x2] := Keep.refl h0 _
 obtain ⟨_, _, ⟨T1, L1, k1, n1⟩, -, X1, ⟨Lc1, hQ1, l1, y1, z1⟩, st1⟩ := superBack X0 hx hZ (y := M15) hown (wd hw 50 rfl) (own_same (wd hw 53 rfl) (wd hw 64 rfl) rfl (by decide)) (wd hw 51 rfl) (wd hw 52 rfl) (by decide) (backOf (W := 0) (rm8_42 l Z a0 hw [] cz dg fm x1 x2 c3 h0 n0 O0 P F_x1_count E_x1 F_x1_value V_x2 F_x1_coder g_x2 ne_x1_x2 g_x1 ne_x2_x1) hZ (wd hw 54 rfl) (wd hw 24 rfl) (by decide) (by decide)) e0 (Ins.self E_x1) (g := (mkF m 2 #[lR x1, lI 2] [(vI 2), (.ref x1)])) rfl (by rw [hml]; rfl) (wd hw 54 rfl) (argsL := [(vI 2)]) (rest := []) (lenOf pd_5 rfl) rfl (lz rfl) (hb hby d7_2) (fun _ _ => ⟨rfl, e0, (by decide : 0 + 0 ≤ _), (by decide : 0 + 0 ≤ _)⟩)
 dsimp only [Pt.U, Pt.locs, Pt.cells, Pt.slots] at X1 l1 y1 z1 st1 hQ1
 subst y1 z1
 obtain ⟨rfl, N1q, K1, q1_0, q1_1, q1_2, q1_3⟩ := hQ1
 have N1 : Fr n0 L1 := by rw [l1]; exact Fr.app N0 N1q
 have Ks2 := Kr.trans K1 (allS (Or.inl (mg 1 rfl)) (allS (Or.inl (mg 0 rfl)) all0))
 obtain ⟨fs, hr, hrun, hended, hW, hsame⟩ := X1.leave (v := some (.ref x1)) (fun h => by rw [Bd.returns] at h; cases h)
 refine ⟨_, _, ?_, hrun, hended, _, _, rfl, ?_, ⟨_, rfl⟩, hW, hsame.mono (by decide) (by decide)⟩
 · show SH s₁ 0 #[lR x1, lI 2] []
   refine XS.aloadN X0.here hx rfl (hb hby d7_0) rfl rfl ?_
   show SH s₁ 1 #[lR x1, lI 2] [(.ref x1)]
   refine XS.iloadN X0.here hx rfl (hb hby d7_1) rfl ?_
   show SH s₁ 2 #[lR x1, lI 2] [(vI 2), (.ref x1)]
   refine st1.trans ?_
   show SH T1 5 #[lR x1, lI 2] [(.ref x1)]
   refine XS.pop X1.here hx rfl (hb hby d7_5) rfl rfl ?_
   show SH T1 6 #[lR x1, lI 2] []
   refine XS.aloadN X1.here hx rfl (hb hby d7_6) rfl rfl ?_
   show SH T1 7 #[lR x1, lI 2] [(.ref x1)]
   exact retOut X1 hx Bd.returns rfl (Or.inr (Or.inr (Or.inr (Or.inr ⟨rfl, rfl, rfl⟩)))) (hb hby d7_7) hr
 · show Qrm7_43 Z x1 x2 c3 h0 n0 _ T1.heap _
   exact ⟨rfl, N1, Ks2, q1_0, q1_1, q1_2, q1_3⟩
theorem ef_6_IR (m : MethodId) (x0 : Int32) (x1 : Addr) : entryFrame m #[(.int x0), (.ref x1)] 2 = mkF m 0 #[.val (.int x0), .val (.ref x1)] [] := by first | (simp [entryFrame, mkF, argsToLocals, Value.category]; done) | rfl
def QrmC0_0 (Z : State) (x1 : Addr) (x2 : Addr) (c3 : ClassId) (d4 : Nat) (u5 : List Value) (h0 : Heap) (n0 : Nat) (v : Option Value) (h : Heap) (L : List Loc) : Prop := ∃ y1 : Addr, ∃ y2 : Addr, ∃ k1_ : ClassId, v = some (.ref y1) ∧ Fr n0 L ∧ Keep h0 h [] ∧ h0.size ≤ y1 ∧ h0.size ≤ y2 ∧ Exa Z h y1 sS ∧ sC Z h y1 ∧ sV Z h y1 y2 ∧ Arv Z h y2 k1_ .byte (oN ((((1 + 1) + d4) + 1) - 0)) (((([(vI 48)] : List Value) ++ lit_11) ++ u5) ++ lit_12) (vI 0)
theorem rmC0_0 (l : Launch) (Z : State) (a0 : Array Value) (hw : HW Z a0) (ws : List Jvm.Cond) (cz : Int32) (dg : Addr) (fm : Value) (x1 : Addr) (x2 : Addr) (c3 : ClassId) (d4 : Nat) (u5 : List Value) (h0 : Heap) (n0 : Nat) (O0 : Old Z n0 h0) (P : Pins Z cz dg fm) (E_x1 : Exa Z h0 x1 sS) (F_x1_value : sV Z h0 x1 x2) (F_x1_coder : sC Z h0 x1) (V_x2 : bA Z h0 x2 c3 (oN d4) u5) (lt_x2 : x2 < h0.size) (hd0 : d4 ≤ 8) (hd1 : u5.length = d4) :
   MetFree l M34 (head1 (Jvm.Cond.code M34 prog_21_method_11_code 2 (some (.object sS)) :: ws) (rO 6 8 182 91)) (fun a U => a = #[(vI 0), (.ref x1)] ∧ Z.Warmed39 U.vm ∧ U.heap = h0 ∧ CHv Z consts_1 U.vm h0) (fun _ _ _ _ _ => True) (fun _ U o U' => ∃ v L, o = .returned v ∧ QrmC0_0 Z x1 x2 c3 d4 u5 h0 n0 v U'.heap L ∧ CHr Z consts_1 U.vm U.heap U'.vm U'.heap ∧ ReturnedEndW U o U' L (rO 6 8 182 91).cells (rO 6 8 182 91).slots) := by
 refine MetFree.of_bodySF (plainFor_of_name pN1) hisR ?_
 intro p e s m args below meth c s₁ Bd hml0 hP hK
 obtain ⟨rfl, hZ, hh, hCv⟩ := hP
 have hx := Bd.exec
 have hby := Bd.bytes
 have hml : c.maxLocals = 2 := hml0
 have hown : s.vm.findClass sI = some m.cls := findClass_of_methodNamed Bd.named
 have hnm := (name_of_methodNamed Bd.named Bd.method).1
 have X0 : Stand p l e (rO 6 8 182 91) (s.setVm s.vm) m #[(vI 0), (.ref x1)] below meth c s₁ [] 0 0 := Stand.of_body Bd
 have e0 : s₁.heap = h0 := by rw [← hh, Bd.state]; rfl
 have N0 := Fr.nil n0
 have Z0 : n0 ≤ h0.size := O0.1 ▸ O0.2.1
 have pre0 : ∀ t, SG p e below s₁ m 0 #[lI 0, lR x1] [] t → Steps p.tables e below (s₁.setTop (entryFrame m #[(vI 0), (.ref x1)] 2)) t := fun t k => castTop (ef_6_IR m (0 : Int32) x1) k
 have Kr : Keep h0 h0 [] := Keep.refl h0 _
 have hEL : EW Z a0 consts_1 := own_ew hw
 have wS : ∀ d ∈ Bundle.stringAtoms, d.before a0 Z = true := fun d hd => hw d (own_wsa d hd)
 have hS : s.Since s.vm 0 := (State.WarmedH.refl s).since 0
 have hk : 0 ≤ h0.size := Nat.zero_le _
 have C0 : CHr Z consts_1 s.vm h0 s.vm h0 := CHr.refl hCv
 obtain ⟨T1, h1, X1, e1, E1, A1, D1, -, st1⟩ := newO X0 hx hZ hown (wd hw 14 rfl) (wd hw 15 rfl) (wd hw 16 rfl) e0 (g := (mkF m 0 #[lI 0, lR x1] [])) rfl (hb hby d6_0) (by decide) (by decide)
 obtain ⟨b1, g1⟩ : ∃ z, z = (h0).size := ⟨_, rfl⟩
 rw [← g1] at A1 D1 st1
 have Zs2 := Nat.le_trans Z0 E1.1
 have Os2 := O0.ext E1
 have Ks2 := Kr.ext E1
 have Cs2 := C0.trans (CHr.ext E1 C0.1)
 have hk2 := Nat.le_trans hk E1.1
 have D1_value : Fld Z h1 b1 sA "value" "[B" .null := D1 (Or.inl (wd hw 31 rfl)) (ty := (.array .byte)) (by decide)
 have D1_coder : aC Z h1 b1 := D1 (Or.inl (wd hw 33 rfl)) (ty := .byte) (by decide)
 have D1_count : aN Z h1 b1 0 := D1 (Or.inl (wd hw 56 rfl)) (ty := .int) (by decide)
 obtain ⟨_, _, ⟨T3, L3, k3, n3⟩, -, X3, ⟨Lc3, hQ3, l3, y3, z3⟩, st3⟩ := X1.specialBack hx (y := M10) rfl hown (mvT hZ (wd hw 17 rfl)) (mvT hZ (wd hw 18 rfl)) (mvT hZ (wd hw 19 rfl)) (by decide) (backOf (W := 1) (rm4_11 l Z a0 hw [] cz dg fm b1 h1 n0 Os2 P D1_count A1 D1_value (Nat.le_trans Z0 (Nat.le_of_eq g1.symm)) D1_coder) hZ (wd hw 19 rfl) (wd hw 16 rfl) (by decide) (by decide)) (g := (mkF m 4 #[lI 0, lR x1] [(.ref b1), (.ref b1)])) rfl (by rw [hml]; rfl) (Steps.refl _) (a := b1) (argsL := []) (rest := [(.ref b1)]) (lenOf pd_0 rfl) rfl (lz rfl) (hb hby d6_4) (fun _ _ => ⟨rfl, e1, (by decide : 1 + 1 ≤ _), (by decide : 4 + 16 ≤ _)⟩)
 dsimp only [Pt.U, Pt.locs, Pt.cells, Pt.slots] at X3 l3 y3 z3 st3 hQ3
 obtain rfl : k3 = 2 := y3
 obtain rfl : n3 = 20 := z3
 obtain ⟨b3_0, k3_0, rfl, N3q, K3, l3_0, q3_0, q3_1, q3_2, q3_3⟩ := hQ3
 have N3 : Fr n0 L3 := by rw [l3]; exact Fr.app N0 N3q
 have sf4 : Safe Z consts_1 s.vm (h1) b3_0 := Safe.new l3_0
 have Ks5 := Ks2.trans K3 (allS (Or.inr (Nat.le_trans Kr.1 (Nat.le_of_eq g1.symm))) all0)
 have Os5 := Os2.keep K3 (allS (Nat.le_trans Z0 (Nat.le_of_eq g1.symm)) all0)
 have Cs5 := Cs2.trans (CHr.keep K3 (sfS (Safe.exa hZ.alike A1 (by decide) (by decide)) sf0) Cs2.1)
 have sf6 := (Safe.keep K3 (sfS (Safe.exa hZ.alike A1 (by decide) (by decide)) sf0) Cs2.1 sf4)
 have hk5 := Nat.le_trans hk2 K3.1
 have f7 := (A1.keep K3)
 have nz8 := (Nat.ne_of_lt (Nat.lt_of_lt_of_le (A1).lt l3_0))
 obtain ⟨cq9, kq9, q9a, q9b, q9c⟩ := isOf hZ rfl f7
 obtain ⟨_, _, ⟨T9, L9, k9, n9⟩, -, X9, ⟨Lc9, hQ9, l9, y9, z9⟩, st9⟩ := X3.virtualBack hx (y := M16) (z := M16) hown (mvT hZ (wd hw 45 rfl)) (mvT hZ (wd hw 46 rfl)) (notFace_of_selects (args := #[]) (mvT hZ (wd hw 48 rfl))) (mvT hZ (wd hw 48 rfl)) (mvT hZ (wd hw 47 rfl)) (by decide) (backOf (W := 0) (rm7_17 l Z a0 hw [] cz dg fm b1 b3_0 k3_0 T3.heap n0 Os5 P q3_0 f7 q3_1 q3_3 q3_2 (Nat.le_trans Zs2 l3_0) nz8 (Nat.le_trans Z0 (Nat.le_of_eq g1.symm)) (Ne.symm nz8)) hZ (wd hw 49 rfl) (wd hw 16 rfl) (by decide) (by decide)) q9a q9c (g := (mkF m 8 #[lI 0, lR x1] [(vI 0), (.ref b1)])) rfl (by rw [hml]; rfl) (Steps.refl _) (argsL := [(vI 0)]) (rest := []) (lenOf pd_6 rfl) rfl (lz rfl) (hb hby d6_8) (fun _ _ => ⟨rfl, rfl, (by decide : 2 + 0 ≤ _), (by decide : 20 + 0 ≤ _)⟩)
 dsimp only [Pt.U, Pt.locs, Pt.cells, Pt.slots] at X9 l9 y9 z9 st9 hQ9
 obtain rfl : k9 = 2 := y9
 obtain rfl : n9 = 20 := z9
 obtain ⟨rfl, N9q, K9, q9_0, q9_1, q9_2, q9_3⟩ := hQ9
 have N9 : Fr n0 L9 := by rw [l9]; exact Fr.app N3 N9q
 have Ks10 := Ks5.trans K9 (allS (Or.inr (Nat.le_trans Kr.1 (Nat.le_of_eq g1.symm))) (allS (Or.inr (Nat.le_trans Ks2.1 l3_0)) all0))
 have Os10 := Os5.keep K9 (allS (Nat.le_trans Z0 (Nat.le_of_eq g1.symm)) (allS (Nat.le_trans Zs2 l3_0) all0))
 have Cs10 := Cs5.trans (CHr.keep K9 (sfS (Safe.exa hZ.alike f7 (by decide) (by decide)) (sfS sf6 sf0)) Cs5.1)
 have sf11 := (Safe.keep K9 (sfS (Safe.exa hZ.alike f7 (by decide) (by decide)) (sfS sf6 sf0)) Cs5.1 sf6)
 have hk10 := Nat.le_trans hk5 K9.1
 obtain ⟨w12, T12, h12, kq12, wb12, kb12, X12, e12, E12, hS12, hkq12, hZ12, hown12, Ex12, Fc12, Fv12, Va12, la12, lb12, Cq12, -, hne12, st12⟩ := ldcCH X9 hx hZ hown (wd hw 75 rfl) wS rfl hS hk10 hEL (mg 11 rfl) Cs10.1 (vs := [(vI 32)]) (z := (1 : Int32)) ⟨by decide, rfl⟩ (by decide) rfl (g := (mkF m 11 #[lI 0, lR x1] [(.ref b1)])) rfl (hb hby d6_11) (n := 4) (by decide) (by decide) (by decide) (by decide)
 have Os13 := Os10.ext E12
 have Ks13 := Ks10.ext E12
 have Cs13 := Cs10.trans Cq12
 have sf14 := (Cq12.safe (q9_3).lt sf11)
 have Vl12 : bA Z h12 wb12 kb12 1 lit_11 := Va12
 have f15 := ((f7.keep K9).ext E12)
 have f16 := (q9_1.ext E12)
 have f17 := (q9_0.ext E12)
 have f18 := (q9_3.ext E12)
 have f19 := (q9_2.ext E12)
 obtain ⟨cq20, kq20, q20a, q20b, q20c⟩ := isOf hZ12 e12 f15
 obtain ⟨_, _, ⟨T20, L20, k20, n20⟩, -, X20, ⟨Lc20, hQ20, l20, y20, z20⟩, st20⟩ := X12.virtualBack hx (y := M23) (z := M23) hown12 (mvT hZ12 (wd hw 76 rfl)) (mvT hZ12 (wd hw 77 rfl)) (notFace_of_selects (args := #[]) (mvT hZ12 (wd hw 79 rfl))) (mvT hZ12 (wd hw 79 rfl)) (mvT hZ12 (wd hw 78 rfl)) (by decide) (backOf (W := 0) (rm13_25 l Z a0 hw [] cz dg fm b1 w12 wb12 kb12 1 lit_11 1 b3_0 k3_0 16 ([(vI 48)] : List Value) h12 n0 Os13 P Ex12 Fv12 Vl12 Fc12 f17 f15 f16 f18 f19 (by decide) (by decide) (by (try simp only [List.length_append, List.length_cons, List.length_nil, len_0, len_1, len_2, len_3, len_4, len_5, len_6, len_7, len_8, len_9, len_10, len_11, len_12, len_13]) <;> omega) (by (try simp only [List.length_append, List.length_cons, List.length_nil, len_0, len_1, len_2, len_3, len_4, len_5, len_6, len_7, len_8, len_9, len_10, len_11, len_12, len_13]) <;> omega) (Nat.le_trans Zs2 l3_0) (by decide) (by decide) (by decide) nz8 (Nat.le_trans Z0 (Nat.le_of_eq g1.symm)) (Ne.symm nz8)) hZ12 (wd hw 80 rfl) (wd hw 16 rfl) (by decide) (by decide)) q20a q20c (g := (mkF m 13 #[lI 0, lR x1] [(.ref w12), (.ref b1)])) rfl (by rw [hml]; rfl) (Steps.refl _) (argsL := [(.ref w12)]) (rest := []) (lenOf pd_13 rfl) rfl (lz rfl) (hb hby d6_13) (fun _ _ => ⟨rfl, e12, (by decide : 4 + 0 ≤ _), (by decide : 28 + 0 ≤ _)⟩)
 dsimp only [Pt.U, Pt.locs, Pt.cells, Pt.slots] at X20 l20 y20 z20 st20 hQ20
 obtain rfl : k20 = 4 := y20
 obtain rfl : n20 = 28 := z20
 obtain ⟨rfl, N20q, K20, q20_0, q20_1, q20_2, q20_3⟩ := hQ20
 have N20 : Fr n0 L20 := by rw [l20]; exact Fr.app N9 N20q
 have Ks21 := Ks13.trans K20 (allS (Or.inr (Nat.le_trans Kr.1 (Nat.le_of_eq g1.symm))) (allS (Or.inr (Nat.le_trans Ks2.1 l3_0)) all0))
 have Os21 := Os13.keep K20 (allS (Nat.le_trans Z0 (Nat.le_of_eq g1.symm)) (allS (Nat.le_trans Zs2 l3_0) all0))
 have Cs21 := Cs13.trans (CHr.keep K20 (sfS (Safe.exa hZ12.alike f15 (by decide) (by decide)) (sfS sf14 sf0)) Cs13.1)
 have sf22 := (Safe.keep K20 (sfS (Safe.exa hZ12.alike f15 (by decide) (by decide)) (sfS sf14 sf0)) Cs13.1 sf14)
 have hk21 := Nat.le_trans hkq12 K20.1
 have f23 := (f15.keep K20)
 have nz24 := (Nat.ne_of_lt (Nat.lt_of_lt_of_le (E_x1).lt (Nat.le_of_eq g1.symm)))
 have nz25 := (Nat.ne_of_lt (Nat.lt_of_lt_of_le ((E_x1.ext E1)).lt l3_0))
 have f26 := (((((F_x1_value.ext E1).keep K3 (ninS nz24 nin0)).keep K9 (ninS nz24 (ninS nz25 nin0))).ext E12).keep K20 (ninS nz24 (ninS nz25 nin0)))
 have nz27 := (Nat.ne_of_lt (Nat.lt_of_lt_of_le (V_x2).lt (Nat.le_of_eq g1.symm)))
 have nz28 := (Nat.ne_of_lt (Nat.lt_of_lt_of_le ((V_x2.ext E1)).lt l3_0))
 have f29 := (((((V_x2.ext E1).keep K3 (ninS nz27 nin0)).keep K9 (ninS nz27 (ninS nz28 nin0))).ext E12).keep K20 (ninS nz27 (ninS nz28 nin0)))
 have f30 := (((((E_x1.ext E1).keep K3).keep K9).ext E12).keep K20)
 have f31 := (((((F_x1_coder.ext E1).keep K3 (ninS nz24 nin0)).keep K9 (ninS nz24 (ninS nz25 nin0))).ext E12).keep K20 (ninS nz24 (ninS nz25 nin0)))
 obtain ⟨cq32, kq32, q32a, q32b, q32c⟩ := isOf hZ12 rfl f23
 obtain ⟨_, _, ⟨T32, L32, k32, n32⟩, -, X32, ⟨Lc32, hQ32, l32, y32, z32⟩, st32⟩ := X20.virtualBack hx (y := M23) (z := M23) hown12 (mvT hZ12 (wd hw 76 rfl)) (mvT hZ12 (wd hw 77 rfl)) (notFace_of_selects (args := #[]) (mvT hZ12 (wd hw 79 rfl))) (mvT hZ12 (wd hw 79 rfl)) (mvT hZ12 (wd hw 78 rfl)) (by decide) (backOf (W := 0) (rm13_25 l Z a0 hw [] cz dg fm b1 x1 x2 c3 d4 u5 (1 + 1) b3_0 k3_0 16 (([(vI 48)] : List Value) ++ lit_11) T20.heap n0 Os21 P f30 f26 f29 f31 q20_0 f23 q20_1 q20_3 q20_2 (by omega) (by decide) (by (try simp only [List.length_append, List.length_cons, List.length_nil, len_0, len_1, len_2, len_3, len_4, len_5, len_6, len_7, len_8, len_9, len_10, len_11, len_12, len_13]) <;> omega) (by (try simp only [List.length_append, List.length_cons, List.length_nil, len_0, len_1, len_2, len_3, len_4, len_5, len_6, len_7, len_8, len_9, len_10, len_11, len_12, len_13]) <;> omega) (Nat.le_trans Zs2 l3_0) (by omega) (by omega) (by omega) nz8 (Nat.le_trans Z0 (Nat.le_of_eq g1.symm)) (Ne.symm nz8)) hZ12 (wd hw 80 rfl) (wd hw 16 rfl) (by decide) (by decide)) q32a q32c (g := (mkF m 17 #[lI 0, lR x1] [(.ref x1), (.ref b1)])) rfl (by rw [hml]; rfl) (Steps.refl _) (argsL := [(.ref x1)]) (rest := []) (lenOf pd_13 rfl) rfl (lz rfl) (hb hby d6_17) (fun _ _ => ⟨rfl, rfl, (by decide : 4 + 0 ≤ _), (by decide : 28 + 0 ≤ _)⟩)
 dsimp only [Pt.U, Pt.locs, Pt.cells, Pt.slots] at X32 l32 y32 z32 st32 hQ32
 obtain rfl : k32 = 4 := y32
 obtain rfl : n32 = 28 := z32
 obtain ⟨rfl, N32q, K32, q32_0, q32_1, q32_2, q32_3⟩ := hQ32
 have N32 : Fr n0 L32 := by rw [l32]; exact Fr.app N20 N32q
 have Ks33 := Ks21.trans K32 (allS (Or.inr (Nat.le_trans Kr.1 (Nat.le_of_eq g1.symm))) (allS (Or.inr (Nat.le_trans Ks2.1 l3_0)) all0))
 have Os33 := Os21.keep K32 (allS (Nat.le_trans Z0 (Nat.le_of_eq g1.symm)) (allS (Nat.le_trans Zs2 l3_0) all0))
 have Cs33 := Cs21.trans (CHr.keep K32 (sfS (Safe.exa hZ12.alike f23 (by decide) (by decide)) (sfS sf22 sf0)) Cs21.1)
 have sf34 := (Safe.keep K32 (sfS (Safe.exa hZ12.alike f23 (by decide) (by decide)) (sfS sf22 sf0)) Cs21.1 sf22)
 have hk33 := Nat.le_trans hk21 K32.1
 obtain ⟨w35, T35, h35, kq35, wb35, kb35, X35, e35, E35, hS35, hkq35, hZ35, hown35, Ex35, Fc35, Fv35, Va35, la35, lb35, Cq35, -, hne35, st35⟩ := ldcCH X32 hx hZ12 hown12 (wd hw 118 rfl) wS rfl hS12 hk33 hEL (mg 13 rfl) Cs33.1 (vs := [(vI 115)]) (z := (1 : Int32)) ⟨by decide, rfl⟩ (by decide) rfl (g := (mkF m 30 #[lI 0, lR x1] [(.ref b1)])) rfl (hb hby d6_30) (n := 4) (by decide) (by decide) (by decide) (by decide)
 have Os36 := Os33.ext E35
 have Ks36 := Ks33.ext E35
 have Cs36 := Cs33.trans Cq35
 have sf37 := (Cq35.safe (q32_3).lt sf34)
 have Vl35 : bA Z h35 wb35 kb35 1 lit_12 := Va35
 have f38 := ((f23.keep K32).ext E35)
 have f39 := (q32_1.ext E35)
 have f40 := (q32_0.ext E35)
 have f41 := (q32_3.ext E35)
 have f42 := (q32_2.ext E35)
 obtain ⟨cq43, kq43, q43a, q43b, q43c⟩ := isOf hZ35 e35 f38
 obtain ⟨_, _, ⟨T43, L43, k43, n43⟩, -, X43, ⟨Lc43, hQ43, l43, y43, z43⟩, st43⟩ := X35.virtualBack hx (y := M23) (z := M23) hown35 (mvT hZ35 (wd hw 76 rfl)) (mvT hZ35 (wd hw 77 rfl)) (notFace_of_selects (args := #[]) (mvT hZ35 (wd hw 79 rfl))) (mvT hZ35 (wd hw 79 rfl)) (mvT hZ35 (wd hw 78 rfl)) (by decide) (backOf (W := 0) (rm13_25 l Z a0 hw [] cz dg fm b1 w35 wb35 kb35 1 lit_12 ((1 + 1) + d4) b3_0 k3_0 16 ((([(vI 48)] : List Value) ++ lit_11) ++ u5) h35 n0 Os36 P Ex35 Fv35 Vl35 Fc35 f40 f38 f39 f41 f42 (by omega) (by decide) (by (try simp only [List.length_append, List.length_cons, List.length_nil, len_0, len_1, len_2, len_3, len_4, len_5, len_6, len_7, len_8, len_9, len_10, len_11, len_12, len_13]) <;> omega) (by (try simp only [List.length_append, List.length_cons, List.length_nil, len_0, len_1, len_2, len_3, len_4, len_5, len_6, len_7, len_8, len_9, len_10, len_11, len_12, len_13]) <;> omega) (Nat.le_trans Zs2 l3_0) (by decide) (by omega) (by decide) nz8 (Nat.le_trans Z0 (Nat.le_of_eq g1.symm)) (Ne.symm nz8)) hZ35 (wd hw 80 rfl) (wd hw 16 rfl) (by decide) (by decide)) q43a q43c (g := (mkF m 32 #[lI 0, lR x1] [(.ref w35), (.ref b1)])) rfl (by rw [hml]; rfl) (Steps.refl _) (argsL := [(.ref w35)]) (rest := []) (lenOf pd_13 rfl) rfl (lz rfl) (hb hby d6_32) (fun _ _ => ⟨rfl, e35, (by decide : 6 + 0 ≤ _), (by decide : 36 + 0 ≤ _)⟩)
 dsimp only [Pt.U, Pt.locs, Pt.cells, Pt.slots] at X43 l43 y43 z43 st43 hQ43
 obtain rfl : k43 = 6 := y43
 obtain rfl : n43 = 36 := z43
 obtain ⟨rfl, N43q, K43, q43_0, q43_1, q43_2, q43_3⟩ := hQ43
 have N43 : Fr n0 L43 := by rw [l43]; exact Fr.app N32 N43q
 have Ks44 := Ks36.trans K43 (allS (Or.inr (Nat.le_trans Kr.1 (Nat.le_of_eq g1.symm))) (allS (Or.inr (Nat.le_trans Ks2.1 l3_0)) all0))
 have Os44 := Os36.keep K43 (allS (Nat.le_trans Z0 (Nat.le_of_eq g1.symm)) (allS (Nat.le_trans Zs2 l3_0) all0))
 have Cs44 := Cs36.trans (CHr.keep K43 (sfS (Safe.exa hZ35.alike f38 (by decide) (by decide)) (sfS sf37 sf0)) Cs36.1)
 have hk44 := Nat.le_trans hkq35 K43.1
 have f46 := (f38.keep K43)
 obtain ⟨cq47, kq47, q47a, q47b, q47c⟩ := isOf hZ35 rfl f46
 obtain ⟨_, _, ⟨T47, L47, k47, n47⟩, -, X47, ⟨Lc47, hQ47, l47, y47, z47⟩, st47⟩ := X43.virtualBack hx (y := M33) (z := M33) hown35 (mvT hZ35 (wd hw 119 rfl)) (mvT hZ35 (wd hw 120 rfl)) (notFace_of_selects (args := #[]) (mvT hZ35 (wd hw 122 rfl))) (mvT hZ35 (wd hw 122 rfl)) (mvT hZ35 (wd hw 121 rfl)) (by decide) (backOf (W := 0) (rm20_35 l Z a0 hw [] cz dg fm b1 b3_0 (((1 + 1) + d4) + 1) k3_0 16 (((([(vI 48)] : List Value) ++ lit_11) ++ u5) ++ lit_12) T43.heap n0 Os44 P f46 q43_1 q43_0 q43_2 q43_3 (by omega) (by omega) (by decide) (by omega) (by omega) (by omega) (by decide) (by omega) (by decide) (by (try simp only [List.length_append, List.length_cons, List.length_nil, len_0, len_1, len_2, len_3, len_4, len_5, len_6, len_7, len_8, len_9, len_10, len_11, len_12, len_13]) <;> omega) (by omega) (by omega)) hZ35 (wd hw 123 rfl) (wd hw 16 rfl) (by decide) (by decide)) q47a q47c (g := (mkF m 35 #[lI 0, lR x1] [(.ref b1)])) rfl (by rw [hml]; rfl) (Steps.refl _) (argsL := []) (rest := []) (lenOf pd_20 rfl) rfl (lz rfl) (hb hby d6_35) (fun _ _ => ⟨rfl, rfl, (by decide : 6 + 2 ≤ _), (by decide : 36 + 146 ≤ _)⟩)
 dsimp only [Pt.U, Pt.locs, Pt.cells, Pt.slots] at X47 l47 y47 z47 st47 hQ47
 obtain rfl : k47 = 8 := y47
 obtain rfl : n47 = 182 := z47
 obtain ⟨b47_0, b47_1, k47_0, rfl, N47q, K47, l47_0, l47_1, q47_0, q47_1, q47_2, q47_3⟩ := hQ47
 have N47 : Fr n0 L47 := by rw [l47]; exact Fr.app N43 N47q
 have Ks50 := Ks44.trans K47 all0
 have Cs50 := Cs44.trans (CHr.keep K47 sf0 Cs44.1)
 have hk50 := Nat.le_trans hk44 K47.1
 have Cend := Cs50.trans (CHv.at X47 hZ35 hEL Cs50.1)
 obtain ⟨fs, hr, hrun, hended, hREW⟩ := X47.leaveW hS35 hk50 (v := some (.ref b47_0)) (fun h => by rw [Bd.returns] at h; cases h)
 refine ⟨_, _, pre0 _ ?_, hrun, hended, _, _, rfl, ?_, ?_, own_rew hREW (by decide) (by decide)⟩
 · show SH s₁ 0 #[lI 0, lR x1] []
   refine st1 _ ?_
   show SH T1 3 #[lI 0, lR x1] [(.ref b1)]
   refine XS.dup X1.here hx rfl (hb hby d6_3) rfl rfl ?_
   show SH T1 4 #[lI 0, lR x1] [(.ref b1), (.ref b1)]
   refine st3.trans ?_
   show SH T3 7 #[lI 0, lR x1] [(.ref b1)]
   refine XS.iloadN X3.here hx rfl (hb hby d6_7) rfl ?_
   show SH T3 8 #[lI 0, lR x1] [(vI 0), (.ref b1)]
   refine st9.trans ?_
   show SH T9 11 #[lI 0, lR x1] [(.ref b1)]
   refine st12 _ ?_
   show SH T12 13 #[lI 0, lR x1] [(.ref w12), (.ref b1)]
   refine st20.trans ?_
   show SH T20 16 #[lI 0, lR x1] [(.ref b1)]
   refine XS.aloadN X20.here hx rfl (hb hby d6_16) rfl rfl ?_
   show SH T20 17 #[lI 0, lR x1] [(.ref x1), (.ref b1)]
   refine st32.trans ?_
   show SH T32 20 #[lI 0, lR x1] [(.ref b1)]
   refine XS.iloadN X32.here hx rfl (hb hby d6_20) rfl ?_
   show SH T32 21 #[lI 0, lR x1] [(vI 0), (.ref b1)]
   refine XS.iconst X32.here hx rfl (hb hby d6_21) ?_
   show SH T32 22 #[lI 0, lR x1] [(vI 1), (vI 0), (.ref b1)]
   refine XS.icmpYes X32.here hx rfl (pc0 := 22) (pc' := 30) rfl (hb hby d6_22) rfl (by decide) (by decide) (by decide) ?_
   show SH T32 30 #[lI 0, lR x1] [(.ref b1)]
   refine st35 _ ?_
   show SH T35 32 #[lI 0, lR x1] [(.ref w35), (.ref b1)]
   refine st43.trans ?_
   show SH T43 35 #[lI 0, lR x1] [(.ref b1)]
   refine st47.trans ?_
   show SH T47 38 #[lI 0, lR x1] [(.ref b47_0)]
   exact retOut X47 hx Bd.returns rfl (Or.inr (Or.inr (Or.inr (Or.inr ⟨rfl, rfl, rfl⟩)))) (hb hby d6_38) hr
 · show QrmC0_0 Z x1 x2 c3 d4 u5 h0 n0 _ T47.heap _
   exact ⟨b47_0, b47_1, k47_0, rfl, N47, Ks50, (Nat.le_trans Ks44.1 l47_0), (Nat.le_trans Ks44.1 l47_1), q47_0, q47_1, q47_2, q47_3⟩
 · rw [hh]
   show CHr Z consts_1 s.vm h0 T47.vm T47.heap
   exact Cend
def QrmC0_1 (Z : State) (x1 : Addr) (x2 : Addr) (c3 : ClassId) (d4 : Nat) (u5 : List Value) (h0 : Heap) (n0 : Nat) (v : Option Value) (h : Heap) (L : List Loc) : Prop := ∃ y1 : Addr, ∃ y2 : Addr, ∃ k1_ : ClassId, v = some (.ref y1) ∧ Fr n0 L ∧ Keep h0 h [] ∧ h0.size ≤ y1 ∧ h0.size ≤ y2 ∧ Exa Z h y1 sS ∧ sC Z h y1 ∧ sV Z h y1 y2 ∧ Arv Z h y2 k1_ .byte (oN ((((1 + 1) + d4) + 0) - 0)) (((([(vI 49)] : List Value) ++ lit_11) ++ u5) ++ lit_13) (vI 0)
theorem rmC0_1 (l : Launch) (Z : State) (a0 : Array Value) (hw : HW Z a0) (ws : List Jvm.Cond) (cz : Int32) (dg : Addr) (fm : Value) (x1 : Addr) (x2 : Addr) (c3 : ClassId) (d4 : Nat) (u5 : List Value) (h0 : Heap) (n0 : Nat) (O0 : Old Z n0 h0) (P : Pins Z cz dg fm) (E_x1 : Exa Z h0 x1 sS) (F_x1_value : sV Z h0 x1 x2) (F_x1_coder : sC Z h0 x1) (V_x2 : bA Z h0 x2 c3 (oN d4) u5) (lt_x2 : x2 < h0.size) (hd0 : d4 ≤ 8) (hd1 : u5.length = d4) :
   MetFree l M34 (head1 (Jvm.Cond.code M34 prog_21_method_11_code 2 (some (.object sS)) :: ws) (rO 6 8 182 91)) (fun a U => a = #[(vI 1), (.ref x1)] ∧ Z.Warmed39 U.vm ∧ U.heap = h0 ∧ CHv Z consts_1 U.vm h0) (fun _ _ _ _ _ => True) (fun _ U o U' => ∃ v L, o = .returned v ∧ QrmC0_1 Z x1 x2 c3 d4 u5 h0 n0 v U'.heap L ∧ CHr Z consts_1 U.vm U.heap U'.vm U'.heap ∧ ReturnedEndW U o U' L (rO 6 8 182 91).cells (rO 6 8 182 91).slots) := by
 refine MetFree.of_bodySF (plainFor_of_name pN1) hisR ?_
 intro p e s m args below meth c s₁ Bd hml0 hP hK
 obtain ⟨rfl, hZ, hh, hCv⟩ := hP
 have hx := Bd.exec
 have hby := Bd.bytes
 have hml : c.maxLocals = 2 := hml0
 have hown : s.vm.findClass sI = some m.cls := findClass_of_methodNamed Bd.named
 have hnm := (name_of_methodNamed Bd.named Bd.method).1
 have X0 : Stand p l e (rO 6 8 182 91) (s.setVm s.vm) m #[(vI 1), (.ref x1)] below meth c s₁ [] 0 0 := Stand.of_body Bd
 have e0 : s₁.heap = h0 := by rw [← hh, Bd.state]; rfl
 have N0 := Fr.nil n0
 have Z0 : n0 ≤ h0.size := O0.1 ▸ O0.2.1
 have pre0 : ∀ t, SG p e below s₁ m 0 #[lI 1, lR x1] [] t → Steps p.tables e below (s₁.setTop (entryFrame m #[(vI 1), (.ref x1)] 2)) t := fun t k => castTop (ef_6_IR m (1 : Int32) x1) k
 have Kr : Keep h0 h0 [] := Keep.refl h0 _
 have hEL : EW Z a0 consts_1 := own_ew hw
 have wS : ∀ d ∈ Bundle.stringAtoms, d.before a0 Z = true := fun d hd => hw d (own_wsa d hd)
 have hS : s.Since s.vm 0 := (State.WarmedH.refl s).since 0
 have hk : 0 ≤ h0.size := Nat.zero_le _
 have C0 : CHr Z consts_1 s.vm h0 s.vm h0 := CHr.refl hCv
 obtain ⟨T1, h1, X1, e1, E1, A1, D1, -, st1⟩ := newO X0 hx hZ hown (wd hw 14 rfl) (wd hw 15 rfl) (wd hw 16 rfl) e0 (g := (mkF m 0 #[lI 1, lR x1] [])) rfl (hb hby d6_0) (by decide) (by decide)
 obtain ⟨b1, g1⟩ : ∃ z, z = (h0).size := ⟨_, rfl⟩
 rw [← g1] at A1 D1 st1
 have Zs2 := Nat.le_trans Z0 E1.1
 have Os2 := O0.ext E1
 have Ks2 := Kr.ext E1
 have Cs2 := C0.trans (CHr.ext E1 C0.1)
 have hk2 := Nat.le_trans hk E1.1
 have D1_value : Fld Z h1 b1 sA "value" "[B" .null := D1 (Or.inl (wd hw 31 rfl)) (ty := (.array .byte)) (by decide)
 have D1_coder : aC Z h1 b1 := D1 (Or.inl (wd hw 33 rfl)) (ty := .byte) (by decide)
 have D1_count : aN Z h1 b1 0 := D1 (Or.inl (wd hw 56 rfl)) (ty := .int) (by decide)
 obtain ⟨_, _, ⟨T3, L3, k3, n3⟩, -, X3, ⟨Lc3, hQ3, l3, y3, z3⟩, st3⟩ := X1.specialBack hx (y := M10) rfl hown (mvT hZ (wd hw 17 rfl)) (mvT hZ (wd hw 18 rfl)) (mvT hZ (wd hw 19 rfl)) (by decide) (backOf (W := 1) (rm4_11 l Z a0 hw [] cz dg fm b1 h1 n0 Os2 P D1_count A1 D1_value (Nat.le_trans Z0 (Nat.le_of_eq g1.symm)) D1_coder) hZ (wd hw 19 rfl) (wd hw 16 rfl) (by decide) (by decide)) (g := (mkF m 4 #[lI 1, lR x1] [(.ref b1), (.ref b1)])) rfl (by rw [hml]; rfl) (Steps.refl _) (a := b1) (argsL := []) (rest := [(.ref b1)]) (lenOf pd_0 rfl) rfl (lz rfl) (hb hby d6_4) (fun _ _ => ⟨rfl, e1, (by decide : 1 + 1 ≤ _), (by decide : 4 + 16 ≤ _)⟩)
 dsimp only [Pt.U, Pt.locs, Pt.cells, Pt.slots] at X3 l3 y3 z3 st3 hQ3
 obtain rfl : k3 = 2 := y3
 obtain rfl : n3 = 20 := z3
 obtain ⟨b3_0, k3_0, rfl, N3q, K3, l3_0, q3_0, q3_1, q3_2, q3_3⟩ := hQ3
 have N3 : Fr n0 L3 := by rw [l3]; exact Fr.app N0 N3q
 have sf4 : Safe Z consts_1 s.vm (h1) b3_0 := Safe.new l3_0
 have Ks5 := Ks2.trans K3 (allS (Or.inr (Nat.le_trans Kr.1 (Nat.le_of_eq g1.symm))) all0)
 have Os5 := Os2.keep K3 (allS (Nat.le_trans Z0 (Nat.le_of_eq g1.symm)) all0)
 have Cs5 := Cs2.trans (CHr.keep K3 (sfS (Safe.exa hZ.alike A1 (by decide) (by decide)) sf0) Cs2.1)
 have sf6 := (Safe.keep K3 (sfS (Safe.exa hZ.alike A1 (by decide) (by decide)) sf0) Cs2.1 sf4)
 have hk5 := Nat.le_trans hk2 K3.1
 have f7 := (A1.keep K3)
 have nz8 := (Nat.ne_of_lt (Nat.lt_of_lt_of_le (A1).lt l3_0))
 obtain ⟨cq9, kq9, q9a, q9b, q9c⟩ := isOf hZ rfl f7
 obtain ⟨_, _, ⟨T9, L9, k9, n9⟩, -, X9, ⟨Lc9, hQ9, l9, y9, z9⟩, st9⟩ := X3.virtualBack hx (y := M16) (z := M16) hown (mvT hZ (wd hw 45 rfl)) (mvT hZ (wd hw 46 rfl)) (notFace_of_selects (args := #[]) (mvT hZ (wd hw 48 rfl))) (mvT hZ (wd hw 48 rfl)) (mvT hZ (wd hw 47 rfl)) (by decide) (backOf (W := 0) (rm7_39 l Z a0 hw [] cz dg fm b1 b3_0 k3_0 T3.heap n0 Os5 P q3_0 f7 q3_1 q3_3 q3_2 (Nat.le_trans Zs2 l3_0) nz8 (Nat.le_trans Z0 (Nat.le_of_eq g1.symm)) (Ne.symm nz8)) hZ (wd hw 49 rfl) (wd hw 16 rfl) (by decide) (by decide)) q9a q9c (g := (mkF m 8 #[lI 1, lR x1] [(vI 1), (.ref b1)])) rfl (by rw [hml]; rfl) (Steps.refl _) (argsL := [(vI 1)]) (rest := []) (lenOf pd_6 rfl) rfl (lz rfl) (hb hby d6_8) (fun _ _ => ⟨rfl, rfl, (by decide : 2 + 0 ≤ _), (by decide : 20 + 0 ≤ _)⟩)
 dsimp only [Pt.U, Pt.locs, Pt.cells, Pt.slots] at X9 l9 y9 z9 st9 hQ9
 obtain rfl : k9 = 2 := y9
 obtain rfl : n9 = 20 := z9
 obtain ⟨rfl, N9q, K9, q9_0, q9_1, q9_2, q9_3⟩ := hQ9
 have N9 : Fr n0 L9 := by rw [l9]; exact Fr.app N3 N9q
 have Ks10 := Ks5.trans K9 (allS (Or.inr (Nat.le_trans Kr.1 (Nat.le_of_eq g1.symm))) (allS (Or.inr (Nat.le_trans Ks2.1 l3_0)) all0))
 have Os10 := Os5.keep K9 (allS (Nat.le_trans Z0 (Nat.le_of_eq g1.symm)) (allS (Nat.le_trans Zs2 l3_0) all0))
 have Cs10 := Cs5.trans (CHr.keep K9 (sfS (Safe.exa hZ.alike f7 (by decide) (by decide)) (sfS sf6 sf0)) Cs5.1)
 have sf11 := (Safe.keep K9 (sfS (Safe.exa hZ.alike f7 (by decide) (by decide)) (sfS sf6 sf0)) Cs5.1 sf6)
 have hk10 := Nat.le_trans hk5 K9.1
 obtain ⟨w12, T12, h12, kq12, wb12, kb12, X12, e12, E12, hS12, hkq12, hZ12, hown12, Ex12, Fc12, Fv12, Va12, la12, lb12, Cq12, -, hne12, st12⟩ := ldcCH X9 hx hZ hown (wd hw 75 rfl) wS rfl hS hk10 hEL (mg 11 rfl) Cs10.1 (vs := [(vI 32)]) (z := (1 : Int32)) ⟨by decide, rfl⟩ (by decide) rfl (g := (mkF m 11 #[lI 1, lR x1] [(.ref b1)])) rfl (hb hby d6_11) (n := 4) (by decide) (by decide) (by decide) (by decide)
 have Os13 := Os10.ext E12
 have Ks13 := Ks10.ext E12
 have Cs13 := Cs10.trans Cq12
 have sf14 := (Cq12.safe (q9_3).lt sf11)
 have Vl12 : bA Z h12 wb12 kb12 1 lit_11 := Va12
 have f15 := ((f7.keep K9).ext E12)
 have f16 := (q9_1.ext E12)
 have f17 := (q9_0.ext E12)
 have f18 := (q9_3.ext E12)
 have f19 := (q9_2.ext E12)
 obtain ⟨cq20, kq20, q20a, q20b, q20c⟩ := isOf hZ12 e12 f15
 obtain ⟨_, _, ⟨T20, L20, k20, n20⟩, -, X20, ⟨Lc20, hQ20, l20, y20, z20⟩, st20⟩ := X12.virtualBack hx (y := M23) (z := M23) hown12 (mvT hZ12 (wd hw 76 rfl)) (mvT hZ12 (wd hw 77 rfl)) (notFace_of_selects (args := #[]) (mvT hZ12 (wd hw 79 rfl))) (mvT hZ12 (wd hw 79 rfl)) (mvT hZ12 (wd hw 78 rfl)) (by decide) (backOf (W := 0) (rm13_25 l Z a0 hw [] cz dg fm b1 w12 wb12 kb12 1 lit_11 1 b3_0 k3_0 16 ([(vI 49)] : List Value) h12 n0 Os13 P Ex12 Fv12 Vl12 Fc12 f17 f15 f16 f18 f19 (by decide) (by decide) (by (try simp only [List.length_append, List.length_cons, List.length_nil, len_0, len_1, len_2, len_3, len_4, len_5, len_6, len_7, len_8, len_9, len_10, len_11, len_12, len_13]) <;> omega) (by (try simp only [List.length_append, List.length_cons, List.length_nil, len_0, len_1, len_2, len_3, len_4, len_5, len_6, len_7, len_8, len_9, len_10, len_11, len_12, len_13]) <;> omega) (Nat.le_trans Zs2 l3_0) (by decide) (by decide) (by decide) nz8 (Nat.le_trans Z0 (Nat.le_of_eq g1.symm)) (Ne.symm nz8)) hZ12 (wd hw 80 rfl) (wd hw 16 rfl) (by decide) (by decide)) q20a q20c (g := (mkF m 13 #[lI 1, lR x1] [(.ref w12), (.ref b1)])) rfl (by rw [hml]; rfl) (Steps.refl _) (argsL := [(.ref w12)]) (rest := []) (lenOf pd_13 rfl) rfl (lz rfl) (hb hby d6_13) (fun _ _ => ⟨rfl, e12, (by decide : 4 + 0 ≤ _), (by decide : 28 + 0 ≤ _)⟩)
 dsimp only [Pt.U, Pt.locs, Pt.cells, Pt.slots] at X20 l20 y20 z20 st20 hQ20
 obtain rfl : k20 = 4 := y20
 obtain rfl : n20 = 28 := z20
 obtain ⟨rfl, N20q, K20, q20_0, q20_1, q20_2, q20_3⟩ := hQ20
 have N20 : Fr n0 L20 := by rw [l20]; exact Fr.app N9 N20q
 have Ks21 := Ks13.trans K20 (allS (Or.inr (Nat.le_trans Kr.1 (Nat.le_of_eq g1.symm))) (allS (Or.inr (Nat.le_trans Ks2.1 l3_0)) all0))
 have Os21 := Os13.keep K20 (allS (Nat.le_trans Z0 (Nat.le_of_eq g1.symm)) (allS (Nat.le_trans Zs2 l3_0) all0))
 have Cs21 := Cs13.trans (CHr.keep K20 (sfS (Safe.exa hZ12.alike f15 (by decide) (by decide)) (sfS sf14 sf0)) Cs13.1)
 have sf22 := (Safe.keep K20 (sfS (Safe.exa hZ12.alike f15 (by decide) (by decide)) (sfS sf14 sf0)) Cs13.1 sf14)
 have hk21 := Nat.le_trans hkq12 K20.1
 have f23 := (f15.keep K20)
 have nz24 := (Nat.ne_of_lt (Nat.lt_of_lt_of_le (E_x1).lt (Nat.le_of_eq g1.symm)))
 have nz25 := (Nat.ne_of_lt (Nat.lt_of_lt_of_le ((E_x1.ext E1)).lt l3_0))
 have f26 := (((((F_x1_value.ext E1).keep K3 (ninS nz24 nin0)).keep K9 (ninS nz24 (ninS nz25 nin0))).ext E12).keep K20 (ninS nz24 (ninS nz25 nin0)))
 have nz27 := (Nat.ne_of_lt (Nat.lt_of_lt_of_le (V_x2).lt (Nat.le_of_eq g1.symm)))
 have nz28 := (Nat.ne_of_lt (Nat.lt_of_lt_of_le ((V_x2.ext E1)).lt l3_0))
 have f29 := (((((V_x2.ext E1).keep K3 (ninS nz27 nin0)).keep K9 (ninS nz27 (ninS nz28 nin0))).ext E12).keep K20 (ninS nz27 (ninS nz28 nin0)))
 have f30 := (((((E_x1.ext E1).keep K3).keep K9).ext E12).keep K20)
 have f31 := (((((F_x1_coder.ext E1).keep K3 (ninS nz24 nin0)).keep K9 (ninS nz24 (ninS nz25 nin0))).ext E12).keep K20 (ninS nz24 (ninS nz25 nin0)))
 obtain ⟨cq32, kq32, q32a, q32b, q32c⟩ := isOf hZ12 rfl f23
 obtain ⟨_, _, ⟨T32, L32, k32, n32⟩, -, X32, ⟨Lc32, hQ32, l32, y32, z32⟩, st32⟩ := X20.virtualBack hx (y := M23) (z := M23) hown12 (mvT hZ12 (wd hw 76 rfl)) (mvT hZ12 (wd hw 77 rfl)) (notFace_of_selects (args := #[]) (mvT hZ12 (wd hw 79 rfl))) (mvT hZ12 (wd hw 79 rfl)) (mvT hZ12 (wd hw 78 rfl)) (by decide) (backOf (W := 0) (rm13_25 l Z a0 hw [] cz dg fm b1 x1 x2 c3 d4 u5 (1 + 1) b3_0 k3_0 16 (([(vI 49)] : List Value) ++ lit_11) T20.heap n0 Os21 P f30 f26 f29 f31 q20_0 f23 q20_1 q20_3 q20_2 (by omega) (by decide) (by (try simp only [List.length_append, List.length_cons, List.length_nil, len_0, len_1, len_2, len_3, len_4, len_5, len_6, len_7, len_8, len_9, len_10, len_11, len_12, len_13]) <;> omega) (by (try simp only [List.length_append, List.length_cons, List.length_nil, len_0, len_1, len_2, len_3, len_4, len_5, len_6, len_7, len_8, len_9, len_10, len_11, len_12, len_13]) <;> omega) (Nat.le_trans Zs2 l3_0) (by omega) (by omega) (by omega) nz8 (Nat.le_trans Z0 (Nat.le_of_eq g1.symm)) (Ne.symm nz8)) hZ12 (wd hw 80 rfl) (wd hw 16 rfl) (by decide) (by decide)) q32a q32c (g := (mkF m 17 #[lI 1, lR x1] [(.ref x1), (.ref b1)])) rfl (by rw [hml]; rfl) (Steps.refl _) (argsL := [(.ref x1)]) (rest := []) (lenOf pd_13 rfl) rfl (lz rfl) (hb hby d6_17) (fun _ _ => ⟨rfl, rfl, (by decide : 4 + 0 ≤ _), (by decide : 28 + 0 ≤ _)⟩)
 dsimp only [Pt.U, Pt.locs, Pt.cells, Pt.slots] at X32 l32 y32 z32 st32 hQ32
 obtain rfl : k32 = 4 := y32
 obtain rfl : n32 = 28 := z32
 obtain ⟨rfl, N32q, K32, q32_0, q32_1, q32_2, q32_3⟩ := hQ32
 have N32 : Fr n0 L32 := by rw [l32]; exact Fr.app N20 N32q
 have Ks33 := Ks21.trans K32 (allS (Or.inr (Nat.le_trans Kr.1 (Nat.le_of_eq g1.symm))) (allS (Or.inr (Nat.le_trans Ks2.1 l3_0)) all0))
 have Os33 := Os21.keep K32 (allS (Nat.le_trans Z0 (Nat.le_of_eq g1.symm)) (allS (Nat.le_trans Zs2 l3_0) all0))
 have Cs33 := Cs21.trans (CHr.keep K32 (sfS (Safe.exa hZ12.alike f23 (by decide) (by decide)) (sfS sf22 sf0)) Cs21.1)
 have sf34 := (Safe.keep K32 (sfS (Safe.exa hZ12.alike f23 (by decide) (by decide)) (sfS sf22 sf0)) Cs21.1 sf22)
 have hk33 := Nat.le_trans hk21 K32.1
 obtain ⟨w35, T35, h35, kq35, wb35, kb35, X35, e35, E35, hS35, hkq35, hZ35, hown35, Ex35, Fc35, Fv35, Va35, la35, lb35, Cq35, -, hne35, st35⟩ := ldcCH X32 hx hZ12 hown12 (wd hw 257 rfl) wS rfl hS12 hk33 hEL (mg 12 rfl) Cs33.1 (vs := []) (z := (0 : Int32)) ⟨by decide, rfl⟩ (by decide) rfl (g := (mkF m 25 #[lI 1, lR x1] [(.ref b1)])) rfl (hb hby d6_25) (n := 0) (by decide) (by decide) (by decide) (by decide)
 have Os36 := Os33.ext E35
 have Ks36 := Ks33.ext E35
 have Cs36 := Cs33.trans Cq35
 have sf37 := (Cq35.safe (q32_3).lt sf34)
 have Vl35 : bA Z h35 wb35 kb35 0 lit_13 := Va35
 have f38 := ((f23.keep K32).ext E35)
 have f39 := (q32_1.ext E35)
 have f40 := (q32_0.ext E35)
 have f41 := (q32_3.ext E35)
 have f42 := (q32_2.ext E35)
 obtain ⟨cq43, kq43, q43a, q43b, q43c⟩ := isOf hZ35 e35 f38
 obtain ⟨_, _, ⟨T43, L43, k43, n43⟩, -, X43, ⟨Lc43, hQ43, l43, y43, z43⟩, st43⟩ := X35.virtualBack hx (y := M23) (z := M23) hown35 (mvT hZ35 (wd hw 76 rfl)) (mvT hZ35 (wd hw 77 rfl)) (notFace_of_selects (args := #[]) (mvT hZ35 (wd hw 79 rfl))) (mvT hZ35 (wd hw 79 rfl)) (mvT hZ35 (wd hw 78 rfl)) (by decide) (backOf (W := 0) (rm13_25 l Z a0 hw [] cz dg fm b1 w35 wb35 kb35 0 lit_13 ((1 + 1) + d4) b3_0 k3_0 16 ((([(vI 49)] : List Value) ++ lit_11) ++ u5) h35 n0 Os36 P Ex35 Fv35 Vl35 Fc35 f40 f38 f39 f41 f42 (by omega) (by decide) (by (try simp only [List.length_append, List.length_cons, List.length_nil, len_0, len_1, len_2, len_3, len_4, len_5, len_6, len_7, len_8, len_9, len_10, len_11, len_12, len_13]) <;> omega) (by (try simp only [List.length_append, List.length_cons, List.length_nil, len_0, len_1, len_2, len_3, len_4, len_5, len_6, len_7, len_8, len_9, len_10, len_11, len_12, len_13]) <;> omega) (Nat.le_trans Zs2 l3_0) (by decide) (by omega) (by decide) nz8 (Nat.le_trans Z0 (Nat.le_of_eq g1.symm)) (Ne.symm nz8)) hZ35 (wd hw 80 rfl) (wd hw 16 rfl) (by decide) (by decide)) q43a q43c (g := (mkF m 32 #[lI 1, lR x1] [(.ref w35), (.ref b1)])) rfl (by rw [hml]; rfl) (Steps.refl _) (argsL := [(.ref w35)]) (rest := []) (lenOf pd_13 rfl) rfl (lz rfl) (hb hby d6_32) (fun _ _ => ⟨rfl, e35, (by decide : 6 + 0 ≤ _), (by decide : 32 + 0 ≤ _)⟩)
 dsimp only [Pt.U, Pt.locs, Pt.cells, Pt.slots] at X43 l43 y43 z43 st43 hQ43
 obtain rfl : k43 = 6 := y43
 obtain rfl : n43 = 32 := z43
 obtain ⟨rfl, N43q, K43, q43_0, q43_1, q43_2, q43_3⟩ := hQ43
 have N43 : Fr n0 L43 := by rw [l43]; exact Fr.app N32 N43q
 have Ks44 := Ks36.trans K43 (allS (Or.inr (Nat.le_trans Kr.1 (Nat.le_of_eq g1.symm))) (allS (Or.inr (Nat.le_trans Ks2.1 l3_0)) all0))
 have Os44 := Os36.keep K43 (allS (Nat.le_trans Z0 (Nat.le_of_eq g1.symm)) (allS (Nat.le_trans Zs2 l3_0) all0))
 have Cs44 := Cs36.trans (CHr.keep K43 (sfS (Safe.exa hZ35.alike f38 (by decide) (by decide)) (sfS sf37 sf0)) Cs36.1)
 have hk44 := Nat.le_trans hkq35 K43.1
 have f46 := (f38.keep K43)
 obtain ⟨cq47, kq47, q47a, q47b, q47c⟩ := isOf hZ35 rfl f46
 obtain ⟨_, _, ⟨T47, L47, k47, n47⟩, -, X47, ⟨Lc47, hQ47, l47, y47, z47⟩, st47⟩ := X43.virtualBack hx (y := M33) (z := M33) hown35 (mvT hZ35 (wd hw 119 rfl)) (mvT hZ35 (wd hw 120 rfl)) (notFace_of_selects (args := #[]) (mvT hZ35 (wd hw 122 rfl))) (mvT hZ35 (wd hw 122 rfl)) (mvT hZ35 (wd hw 121 rfl)) (by decide) (backOf (W := 0) (rm20_35 l Z a0 hw [] cz dg fm b1 b3_0 (((1 + 1) + d4) + 0) k3_0 16 (((([(vI 49)] : List Value) ++ lit_11) ++ u5) ++ lit_13) T43.heap n0 Os44 P f46 q43_1 q43_0 q43_2 q43_3 (by omega) (by omega) (by decide) (by omega) (by omega) (by omega) (by decide) (by omega) (by decide) (by (try simp only [List.length_append, List.length_cons, List.length_nil, len_0, len_1, len_2, len_3, len_4, len_5, len_6, len_7, len_8, len_9, len_10, len_11, len_12, len_13]) <;> omega) (by omega) (by omega)) hZ35 (wd hw 123 rfl) (wd hw 16 rfl) (by decide) (by decide)) q47a q47c (g := (mkF m 35 #[lI 1, lR x1] [(.ref b1)])) rfl (by rw [hml]; rfl) (Steps.refl _) (argsL := []) (rest := []) (lenOf pd_20 rfl) rfl (lz rfl) (hb hby d6_35) (fun _ _ => ⟨rfl, rfl, (by decide : 6 + 2 ≤ _), (by decide : 32 + 146 ≤ _)⟩)
 dsimp only [Pt.U, Pt.locs, Pt.cells, Pt.slots] at X47 l47 y47 z47 st47 hQ47
 obtain rfl : k47 = 8 := y47
 obtain rfl : n47 = 178 := z47
 obtain ⟨b47_0, b47_1, k47_0, rfl, N47q, K47, l47_0, l47_1, q47_0, q47_1, q47_2, q47_3⟩ := hQ47
 have N47 : Fr n0 L47 := by rw [l47]; exact Fr.app N43 N47q
 have Ks50 := Ks44.trans K47 all0
 have Cs50 := Cs44.trans (CHr.keep K47 sf0 Cs44.1)
 have hk50 := Nat.le_trans hk44 K47.1
 have Cend := Cs50.trans (CHv.at X47 hZ35 hEL Cs50.1)
 obtain ⟨fs, hr, hrun, hended, hREW⟩ := X47.leaveW hS35 hk50 (v := some (.ref b47_0)) (fun h => by rw [Bd.returns] at h; cases h)
 refine ⟨_, _, pre0 _ ?_, hrun, hended, _, _, rfl, ?_, ?_, own_rew hREW (by decide) (by decide)⟩
 · show SH s₁ 0 #[lI 1, lR x1] []
   refine st1 _ ?_
   show SH T1 3 #[lI 1, lR x1] [(.ref b1)]
   refine XS.dup X1.here hx rfl (hb hby d6_3) rfl rfl ?_
   show SH T1 4 #[lI 1, lR x1] [(.ref b1), (.ref b1)]
   refine st3.trans ?_
   show SH T3 7 #[lI 1, lR x1] [(.ref b1)]
   refine XS.iloadN X3.here hx rfl (hb hby d6_7) rfl ?_
   show SH T3 8 #[lI 1, lR x1] [(vI 1), (.ref b1)]
   refine st9.trans ?_
   show SH T9 11 #[lI 1, lR x1] [(.ref b1)]
   refine st12 _ ?_
   show SH T12 13 #[lI 1, lR x1] [(.ref w12), (.ref b1)]
   refine st20.trans ?_
   show SH T20 16 #[lI 1, lR x1] [(.ref b1)]
   refine XS.aloadN X20.here hx rfl (hb hby d6_16) rfl rfl ?_
   show SH T20 17 #[lI 1, lR x1] [(.ref x1), (.ref b1)]
   refine st32.trans ?_
   show SH T32 20 #[lI 1, lR x1] [(.ref b1)]
   refine XS.iloadN X32.here hx rfl (hb hby d6_20) rfl ?_
   show SH T32 21 #[lI 1, lR x1] [(vI 1), (.ref b1)]
   refine XS.iconst X32.here hx rfl (hb hby d6_21) ?_
   show SH T32 22 #[lI 1, lR x1] [(vI 1), (vI 1), (.ref b1)]
   refine XS.icmpNo X32.here hx rfl (hb hby d6_22) rfl (by decide) ?_
   show SH T32 25 #[lI 1, lR x1] [(.ref b1)]
   refine st35 _ ?_
   show SH T35 27 #[lI 1, lR x1] [(.ref w35), (.ref b1)]
   refine XS.goto X35.here hx rfl (pc0 := 27) (pc' := 32) rfl (hb hby d6_27) (by decide) (by decide) ?_
   show SH T35 32 #[lI 1, lR x1] [(.ref w35), (.ref b1)]
   refine st43.trans ?_
   show SH T43 35 #[lI 1, lR x1] [(.ref b1)]
   refine st47.trans ?_
   show SH T47 38 #[lI 1, lR x1] [(.ref b47_0)]
   exact retOut X47 hx Bd.returns rfl (Or.inr (Or.inr (Or.inr (Or.inr ⟨rfl, rfl, rfl⟩)))) (hb hby d6_38) hr
 · show QrmC0_1 Z x1 x2 c3 d4 u5 h0 n0 _ T47.heap _
   exact ⟨b47_0, b47_1, k47_0, rfl, N47, Ks50, (Nat.le_trans Ks44.1 l47_0), (Nat.le_trans Ks44.1 l47_1), q47_0, q47_1, q47_2, q47_3⟩
 · rw [hh]
   show CHr Z consts_1 s.vm h0 T47.vm T47.heap
   exact Cend
def QrmC0_2 (Z : State) (x1 : Addr) (x2 : Addr) (c3 : ClassId) (d4 : Nat) (u5 : List Value) (h0 : Heap) (n0 : Nat) (v : Option Value) (h : Heap) (L : List Loc) : Prop := ∃ y1 : Addr, ∃ y2 : Addr, ∃ k1_ : ClassId, v = some (.ref y1) ∧ Fr n0 L ∧ Keep h0 h [] ∧ h0.size ≤ y1 ∧ h0.size ≤ y2 ∧ Exa Z h y1 sS ∧ sC Z h y1 ∧ sV Z h y1 y2 ∧ Arv Z h y2 k1_ .byte (oN ((((1 + 1) + d4) + 1) - 0)) (((([(vI 50)] : List Value) ++ lit_11) ++ u5) ++ lit_12) (vI 0)
theorem rmC0_2 (l : Launch) (Z : State) (a0 : Array Value) (hw : HW Z a0) (ws : List Jvm.Cond) (cz : Int32) (dg : Addr) (fm : Value) (x1 : Addr) (x2 : Addr) (c3 : ClassId) (d4 : Nat) (u5 : List Value) (h0 : Heap) (n0 : Nat) (O0 : Old Z n0 h0) (P : Pins Z cz dg fm) (E_x1 : Exa Z h0 x1 sS) (F_x1_value : sV Z h0 x1 x2) (F_x1_coder : sC Z h0 x1) (V_x2 : bA Z h0 x2 c3 (oN d4) u5) (lt_x2 : x2 < h0.size) (hd0 : d4 ≤ 8) (hd1 : u5.length = d4) :
   MetFree l M34 (head1 (Jvm.Cond.code M34 prog_21_method_11_code 2 (some (.object sS)) :: ws) (rO 6 8 182 91)) (fun a U => a = #[(vI 2), (.ref x1)] ∧ Z.Warmed39 U.vm ∧ U.heap = h0 ∧ CHv Z consts_1 U.vm h0) (fun _ _ _ _ _ => True) (fun _ U o U' => ∃ v L, o = .returned v ∧ QrmC0_2 Z x1 x2 c3 d4 u5 h0 n0 v U'.heap L ∧ CHr Z consts_1 U.vm U.heap U'.vm U'.heap ∧ ReturnedEndW U o U' L (rO 6 8 182 91).cells (rO 6 8 182 91).slots) := by
 refine MetFree.of_bodySF (plainFor_of_name pN1) hisR ?_
 intro p e s m args below meth c s₁ Bd hml0 hP hK
 obtain ⟨rfl, hZ, hh, hCv⟩ := hP
 have hx := Bd.exec
 have hby := Bd.bytes
 have hml : c.maxLocals = 2 := hml0
 have hown : s.vm.findClass sI = some m.cls := findClass_of_methodNamed Bd.named
 have hnm := (name_of_methodNamed Bd.named Bd.method).1
 have X0 : Stand p l e (rO 6 8 182 91) (s.setVm s.vm) m #[(vI 2), (.ref x1)] below meth c s₁ [] 0 0 := Stand.of_body Bd
 have e0 : s₁.heap = h0 := by rw [← hh, Bd.state]; rfl
 have N0 := Fr.nil n0
 have Z0 : n0 ≤ h0.size := O0.1 ▸ O0.2.1
 have pre0 : ∀ t, SG p e below s₁ m 0 #[lI 2, lR x1] [] t → Steps p.tables e below (s₁.setTop (entryFrame m #[(vI 2), (.ref x1)] 2)) t := fun t k => castTop (ef_6_IR m (2 : Int32) x1) k
 have Kr : Keep h0 h0 [] := Keep.refl h0 _
 have hEL : EW Z a0 consts_1 := own_ew hw
 have wS : ∀ d ∈ Bundle.stringAtoms, d.before a0 Z = true := fun d hd => hw d (own_wsa d hd)
 have hS : s.Since s.vm 0 := (State.WarmedH.refl s).since 0
 have hk : 0 ≤ h0.size := Nat.zero_le _
 have C0 : CHr Z consts_1 s.vm h0 s.vm h0 := CHr.refl hCv
 obtain ⟨T1, h1, X1, e1, E1, A1, D1, -, st1⟩ := newO X0 hx hZ hown (wd hw 14 rfl) (wd hw 15 rfl) (wd hw 16 rfl) e0 (g := (mkF m 0 #[lI 2, lR x1] [])) rfl (hb hby d6_0) (by decide) (by decide)
 obtain ⟨b1, g1⟩ : ∃ z, z = (h0).size := ⟨_, rfl⟩
 rw [← g1] at A1 D1 st1
 have Zs2 := Nat.le_trans Z0 E1.1
 have Os2 := O0.ext E1
 have Ks2 := Kr.ext E1
 have Cs2 := C0.trans (CHr.ext E1 C0.1)
 have hk2 := Nat.le_trans hk E1.1
 have D1_value : Fld Z h1 b1 sA "value" "[B" .null := D1 (Or.inl (wd hw 31 rfl)) (ty := (.array .byte)) (by decide)
 have D1_coder : aC Z h1 b1 := D1 (Or.inl (wd hw 33 rfl)) (ty := .byte) (by decide)
 have D1_count : aN Z h1 b1 0 := D1 (Or.inl (wd hw 56 rfl)) (ty := .int) (by decide)
 obtain ⟨_, _, ⟨T3, L3, k3, n3⟩, -, X3, ⟨Lc3, hQ3, l3, y3, z3⟩, st3⟩ := X1.specialBack hx (y := M10) rfl hown (mvT hZ (wd hw 17 rfl)) (mvT hZ (wd hw 18 rfl)) (mvT hZ (wd hw 19 rfl)) (by decide) (backOf (W := 1) (rm4_11 l Z a0 hw [] cz dg fm b1 h1 n0 Os2 P D1_count A1 D1_value (Nat.le_trans Z0 (Nat.le_of_eq g1.symm)) D1_coder) hZ (wd hw 19 rfl) (wd hw 16 rfl) (by decide) (by decide)) (g := (mkF m 4 #[lI 2, lR x1] [(.ref b1), (.ref b1)])) rfl (by rw [hml]; rfl) (Steps.refl _) (a := b1) (argsL := []) (rest := [(.ref b1)]) (lenOf pd_0 rfl) rfl (lz rfl) (hb hby d6_4) (fun _ _ => ⟨rfl, e1, (by decide : 1 + 1 ≤ _), (by decide : 4 + 16 ≤ _)⟩)
 dsimp only [Pt.U, Pt.locs, Pt.cells, Pt.slots] at X3 l3 y3 z3 st3 hQ3
 obtain rfl : k3 = 2 := y3
 obtain rfl : n3 = 20 := z3
 obtain ⟨b3_0, k3_0, rfl, N3q, K3, l3_0, q3_0, q3_1, q3_2, q3_3⟩ := hQ3
 have N3 : Fr n0 L3 := by rw [l3]; exact Fr.app N0 N3q
 have sf4 : Safe Z consts_1 s.vm (h1) b3_0 := Safe.new l3_0
 have Ks5 := Ks2.trans K3 (allS (Or.inr (Nat.le_trans Kr.1 (Nat.le_of_eq g1.symm))) all0)
 have Os5 := Os2.keep K3 (allS (Nat.le_trans Z0 (Nat.le_of_eq g1.symm)) all0)
 have Cs5 := Cs2.trans (CHr.keep K3 (sfS (Safe.exa hZ.alike A1 (by decide) (by decide)) sf0) Cs2.1)
 have sf6 := (Safe.keep K3 (sfS (Safe.exa hZ.alike A1 (by decide) (by decide)) sf0) Cs2.1 sf4)
 have hk5 := Nat.le_trans hk2 K3.1
 have f7 := (A1.keep K3)
 have nz8 := (Nat.ne_of_lt (Nat.lt_of_lt_of_le (A1).lt l3_0))
 obtain ⟨cq9, kq9, q9a, q9b, q9c⟩ := isOf hZ rfl f7
 obtain ⟨_, _, ⟨T9, L9, k9, n9⟩, -, X9, ⟨Lc9, hQ9, l9, y9, z9⟩, st9⟩ := X3.virtualBack hx (y := M16) (z := M16) hown (mvT hZ (wd hw 45 rfl)) (mvT hZ (wd hw 46 rfl)) (notFace_of_selects (args := #[]) (mvT hZ (wd hw 48 rfl))) (mvT hZ (wd hw 48 rfl)) (mvT hZ (wd hw 47 rfl)) (by decide) (backOf (W := 0) (rm7_43 l Z a0 hw [] cz dg fm b1 b3_0 k3_0 T3.heap n0 Os5 P q3_0 f7 q3_1 q3_3 q3_2 (Nat.le_trans Zs2 l3_0) nz8 (Nat.le_trans Z0 (Nat.le_of_eq g1.symm)) (Ne.symm nz8)) hZ (wd hw 49 rfl) (wd hw 16 rfl) (by decide) (by decide)) q9a q9c (g := (mkF m 8 #[lI 2, lR x1] [(vI 2), (.ref b1)])) rfl (by rw [hml]; rfl) (Steps.refl _) (argsL := [(vI 2)]) (rest := []) (lenOf pd_6 rfl) rfl (lz rfl) (hb hby d6_8) (fun _ _ => ⟨rfl, rfl, (by decide : 2 + 0 ≤ _), (by decide : 20 + 0 ≤ _)⟩)
 dsimp only [Pt.U, Pt.locs, Pt.cells, Pt.slots] at X9 l9 y9 z9 st9 hQ9
 obtain rfl : k9 = 2 := y9
 obtain rfl : n9 = 20 := z9
 obtain ⟨rfl, N9q, K9, q9_0, q9_1, q9_2, q9_3⟩ := hQ9
 have N9 : Fr n0 L9 := by rw [l9]; exact Fr.app N3 N9q
 have Ks10 := Ks5.trans K9 (allS (Or.inr (Nat.le_trans Kr.1 (Nat.le_of_eq g1.symm))) (allS (Or.inr (Nat.le_trans Ks2.1 l3_0)) all0))
 have Os10 := Os5.keep K9 (allS (Nat.le_trans Z0 (Nat.le_of_eq g1.symm)) (allS (Nat.le_trans Zs2 l3_0) all0))
 have Cs10 := Cs5.trans (CHr.keep K9 (sfS (Safe.exa hZ.alike f7 (by decide) (by decide)) (sfS sf6 sf0)) Cs5.1)
 have sf11 := (Safe.keep K9 (sfS (Safe.exa hZ.alike f7 (by decide) (by decide)) (sfS sf6 sf0)) Cs5.1 sf6)
 have hk10 := Nat.le_trans hk5 K9.1
 obtain ⟨w12, T12, h12, kq12, wb12, kb12, X12, e12, E12, hS12, hkq12, hZ12, hown12, Ex12, Fc12, Fv12, Va12, la12, lb12, Cq12, -, hne12, st12⟩ := ldcCH X9 hx hZ hown (wd hw 75 rfl) wS rfl hS hk10 hEL (mg 11 rfl) Cs10.1 (vs := [(vI 32)]) (z := (1 : Int32)) ⟨by decide, rfl⟩ (by decide) rfl (g := (mkF m 11 #[lI 2, lR x1] [(.ref b1)])) rfl (hb hby d6_11) (n := 4) (by decide) (by decide) (by decide) (by decide)
 have Os13 := Os10.ext E12
 have Ks13 := Ks10.ext E12
 have Cs13 := Cs10.trans Cq12
 have sf14 := (Cq12.safe (q9_3).lt sf11)
 have Vl12 : bA Z h12 wb12 kb12 1 lit_11 := Va12
 have f15 := ((f7.keep K9).ext E12)
 have f16 := (q9_1.ext E12)
 have f17 := (q9_0.ext E12)
 have f18 := (q9_3.ext E12)
 have f19 := (q9_2.ext E12)
 obtain ⟨cq20, kq20, q20a, q20b, q20c⟩ := isOf hZ12 e12 f15
 obtain ⟨_, _, ⟨T20, L20, k20, n20⟩, -, X20, ⟨Lc20, hQ20, l20, y20, z20⟩, st20⟩ := X12.virtualBack hx (y := M23) (z := M23) hown12 (mvT hZ12 (wd hw 76 rfl)) (mvT hZ12 (wd hw 77 rfl)) (notFace_of_selects (args := #[]) (mvT hZ12 (wd hw 79 rfl))) (mvT hZ12 (wd hw 79 rfl)) (mvT hZ12 (wd hw 78 rfl)) (by decide) (backOf (W := 0) (rm13_25 l Z a0 hw [] cz dg fm b1 w12 wb12 kb12 1 lit_11 1 b3_0 k3_0 16 ([(vI 50)] : List Value) h12 n0 Os13 P Ex12 Fv12 Vl12 Fc12 f17 f15 f16 f18 f19 (by decide) (by decide) (by (try simp only [List.length_append, List.length_cons, List.length_nil, len_0, len_1, len_2, len_3, len_4, len_5, len_6, len_7, len_8, len_9, len_10, len_11, len_12, len_13]) <;> omega) (by (try simp only [List.length_append, List.length_cons, List.length_nil, len_0, len_1, len_2, len_3, len_4, len_5, len_6, len_7, len_8, len_9, len_10, len_11, len_12, len_13]) <;> omega) (Nat.le_trans Zs2 l3_0) (by decide) (by decide) (by decide) nz8 (Nat.le_trans Z0 (Nat.le_of_eq g1.symm)) (Ne.symm nz8)) hZ12 (wd hw 80 rfl) (wd hw 16 rfl) (by decide) (by decide)) q20a q20c (g := (mkF m 13 #[lI 2, lR x1] [(.ref w12), (.ref b1)])) rfl (by rw [hml]; rfl) (Steps.refl _) (argsL := [(.ref w12)]) (rest := []) (lenOf pd_13 rfl) rfl (lz rfl) (hb hby d6_13) (fun _ _ => ⟨rfl, e12, (by decide : 4 + 0 ≤ _), (by decide : 28 + 0 ≤ _)⟩)
 dsimp only [Pt.U, Pt.locs, Pt.cells, Pt.slots] at X20 l20 y20 z20 st20 hQ20
 obtain rfl : k20 = 4 := y20
 obtain rfl : n20 = 28 := z20
 obtain ⟨rfl, N20q, K20, q20_0, q20_1, q20_2, q20_3⟩ := hQ20
 have N20 : Fr n0 L20 := by rw [l20]; exact Fr.app N9 N20q
 have Ks21 := Ks13.trans K20 (allS (Or.inr (Nat.le_trans Kr.1 (Nat.le_of_eq g1.symm))) (allS (Or.inr (Nat.le_trans Ks2.1 l3_0)) all0))
 have Os21 := Os13.keep K20 (allS (Nat.le_trans Z0 (Nat.le_of_eq g1.symm)) (allS (Nat.le_trans Zs2 l3_0) all0))
 have Cs21 := Cs13.trans (CHr.keep K20 (sfS (Safe.exa hZ12.alike f15 (by decide) (by decide)) (sfS sf14 sf0)) Cs13.1)
 have sf22 := (Safe.keep K20 (sfS (Safe.exa hZ12.alike f15 (by decide) (by decide)) (sfS sf14 sf0)) Cs13.1 sf14)
 have hk21 := Nat.le_trans hkq12 K20.1
 have f23 := (f15.keep K20)
 have nz24 := (Nat.ne_of_lt (Nat.lt_of_lt_of_le (E_x1).lt (Nat.le_of_eq g1.symm)))
 have nz25 := (Nat.ne_of_lt (Nat.lt_of_lt_of_le ((E_x1.ext E1)).lt l3_0))
 have f26 := (((((F_x1_value.ext E1).keep K3 (ninS nz24 nin0)).keep K9 (ninS nz24 (ninS nz25 nin0))).ext E12).keep K20 (ninS nz24 (ninS nz25 nin0)))
 have nz27 := (Nat.ne_of_lt (Nat.lt_of_lt_of_le (V_x2).lt (Nat.le_of_eq g1.symm)))
 have nz28 := (Nat.ne_of_lt (Nat.lt_of_lt_of_le ((V_x2.ext E1)).lt l3_0))
 have f29 := (((((V_x2.ext E1).keep K3 (ninS nz27 nin0)).keep K9 (ninS nz27 (ninS nz28 nin0))).ext E12).keep K20 (ninS nz27 (ninS nz28 nin0)))
 have f30 := (((((E_x1.ext E1).keep K3).keep K9).ext E12).keep K20)
 have f31 := (((((F_x1_coder.ext E1).keep K3 (ninS nz24 nin0)).keep K9 (ninS nz24 (ninS nz25 nin0))).ext E12).keep K20 (ninS nz24 (ninS nz25 nin0)))
 obtain ⟨cq32, kq32, q32a, q32b, q32c⟩ := isOf hZ12 rfl f23
 obtain ⟨_, _, ⟨T32, L32, k32, n32⟩, -, X32, ⟨Lc32, hQ32, l32, y32, z32⟩, st32⟩ := X20.virtualBack hx (y := M23) (z := M23) hown12 (mvT hZ12 (wd hw 76 rfl)) (mvT hZ12 (wd hw 77 rfl)) (notFace_of_selects (args := #[]) (mvT hZ12 (wd hw 79 rfl))) (mvT hZ12 (wd hw 79 rfl)) (mvT hZ12 (wd hw 78 rfl)) (by decide) (backOf (W := 0) (rm13_25 l Z a0 hw [] cz dg fm b1 x1 x2 c3 d4 u5 (1 + 1) b3_0 k3_0 16 (([(vI 50)] : List Value) ++ lit_11) T20.heap n0 Os21 P f30 f26 f29 f31 q20_0 f23 q20_1 q20_3 q20_2 (by omega) (by decide) (by (try simp only [List.length_append, List.length_cons, List.length_nil, len_0, len_1, len_2, len_3, len_4, len_5, len_6, len_7, len_8, len_9, len_10, len_11, len_12, len_13]) <;> omega) (by (try simp only [List.length_append, List.length_cons, List.length_nil, len_0, len_1, len_2, len_3, len_4, len_5, len_6, len_7, len_8, len_9, len_10, len_11, len_12, len_13]) <;> omega) (Nat.le_trans Zs2 l3_0) (by omega) (by omega) (by omega) nz8 (Nat.le_trans Z0 (Nat.le_of_eq g1.symm)) (Ne.symm nz8)) hZ12 (wd hw 80 rfl) (wd hw 16 rfl) (by decide) (by decide)) q32a q32c (g := (mkF m 17 #[lI 2, lR x1] [(.ref x1), (.ref b1)])) rfl (by rw [hml]; rfl) (Steps.refl _) (argsL := [(.ref x1)]) (rest := []) (lenOf pd_13 rfl) rfl (lz rfl) (hb hby d6_17) (fun _ _ => ⟨rfl, rfl, (by decide : 4 + 0 ≤ _), (by decide : 28 + 0 ≤ _)⟩)
 dsimp only [Pt.U, Pt.locs, Pt.cells, Pt.slots] at X32 l32 y32 z32 st32 hQ32
 obtain rfl : k32 = 4 := y32
 obtain rfl : n32 = 28 := z32
 obtain ⟨rfl, N32q, K32, q32_0, q32_1, q32_2, q32_3⟩ := hQ32
 have N32 : Fr n0 L32 := by rw [l32]; exact Fr.app N20 N32q
 have Ks33 := Ks21.trans K32 (allS (Or.inr (Nat.le_trans Kr.1 (Nat.le_of_eq g1.symm))) (allS (Or.inr (Nat.le_trans Ks2.1 l3_0)) all0))
 have Os33 := Os21.keep K32 (allS (Nat.le_trans Z0 (Nat.le_of_eq g1.symm)) (allS (Nat.le_trans Zs2 l3_0) all0))
 have Cs33 := Cs21.trans (CHr.keep K32 (sfS (Safe.exa hZ12.alike f23 (by decide) (by decide)) (sfS sf22 sf0)) Cs21.1)
 have sf34 := (Safe.keep K32 (sfS (Safe.exa hZ12.alike f23 (by decide) (by decide)) (sfS sf22 sf0)) Cs21.1 sf22)
 have hk33 := Nat.le_trans hk21 K32.1
 obtain ⟨w35, T35, h35, kq35, wb35, kb35, X35, e35, E35, hS35, hkq35, hZ35, hown35, Ex35, Fc35, Fv35, Va35, la35, lb35, Cq35, -, hne35, st35⟩ := ldcCH X32 hx hZ12 hown12 (wd hw 118 rfl) wS rfl hS12 hk33 hEL (mg 13 rfl) Cs33.1 (vs := [(vI 115)]) (z := (1 : Int32)) ⟨by decide, rfl⟩ (by decide) rfl (g := (mkF m 30 #[lI 2, lR x1] [(.ref b1)])) rfl (hb hby d6_30) (n := 4) (by decide) (by decide) (by decide) (by decide)
 have Os36 := Os33.ext E35
 have Ks36 := Ks33.ext E35
 have Cs36 := Cs33.trans Cq35
 have sf37 := (Cq35.safe (q32_3).lt sf34)
 have Vl35 : bA Z h35 wb35 kb35 1 lit_12 := Va35
 have f38 := ((f23.keep K32).ext E35)
 have f39 := (q32_1.ext E35)
 have f40 := (q32_0.ext E35)
 have f41 := (q32_3.ext E35)
 have f42 := (q32_2.ext E35)
 obtain ⟨cq43, kq43, q43a, q43b, q43c⟩ := isOf hZ35 e35 f38
 obtain ⟨_, _, ⟨T43, L43, k43, n43⟩, -, X43, ⟨Lc43, hQ43, l43, y43, z43⟩, st43⟩ := X35.virtualBack hx (y := M23) (z := M23) hown35 (mvT hZ35 (wd hw 76 rfl)) (mvT hZ35 (wd hw 77 rfl)) (notFace_of_selects (args := #[]) (mvT hZ35 (wd hw 79 rfl))) (mvT hZ35 (wd hw 79 rfl)) (mvT hZ35 (wd hw 78 rfl)) (by decide) (backOf (W := 0) (rm13_25 l Z a0 hw [] cz dg fm b1 w35 wb35 kb35 1 lit_12 ((1 + 1) + d4) b3_0 k3_0 16 ((([(vI 50)] : List Value) ++ lit_11) ++ u5) h35 n0 Os36 P Ex35 Fv35 Vl35 Fc35 f40 f38 f39 f41 f42 (by omega) (by decide) (by (try simp only [List.length_append, List.length_cons, List.length_nil, len_0, len_1, len_2, len_3, len_4, len_5, len_6, len_7, len_8, len_9, len_10, len_11, len_12, len_13]) <;> omega) (by (try simp only [List.length_append, List.length_cons, List.length_nil, len_0, len_1, len_2, len_3, len_4, len_5, len_6, len_7, len_8, len_9, len_10, len_11, len_12, len_13]) <;> omega) (Nat.le_trans Zs2 l3_0) (by decide) (by omega) (by decide) nz8 (Nat.le_trans Z0 (Nat.le_of_eq g1.symm)) (Ne.symm nz8)) hZ35 (wd hw 80 rfl) (wd hw 16 rfl) (by decide) (by decide)) q43a q43c (g := (mkF m 32 #[lI 2, lR x1] [(.ref w35), (.ref b1)])) rfl (by rw [hml]; rfl) (Steps.refl _) (argsL := [(.ref w35)]) (rest := []) (lenOf pd_13 rfl) rfl (lz rfl) (hb hby d6_32) (fun _ _ => ⟨rfl, e35, (by decide : 6 + 0 ≤ _), (by decide : 36 + 0 ≤ _)⟩)
 dsimp only [Pt.U, Pt.locs, Pt.cells, Pt.slots] at X43 l43 y43 z43 st43 hQ43
 obtain rfl : k43 = 6 := y43
 obtain rfl : n43 = 36 := z43
 obtain ⟨rfl, N43q, K43, q43_0, q43_1, q43_2, q43_3⟩ := hQ43
 have N43 : Fr n0 L43 := by rw [l43]; exact Fr.app N32 N43q
 have Ks44 := Ks36.trans K43 (allS (Or.inr (Nat.le_trans Kr.1 (Nat.le_of_eq g1.symm))) (allS (Or.inr (Nat.le_trans Ks2.1 l3_0)) all0))
 have Os44 := Os36.keep K43 (allS (Nat.le_trans Z0 (Nat.le_of_eq g1.symm)) (allS (Nat.le_trans Zs2 l3_0) all0))
 have Cs44 := Cs36.trans (CHr.keep K43 (sfS (Safe.exa hZ35.alike f38 (by decide) (by decide)) (sfS sf37 sf0)) Cs36.1)
 have hk44 := Nat.le_trans hkq35 K43.1
 have f46 := (f38.keep K43)
 obtain ⟨cq47, kq47, q47a, q47b, q47c⟩ := isOf hZ35 rfl f46
 obtain ⟨_, _, ⟨T47, L47, k47, n47⟩, -, X47, ⟨Lc47, hQ47, l47, y47, z47⟩, st47⟩ := X43.virtualBack hx (y := M33) (z := M33) hown35 (mvT hZ35 (wd hw 119 rfl)) (mvT hZ35 (wd hw 120 rfl)) (notFace_of_selects (args := #[]) (mvT hZ35 (wd hw 122 rfl))) (mvT hZ35 (wd hw 122 rfl)) (mvT hZ35 (wd hw 121 rfl)) (by decide) (backOf (W := 0) (rm20_35 l Z a0 hw [] cz dg fm b1 b3_0 (((1 + 1) + d4) + 1) k3_0 16 (((([(vI 50)] : List Value) ++ lit_11) ++ u5) ++ lit_12) T43.heap n0 Os44 P f46 q43_1 q43_0 q43_2 q43_3 (by omega) (by omega) (by decide) (by omega) (by omega) (by omega) (by decide) (by omega) (by decide) (by (try simp only [List.length_append, List.length_cons, List.length_nil, len_0, len_1, len_2, len_3, len_4, len_5, len_6, len_7, len_8, len_9, len_10, len_11, len_12, len_13]) <;> omega) (by omega) (by omega)) hZ35 (wd hw 123 rfl) (wd hw 16 rfl) (by decide) (by decide)) q47a q47c (g := (mkF m 35 #[lI 2, lR x1] [(.ref b1)])) rfl (by rw [hml]; rfl) (Steps.refl _) (argsL := []) (rest := []) (lenOf pd_20 rfl) rfl (lz rfl) (hb hby d6_35) (fun _ _ => ⟨rfl, rfl, (by decide : 6 + 2 ≤ _), (by decide : 36 + 146 ≤ _)⟩)
 dsimp only [Pt.U, Pt.locs, Pt.cells, Pt.slots] at X47 l47 y47 z47 st47 hQ47
 obtain rfl : k47 = 8 := y47
 obtain rfl : n47 = 182 := z47
 obtain ⟨b47_0, b47_1, k47_0, rfl, N47q, K47, l47_0, l47_1, q47_0, q47_1, q47_2, q47_3⟩ := hQ47
 have N47 : Fr n0 L47 := by rw [l47]; exact Fr.app N43 N47q
 have Ks50 := Ks44.trans K47 all0
 have Cs50 := Cs44.trans (CHr.keep K47 sf0 Cs44.1)
 have hk50 := Nat.le_trans hk44 K47.1
 have Cend := Cs50.trans (CHv.at X47 hZ35 hEL Cs50.1)
 obtain ⟨fs, hr, hrun, hended, hREW⟩ := X47.leaveW hS35 hk50 (v := some (.ref b47_0)) (fun h => by rw [Bd.returns] at h; cases h)
 refine ⟨_, _, pre0 _ ?_, hrun, hended, _, _, rfl, ?_, ?_, own_rew hREW (by decide) (by decide)⟩
 · show SH s₁ 0 #[lI 2, lR x1] []
   refine st1 _ ?_
   show SH T1 3 #[lI 2, lR x1] [(.ref b1)]
   refine XS.dup X1.here hx rfl (hb hby d6_3) rfl rfl ?_
   show SH T1 4 #[lI 2, lR x1] [(.ref b1), (.ref b1)]
   refine st3.trans ?_
   show SH T3 7 #[lI 2, lR x1] [(.ref b1)]
   refine XS.iloadN X3.here hx rfl (hb hby d6_7) rfl ?_
   show SH T3 8 #[lI 2, lR x1] [(vI 2), (.ref b1)]
   refine st9.trans ?_
   show SH T9 11 #[lI 2, lR x1] [(.ref b1)]
   refine st12 _ ?_
   show SH T12 13 #[lI 2, lR x1] [(.ref w12), (.ref b1)]
   refine st20.trans ?_
   show SH T20 16 #[lI 2, lR x1] [(.ref b1)]
   refine XS.aloadN X20.here hx rfl (hb hby d6_16) rfl rfl ?_
   show SH T20 17 #[lI 2, lR x1] [(.ref x1), (.ref b1)]
   refine st32.trans ?_
   show SH T32 20 #[lI 2, lR x1] [(.ref b1)]
   refine XS.iloadN X32.here hx rfl (hb hby d6_20) rfl ?_
   show SH T32 21 #[lI 2, lR x1] [(vI 2), (.ref b1)]
   refine XS.iconst X32.here hx rfl (hb hby d6_21) ?_
   show SH T32 22 #[lI 2, lR x1] [(vI 1), (vI 2), (.ref b1)]
   refine XS.icmpYes X32.here hx rfl (pc0 := 22) (pc' := 30) rfl (hb hby d6_22) rfl (by decide) (by decide) (by decide) ?_
   show SH T32 30 #[lI 2, lR x1] [(.ref b1)]
   refine st35 _ ?_
   show SH T35 32 #[lI 2, lR x1] [(.ref w35), (.ref b1)]
   refine st43.trans ?_
   show SH T43 35 #[lI 2, lR x1] [(.ref b1)]
   refine st47.trans ?_
   show SH T47 38 #[lI 2, lR x1] [(.ref b47_0)]
   exact retOut X47 hx Bd.returns rfl (Or.inr (Or.inr (Or.inr (Or.inr ⟨rfl, rfl, rfl⟩)))) (hb hby d6_38) hr
 · show QrmC0_2 Z x1 x2 c3 d4 u5 h0 n0 _ T47.heap _
   exact ⟨b47_0, b47_1, k47_0, rfl, N47, Ks50, (Nat.le_trans Ks44.1 l47_0), (Nat.le_trans Ks44.1 l47_1), q47_0, q47_1, q47_2, q47_3⟩
 · rw [hh]
   show CHr Z consts_1 s.vm h0 T47.vm T47.heap
   exact Cend
theorem rmC0 (l : Launch) (Z : State) (a0 : Array Value) (hw : HW Z a0) (ws : List Jvm.Cond) (cz : Int32) (dg : Addr) (fm : Value) (i1 : Int32) (x1 : Addr) (x2 : Addr) (c3 : ClassId) (d4 : Nat) (u5 : List Value) (h0 : Heap) (n0 : Nat) (O0 : Old Z n0 h0) (P : Pins Z cz dg fm) (hN : i1 = (0 : Int32) ∨ i1 = (1 : Int32) ∨ i1 = (2 : Int32)) (E_x1 : Exa Z h0 x1 sS) (F_x1_value : sV Z h0 x1 x2) (F_x1_coder : sC Z h0 x1) (V_x2 : bA Z h0 x2 c3 (oN d4) u5) (lt_x2 : x2 < h0.size) (hd0 : d4 ≤ 8) (hd1 : u5.length = d4) :
   MetFree l M34 (head1 (Jvm.Cond.code M34 prog_21_method_11_code 2 (some (.object sS)) :: ws) (rO 6 8 182 91)) (fun a U => a = #[(.int i1), (.ref x1)] ∧ Z.Warmed39 U.vm ∧ U.heap = h0 ∧ CHv Z consts_1 U.vm h0) (fun _ _ _ _ _ => True) (fun _ U o U' => ∃ v L, o = .returned v ∧ QC Z i1 u5 h0 n0 v U'.heap L ∧ CHr Z consts_1 U.vm U.heap U'.vm U'.heap ∧ ReturnedEndW U o U' L (rO 6 8 182 91).cells (rO 6 8 182 91).slots) := by
 rcases hN with rfl | rfl | rfl
 · refine own_qh (rmC0_0 l Z a0 hw ws cz dg fm x1 x2 c3 d4 u5 h0 n0 O0 P E_x1 F_x1_value F_x1_coder V_x2 lt_x2 hd0 hd1) ?_
   rintro v h L ⟨y1, y2, k, e1, N, K, l1, l2, q1, q2, q3, q4⟩
   exact ⟨y1, y2, k, _, _, rfl, rfl, (own_sl _ _).1, (own_sl _ _).2, e1, N, K, l1, l2, q1, q2, q3, own_sc q4 rfl (by simp only [List.length_append, List.length_cons, List.length_nil, len_0, len_1, len_2, len_3, len_4, len_5, len_6, len_7, len_8, len_9, len_10, len_11, len_12, len_13]; omega)⟩
 · refine own_qh (rmC0_1 l Z a0 hw ws cz dg fm x1 x2 c3 d4 u5 h0 n0 O0 P E_x1 F_x1_value F_x1_coder V_x2 lt_x2 hd0 hd1) ?_
   rintro v h L ⟨y1, y2, k, e1, N, K, l1, l2, q1, q2, q3, q4⟩
   exact ⟨y1, y2, k, _, _, rfl, rfl, (own_sl _ _).1, (own_sl _ _).2, e1, N, K, l1, l2, q1, q2, q3, own_sc q4 rfl (by simp only [List.length_append, List.length_cons, List.length_nil, len_0, len_1, len_2, len_3, len_4, len_5, len_6, len_7, len_8, len_9, len_10, len_11, len_12, len_13]; omega)⟩
 · refine own_qh (rmC0_2 l Z a0 hw ws cz dg fm x1 x2 c3 d4 u5 h0 n0 O0 P E_x1 F_x1_value F_x1_coder V_x2 lt_x2 hd0 hd1) ?_
   rintro v h L ⟨y1, y2, k, e1, N, K, l1, l2, q1, q2, q3, q4⟩
   exact ⟨y1, y2, k, _, _, rfl, rfl, (own_sl _ _).1, (own_sl _ _).2, e1, N, K, l1, l2, q1, q2, q3, own_sc q4 rfl (by simp only [List.length_append, List.length_cons, List.length_nil, len_0, len_1, len_2, len_3, len_4, len_5, len_6, len_7, len_8, len_9, len_10, len_11, len_12, len_13]; omega)⟩
theorem pd_21 : parseMethodDescriptor "(ILjava/lang/String;)Ljava/lang/String;" = some ⟨[.int, (.object sS)], some (.object sS)⟩ := by decide +kernel
theorem d3_16 : decode K3 16 = .ok (.invokevirtual 43, 3) := by decide +kernel
theorem d3_19 : decode K3 19 = .ok (.ldc 47, 2) := by decide +kernel
theorem d3_21 : decode K3 21 = .ok (.invokevirtual 43, 3) := by decide +kernel
theorem d3_24 : decode K3 24 = .ok (.aload_n 0, 1) := by decide +kernel
theorem d3_25 : decode K3 25 = .ok (.getfield 13, 3) := by decide +kernel
theorem d3_28 : decode K3 28 = .ok (.ldc 49, 2) := by decide +kernel
theorem d3_30 : decode K3 30 = .ok (.invokestatic 39, 3) := by decide +kernel
theorem d3_33 : decode K3 33 = .ok (.invokevirtual 43, 3) := by decide +kernel
theorem d10_17 : decode K10 17 = .ok (.aload_n 0, 1) := by decide +kernel
theorem d10_18 : decode K10 18 = .ok (.aload_n 0, 1) := by decide +kernel
theorem d10_19 : decode K10 19 = .ok (.getfield 15, 3) := by decide +kernel
theorem d10_22 : decode K10 22 = .ok (.aload_n 0, 1) := by decide +kernel
theorem d10_23 : decode K10 23 = .ok (.iload_n 1, 1) := by decide +kernel
theorem d10_24 : decode K10 24 = .ok (.invokevirtual 104, 3) := by decide +kernel
theorem d30_0 : decode K30 0 = .ok (.aload_n 0, 1) := by decide +kernel
theorem d30_1 : decode K30 1 = .ok (.getfield 15, 3) := by decide +kernel
theorem d30_4 : decode K30 4 = .ok (.arraylength, 1) := by decide +kernel
theorem d30_5 : decode K30 5 = .ok (.istore_n 2, 1) := by decide +kernel
theorem d30_6 : decode K30 6 = .ok (.iload_n 1, 1) := by decide +kernel
theorem d30_7 : decode K30 7 = .ok (.aload_n 0, 1) := by decide +kernel
theorem d30_8 : decode K30 8 = .ok (.getfield 22, 3) := by decide +kernel
theorem d30_11 : decode K30 11 = .ok (.ishl, 1) := by decide +kernel
theorem d30_12 : decode K30 12 = .ok (.istore_n 3, 1) := by decide +kernel
theorem d30_13 : decode K30 13 = .ok (.iload_n 3, 1) := by decide +kernel
theorem d30_14 : decode K30 14 = .ok (.iload_n 2, 1) := by decide +kernel
theorem d30_15 : decode K30 15 = .ok (.isub, 1) := by decide +kernel
theorem d30_16 : decode K30 16 = .ok (.istore 4, 2) := by decide +kernel
theorem d30_18 : decode K30 18 = .ok (.iload_n 2, 1) := by decide +kernel
theorem d30_19 : decode K30 19 = .ok (.iload 4, 2) := by decide +kernel
theorem d30_21 : decode K30 21 = .ok (.iload_n 2, 1) := by decide +kernel
theorem d30_22 : decode K30 22 = .ok (.iconst 2, 1) := by decide +kernel
theorem d30_23 : decode K30 23 = .ok (.aload_n 0, 1) := by decide +kernel
theorem d30_24 : decode K30 24 = .ok (.getfield 22, 3) := by decide +kernel
theorem d30_27 : decode K30 27 = .ok (.ishl, 1) := by decide +kernel
theorem d30_28 : decode K30 28 = .ok (.iadd, 1) := by decide +kernel
theorem d30_29 : decode K30 29 = .ok (.invokestatic 114, 3) := by decide +kernel
theorem d31_0 : decode K31 0 = .ok (.iload_n 0, 1) := by decide +kernel
theorem d31_1 : decode K31 1 = .ok (.iload_n 1, 1) := by decide +kernel
theorem d31_2 : decode K31 2 = .ok (.iload_n 2, 1) := by decide +kernel
theorem d31_3 : decode K31 3 = .ok (.invokestatic 194, 3) := by decide +kernel
theorem d32_0 : decode K32 0 = .ok (.iload_n 0, 1) := by decide +kernel
theorem d32_1 : decode K32 1 = .ok (.iload_n 1, 1) := by decide +kernel
theorem d32_2 : decode K32 2 = .ok (.if_icmp .lt 7, 3) := by decide +kernel
theorem d32_9 : decode K32 9 = .ok (.iload_n 1, 1) := by decide +kernel
theorem d32_10 : decode K32 10 = .ok (.ireturn, 1) := by decide +kernel
theorem ef_32_II (m : MethodId) (x0 : Int32) (x1 : Int32) : entryFrame m #[(.int x0), (.int x1)] 2 = mkF m 0 #[.val (.int x0), .val (.int x1)] [] := by first | (simp [entryFrame, mkF, argsToLocals, Value.category]; done) | rfl
def Qrm32_47 (Z : State) (d1 : Nat) (d2 : Nat) (h0 : Heap) (n0 : Nat) (v : Option Value) (h : Heap) (L : List Loc) : Prop := v = some (.int (oN d2)) ∧ Fr n0 L ∧ h = h0
theorem rm32_47 (l : Launch) (Z : State) (a0 : Array Value) (hw : HW Z a0) (ws : List Jvm.Cond) (cz : Int32) (dg : Addr) (fm : Value) (d1 : Nat) (d2 : Nat) (h0 : Heap) (n0 : Nat) (O0 : Old Z n0 h0) (P : Pins Z cz dg fm) (hn0 : d1 < d2) (hn1 : d2 < 2147483648) :
   Ctr l M35 (Jvm.Cond.code M35 jdk_29_method_65_code 2 (some .int) :: ws) (rO 0 0 0 0) Z h0 #[(.int (oN d1)), (.int (oN d2))] (Qrm32_47 Z d1 d2 h0 n0) := by
 refine own_body (own := "java/lang/Math") rfl (Jvm.Free.JP.mathPlain rfl (by decide +kernel)) O0 (fun m => ef_32_II m (oN d1) (oN d2)) ?_
 intro p e s m below meth c s₁ Bd hZ hx hby hml hown X0 e0 Z0
 have N0 := Fr.nil n0
 obtain ⟨fs, hr, hrun, hended, hW, hsame⟩ := X0.leave (v := some (.int (oN d2))) (fun h => by rw [Bd.returns] at h; cases h)
 refine ⟨_, _, ?_, hrun, hended, _, _, rfl, ?_, ⟨_, rfl⟩, hW, hsame.mono (by decide) (by decide)⟩
 · show SH s₁ 0 #[lI ((oN d1)), lI ((oN d2))] []
   refine XS.iloadN X0.here hx rfl (hb hby d32_0) rfl ?_
   show SH s₁ 1 #[lI ((oN d1)), lI ((oN d2))] [(.int (oN d1))]
   refine XS.iloadN X0.here hx rfl (hb hby d32_1) rfl ?_
   show SH s₁ 2 #[lI ((oN d1)), lI ((oN d2))] [(.int (oN d2)), (.int (oN d1))]
   refine XS.icmpYes X0.here hx rfl (pc0 := 2) (pc' := 9) rfl (hb hby d32_2) rfl (tlt (show (oN d1) < (oN d2) from own_ltI (A := d1) (B := d2) hn0 hn1)).1 (by decide) (by decide) ?_
   show SH s₁ 9 #[lI ((oN d1)), lI ((oN d2))] []
   refine XS.iloadN X0.here hx rfl (hb hby d32_9) rfl ?_
   show SH s₁ 10 #[lI ((oN d1)), lI ((oN d2))] [(.int (oN d2))]
   exact retI X0 hx Bd.returns (hb hby d32_10) hr
 · exact ⟨rfl, N0, e0⟩
theorem d31_6 : decode K31 6 = .ok (.iadd, 1) := by decide +kernel
theorem d31_7 : decode K31 7 = .ok (.istore_n 3, 1) := by decide +kernel
theorem d31_8 : decode K31 8 = .ok (.iconst 0, 1) := by decide +kernel
theorem d31_9 : decode K31 9 = .ok (.iload_n 3, 1) := by decide +kernel
theorem d31_10 : decode K31 10 = .ok (.if_icmp .ge 11, 3) := by decide +kernel
theorem d31_13 : decode K31 13 = .ok (.iload_n 3, 1) := by decide +kernel
theorem d31_14 : decode K31 14 = .ok (.ldc 200, 2) := by decide +kernel
theorem d31_16 : decode K31 16 = .ok (.if_icmp .gt 5, 3) := by decide +kernel
theorem d31_19 : decode K31 19 = .ok (.iload_n 3, 1) := by decide +kernel
theorem d31_20 : decode K31 20 = .ok (.ireturn, 1) := by decide +kernel
theorem ef_31_III (m : MethodId) (x0 : Int32) (x1 : Int32) (x2 : Int32) : entryFrame m #[(.int x0), (.int x1), (.int x2)] 4 = mkF m 0 #[.val (.int x0), .val (.int x1), .val (.int x2), .unset] [] := by first | (simp [entryFrame, mkF, argsToLocals, Value.category]; done) | rfl
theorem pN4 : plainName "jdk/internal/util/ArraysSupport" = true := by first | (simp [plainName, overriddenIn]; done) | decide +kernel
def Qrm31_48 (Z : State) (d1 : Nat) (d2 : Nat) (d3 : Nat) (h0 : Heap) (n0 : Nat) (v : Option Value) (h : Heap) (L : List Loc) : Prop := v = some (.int (oN (d1 + d3))) ∧ Fr n0 L ∧ h = h0
theorem rm31_48 (l : Launch) (Z : State) (a0 : Array Value) (hw : HW Z a0) (ws : List Jvm.Cond) (cz : Int32) (dg : Addr) (fm : Value) (d1 : Nat) (d2 : Nat) (d3 : Nat) (h0 : Heap) (n0 : Nat) (O0 : Old Z n0 h0) (P : Pins Z cz dg fm) (hn0 : d2 < d3) (hn1 : d3 < 2147483648) (hn2 : 0 < (d1 + d3)) (hn3 : (d1 + d3) < 2147483648) (hn4 : (d1 + d3) ≤ 2147483639) :
   Ctr l M36 (Jvm.Cond.code M36 jdk_48_method_27_code 4 (some .int) :: ws) (rO 1 0 0 14) Z h0 #[(.int (oN d1)), (.int (oN d2)), (.int (oN d3))] (Qrm31_48 Z d1 d2 d3 h0 n0) := by
 refine own_body (own := "jdk/internal/util/ArraysSupport") rfl (plainFor_of_name pN4) O0 (fun m => ef_31_III m (oN d1) (oN d2) (oN d3)) ?_
 intro p e s m below meth c s₁ Bd hZ hx hby hml hown X0 e0 Z0
 have N0 := Fr.nil n0
 obtain ⟨_, _, ⟨T1, L1, k1, n1⟩, -, X1, ⟨Lc1, hQ1, l1, y1, z1⟩, st1⟩ := Jvm.LawKit.callS X0 hx (y := M35) hown (mvT hZ (wd hw 175 rfl)) (mvT hZ (wd hw 176 rfl)) (mvT hZ (wd hw 159 rfl)) (mvT hZ (wd hw 177 rfl)) (by decide) (backOf (W := 1) (rm32_47 l Z a0 hw [] cz dg fm d2 d3 h0 n0 O0 P hn0 hn1) hZ (wd hw 177 rfl) (wd hw 159 rfl) (by decide) (by decide)) (g := (mkF m 3 #[lI ((oN d1)), lI ((oN d2)), lI ((oN d3)), lU] [(.int (oN d3)), (.int (oN d2)), (.int (oN d1))])) rfl (by rw [hml]; rfl) (argsL := [(.int (oN d2)), (.int (oN d3))]) (rest := [(.int (oN d1))]) (lenOf pd_16 rfl) rfl (lz rfl) (hb hby d31_3) (fun _ _ => ⟨rfl, e0, (by decide : 0 + 0 ≤ _), (by decide : 0 + 0 ≤ _)⟩)
 dsimp only [Pt.U, Pt.locs, Pt.cells, Pt.slots] at X1 l1 y1 z1 st1 hQ1
 subst y1 z1
 obtain ⟨rfl, N1q, e1⟩ := hQ1
 have N1 : Fr n0 L1 := by rw [l1]; exact Fr.app N0 N1q
 obtain ⟨fs, hr, hrun, hended, hW, hsame⟩ := X1.leave (v := some (.int (oN (d1 + d3)))) (fun h => by rw [Bd.returns] at h; cases h)
 refine ⟨_, _, ?_, hrun, hended, _, _, rfl, ?_, ⟨_, rfl⟩, hW, hsame.mono (by decide) (by decide)⟩
 · show SH s₁ 0 #[lI ((oN d1)), lI ((oN d2)), lI ((oN d3)), lU] []
   refine XS.iloadN X0.here hx rfl (hb hby d31_0) rfl ?_
   show SH s₁ 1 #[lI ((oN d1)), lI ((oN d2)), lI ((oN d3)), lU] [(.int (oN d1))]
   refine XS.iloadN X0.here hx rfl (hb hby d31_1) rfl ?_
   show SH s₁ 2 #[lI ((oN d1)), lI ((oN d2)), lI ((oN d3)), lU] [(.int (oN d2)), (.int (oN d1))]
   refine XS.iloadN X0.here hx rfl (hb hby d31_2) rfl ?_
   show SH s₁ 3 #[lI ((oN d1)), lI ((oN d2)), lI ((oN d3)), lU] [(.int (oN d3)), (.int (oN d2)), (.int (oN d1))]
   refine st1 _ ?_
   show SH T1 6 #[lI ((oN d1)), lI ((oN d2)), lI ((oN d3)), lU] [(.int (oN d3)), (.int (oN d1))]
   refine XS.iadd X1.here hx rfl (hb hby d31_6) rfl ?_
   show SH T1 7 #[lI ((oN d1)), lI ((oN d2)), lI ((oN d3)), lU] [(.int ((oN d1) + (oN d3)))]
   rw [show ((oN d1) + (oN d3)) = (oN (d1 + d3)) from own_addI d1 d3]
   refine XS.istoreN X1.here hx rfl (hb hby d31_7) rfl (l' := #[lI ((oN d1)), lI ((oN d2)), lI ((oN d3)), lI ((oN (d1 + d3)))]) rfl ?_
   show SH T1 8 #[lI ((oN d1)), lI ((oN d2)), lI ((oN d3)), lI ((oN (d1 + d3)))] []
   refine XS.iconst X1.here hx rfl (hb hby d31_8) ?_
   show SH T1 9 #[lI ((oN d1)), lI ((oN d2)), lI ((oN d3)), lI ((oN (d1 + d3)))] [(vI 0)]
   refine XS.iloadN X1.here hx rfl (hb hby d31_9) rfl ?_
   show SH T1 10 #[lI ((oN d1)), lI ((oN d2)), lI ((oN d3)), lI ((oN (d1 + d3)))] [(.int (oN (d1 + d3))), (vI 0)]
   refine XS.icmpNo X1.here hx rfl (hb hby d31_10) rfl (tlt (show (0 : Int32) < (oN (d1 + d3)) from own_ltI (A := 0) (B := (d1 + d3)) hn2 hn3)).2.1 ?_
   show SH T1 13 #[lI ((oN d1)), lI ((oN d2)), lI ((oN d3)), lI ((oN (d1 + d3)))] []
   refine XS.iloadN X1.here hx rfl (hb hby d31_13) rfl ?_
   show SH T1 14 #[lI ((oN d1)), lI ((oN d2)), lI ((oN d3)), lI ((oN (d1 + d3)))] [(.int (oN (d1 + d3)))]
   refine Jvm.Stand.ldcI X1 hx hown (mvT hZ (wd hw 178 rfl)) rfl (hb hby d31_14) ?_
   show SH T1 16 #[lI ((oN d1)), lI ((oN d2)), lI ((oN d3)), lI ((oN (d1 + d3)))] [(vI 2147483639), (.int (oN (d1 + d3)))]
   refine XS.icmpNo X1.here hx rfl (hb hby d31_16) rfl (flt (show ¬ ((2147483639 : Int32) < (oN (d1 + d3))) from own_leI (A := 2147483639) (B := (d1 + d3)) hn4 (by decide))).2.2.1 ?_
   show SH T1 19 #[lI ((oN d1)), lI ((oN d2)), lI ((oN d3)), lI ((oN (d1 + d3)))] []
   refine XS.iloadN X1.here hx rfl (hb hby d31_19) rfl ?_
   show SH T1 20 #[lI ((oN d1)), lI ((oN d2)), lI ((oN d3)), lI ((oN (d1 + d3)))] [(.int (oN (d1 + d3)))]
   exact retI X1 hx Bd.returns (hb hby d31_20) hr
 · exact ⟨rfl, N1, e1⟩
theorem pd_22 : parseMethodDescriptor "(III)I" = some ⟨[.int, .int, .int], some .int⟩ := by decide +kernel
theorem d30_32 : decode K30 32 = .ok (.istore 5, 2) := by decide +kernel
theorem d30_34 : decode K30 34 = .ok (.iload 5, 2) := by decide +kernel
theorem d30_36 : decode K30 36 = .ok (.ldc 39, 2) := by decide +kernel
theorem d30_38 : decode K30 38 = .ok (.if_icmp .ne 13, 3) := by decide +kernel
theorem d30_51 : decode K30 51 = .ok (.iload 5, 2) := by decide +kernel
theorem d30_53 : decode K30 53 = .ok (.aload_n 0, 1) := by decide +kernel
theorem d30_54 : decode K30 54 = .ok (.getfield 22, 3) := by decide +kernel
theorem d30_57 : decode K30 57 = .ok (.ishr, 1) := by decide +kernel
theorem d30_58 : decode K30 58 = .ok (.ireturn, 1) := by decide +kernel
theorem ef_30_RI (m : MethodId) (x0 : Addr) (x1 : Int32) : entryFrame m #[(.ref x0), (.int x1)] 6 = mkF m 0 #[.val (.ref x0), .val (.int x1), .unset, .unset, .unset, .unset] [] := by first | (simp [entryFrame, mkF, argsToLocals, Value.category]; done) | rfl
def Qrm30_49 (Z : State) (x1 : Addr) (d2 : Nat) (x3 : Addr) (c4 : ClassId) (d5 : Nat) (u6 : List Value) (h0 : Heap) (n0 : Nat) (v : Option Value) (h : Heap) (L : List Loc) : Prop := v = some (.int (oN (d5 + (d5 + 2)))) ∧ Fr n0 L ∧ h = h0
theorem rm30_49 (l : Launch) (Z : State) (a0 : Array Value) (hw : HW Z a0) (ws : List Jvm.Cond) (cz : Int32) (dg : Addr) (fm : Value) (x1 : Addr) (d2 : Nat) (x3 : Addr) (c4 : ClassId) (d5 : Nat) (u6 : List Value) (h0 : Heap) (n0 : Nat) (O0 : Old Z n0 h0) (P : Pins Z cz dg fm) (F_x1_value : aV Z h0 x1 x3) (V_x3 : bA Z h0 x3 c4 (oN d5) u6) (F_x1_coder : aC Z h0 x1) (hn0 : d5 ≤ d2) (hn1 : (d2 - d5) < (d5 + 2)) (hn2 : (d5 + 2) < 2147483648) (hn3 : 0 < (d5 + (d5 + 2))) (hn4 : (d5 + (d5 + 2)) < 2147483648) (hn5 : (d5 + (d5 + 2)) ≤ 2147483639) (hn6 : (d5 + (d5 + 2)) ≠ 2147483647) :
   Ctr l M37 (Jvm.Cond.code M37 jdk_68_method_10_code 6 (some .int) :: ws) (rO 2 0 0 29) Z h0 #[(.ref x1), (.int (oN d2))] (Qrm30_49 Z x1 d2 x3 c4 d5 u6 h0 n0) := by
 refine own_body (own := sA) rfl (plainFor_of_name pN3) O0 (fun m => ef_30_RI m x1 (oN d2)) ?_
 intro p e s m below meth c s₁ Bd hZ hx hby hml hown X0 e0 Z0
 have N0 := Fr.nil n0
 obtain ⟨T1, X1, e1, st1⟩ := getF X0 hx hZ hown (host := "") (Or.inl (wd hw 30 rfl)) Via.refl e0 F_x1_value (g := (mkF m 1 #[lR x1, lI ((oN d2)), lU, lU, lU, lU] [(.ref x1)])) rfl rfl (hb hby d30_1)
 obtain ⟨cl2, A2, -, S2, M2, -, -⟩ := id V_x3
 obtain ⟨T3, X3, e3, st3⟩ := getF X1 hx hZ hown (host := "") (Or.inl (wd hw 32 rfl)) Via.refl e1 F_x1_coder (g := (mkF m 8 #[lR x1, lI ((oN d2)), lI ((oN d5)), lU, lU, lU] [(.ref x1), (.int (oN d2))])) rfl rfl (hb hby d30_8)
 obtain ⟨T4, X4, e4, st4⟩ := getF X3 hx hZ hown (host := "") (Or.inl (wd hw 32 rfl)) Via.refl e3 F_x1_coder (g := (mkF m 24 #[lR x1, lI ((oN d2)), lI ((oN d5)), lI ((oN d2)), lI ((oN (d2 - d5))), lU] [(.ref x1), (vI 2), (.int (oN d5)), (.int (oN (d2 - d5))), (.int (oN d5))])) rfl rfl (hb hby d30_24)
 obtain ⟨_, _, ⟨T5, L5, k5, n5⟩, -, X5, ⟨Lc5, hQ5, l5, y5, z5⟩, st5⟩ := Jvm.LawKit.callS X4 hx (y := M36) hown (mvT hZ (wd hw 171 rfl)) (mvT hZ (wd hw 172 rfl)) (mvT hZ (wd hw 173 rfl)) (mvT hZ (wd hw 174 rfl)) (by decide) (backOf (W := 0) (rm31_48 l Z a0 hw [] cz dg fm d5 (d2 - d5) (d5 + 2) h0 n0 O0 P hn1 hn2 hn3 hn4 hn5) hZ (wd hw 174 rfl) (wd hw 173 rfl) (by decide) (by decide)) (g := (mkF m 29 #[lR x1, lI ((oN d2)), lI ((oN d5)), lI ((oN d2)), lI ((oN (d2 - d5))), lU] [(.int (oN (d5 + 2))), (.int (oN (d2 - d5))), (.int (oN d5))])) rfl (by rw [hml]; rfl) (argsL := [(.int (oN d5)), (.int (oN (d2 - d5))), (.int (oN (d5 + 2)))]) (rest := []) (lenOf pd_22 rfl) rfl (lz rfl) (hb hby d30_29) (fun _ _ => ⟨rfl, e4, (by decide : 0 + 0 ≤ _), (by decide : 0 + 0 ≤ _)⟩)
 dsimp only [Pt.U, Pt.locs, Pt.cells, Pt.slots] at X5 l5 y5 z5 st5 hQ5
 subst y5 z5
 obtain ⟨rfl, N5q, e5⟩ := hQ5
 have N5 : Fr n0 L5 := by rw [l5]; exact Fr.app N0 N5q
 obtain ⟨T6, X6, e6, st6⟩ := getF X5 hx hZ hown (host := "") (Or.inl (wd hw 32 rfl)) Via.refl e5 F_x1_coder (g := (mkF m 54 #[lR x1, lI ((oN d2)), lI ((oN d5)), lI ((oN d2)), lI ((oN (d2 - d5))), lI ((oN (d5 + (d5 + 2))))] [(.ref x1), (.int (oN (d5 + (d5 + 2))))])) rfl rfl (hb hby d30_54)
 obtain ⟨fs, hr, hrun, hended, hW, hsame⟩ := X6.leave (v := some (.int (oN (d5 + (d5 + 2))))) (fun h => by rw [Bd.returns] at h; cases h)
 refine ⟨_, _, ?_, hrun, hended, _, _, rfl, ?_, ⟨_, rfl⟩, hW, hsame.mono (by decide) (by decide)⟩
 · show SH s₁ 0 #[lR x1, lI ((oN d2)), lU, lU, lU, lU] []
   refine XS.aloadN X0.here hx rfl (hb hby d30_0) rfl rfl ?_
   show SH s₁ 1 #[lR x1, lI ((oN d2)), lU, lU, lU, lU] [(.ref x1)]
   refine st1 _ ?_
   show SH T1 4 #[lR x1, lI ((oN d2)), lU, lU, lU, lU] [(.ref x3)]
   refine X1.arraylength hx (by rw [e1]; exact A2.1) (State.isArrayOf_alike hZ.alike A2.2.1) (g := (mkF m 4 #[lR x1, lI ((oN d2)), lU, lU, lU, lU] [(.ref x3)])) rfl rfl (hb hby d30_4) _ ?_
   rw [len_of S2 M2]
   refine XS.istoreN X1.here hx rfl (hb hby d30_5) rfl (l' := #[lR x1, lI ((oN d2)), lI ((oN d5)), lU, lU, lU]) rfl ?_
   show SH T1 6 #[lR x1, lI ((oN d2)), lI ((oN d5)), lU, lU, lU] []
   refine XS.iloadN X1.here hx rfl (hb hby d30_6) rfl ?_
   show SH T1 7 #[lR x1, lI ((oN d2)), lI ((oN d5)), lU, lU, lU] [(.int (oN d2))]
   refine XS.aloadN X1.here hx rfl (hb hby d30_7) rfl rfl ?_
   show SH T1 8 #[lR x1, lI ((oN d2)), lI ((oN d5)), lU, lU, lU] [(.ref x1), (.int (oN d2))]
   refine st3 _ ?_
   show SH T3 11 #[lR x1, lI ((oN d2)), lI ((oN d5)), lU, lU, lU] [(vI 0), (.int (oN d2))]
   refine XS.ishl X3.here hx rfl (hb hby d30_11) rfl ?_
   show SH T3 12 #[lR x1, lI ((oN d2)), lI ((oN d5)), lU, lU, lU] [(.int ((oN d2) <<< ((0 : Int32) &&& 31)))]
   rw [(own_sh0 (oN d2)).2]
   refine XS.istoreN X3.here hx rfl (hb hby d30_12) rfl (l' := #[lR x1, lI ((oN d2)), lI ((oN d5)), lI ((oN d2)), lU, lU]) rfl ?_
   show SH T3 13 #[lR x1, lI ((oN d2)), lI ((oN d5)), lI ((oN d2)), lU, lU] []
   refine XS.iloadN X3.here hx rfl (hb hby d30_13) rfl ?_
   show SH T3 14 #[lR x1, lI ((oN d2)), lI ((oN d5)), lI ((oN d2)), lU, lU] [(.int (oN d2))]
   refine XS.iloadN X3.here hx rfl (hb hby d30_14) rfl ?_
   show SH T3 15 #[lR x1, lI ((oN d2)), lI ((oN d5)), lI ((oN d2)), lU, lU] [(.int (oN d5)), (.int (oN d2))]
   refine XS.isub X3.here hx rfl (hb hby d30_15) rfl ?_
   show SH T3 16 #[lR x1, lI ((oN d2)), lI ((oN d5)), lI ((oN d2)), lU, lU] [(.int ((oN d2) - (oN d5)))]
   rw [show ((oN d2) - (oN d5)) = (oN (d2 - d5)) from own_subI (A := d2) (B := d5) hn0]
   refine XS.istore X3.here hx rfl (hb hby d30_16) rfl (l' := #[lR x1, lI ((oN d2)), lI ((oN d5)), lI ((oN d2)), lI ((oN (d2 - d5))), lU]) rfl ?_
   show SH T3 18 #[lR x1, lI ((oN d2)), lI ((oN d5)), lI ((oN d2)), lI ((oN (d2 - d5))), lU] []
   refine XS.iloadN X3.here hx rfl (hb hby d30_18) rfl ?_
   show SH T3 19 #[lR x1, lI ((oN d2)), lI ((oN d5)), lI ((oN d2)), lI ((oN (d2 - d5))), lU] [(.int (oN d5))]
   refine XS.iload X3.here hx rfl (hb hby d30_19) rfl ?_
   show SH T3 21 #[lR x1, lI ((oN d2)), lI ((oN d5)), lI ((oN d2)), lI ((oN (d2 - d5))), lU] [(.int (oN (d2 - d5))), (.int (oN d5))]
   refine XS.iloadN X3.here hx rfl (hb hby d30_21) rfl ?_
   show SH T3 22 #[lR x1, lI ((oN d2)), lI ((oN d5)), lI ((oN d2)), lI ((oN (d2 - d5))), lU] [(.int (oN d5)), (.int (oN (d2 - d5))), (.int (oN d5))]
   refine XS.iconst X3.here hx rfl (hb hby d30_22) ?_
   show SH T3 23 #[lR x1, lI ((oN d2)), lI ((oN d5)), lI ((oN d2)), lI ((oN (d2 - d5))), lU] [(vI 2), (.int (oN d5)), (.int (oN (d2 - d5))), (.int (oN d5))]
   refine XS.aloadN X3.here hx rfl (hb hby d30_23) rfl rfl ?_
   show SH T3 24 #[lR x1, lI ((oN d2)), lI ((oN d5)), lI ((oN d2)), lI ((oN (d2 - d5))), lU] [(.ref x1), (vI 2), (.int (oN d5)), (.int (oN (d2 - d5))), (.int (oN d5))]
   refine st4 _ ?_
   show SH T4 27 #[lR x1, lI ((oN d2)), lI ((oN d5)), lI ((oN d2)), lI ((oN (d2 - d5))), lU] [(vI 0), (vI 2), (.int (oN d5)), (.int (oN (d2 - d5))), (.int (oN d5))]
   refine XS.ishl X4.here hx rfl (hb hby d30_27) rfl ?_
   show SH T4 28 #[lR x1, lI ((oN d2)), lI ((oN d5)), lI ((oN d2)), lI ((oN (d2 - d5))), lU] [(.int ((2 : Int32) <<< ((0 : Int32) &&& 31))), (.int (oN d5)), (.int (oN (d2 - d5))), (.int (oN d5))]
   rw [show ((2 : Int32) <<< ((0 : Int32) &&& 31)) = (2 : Int32) from by decide]
   refine XS.iadd X4.here hx rfl (hb hby d30_28) rfl ?_
   show SH T4 29 #[lR x1, lI ((oN d2)), lI ((oN d5)), lI ((oN d2)), lI ((oN (d2 - d5))), lU] [(.int ((oN d5) + (2 : Int32))), (.int (oN (d2 - d5))), (.int (oN d5))]
   rw [show ((oN d5) + (2 : Int32)) = (oN (d5 + 2)) from own_addI d5 2]
   refine st5 _ ?_
   show SH T5 32 #[lR x1, lI ((oN d2)), lI ((oN d5)), lI ((oN d2)), lI ((oN (d2 - d5))), lU] [(.int (oN (d5 + (d5 + 2))))]
   refine XS.istore X5.here hx rfl (hb hby d30_32) rfl (l' := #[lR x1, lI ((oN d2)), lI ((oN d5)), lI ((oN d2)), lI ((oN (d2 - d5))), lI ((oN (d5 + (d5 + 2))))]) rfl ?_
   show SH T5 34 #[lR x1, lI ((oN d2)), lI ((oN d5)), lI ((oN d2)), lI ((oN (d2 - d5))), lI ((oN (d5 + (d5 + 2))))] []
   refine XS.iload X5.here hx rfl (hb hby d30_34) rfl ?_
   show SH T5 36 #[lR x1, lI ((oN d2)), lI ((oN d5)), lI ((oN d2)), lI ((oN (d2 - d5))), lI ((oN (d5 + (d5 + 2))))] [(.int (oN (d5 + (d5 + 2))))]
   refine Jvm.Stand.ldcI X5 hx hown (mvT hZ (wd hw 179 rfl)) rfl (hb hby d30_36) ?_
   show SH T5 38 #[lR x1, lI ((oN d2)), lI ((oN d5)), lI ((oN d2)), lI ((oN (d2 - d5))), lI ((oN (d5 + (d5 + 2))))] [(vI 2147483647), (.int (oN (d5 + (d5 + 2))))]
   refine XS.icmpYes X5.here hx rfl (pc0 := 38) (pc' := 51) rfl (hb hby d30_38) rfl (feq (show ¬ ((oN (d5 + (d5 + 2))) = (2147483647 : Int32)) from own_neI (A := (d5 + (d5 + 2))) (B := 2147483647) hn6 hn4 (by decide))).2 (by decide) (by decide) ?_
   show SH T5 51 #[lR x1, lI ((oN d2)), lI ((oN d5)), lI ((oN d2)), lI ((oN (d2 - d5))), lI ((oN (d5 + (d5 + 2))))] []
   refine XS.iload X5.here hx rfl (hb hby d30_51) rfl ?_
   show SH T5 53 #[lR x1, lI ((oN d2)), lI ((oN d5)), lI ((oN d2)), lI ((oN (d2 - d5))), lI ((oN (d5 + (d5 + 2))))] [(.int (oN (d5 + (d5 + 2))))]
   refine XS.aloadN X5.here hx rfl (hb hby d30_53) rfl rfl ?_
   show SH T5 54 #[lR x1, lI ((oN d2)), lI ((oN d5)), lI ((oN d2)), lI ((oN (d2 - d5))), lI ((oN (d5 + (d5 + 2))))] [(.ref x1), (.int (oN (d5 + (d5 + 2))))]
   refine st6 _ ?_
   show SH T6 57 #[lR x1, lI ((oN d2)), lI ((oN d5)), lI ((oN d2)), lI ((oN (d2 - d5))), lI ((oN (d5 + (d5 + 2))))] [(vI 0), (.int (oN (d5 + (d5 + 2))))]
   refine XS.ishr X6.here hx rfl (hb hby d30_57) rfl ?_
   show SH T6 58 #[lR x1, lI ((oN d2)), lI ((oN d5)), lI ((oN d2)), lI ((oN (d2 - d5))), lI ((oN (d5 + (d5 + 2))))] [(.int ((oN (d5 + (d5 + 2))) >>> ((0 : Int32) &&& 31)))]
   rw [(own_sh0 (oN (d5 + (d5 + 2)))).1]
   exact retI X6 hx Bd.returns (hb hby d30_58) hr
 · exact ⟨rfl, N5, e6⟩
theorem d10_27 : decode K10 27 = .ok (.aload_n 0, 1) := by decide +kernel
theorem d10_28 : decode K10 28 = .ok (.getfield 22, 3) := by decide +kernel
theorem d10_31 : decode K10 31 = .ok (.ishl, 1) := by decide +kernel
theorem d10_32 : decode K10 32 = .ok (.invokestatic 108, 3) := by decide +kernel
theorem d33_0 : decode K33 0 = .ok (.iload_n 1, 1) := by decide +kernel
theorem d33_1 : decode K33 1 = .ok (.aload_n 0, 1) := by decide +kernel
theorem d33_2 : decode K33 2 = .ok (.arraylength, 1) := by decide +kernel
theorem d33_3 : decode K33 3 = .ok (.if_icmp .ne 11, 3) := by decide +kernel
theorem d33_14 : decode K33 14 = .ok (.iload_n 1, 1) := by decide +kernel
theorem d33_15 : decode K33 15 = .ok (.newarray .byte, 2) := by decide +kernel
theorem d33_17 : decode K33 17 = .ok (.astore_n 2, 1) := by decide +kernel
theorem d33_18 : decode K33 18 = .ok (.aload_n 0, 1) := by decide +kernel
theorem d33_19 : decode K33 19 = .ok (.iconst 0, 1) := by decide +kernel
theorem d33_20 : decode K33 20 = .ok (.aload_n 2, 1) := by decide +kernel
theorem d33_21 : decode K33 21 = .ok (.iconst 0, 1) := by decide +kernel
theorem d33_22 : decode K33 22 = .ok (.aload_n 0, 1) := by decide +kernel
theorem d33_23 : decode K33 23 = .ok (.arraylength, 1) := by decide +kernel
theorem d33_24 : decode K33 24 = .ok (.iload_n 1, 1) := by decide +kernel
theorem d33_25 : decode K33 25 = .ok (.invokestatic 304, 3) := by decide +kernel
theorem d29_5 : decode K29 5 = .ok (.iload_n 0, 1) := by decide +kernel
theorem d29_6 : decode K29 6 = .ok (.goto 4, 3) := by decide +kernel
def Qrm29_50 (Z : State) (d1 : Nat) (d2 : Nat) (h0 : Heap) (n0 : Nat) (v : Option Value) (h : Heap) (L : List Loc) : Prop := v = some (.int (oN d1)) ∧ Fr n0 L ∧ h = h0
theorem rm29_50 (l : Launch) (Z : State) (a0 : Array Value) (hw : HW Z a0) (ws : List Jvm.Cond) (cz : Int32) (dg : Addr) (fm : Value) (d1 : Nat) (d2 : Nat) (h0 : Heap) (n0 : Nat) (O0 : Old Z n0 h0) (P : Pins Z cz dg fm) (hn0 : d1 ≤ d2) (hn1 : d2 < 2147483648) :
   Ctr l M28 (Jvm.Cond.code M28 jdk_29_method_69_code 2 (some .int) :: ws) (rO 0 0 0 0) Z h0 #[(.int (oN d1)), (.int (oN d2))] (Qrm29_50 Z d1 d2 h0 n0) := by
 refine own_body (own := "java/lang/Math") rfl (Jvm.Free.JP.mathPlain rfl (by decide +kernel)) O0 (fun m => ef_29_II m (oN d1) (oN d2)) ?_
 intro p e s m below meth c s₁ Bd hZ hx hby hml hown X0 e0 Z0
 have N0 := Fr.nil n0
 obtain ⟨fs, hr, hrun, hended, hW, hsame⟩ := X0.leave (v := some (.int (oN d1))) (fun h => by rw [Bd.returns] at h; cases h)
 refine ⟨_, _, ?_, hrun, hended, _, _, rfl, ?_, ⟨_, rfl⟩, hW, hsame.mono (by decide) (by decide)⟩
 · show SH s₁ 0 #[lI ((oN d1)), lI ((oN d2))] []
   refine XS.iloadN X0.here hx rfl (hb hby d29_0) rfl ?_
   show SH s₁ 1 #[lI ((oN d1)), lI ((oN d2))] [(.int (oN d1))]
   refine XS.iloadN X0.here hx rfl (hb hby d29_1) rfl ?_
   show SH s₁ 2 #[lI ((oN d1)), lI ((oN d2))] [(.int (oN d2)), (.int (oN d1))]
   refine XS.icmpNo X0.here hx rfl (hb hby d29_2) rfl (flt (show ¬ ((oN d2) < (oN d1)) from own_leI (A := d2) (B := d1) hn0 hn1)).2.2.1 ?_
   show SH s₁ 5 #[lI ((oN d1)), lI ((oN d2))] []
   refine XS.iloadN X0.here hx rfl (hb hby d29_5) rfl ?_
   show SH s₁ 6 #[lI ((oN d1)), lI ((oN d2))] [(.int (oN d1))]
   refine XS.goto X0.here hx rfl (pc0 := 6) (pc' := 10) rfl (hb hby d29_6) (by decide) (by decide) ?_
   show SH s₁ 10 #[lI ((oN d1)), lI ((oN d2))] [(.int (oN d1))]
   exact retI X0 hx Bd.returns (hb hby d29_10) hr
 · exact ⟨rfl, N0, e0⟩
theorem d33_28 : decode K33 28 = .ok (.invokestatic 150, 3) := by decide +kernel
theorem d33_31 : decode K33 31 = .ok (.aload_n 2, 1) := by decide +kernel
theorem d33_32 : decode K33 32 = .ok (.areturn, 1) := by decide +kernel
theorem ef_33_RI (m : MethodId) (x0 : Addr) (x1 : Int32) : entryFrame m #[(.ref x0), (.int x1)] 3 = mkF m 0 #[.val (.ref x0), .val (.int x1), .unset] [] := by first | (simp [entryFrame, mkF, argsToLocals, Value.category]; done) | rfl
def Qrm33_51 (Z : State) (x1 : Addr) (d2 : Nat) (c3 : ClassId) (d4 : Nat) (u5 : List Value) (h0 : Heap) (n0 : Nat) (v : Option Value) (h : Heap) (L : List Loc) : Prop := ∃ y1 : Addr, ∃ k1_ : ClassId, v = some (.ref y1) ∧ Fr n0 L ∧ Keep h0 h [] ∧ h0.size ≤ y1 ∧ bA Z h y1 k1_ (oN d2) u5
theorem rm33_51 (l : Launch) (Z : State) (a0 : Array Value) (hw : HW Z a0) (ws : List Jvm.Cond) (cz : Int32) (dg : Addr) (fm : Value) (x1 : Addr) (d2 : Nat) (c3 : ClassId) (d4 : Nat) (u5 : List Value) (h0 : Heap) (n0 : Nat) (O0 : Old Z n0 h0) (P : Pins Z cz dg fm) (V_x1 : bA Z h0 x1 c3 (oN d4) u5) (hn0 : d2 ≠ d4) (hn1 : d2 < 2147483648) (hn2 : d4 < 2147483648) (hn3 : d2 ≤ 142) (hn4 : d4 ≤ d2) (hn5 : u5.length ≤ d4) (hn6 : d4 ≤ d4) (hn7 : 0 + d4 ≤ d2) :
   Ctr l M38 (Jvm.Cond.code M38 jdk_65_method_121_code 3 (some (.array .byte)) :: ws) (rO 1 1 142 18) Z h0 #[(.ref x1), (.int (oN d2))] (Qrm33_51 Z x1 d2 c3 d4 u5 h0 n0) := by
 refine own_body (own := "java/util/Arrays") rfl (plainFor_of_name pN8) O0 (fun m => ef_33_RI m x1 (oN d2)) ?_
 intro p e s m below meth c s₁ Bd hZ hx hby hml hown X0 e0 Z0
 have N0 := Fr.nil n0
 have Kr : Keep h0 h0 [] := Keep.refl h0 _
 obtain ⟨cl1, A1, -, S1, M1, -, -⟩ := id V_x1
 obtain ⟨T2, h2, k2, X2, e2, E2, A2, st2⟩ := newP X0 hx hZ (wd hw 29 rfl) e0 (g := (mkF m 15 #[lR x1, lI ((oN d2)), lU] [(.int (oN d2))])) rfl (hb hby d33_15) rfl (own_nn (A := d2) hn1) (cap := 142) (by rw [own_tn (A := d2) hn1]; exact hn3) (by decide) (by decide) (by decide)
 obtain ⟨b2, g2⟩ : ∃ z, z = (h0).size := ⟨_, rfl⟩
 rw [← g2] at A2 st2
 have V2 : bA Z h2 b2 k2 (oN d2) [] := Arv.new A2 (own_nn (A := d2) hn1)
 have Os3 := O0.ext E2
 have Ks3 := Kr.ext E2
 have f4 := (V_x1.ext E2)
 obtain ⟨cl5, A5, -, S5, M5, -, -⟩ := id f4
 obtain ⟨_, _, ⟨T6, L6, k6, n6⟩, -, X6, ⟨Lc6, hQ6, l6, y6, z6⟩, st6⟩ := Jvm.LawKit.callS X2 hx (y := M28) hown (mvT hZ (wd hw 157 rfl)) (mvT hZ (wd hw 158 rfl)) (mvT hZ (wd hw 159 rfl)) (mvT hZ (wd hw 160 rfl)) (by decide) (backOf (W := 4) (rm29_50 l Z a0 hw [] cz dg fm d4 d2 h2 n0 Os3 P hn4 hn1) hZ (wd hw 160 rfl) (wd hw 159 rfl) (by decide) (by decide)) (g := (mkF m 25 #[lR x1, lI ((oN d2)), lR b2] [(.int (oN d2)), (.int (oN d4)), (vI 0), (.ref b2), (vI 0), (.ref x1)])) rfl (by rw [hml]; rfl) (argsL := [(.int (oN d4)), (.int (oN d2))]) (rest := [(vI 0), (.ref b2), (vI 0), (.ref x1)]) (lenOf pd_16 rfl) rfl (lz rfl) (hb hby d33_25) (fun _ _ => ⟨rfl, e2, (by decide : 1 + 0 ≤ _), (by decide : 142 + 0 ≤ _)⟩)
 dsimp only [Pt.U, Pt.locs, Pt.cells, Pt.slots] at X6 l6 y6 z6 st6 hQ6
 subst y6 z6
 obtain ⟨rfl, N6q, e6⟩ := hQ6
 have N6 : Fr n0 L6 := by rw [l6]; exact Fr.app N0 N6q
 obtain ⟨T7, h7, L7, X7, e7, N7, K7, V7, st7⟩ := own_cp X6 hx hZ hown (wd hw 161 rfl) (wd hw 117 rfl) (wd hw 115 rfl) (wd hw 116 rfl) e6 (ZA := d4) (ZB := d2) (DP := 0) (N := d4) f4 V2 rfl hn5 hn6 hn7 hn2 hn1 N6 (Nat.le_trans Z0 (Nat.le_of_eq g2.symm)) (g := (mkF m 28 #[lR x1, lI ((oN d2)), lR b2] [(.int (oN d4)), (vI 0), (.ref b2), (vI 0), (.ref x1)])) rfl (by rw [hml]; rfl) rfl (hb hby d33_28) (by decide) (W' := 0) (lz rfl) (by decide)
 have Vz7 : bA Z h7 b2 k2 (oN d2) u5 := V7
 have Ks8 := Ks3.trans K7 (allS (Or.inr (Nat.le_trans Kr.1 (Nat.le_of_eq g2.symm))) all0)
 obtain ⟨fs, hr, hrun, hended, hW, hsame⟩ := X7.leave (v := some (.ref b2)) (fun h => by rw [Bd.returns] at h; cases h)
 refine ⟨_, _, ?_, hrun, hended, _, _, rfl, ?_, ⟨_, rfl⟩, hW, hsame.mono (by decide) (by decide)⟩
 · show SH s₁ 0 #[lR x1, lI ((oN d2)), lU] []
   refine XS.iloadN X0.here hx rfl (hb hby d33_0) rfl ?_
   show SH s₁ 1 #[lR x1, lI ((oN d2)), lU] [(.int (oN d2))]
   refine XS.aloadN X0.here hx rfl (hb hby d33_1) rfl rfl ?_
   show SH s₁ 2 #[lR x1, lI ((oN d2)), lU] [(.ref x1), (.int (oN d2))]
   refine X0.arraylength hx (by rw [e0]; exact A1.1) (State.isArrayOf_alike hZ.alike A1.2.1) (g := (mkF m 2 #[lR x1, lI ((oN d2)), lU] [(.ref x1), (.int (oN d2))])) rfl rfl (hb hby d33_2) _ ?_
   rw [len_of S1 M1]
   refine XS.icmpYes X0.here hx rfl (pc0 := 3) (pc' := 14) rfl (hb hby d33_3) rfl (feq (show ¬ ((oN d2) = (oN d4)) from own_neI (A := d2) (B := d4) hn0 hn1 hn2)).2 (by decide) (by decide) ?_
   show SH s₁ 14 #[lR x1, lI ((oN d2)), lU] []
   refine XS.iloadN X0.here hx rfl (hb hby d33_14) rfl ?_
   show SH s₁ 15 #[lR x1, lI ((oN d2)), lU] [(.int (oN d2))]
   refine st2 _ ?_
   show SH T2 17 #[lR x1, lI ((oN d2)), lU] [(.ref b2)]
   refine XS.astoreN X2.here hx rfl (hb hby d33_17) rfl rfl (l' := #[lR x1, lI ((oN d2)), lR b2]) rfl ?_
   show SH T2 18 #[lR x1, lI ((oN d2)), lR b2] []
   refine XS.aloadN X2.here hx rfl (hb hby d33_18) rfl rfl ?_
   show SH T2 19 #[lR x1, lI ((oN d2)), lR b2] [(.ref x1)]
   refine XS.iconst X2.here hx rfl (hb hby d33_19) ?_
   show SH T2 20 #[lR x1, lI ((oN d2)), lR b2] [(vI 0), (.ref x1)]
   refine XS.aloadN X2.here hx rfl (hb hby d33_20) rfl rfl ?_
   show SH T2 21 #[lR x1, lI ((oN d2)), lR b2] [(.ref b2), (vI 0), (.ref x1)]
   refine XS.iconst X2.here hx rfl (hb hby d33_21) ?_
   show SH T2 22 #[lR x1, lI ((oN d2)), lR b2] [(vI 0), (.ref b2), (vI 0), (.ref x1)]
   refine XS.aloadN X2.here hx rfl (hb hby d33_22) rfl rfl ?_
   show SH T2 23 #[lR x1, lI ((oN d2)), lR b2] [(.ref x1), (vI 0), (.ref b2), (vI 0), (.ref x1)]
   refine X2.arraylength hx (by rw [e2]; exact A5.1) (State.isArrayOf_alike hZ.alike A5.2.1) (g := (mkF m 23 #[lR x1, lI ((oN d2)), lR b2] [(.ref x1), (vI 0), (.ref b2), (vI 0), (.ref x1)])) rfl rfl (hb hby d33_23) _ ?_
   rw [len_of S5 M5]
   refine XS.iloadN X2.here hx rfl (hb hby d33_24) rfl ?_
   show SH T2 25 #[lR x1, lI ((oN d2)), lR b2] [(.int (oN d2)), (.int (oN d4)), (vI 0), (.ref b2), (vI 0), (.ref x1)]
   refine st6 _ ?_
   show SH T6 28 #[lR x1, lI ((oN d2)), lR b2] [(.int (oN d4)), (vI 0), (.ref b2), (vI 0), (.ref x1)]
   refine st7 _ ?_
   show SH T7 31 #[lR x1, lI ((oN d2)), lR b2] []
   refine XS.aloadN X7.here hx rfl (hb hby d33_31) rfl rfl ?_
   show SH T7 32 #[lR x1, lI ((oN d2)), lR b2] [(.ref b2)]
   exact retOut X7 hx Bd.returns rfl (Or.inr (Or.inr (Or.inr (Or.inr ⟨rfl, rfl, rfl⟩)))) (hb hby d33_32) hr
 · show Qrm33_51 Z x1 d2 c3 d4 u5 h0 n0 _ T7.heap _
   rw [e7]
   exact ⟨b2, k2, rfl, N7, Ks8, (Nat.le_trans Kr.1 (Nat.le_of_eq g2.symm)), Vz7⟩
theorem pd_23 : parseMethodDescriptor "([BI)[B" = some ⟨[(.array .byte), .int], some (.array .byte)⟩ := by decide +kernel
theorem d10_35 : decode K10 35 = .ok (.putfield 15, 3) := by decide +kernel
def Qrm10_52 (Z : State) (x1 : Addr) (d2 : Nat) (d3 : Nat) (x4 : Addr) (c5 : ClassId) (d6 : Nat) (u7 : List Value) (h0 : Heap) (n0 : Nat) (v : Option Value) (h : Heap) (L : List Loc) : Prop := ∃ y1 : Addr, ∃ k1_ : ClassId, v = none ∧ Fr n0 L ∧ Keep h0 h [x1] ∧ h0.size ≤ y1 ∧ aN Z h x1 (oN d3) ∧ aV Z h x1 y1 ∧ aC Z h x1 ∧ Arv Z h y1 k1_ .byte (oN (d6 + (d6 + 2))) u7 (vI 0)
theorem rm10_52 (l : Launch) (Z : State) (a0 : Array Value) (hw : HW Z a0) (ws : List Jvm.Cond) (cz : Int32) (dg : Addr) (fm : Value) (x1 : Addr) (d2 : Nat) (d3 : Nat) (x4 : Addr) (c5 : ClassId) (d6 : Nat) (u7 : List Value) (h0 : Heap) (n0 : Nat) (O0 : Old Z n0 h0) (P : Pins Z cz dg fm) (F_x1_count : aN Z h0 x1 (oN d3)) (F_x1_value : aV Z h0 x1 x4) (V_x4 : bA Z h0 x4 c5 (oN d6) u7) (F_x1_coder : aC Z h0 x1) (hn0 : d6 ≤ d2) (hn1 : 0 < (d2 - d6)) (hn2 : (d2 - d6) < 2147483648) (E_x1 : Exa Z h0 x1 sB) (hn3 : (d2 - d6) < (d6 + 2)) (hn4 : (d6 + 2) < 2147483648) (hn5 : 0 < (d6 + (d6 + 2))) (hn6 : (d6 + (d6 + 2)) < 2147483648) (hn7 : (d6 + (d6 + 2)) ≤ 2147483639) (hn8 : (d6 + (d6 + 2)) ≠ 2147483647) (hn9 : (d6 + (d6 + 2)) ≠ d6) (hn10 : d6 < 2147483648) (hn11 : (d6 + (d6 + 2)) ≤ 142) (hn12 : d6 ≤ (d6 + (d6 + 2))) (hn13 : u7.length ≤ d6) (hn14 : d6 ≤ d6) (hn15 : 0 + d6 ≤ (d6 + (d6 + 2))) (g_x1 : n0 ≤ x1) :
   Ctr l M12 (Jvm.Cond.code M12 jdk_68_method_9_code 3 none :: ws) (rO 3 1 142 48) Z h0 #[(.ref x1), (.int (oN d2))] (Qrm10_52 Z x1 d2 d3 x4 c5 d6 u7 h0 n0) := by
 refine own_body (own := sA) rfl (plainFor_of_name pN3) O0 (fun m => ef_10_RI m x1 (oN d2)) ?_
 intro p e s m below meth c s₁ Bd hZ hx hby hml hown X0 e0 Z0
 have N0 := Fr.nil n0
 have Kr : Keep h0 h0 [x1] := Keep.refl h0 _
 obtain ⟨T1, X1, e1, st1⟩ := getF X0 hx hZ hown (host := "") (Or.inl (wd hw 30 rfl)) Via.refl e0 F_x1_value (g := (mkF m 1 #[lR x1, lI ((oN d2)), lU] [(.ref x1)])) rfl rfl (hb hby d10_1)
 obtain ⟨cl2, A2, -, S2, M2, -, -⟩ := id V_x4
 obtain ⟨T3, X3, e3, st3⟩ := getF X1 hx hZ hown (host := "") (Or.inl (wd hw 32 rfl)) Via.refl e1 F_x1_coder (g := (mkF m 6 #[lR x1, lI ((oN d2)), lU] [(.ref x1), (.int (oN d6))])) rfl rfl (hb hby d10_6)
 obtain ⟨T4, X4, e4, st4⟩ := getF X3 hx hZ hown (host := "") (Or.inl (wd hw 30 rfl)) Via.refl e3 F_x1_value (g := (mkF m 19 #[lR x1, lI ((oN d2)), lI ((oN d6))] [(.ref x1), (.ref x1)])) rfl rfl (hb hby d10_19)
 obtain ⟨cq5, kq5, q5a, q5b, q5c⟩ := isOf hZ e4 E_x1
 obtain ⟨_, _, ⟨T5, L5, k5, n5⟩, -, X5, ⟨Lc5, hQ5, l5, y5, z5⟩, st5⟩ := X4.virtualBack hx (y := M37) (z := M37) hown (mvT hZ (wd hw 166 rfl)) (mvT hZ (own_decl (wd hw 167 rfl) (wd hw 170 rfl))) (notFace_of_selects (args := #[]) (mvT hZ (wd hw 169 rfl))) (mvT hZ (wd hw 169 rfl)) (mvT hZ (wd hw 167 rfl)) (by decide) (backOf (W := 2) (rm30_49 l Z a0 hw [] cz dg fm x1 d2 x4 c5 d6 u7 h0 n0 O0 P F_x1_value V_x4 F_x1_coder hn0 hn3 hn4 hn5 hn6 hn7 hn8) hZ (wd hw 170 rfl) (wd hw 24 rfl) (by decide) (by decide)) q5a q5c (g := (mkF m 24 #[lR x1, lI ((oN d2)), lI ((oN d6))] [(.int (oN d2)), (.ref x1), (.ref x4), (.ref x1)])) rfl (by rw [hml]; rfl) (Steps.refl _) (argsL := [(.int (oN d2))]) (rest := [(.ref x4), (.ref x1)]) (lenOf pd_2 rfl) rfl (lz rfl) (hb hby d10_24) (fun _ _ => ⟨rfl, e4, (by decide : 0 + 0 ≤ _), (by decide : 0 + 0 ≤ _)⟩)
 dsimp only [Pt.U, Pt.locs, Pt.cells, Pt.slots] at X5 l5 y5 z5 st5 hQ5
 subst y5 z5
 obtain ⟨rfl, N5q, e5⟩ := hQ5
 have N5 : Fr n0 L5 := by rw [l5]; exact Fr.app N0 N5q
 obtain ⟨T6, X6, e6, st6⟩ := getF X5 hx hZ hown (host := "") (Or.inl (wd hw 32 rfl)) Via.refl e5 F_x1_coder (g := (mkF m 28 #[lR x1, lI ((oN d2)), lI ((oN d6))] [(.ref x1), (.int (oN (d6 + (d6 + 2)))), (.ref x4), (.ref x1)])) rfl rfl (hb hby d10_28)
 obtain ⟨_, _, ⟨T7, L7, k7, n7⟩, -, X7, ⟨Lc7, hQ7, l7, y7, z7⟩, st7⟩ := Jvm.LawKit.callS X6 hx (y := M38) hown (mvT hZ (wd hw 180 rfl)) (mvT hZ (wd hw 181 rfl)) (mvT hZ (wd hw 149 rfl)) (mvT hZ (wd hw 182 rfl)) (by decide) (backOf (W := 1) (rm33_51 l Z a0 hw [] cz dg fm x4 (d6 + (d6 + 2)) c5 d6 u7 h0 n0 O0 P V_x4 hn9 hn6 hn10 hn11 hn12 hn13 hn14 hn15) hZ (wd hw 182 rfl) (wd hw 149 rfl) (by decide) (by decide)) (g := (mkF m 32 #[lR x1, lI ((oN d2)), lI ((oN d6))] [(.int (oN (d6 + (d6 + 2)))), (.ref x4), (.ref x1)])) rfl (by rw [hml]; rfl) (argsL := [(.ref x4), (.int (oN (d6 + (d6 + 2))))]) (rest := [(.ref x1)]) (lenOf pd_23 rfl) rfl (lz rfl) (hb hby d10_32) (fun _ _ => ⟨rfl, e6, (by decide : 0 + 1 ≤ _), (by decide : 0 + 142 ≤ _)⟩)
 dsimp only [Pt.U, Pt.locs, Pt.cells, Pt.slots] at X7 l7 y7 z7 st7 hQ7
 subst y7 z7
 obtain ⟨b7_0, k7_0, rfl, N7q, K7, l7_0, q7_0⟩ := hQ7
 have N7 : Fr n0 L7 := by rw [l7]; exact Fr.app N5 N7q
 have Ks8 := Kr.trans K7 all0
 have f9 := (E_x1.keep K7)
 have f10 := (F_x1_value.keep K7 nin0)
 obtain ⟨T11, h11, X11, e11, W11, st11⟩ := putF X7 hx hZ hown (host := "") (Or.inl (wd hw 30 rfl)) Via.refl rfl f10 f9 (Or.inl (wd hw 31 rfl)) (wd hw 15 rfl) (ty := (.array .byte)) (by decide) rfl rfl (g := (mkF m 35 #[lR x1, lI ((oN d2)), lI ((oN d6))] [(.ref b7_0), (.ref x1)])) rfl rfl (hb hby d10_35)
 have Ks12 := Ks8.wr W11 (Or.inl (mg 0 rfl))
 have Fw11 := Fld.same W11 f10
 have N11 := Fr.snoc X11 N7 g_x1
 have f13 := (Fld.other W11 (F_x1_count.keep K7 nin0) (Or.inr (slot_ne (Or.inl (wd hw 56 rfl)) (Or.inl (wd hw 31 rfl)) (by decide) (t := .int) (t' := (.array .byte)) (by decide) (by decide))))
 have f14 := (Fld.other W11 (F_x1_coder.keep K7 nin0) (Or.inr (slot_ne (Or.inl (wd hw 33 rfl)) (Or.inl (wd hw 31 rfl)) (by decide) (t := .byte) (t' := (.array .byte)) (by decide) (by decide))))
 have nz15 := (Nat.ne_of_lt (Nat.lt_of_lt_of_le (E_x1).lt l7_0))
 have f16 := (q7_0.other W11 (Ne.symm nz15))
 obtain ⟨fs, hr, hrun, hended, hW, hsame⟩ := X11.leave (v := none) (fun _ => rfl)
 refine ⟨_, _, ?_, hrun, hended, _, _, rfl, ?_, ⟨_, rfl⟩, hW, hsame.mono (by decide) (by decide)⟩
 · show SH s₁ 0 #[lR x1, lI ((oN d2)), lU] []
   refine XS.aloadN X0.here hx rfl (hb hby d10_0) rfl rfl ?_
   show SH s₁ 1 #[lR x1, lI ((oN d2)), lU] [(.ref x1)]
   refine st1 _ ?_
   show SH T1 4 #[lR x1, lI ((oN d2)), lU] [(.ref x4)]
   refine X1.arraylength hx (by rw [e1]; exact A2.1) (State.isArrayOf_alike hZ.alike A2.2.1) (g := (mkF m 4 #[lR x1, lI ((oN d2)), lU] [(.ref x4)])) rfl rfl (hb hby d10_4) _ ?_
   rw [len_of S2 M2]
   refine XS.aloadN X1.here hx rfl (hb hby d10_5) rfl rfl ?_
   show SH T1 6 #[lR x1, lI ((oN d2)), lU] [(.ref x1), (.int (oN d6))]
   refine st3 _ ?_
   show SH T3 9 #[lR x1, lI ((oN d2)), lU] [(vI 0), (.int (oN d6))]
   refine XS.ishr X3.here hx rfl (hb hby d10_9) rfl ?_
   show SH T3 10 #[lR x1, lI ((oN d2)), lU] [(.int ((oN d6) >>> ((0 : Int32) &&& 31)))]
   rw [(own_sh0 (oN d6)).1]
   refine XS.istoreN X3.here hx rfl (hb hby d10_10) rfl (l' := #[lR x1, lI ((oN d2)), lI ((oN d6))]) rfl ?_
   show SH T3 11 #[lR x1, lI ((oN d2)), lI ((oN d6))] []
   refine XS.iloadN X3.here hx rfl (hb hby d10_11) rfl ?_
   show SH T3 12 #[lR x1, lI ((oN d2)), lI ((oN d6))] [(.int (oN d2))]
   refine XS.iloadN X3.here hx rfl (hb hby d10_12) rfl ?_
   show SH T3 13 #[lR x1, lI ((oN d2)), lI ((oN d6))] [(.int (oN d6)), (.int (oN d2))]
   refine XS.isub X3.here hx rfl (hb hby d10_13) rfl ?_
   show SH T3 14 #[lR x1, lI ((oN d2)), lI ((oN d6))] [(.int ((oN d2) - (oN d6)))]
   rw [show ((oN d2) - (oN d6)) = (oN (d2 - d6)) from own_subI (A := d2) (B := d6) hn0]
   refine XS.ifNo X3.here hx rfl (hb hby d10_14) rfl ((if0 _ _).trans (tlt (show (0 : Int32) < (oN (d2 - d6)) from own_ltI (A := 0) (B := (d2 - d6)) hn1 hn2)).2.2.2) ?_
   show SH T3 17 #[lR x1, lI ((oN d2)), lI ((oN d6))] []
   refine XS.aloadN X3.here hx rfl (hb hby d10_17) rfl rfl ?_
   show SH T3 18 #[lR x1, lI ((oN d2)), lI ((oN d6))] [(.ref x1)]
   refine XS.aloadN X3.here hx rfl (hb hby d10_18) rfl rfl ?_
   show SH T3 19 #[lR x1, lI ((oN d2)), lI ((oN d6))] [(.ref x1), (.ref x1)]
   refine st4 _ ?_
   show SH T4 22 #[lR x1, lI ((oN d2)), lI ((oN d6))] [(.ref x4), (.ref x1)]
   refine XS.aloadN X4.here hx rfl (hb hby d10_22) rfl rfl ?_
   show SH T4 23 #[lR x1, lI ((oN d2)), lI ((oN d6))] [(.ref x1), (.ref x4), (.ref x1)]
   refine XS.iloadN X4.here hx rfl (hb hby d10_23) rfl ?_
   show SH T4 24 #[lR x1, lI ((oN d2)), lI ((oN d6))] [(.int (oN d2)), (.ref x1), (.ref x4), (.ref x1)]
   refine st5.trans ?_
   show SH T5 27 #[lR x1, lI ((oN d2)), lI ((oN d6))] [(.int (oN (d6 + (d6 + 2)))), (.ref x4), (.ref x1)]
   refine XS.aloadN X5.here hx rfl (hb hby d10_27) rfl rfl ?_
   show SH T5 28 #[lR x1, lI ((oN d2)), lI ((oN d6))] [(.ref x1), (.int (oN (d6 + (d6 + 2)))), (.ref x4), (.ref x1)]
   refine st6 _ ?_
   show SH T6 31 #[lR x1, lI ((oN d2)), lI ((oN d6))] [(vI 0), (.int (oN (d6 + (d6 + 2)))), (.ref x4), (.ref x1)]
   refine XS.ishl X6.here hx rfl (hb hby d10_31) rfl ?_
   show SH T6 32 #[lR x1, lI ((oN d2)), lI ((oN d6))] [(.int ((oN (d6 + (d6 + 2))) <<< ((0 : Int32) &&& 31))), (.ref x4), (.ref x1)]
   rw [(own_sh0 (oN (d6 + (d6 + 2)))).2]
   refine st7 _ ?_
   show SH T7 35 #[lR x1, lI ((oN d2)), lI ((oN d6))] [(.ref b7_0), (.ref x1)]
   refine st11 _ ?_
   show SH T11 38 #[lR x1, lI ((oN d2)), lI ((oN d6))] []
   exact X11.returnOut hx Bd.returns (hb hby d10_38) hr
 · show Qrm10_52 Z x1 d2 d3 x4 c5 d6 u7 h0 n0 _ T11.heap _
   rw [e11]
   exact ⟨b7_0, k7_0, rfl, N11, Ks12, (Nat.le_trans Kr.1 l7_0), f13, Fw11, f14, f16⟩
def Qrm14_53 (Z : State) (x1 : Addr) (x2 : Addr) (x3 : Addr) (c4 : ClassId) (d5 : Nat) (u6 : List Value) (d7 : Nat) (x8 : Addr) (c9 : ClassId) (d10 : Nat) (u11 : List Value) (h0 : Heap) (n0 : Nat) (v : Option Value) (h : Heap) (L : List Loc) : Prop := ∃ y1 : Addr, ∃ k1_ : ClassId, v = some (.ref x1) ∧ Fr n0 L ∧ Keep h0 h [x1] ∧ h0.size ≤ y1 ∧ Fld Z h x1 sA "count" "I" (.int (oN (d7 + d5))) ∧ aV Z h x1 y1 ∧ aC Z h x1 ∧ Arv Z h y1 k1_ .byte (oN (d10 + (d10 + 2))) (u11 ++ u6) (vI 0)
theorem rm14_53 (l : Launch) (Z : State) (a0 : Array Value) (hw : HW Z a0) (ws : List Jvm.Cond) (cz : Int32) (dg : Addr) (fm : Value) (x1 : Addr) (x2 : Addr) (x3 : Addr) (c4 : ClassId) (d5 : Nat) (u6 : List Value) (d7 : Nat) (x8 : Addr) (c9 : ClassId) (d10 : Nat) (u11 : List Value) (h0 : Heap) (n0 : Nat) (O0 : Old Z n0 h0) (P : Pins Z cz dg fm) (E_x2 : Exa Z h0 x2 sS) (F_x2_value : sV Z h0 x2 x3) (V_x3 : bA Z h0 x3 c4 (oN d5) u6) (F_x2_coder : sC Z h0 x2) (F_x1_count : aN Z h0 x1 (oN d7)) (E_x1 : Exa Z h0 x1 sB) (F_x1_value : aV Z h0 x1 x8) (V_x8 : bA Z h0 x8 c9 (oN d10) u11) (F_x1_coder : aC Z h0 x1) (hn0 : d10 ≤ (d7 + d5)) (hn1 : 0 < ((d7 + d5) - d10)) (hn2 : ((d7 + d5) - d10) < 2147483648) (hn3 : ((d7 + d5) - d10) < (d10 + 2)) (hn4 : (d10 + 2) < 2147483648) (hn5 : 0 < (d10 + (d10 + 2))) (hn6 : (d10 + (d10 + 2)) < 2147483648) (hn7 : (d10 + (d10 + 2)) ≤ 2147483639) (hn8 : (d10 + (d10 + 2)) ≠ 2147483647) (hn9 : (d10 + (d10 + 2)) ≠ d10) (hn10 : d10 < 2147483648) (hn11 : (d10 + (d10 + 2)) ≤ 142) (hn12 : d10 ≤ (d10 + (d10 + 2))) (hn13 : u11.length ≤ d10) (hn14 : d10 ≤ d10) (hn15 : 0 + d10 ≤ (d10 + (d10 + 2))) (g_x1 : n0 ≤ x1) (ne_x2_x1 : x2 ≠ x1) (ne_x3_x1 : x3 ≠ x1) (hn16 : u11.length = d7) (hn17 : u6.length ≤ d5) (hn18 : d5 ≤ d5) (hn19 : d7 + d5 ≤ (d10 + (d10 + 2))) (hn20 : d5 < 2147483648) :
   Ctr l M22 (Jvm.Cond.code M22 jdk_68_method_22_code 3 (some (.object sA)) :: ws) (rO 4 1 142 62) Z h0 #[(.ref x1), (.ref x2)] (Qrm14_53 Z x1 x2 x3 c4 d5 u6 d7 x8 c9 d10 u11 h0 n0) := by
 refine own_body (own := sA) rfl (plainFor_of_name pN3) O0 (fun m => ef_14_RR m x1 x2) ?_
 intro p e s m below meth c s₁ Bd hZ hx hby hml hown X0 e0 Z0
 have N0 := Fr.nil n0
 have Kr : Keep h0 h0 [x1] := Keep.refl h0 _
 obtain ⟨cq1, kq1, q1a, q1b, q1c⟩ := isOf hZ e0 E_x2
 obtain ⟨_, _, ⟨T1, L1, k1, n1⟩, -, X1, ⟨Lc1, hQ1, l1, y1, z1⟩, st1⟩ := X0.virtualBack hx (y := M18) (z := M18) hown (mvT hZ (wd hw 85 rfl)) (mvT hZ (wd hw 86 rfl)) (notFace_of_selects (args := #[]) (mvT hZ (wd hw 88 rfl))) (mvT hZ (wd hw 88 rfl)) (mvT hZ (wd hw 87 rfl)) (by decide) (backOf (W := 0) (rm15_19 l Z a0 hw [] cz dg fm x2 x3 c4 d5 u6 h0 n0 O0 P F_x2_value V_x3 E_x2 F_x2_coder) hZ (wd hw 89 rfl) (wd hw 28 rfl) (by decide) (by decide)) q1a q1c (g := (mkF m 10 #[lR x1, lR x2, lU] [(.ref x2)])) rfl (by rw [hml]; rfl) (Steps.refl _) (argsL := []) (rest := []) (lenOf pd_8 rfl) rfl (lz rfl) (hb hby d14_10) (fun _ _ => ⟨rfl, e0, (by decide : 0 + 0 ≤ _), (by decide : 0 + 0 ≤ _)⟩)
 dsimp only [Pt.U, Pt.locs, Pt.cells, Pt.slots] at X1 l1 y1 z1 st1 hQ1
 subst y1 z1
 obtain ⟨rfl, N1q, e1⟩ := hQ1
 have N1 : Fr n0 L1 := by rw [l1]; exact Fr.app N0 N1q
 obtain ⟨T2, X2, e2, st2⟩ := getF X1 hx hZ hown (host := "") (Or.inl (wd hw 55 rfl)) Via.refl e1 F_x1_count (g := (mkF m 16 #[lR x1, lR x2, lI ((oN d5))] [(.ref x1), (.ref x1)])) rfl rfl (hb hby d14_16)
 obtain ⟨cq3, kq3, q3a, q3b, q3c⟩ := isOf hZ e2 E_x1
 obtain ⟨_, _, ⟨T3, L3, k3, n3⟩, -, X3, ⟨Lc3, hQ3, l3, y3, z3⟩, st3⟩ := X2.virtualBack hx (y := M12) (z := M12) hown (mvT hZ (wd hw 61 rfl)) (mvT hZ (own_decl (wd hw 62 rfl) (wd hw 65 rfl))) (notFace_of_selects (args := #[]) (mvT hZ (wd hw 64 rfl))) (mvT hZ (wd hw 64 rfl)) (mvT hZ (wd hw 62 rfl)) (by decide) (backOf (W := 0) (rm10_52 l Z a0 hw [] cz dg fm x1 (d7 + d5) d7 x8 c9 d10 u11 h0 n0 O0 P F_x1_count F_x1_value V_x8 F_x1_coder hn0 hn1 hn2 E_x1 hn3 hn4 hn5 hn6 hn7 hn8 hn9 hn10 hn11 hn12 hn13 hn14 hn15 g_x1) hZ (wd hw 65 rfl) (wd hw 24 rfl) (by decide) (by decide)) q3a q3c (g := (mkF m 21 #[lR x1, lR x2, lI ((oN d5))] [(.int (oN (d7 + d5))), (.ref x1)])) rfl (by rw [hml]; rfl) (Steps.refl _) (argsL := [(.int (oN (d7 + d5)))]) (rest := []) (lenOf pd_1 rfl) rfl (lz rfl) (hb hby d14_21) (fun _ _ => ⟨rfl, e2, (by decide : 0 + 1 ≤ _), (by decide : 0 + 142 ≤ _)⟩)
 dsimp only [Pt.U, Pt.locs, Pt.cells, Pt.slots] at X3 l3 y3 z3 st3 hQ3
 subst y3 z3
 obtain ⟨b3_0, k3_0, rfl, N3q, K3, l3_0, q3_0, q3_1, q3_2, q3_3⟩ := hQ3
 have N3 : Fr n0 L3 := by rw [l3]; exact Fr.app N1 N3q
 have Ks4 := Kr.trans K3 (allS (Or.inl (mg 0 rfl)) all0)
 have Os4 := O0.keep K3 (allS g_x1 all0)
 obtain ⟨T5, X5, e5, st5⟩ := getF X3 hx hZ hown (host := "") (Or.inl (wd hw 55 rfl)) Via.refl rfl q3_0 (g := (mkF m 26 #[lR x1, lR x2, lI ((oN d5))] [(.ref x1), (.ref x1)])) rfl rfl (hb hby d14_26)
 have f6 := (E_x1.keep K3)
 have f7 := (E_x2.keep K3)
 have f8 := (F_x2_coder.keep K3 (ninS ne_x2_x1 nin0))
 have f9 := (F_x2_value.keep K3 (ninS ne_x2_x1 nin0))
 have f10 := (V_x3.keep K3 (ninS ne_x3_x1 nin0))
 obtain ⟨cq11, kq11, q11a, q11b, q11c⟩ := isOf hZ e5 f6
 obtain ⟨_, _, ⟨T11, L11, k11, n11⟩, -, X11, ⟨Lc11, hQ11, l11, y11, z11⟩, st11⟩ := X5.virtualBack hx (y := M21) (z := M21) hown (mvT hZ (wd hw 98 rfl)) (mvT hZ (own_decl (wd hw 99 rfl) (wd hw 102 rfl))) (notFace_of_selects (args := #[]) (mvT hZ (wd hw 101 rfl))) (mvT hZ (wd hw 101 rfl)) (mvT hZ (wd hw 99 rfl)) (by decide) (backOf (W := 0) (rm17_23 l Z a0 hw [] cz dg fm x1 d7 x2 b3_0 x3 c4 d5 u6 k3_0 (d10 + (d10 + 2)) u11 T3.heap n0 Os4 P f6 q3_2 f7 f8 q3_1 f9 f10 q3_3 hn16 hn17 (Nat.le_trans Z0 l3_0) hn18 hn19 hn20 hn6) hZ (wd hw 102 rfl) (wd hw 24 rfl) (by decide) (by decide)) q11a q11c (g := (mkF m 30 #[lR x1, lR x2, lI ((oN d5))] [(.ref x2), (.int (oN d7)), (.ref x1)])) rfl (by rw [hml]; rfl) (Steps.refl _) (argsL := [(.int (oN d7)), (.ref x2)]) (rest := []) (lenOf pd_11 rfl) rfl (lz rfl) (hb hby d14_30) (fun _ _ => ⟨rfl, e5, (by decide : 1 + 0 ≤ _), (by decide : 142 + 0 ≤ _)⟩)
 dsimp only [Pt.U, Pt.locs, Pt.cells, Pt.slots] at X11 l11 y11 z11 st11 hQ11
 subst y11 z11
 obtain ⟨rfl, N11q, K11, q11_0⟩ := hQ11
 have N11 : Fr n0 L11 := by rw [l11]; exact Fr.app N3 N11q
 have Ks12 := Ks4.trans K11 (allS (Or.inr (Nat.le_trans Kr.1 l3_0)) all0)
 have nz13 := (Nat.ne_of_lt (Nat.lt_of_lt_of_le (E_x1).lt l3_0))
 have f14 := (q3_0.keep K11 (ninS nz13 nin0))
 obtain ⟨T15, X15, e15, st15⟩ := getF X11 hx hZ hown (host := "") (Or.inl (wd hw 55 rfl)) Via.refl rfl f14 (g := (mkF m 35 #[lR x1, lR x2, lI ((oN d5))] [(.ref x1), (.ref x1)])) rfl rfl (hb hby d14_35)
 have f16 := (f6.keep K11)
 obtain ⟨T17, h17, X17, e17, W17, st17⟩ := putF X15 hx hZ hown (host := "") (Or.inl (wd hw 55 rfl)) Via.refl e15 f14 f16 (Or.inl (wd hw 56 rfl)) (wd hw 15 rfl) (ty := .int) (by decide) rfl rfl (g := (mkF m 40 #[lR x1, lR x2, lI ((oN d5))] [(.int (oN (d7 + d5))), (.ref x1)])) rfl rfl (hb hby d14_40)
 have Ks18 := Ks12.wr W17 (Or.inl (mg 0 rfl))
 have Fw17 := Fld.same W17 f14
 have N17 := Fr.snoc X17 N11 g_x1
 have f19 := (Fld.other W17 (q3_1.keep K11 (ninS nz13 nin0)) (Or.inr (slot_ne (Or.inl (wd hw 31 rfl)) (Or.inl (wd hw 56 rfl)) (by decide) (t := (.array .byte)) (t' := .int) (by decide) (by decide))))
 have f20 := (Fld.other W17 (q3_2.keep K11 (ninS nz13 nin0)) (Or.inr (slot_ne (Or.inl (wd hw 33 rfl)) (Or.inl (wd hw 56 rfl)) (by decide) (t := .byte) (t' := .int) (by decide) (by decide))))
 have f21 := (q11_0.other W17 (Ne.symm nz13))
 obtain ⟨fs, hr, hrun, hended, hW, hsame⟩ := X17.leave (v := some (.ref x1)) (fun h => by rw [Bd.returns] at h; cases h)
 refine ⟨_, _, ?_, hrun, hended, _, _, rfl, ?_, ⟨_, rfl⟩, hW, hsame.mono (by decide) (by decide)⟩
 · show SH s₁ 0 #[lR x1, lR x2, lU] []
   refine XS.aloadN X0.here hx rfl (hb hby d14_0) rfl rfl ?_
   show SH s₁ 1 #[lR x1, lR x2, lU] [(.ref x2)]
   refine XS.ifnonnullYes X0.here hx rfl (pc0 := 1) (pc' := 9) rfl (hb hby d14_1) rfl (by decide) (by decide) ?_
   show SH s₁ 9 #[lR x1, lR x2, lU] []
   refine XS.aloadN X0.here hx rfl (hb hby d14_9) rfl rfl ?_
   show SH s₁ 10 #[lR x1, lR x2, lU] [(.ref x2)]
   refine st1.trans ?_
   show SH T1 13 #[lR x1, lR x2, lU] [(.int (oN d5))]
   refine XS.istoreN X1.here hx rfl (hb hby d14_13) rfl (l' := #[lR x1, lR x2, lI ((oN d5))]) rfl ?_
   show SH T1 14 #[lR x1, lR x2, lI ((oN d5))] []
   refine XS.aloadN X1.here hx rfl (hb hby d14_14) rfl rfl ?_
   show SH T1 15 #[lR x1, lR x2, lI ((oN d5))] [(.ref x1)]
   refine XS.aloadN X1.here hx rfl (hb hby d14_15) rfl rfl ?_
   show SH T1 16 #[lR x1, lR x2, lI ((oN d5))] [(.ref x1), (.ref x1)]
   refine st2 _ ?_
   show SH T2 19 #[lR x1, lR x2, lI ((oN d5))] [(.int (oN d7)), (.ref x1)]
   refine XS.iloadN X2.here hx rfl (hb hby d14_19) rfl ?_
   show SH T2 20 #[lR x1, lR x2, lI ((oN d5))] [(.int (oN d5)), (.int (oN d7)), (.ref x1)]
   refine XS.iadd X2.here hx rfl (hb hby d14_20) rfl ?_
   show SH T2 21 #[lR x1, lR x2, lI ((oN d5))] [(.int ((oN d7) + (oN d5))), (.ref x1)]
   rw [show ((oN d7) + (oN d5)) = (oN (d7 + d5)) from own_addI d7 d5]
   refine st3.trans ?_
   show SH T3 24 #[lR x1, lR x2, lI ((oN d5))] []
   refine XS.aloadN X3.here hx rfl (hb hby d14_24) rfl rfl ?_
   show SH T3 25 #[lR x1, lR x2, lI ((oN d5))] [(.ref x1)]
   refine XS.aloadN X3.here hx rfl (hb hby d14_25) rfl rfl ?_
   show SH T3 26 #[lR x1, lR x2, lI ((oN d5))] [(.ref x1), (.ref x1)]
   refine st5 _ ?_
   show SH T5 29 #[lR x1, lR x2, lI ((oN d5))] [(.int (oN d7)), (.ref x1)]
   refine XS.aloadN X5.here hx rfl (hb hby d14_29) rfl rfl ?_
   show SH T5 30 #[lR x1, lR x2, lI ((oN d5))] [(.ref x2), (.int (oN d7)), (.ref x1)]
   refine st11.trans ?_
   show SH T11 33 #[lR x1, lR x2, lI ((oN d5))] []
   refine XS.aloadN X11.here hx rfl (hb hby d14_33) rfl rfl ?_
   show SH T11 34 #[lR x1, lR x2, lI ((oN d5))] [(.ref x1)]
   refine XS.dup X11.here hx rfl (hb hby d14_34) rfl rfl ?_
   show SH T11 35 #[lR x1, lR x2, lI ((oN d5))] [(.ref x1), (.ref x1)]
   refine st15 _ ?_
   show SH T15 38 #[lR x1, lR x2, lI ((oN d5))] [(.int (oN d7)), (.ref x1)]
   refine XS.iloadN X15.here hx rfl (hb hby d14_38) rfl ?_
   show SH T15 39 #[lR x1, lR x2, lI ((oN d5))] [(.int (oN d5)), (.int (oN d7)), (.ref x1)]
   refine XS.iadd X15.here hx rfl (hb hby d14_39) rfl ?_
   show SH T15 40 #[lR x1, lR x2, lI ((oN d5))] [(.int ((oN d7) + (oN d5))), (.ref x1)]
   rw [show ((oN d7) + (oN d5)) = (oN (d7 + d5)) from own_addI d7 d5]
   refine st17 _ ?_
   show SH T17 43 #[lR x1, lR x2, lI ((oN d5))] []
   refine XS.aloadN X17.here hx rfl (hb hby d14_43) rfl rfl ?_
   show SH T17 44 #[lR x1, lR x2, lI ((oN d5))] [(.ref x1)]
   exact retOut X17 hx Bd.returns rfl (Or.inr (Or.inr (Or.inr (Or.inr ⟨rfl, rfl, rfl⟩)))) (hb hby d14_44) hr
 · show Qrm14_53 Z x1 x2 x3 c4 d5 u6 d7 x8 c9 d10 u11 h0 n0 _ T17.heap _
   rw [e17]
   exact ⟨b3_0, k3_0, rfl, N17, Ks18, (Nat.le_trans Kr.1 l3_0), Fw17, f19, f20, f21⟩
def QrmGf (Z : State) (x1 : Addr) (x2 : Addr) (x3 : Addr) (c4 : ClassId) (d5 : Nat) (u6 : List Value) (d7 : Nat) (x8 : Addr) (c9 : ClassId) (d10 : Nat) (u11 : List Value) (h0 : Heap) (n0 : Nat) (v : Option Value) (h : Heap) (L : List Loc) : Prop := v = some (.ref x1) ∧ Fr n0 L ∧ Keep h0 h [x1, x8] ∧ Fld Z h x1 sA "count" "I" (.int (oN (d7 + d5))) ∧ aV Z h x1 x8 ∧ aC Z h x1 ∧ Arv Z h x8 c9 .byte (oN d10) (u11 ++ u6) (vI 0)
theorem rmGf (l : Launch) (Z : State) (a0 : Array Value) (hw : HW Z a0) (ws : List Jvm.Cond) (cz : Int32) (dg : Addr) (fm : Value) (x1 : Addr) (x2 : Addr) (x3 : Addr) (c4 : ClassId) (d5 : Nat) (u6 : List Value) (d7 : Nat) (x8 : Addr) (c9 : ClassId) (d10 : Nat) (u11 : List Value) (h0 : Heap) (n0 : Nat) (O0 : Old Z n0 h0) (P : Pins Z cz dg fm) (E_x2 : Exa Z h0 x2 sS) (F_x2_value : sV Z h0 x2 x3) (V_x3 : bA Z h0 x3 c4 (oN d5) u6) (F_x2_coder : sC Z h0 x2) (F_x1_count : aN Z h0 x1 (oN d7)) (E_x1 : Exa Z h0 x1 sB) (F_x1_value : aV Z h0 x1 x8) (V_x8 : bA Z h0 x8 c9 (oN d10) u11) (F_x1_coder : aC Z h0 x1) (hn0 : (d7 + d5) ≤ d10) (hn1 : d10 < 2147483648) (hn2 : u11.length = d7) (hn3 : u6.length ≤ d5) (g_x8 : n0 ≤ x8) (hn4 : d5 ≤ d5) (hn5 : d7 + d5 ≤ d10) (hn6 : d5 < 2147483648) (ne_x1_x8 : x1 ≠ x8) (g_x1 : n0 ≤ x1) (ne_x8_x1 : x8 ≠ x1) :
   Ctr l M23 (Jvm.Cond.code M23 jdk_67_method_7_code 2 (some (.object sB)) :: ws) (rO 5 1 142 76) Z h0 #[(.ref x1), (.ref x2)] (QrmGf Z x1 x2 x3 c4 d5 u6 d7 x8 c9 d10 u11 h0 n0) := by
 refine own_body (own := sB) rfl (plainFor_of_name pN5) O0 (fun m => ef_13_RR m x1 x2) ?_
 intro p e s m below meth c s₁ Bd hZ hx hby hml hown X0 e0 Z0
 have N0 := Fr.nil n0
 have Kr : Keep h0 h0 [x1, x8] := Keep.refl h0 _
 obtain ⟨_, _, ⟨T1, L1, k1, n1⟩, -, X1, ⟨Lc1, hQ1, l1, y1, z1⟩, st1⟩ := superBack X0 hx hZ (y := M22) hown (wd hw 81 rfl) (own_same (wd hw 83 rfl) (wd hw 64 rfl) rfl (by decide)) (wd hw 82 rfl) (wd hw 52 rfl) (by decide) (backOf (W := 0) (rm14_24 l Z a0 hw [] cz dg fm x1 x2 x3 c4 d5 u6 d7 x8 c9 d10 u11 h0 n0 O0 P E_x2 F_x2_value V_x3 F_x2_coder F_x1_count E_x1 F_x1_value V_x8 F_x1_coder hn0 hn1 hn2 hn3 g_x8 hn4 hn5 hn6 ne_x1_x8 g_x1 ne_x8_x1) hZ (wd hw 84 rfl) (wd hw 24 rfl) (by decide) (by decide)) e0 (Ins.self E_x1) (g := (mkF m 2 #[lR x1, lR x2] [(.ref x2), (.ref x1)])) rfl (by rw [hml]; rfl) (wd hw 84 rfl) (argsL := [(.ref x2)]) (rest := []) (lenOf pd_12 rfl) rfl (lz rfl) (hb hby d13_2) (fun _ _ => ⟨rfl, e0, (by decide : 0 + 0 ≤ _), (by decide : 0 + 0 ≤ _)⟩)
 dsimp only [Pt.U, Pt.locs, Pt.cells, Pt.slots] at X1 l1 y1 z1 st1 hQ1
 subst y1 z1
 obtain ⟨rfl, N1q, K1, q1_0, q1_1, q1_2, q1_3⟩ := hQ1
 have N1 : Fr n0 L1 := by rw [l1]; exact Fr.app N0 N1q
 have Ks2 := Kr.trans K1 (allS (Or.inl (mg 1 rfl)) (allS (Or.inl (mg 0 rfl)) all0))
 obtain ⟨fs, hr, hrun, hended, hW, hsame⟩ := X1.leave (v := some (.ref x1)) (fun h => by rw [Bd.returns] at h; cases h)
 refine ⟨_, _, ?_, hrun, hended, _, _, rfl, ?_, ⟨_, rfl⟩, hW, hsame.mono (by decide) (by decide)⟩
 · show SH s₁ 0 #[lR x1, lR x2] []
   refine XS.aloadN X0.here hx rfl (hb hby d13_0) rfl rfl ?_
   show SH s₁ 1 #[lR x1, lR x2] [(.ref x1)]
   refine XS.aloadN X0.here hx rfl (hb hby d13_1) rfl rfl ?_
   show SH s₁ 2 #[lR x1, lR x2] [(.ref x2), (.ref x1)]
   refine st1.trans ?_
   show SH T1 5 #[lR x1, lR x2] [(.ref x1)]
   refine XS.pop X1.here hx rfl (hb hby d13_5) rfl rfl ?_
   show SH T1 6 #[lR x1, lR x2] []
   refine XS.aloadN X1.here hx rfl (hb hby d13_6) rfl rfl ?_
   show SH T1 7 #[lR x1, lR x2] [(.ref x1)]
   exact retOut X1 hx Bd.returns rfl (Or.inr (Or.inr (Or.inr (Or.inr ⟨rfl, rfl, rfl⟩)))) (hb hby d13_7) hr
 · show QrmGf Z x1 x2 x3 c4 d5 u6 d7 x8 c9 d10 u11 h0 n0 _ T1.heap _
   exact ⟨rfl, N1, Ks2, q1_0, q1_1, q1_2, q1_3⟩
def QrmGg (Z : State) (x1 : Addr) (x2 : Addr) (x3 : Addr) (c4 : ClassId) (d5 : Nat) (u6 : List Value) (d7 : Nat) (x8 : Addr) (c9 : ClassId) (d10 : Nat) (u11 : List Value) (h0 : Heap) (n0 : Nat) (v : Option Value) (h : Heap) (L : List Loc) : Prop := ∃ y1 : Addr, ∃ k1_ : ClassId, v = some (.ref x1) ∧ Fr n0 L ∧ Keep h0 h [x1] ∧ h0.size ≤ y1 ∧ Fld Z h x1 sA "count" "I" (.int (oN (d7 + d5))) ∧ aV Z h x1 y1 ∧ aC Z h x1 ∧ Arv Z h y1 k1_ .byte (oN (d10 + (d10 + 2))) (u11 ++ u6) (vI 0)
theorem rmGg (l : Launch) (Z : State) (a0 : Array Value) (hw : HW Z a0) (ws : List Jvm.Cond) (cz : Int32) (dg : Addr) (fm : Value) (x1 : Addr) (x2 : Addr) (x3 : Addr) (c4 : ClassId) (d5 : Nat) (u6 : List Value) (d7 : Nat) (x8 : Addr) (c9 : ClassId) (d10 : Nat) (u11 : List Value) (h0 : Heap) (n0 : Nat) (O0 : Old Z n0 h0) (P : Pins Z cz dg fm) (E_x2 : Exa Z h0 x2 sS) (F_x2_value : sV Z h0 x2 x3) (V_x3 : bA Z h0 x3 c4 (oN d5) u6) (F_x2_coder : sC Z h0 x2) (F_x1_count : aN Z h0 x1 (oN d7)) (E_x1 : Exa Z h0 x1 sB) (F_x1_value : aV Z h0 x1 x8) (V_x8 : bA Z h0 x8 c9 (oN d10) u11) (F_x1_coder : aC Z h0 x1) (hn0 : d10 ≤ (d7 + d5)) (hn1 : 0 < ((d7 + d5) - d10)) (hn2 : ((d7 + d5) - d10) < 2147483648) (hn3 : ((d7 + d5) - d10) < (d10 + 2)) (hn4 : (d10 + 2) < 2147483648) (hn5 : 0 < (d10 + (d10 + 2))) (hn6 : (d10 + (d10 + 2)) < 2147483648) (hn7 : (d10 + (d10 + 2)) ≤ 2147483639) (hn8 : (d10 + (d10 + 2)) ≠ 2147483647) (hn9 : (d10 + (d10 + 2)) ≠ d10) (hn10 : d10 < 2147483648) (hn11 : (d10 + (d10 + 2)) ≤ 142) (hn12 : d10 ≤ (d10 + (d10 + 2))) (hn13 : u11.length ≤ d10) (hn14 : d10 ≤ d10) (hn15 : 0 + d10 ≤ (d10 + (d10 + 2))) (g_x1 : n0 ≤ x1) (ne_x2_x1 : x2 ≠ x1) (ne_x3_x1 : x3 ≠ x1) (hn16 : u11.length = d7) (hn17 : u6.length ≤ d5) (hn18 : d5 ≤ d5) (hn19 : d7 + d5 ≤ (d10 + (d10 + 2))) (hn20 : d5 < 2147483648) :
   Ctr l M23 (Jvm.Cond.code M23 jdk_67_method_7_code 2 (some (.object sB)) :: ws) (rO 5 1 142 76) Z h0 #[(.ref x1), (.ref x2)] (QrmGg Z x1 x2 x3 c4 d5 u6 d7 x8 c9 d10 u11 h0 n0) := by
 refine own_body (own := sB) rfl (plainFor_of_name pN5) O0 (fun m => ef_13_RR m x1 x2) ?_
 intro p e s m below meth c s₁ Bd hZ hx hby hml hown X0 e0 Z0
 have N0 := Fr.nil n0
 have Kr : Keep h0 h0 [x1] := Keep.refl h0 _
 obtain ⟨_, _, ⟨T1, L1, k1, n1⟩, -, X1, ⟨Lc1, hQ1, l1, y1, z1⟩, st1⟩ := superBack X0 hx hZ (y := M22) hown (wd hw 81 rfl) (own_same (wd hw 83 rfl) (wd hw 64 rfl) rfl (by decide)) (wd hw 82 rfl) (wd hw 52 rfl) (by decide) (backOf (W := 0) (rm14_53 l Z a0 hw [] cz dg fm x1 x2 x3 c4 d5 u6 d7 x8 c9 d10 u11 h0 n0 O0 P E_x2 F_x2_value V_x3 F_x2_coder F_x1_count E_x1 F_x1_value V_x8 F_x1_coder hn0 hn1 hn2 hn3 hn4 hn5 hn6 hn7 hn8 hn9 hn10 hn11 hn12 hn13 hn14 hn15 g_x1 ne_x2_x1 ne_x3_x1 hn16 hn17 hn18 hn19 hn20) hZ (wd hw 84 rfl) (wd hw 24 rfl) (by decide) (by decide)) e0 (Ins.self E_x1) (g := (mkF m 2 #[lR x1, lR x2] [(.ref x2), (.ref x1)])) rfl (by rw [hml]; rfl) (wd hw 84 rfl) (argsL := [(.ref x2)]) (rest := []) (lenOf pd_12 rfl) rfl (lz rfl) (hb hby d13_2) (fun _ _ => ⟨rfl, e0, (by decide : 0 + 1 ≤ _), (by decide : 0 + 142 ≤ _)⟩)
 dsimp only [Pt.U, Pt.locs, Pt.cells, Pt.slots] at X1 l1 y1 z1 st1 hQ1
 subst y1 z1
 obtain ⟨b1_0, k1_0, rfl, N1q, K1, l1_0, q1_0, q1_1, q1_2, q1_3⟩ := hQ1
 have N1 : Fr n0 L1 := by rw [l1]; exact Fr.app N0 N1q
 have Ks2 := Kr.trans K1 (allS (Or.inl (mg 0 rfl)) all0)
 obtain ⟨fs, hr, hrun, hended, hW, hsame⟩ := X1.leave (v := some (.ref x1)) (fun h => by rw [Bd.returns] at h; cases h)
 refine ⟨_, _, ?_, hrun, hended, _, _, rfl, ?_, ⟨_, rfl⟩, hW, hsame.mono (by decide) (by decide)⟩
 · show SH s₁ 0 #[lR x1, lR x2] []
   refine XS.aloadN X0.here hx rfl (hb hby d13_0) rfl rfl ?_
   show SH s₁ 1 #[lR x1, lR x2] [(.ref x1)]
   refine XS.aloadN X0.here hx rfl (hb hby d13_1) rfl rfl ?_
   show SH s₁ 2 #[lR x1, lR x2] [(.ref x2), (.ref x1)]
   refine st1.trans ?_
   show SH T1 5 #[lR x1, lR x2] [(.ref x1)]
   refine XS.pop X1.here hx rfl (hb hby d13_5) rfl rfl ?_
   show SH T1 6 #[lR x1, lR x2] []
   refine XS.aloadN X1.here hx rfl (hb hby d13_6) rfl rfl ?_
   show SH T1 7 #[lR x1, lR x2] [(.ref x1)]
   exact retOut X1 hx Bd.returns rfl (Or.inr (Or.inr (Or.inr (Or.inr ⟨rfl, rfl, rfl⟩)))) (hb hby d13_7) hr
 · show QrmGg Z x1 x2 x3 c4 d5 u6 d7 x8 c9 d10 u11 h0 n0 _ T1.heap _
   exact ⟨b1_0, k1_0, rfl, N1, Ks2, (Nat.le_trans Kr.1 l1_0), q1_0, q1_1, q1_2, q1_3⟩
def OrB (y x : Addr) (h : Heap) : Prop := y = x ∨ h.size ≤ y
def NeB (x y : Addr) : Prop := x ≠ y
def CapB (m : Nat) : Prop := m = 16 ∨ m = 34 ∨ m = 70 ∨ m = 142
def QG (Z : State) (x1 x8 : Addr) (d5 d7 : Nat) (u6 u11 : List Value) (h0 : Heap) (n0 : Nat) (v : Option Value) (h : Heap) (L : List Loc) : Prop := ∃ y1 : Addr, ∃ k1_ : ClassId, ∃ m1 : Nat, ∃ d' : Nat, ∃ u' : List Value, v = some (.ref x1) ∧ Fr n0 L ∧ Keep h0 h [x1, x8] ∧ OrB y1 x8 h0 ∧ NeB y1 x1 ∧ CapB m1 ∧ d' ≤ m1 ∧ d' = d7 + d5 ∧ u' = u11 ++ u6 ∧ u'.length = d' ∧ aN Z h x1 (oN d') ∧ aV Z h x1 y1 ∧ aC Z h x1 ∧ Arv Z h y1 k1_ .byte (oN m1) u' (vI 0)
theorem own_sg {Z : State} {EL : List (String × Nat)} {vm : Vm} {h : Heap} {x y : Addr} (q : OrB y x h) (S : Safe Z EL vm h x) : Safe Z EL vm h y := Or.elim q (fun e => e ▸ S) Safe.new
theorem own_lg {h0 h : Heap} {x y : Addr} (q : OrB y x h) (a : h0.size ≤ x) (b : h0.size ≤ h.size) : h0.size ≤ y := Or.elim q (fun e => e ▸ a) (Nat.le_trans b)
theorem own_lo {d a b lo s : Nat} (e : d = a + b) (h1 : lo ≤ a) (h2 : s ≤ b) : lo + s ≤ d := by omega
theorem own_hi {d a b hi s : Nat} (e : d = a + b) (h1 : a ≤ hi) (h2 : b ≤ s) : d ≤ hi + s := by omega
theorem own_g4 {d5 d7 d10 lo hi : Nat} (hc : CapB d10) (hle : d7 ≤ d10) (hlo : lo ≤ d7) (hs : d5 ≤ hi) (ok : hi ≤ 17 ∨ 17 ≤ lo ∧ hi ≤ 35) : d5 < d10 + 2 := by
 unfold CapB at hc; omega
theorem own_g5 {a b hi s : Nat} (h1 : a ≤ hi) (h2 : b ≤ s) (ok : hi + s ≤ 142) : a + b ≤ 142 := by omega
theorem own_cb {m : Nat} (h : CapB m) : m < 2147483648 ∧ m ≤ 142 := by unfold CapB at h; omega
theorem own_fin {n c : Nat} {u : List Value} (hc : CapB c) (hle : n ≤ c) (lo : 101 ≤ n) (hi : n ≤ 109) (hu : u.length = n) : n ≠ c ∧ n < 2147483648 ∧ c < 2147483648 ∧ 0 ≤ n ∧ (n - 0) < 2147483648 ∧ (n - 0) ≤ 142 ∧ 0 ≤ c ∧ (n - 0) < (c - 0) ∧ (c - 0) < 2147483648 ∧ u.length ≤ (n - 0) ∧ (n - 0) ≤ c ∧ 0 + (n - 0) ≤ (n - 0) := by
 have hc' : c = 16 ∨ c = 34 ∨ c = 70 ∨ c = 142 := hc
 have e : c = 142 := by omega
 subst e
 refine ⟨by omega, by omega, by omega, by omega, by omega, by omega, by omega, by omega, by omega, by omega, by omega, by omega⟩
theorem rmG (l : Launch) (Z : State) (a0 : Array Value) (hw : HW Z a0) (ws : List Jvm.Cond) (cz : Int32) (dg : Addr) (fm : Value) (x1 : Addr) (x2 : Addr) (x3 : Addr) (c4 : ClassId) (d5 : Nat) (u6 : List Value) (d7 : Nat) (x8 : Addr) (c9 : ClassId) (d10 : Nat) (u11 : List Value) (h0 : Heap) (n0 : Nat) (O0 : Old Z n0 h0) (P : Pins Z cz dg fm) (E_x1 : Exa Z h0 x1 sB) (E_x2 : Exa Z h0 x2 sS) (F_x1_coder : aC Z h0 x1) (F_x1_count : aN Z h0 x1 (oN d7)) (F_x1_value : aV Z h0 x1 x8) (F_x2_coder : sC Z h0 x2) (F_x2_value : sV Z h0 x2 x3) (V_x3 : bA Z h0 x3 c4 (oN d5) u6) (V_x8 : bA Z h0 x8 c9 (oN d10) u11) (g_x1 : n0 ≤ x1) (g_x8 : n0 ≤ x8) (ne_x1_x8 : x1 ≠ x8) (ne_x2_x1 : x2 ≠ x1) (ne_x3_x1 : x3 ≠ x1) (ne_x8_x1 : x8 ≠ x1) (hp0 : u11.length = d7) (hp1 : u6.length = d5) (hp2 : CapB d10) (hp3 : d7 ≤ d10) (hp4 : d5 < d10 + 2) (hp5 : d7 + d5 ≤ 142) :
   Ctr l M23 (Jvm.Cond.code M23 jdk_67_method_7_code 2 (some (.object sB)) :: ws) (rO 5 1 142 76) Z h0 #[(.ref x1), (.ref x2)] (QG Z x1 x8 d5 d7 u6 u11 h0 n0) := by
 have hp2' : d10 = 16 ∨ d10 = 34 ∨ d10 = 70 ∨ d10 = 142 := hp2
 have hul : (u11 ++ u6).length = d7 + d5 := by rw [List.length_append, hp0, hp1]
 by_cases q : d7 + d5 ≤ d10
 · refine own_qq (rmGf l Z a0 hw ws cz dg fm x1 x2 x3 c4 d5 u6 d7 x8 c9 d10 u11 h0 n0 O0 P E_x2 F_x2_value V_x3 F_x2_coder F_x1_count E_x1 F_x1_value V_x8 F_x1_coder (by omega) (by omega) (by omega) (by omega) g_x8 (by omega) (by omega) (by omega) ne_x1_x8 g_x1 ne_x8_x1) ?_
   rintro v h L ⟨e1, N, K, q1, q2, q3, q4⟩
   exact ⟨x8, c9, d10, _, _, e1, N, K, Or.inl rfl, ne_x8_x1, hp2, q, rfl, rfl, hul, q1, q2, q3, q4⟩
 · refine own_qq (rmGg l Z a0 hw ws cz dg fm x1 x2 x3 c4 d5 u6 d7 x8 c9 d10 u11 h0 n0 O0 P E_x2 F_x2_value V_x3 F_x2_coder F_x1_count E_x1 F_x1_value V_x8 F_x1_coder (by omega) (by omega) (by omega) (by omega) (by omega) (by omega) (by omega) (by omega) (by omega) (by omega) (by omega) (by omega) (by omega) (by omega) (by omega) (by omega) g_x1 ne_x2_x1 ne_x3_x1 (by omega) (by omega) (by omega) (by omega) (by omega)) ?_
   rintro v h L ⟨y1, k, e1, N, K, l1, q1, q2, q3, q4⟩
   exact ⟨y1, k, _, _, _, e1, N, (Keep.refl h0 [x1, x8]).trans K (allS (Or.inl (mg 0 rfl)) all0), Or.inr l1, Ne.symm (Nat.ne_of_lt (Nat.lt_of_lt_of_le E_x1.lt l1)), (by unfold CapB; omega), (by omega), rfl, rfl, hul, q1, q2, q3, q4⟩
theorem d3_36 : decode K3 36 = .ok (.ldc 47, 2) := by decide +kernel
theorem d3_38 : decode K3 38 = .ok (.invokevirtual 43, 3) := by decide +kernel
theorem d3_41 : decode K3 41 = .ok (.aload_n 0, 1) := by decide +kernel
theorem d3_42 : decode K3 42 = .ok (.getfield 16, 3) := by decide +kernel
theorem d3_45 : decode K3 45 = .ok (.ldc 51, 2) := by decide +kernel
theorem d3_47 : decode K3 47 = .ok (.invokestatic 39, 3) := by decide +kernel
theorem d3_50 : decode K3 50 = .ok (.invokevirtual 43, 3) := by decide +kernel
theorem d3_53 : decode K3 53 = .ok (.ldc 53, 2) := by decide +kernel
theorem d3_55 : decode K3 55 = .ok (.invokevirtual 43, 3) := by decide +kernel
theorem d3_58 : decode K3 58 = .ok (.aload_n 0, 1) := by decide +kernel
theorem d3_59 : decode K3 59 = .ok (.getfield 19, 3) := by decide +kernel
theorem d3_62 : decode K3 62 = .ok (.ldc 55, 2) := by decide +kernel
theorem d3_64 : decode K3 64 = .ok (.invokestatic 39, 3) := by decide +kernel
theorem d3_67 : decode K3 67 = .ok (.invokevirtual 43, 3) := by decide +kernel
theorem d3_70 : decode K3 70 = .ok (.ldc 47, 2) := by decide +kernel
theorem d3_72 : decode K3 72 = .ok (.invokevirtual 43, 3) := by decide +kernel
theorem d3_75 : decode K3 75 = .ok (.aload_n 0, 1) := by decide +kernel
theorem d3_76 : decode K3 76 = .ok (.getfield 22, 3) := by decide +kernel
theorem d3_79 : decode K3 79 = .ok (.ldc 57, 2) := by decide +kernel
theorem d3_81 : decode K3 81 = .ok (.invokestatic 39, 3) := by decide +kernel
theorem d3_84 : decode K3 84 = .ok (.invokevirtual 43, 3) := by decide +kernel
theorem d3_87 : decode K3 87 = .ok (.ldc 53, 2) := by decide +kernel
theorem d3_89 : decode K3 89 = .ok (.invokevirtual 43, 3) := by decide +kernel
theorem d3_92 : decode K3 92 = .ok (.aload_n 0, 1) := by decide +kernel
theorem d3_93 : decode K3 93 = .ok (.getfield 25, 3) := by decide +kernel
theorem d3_96 : decode K3 96 = .ok (.ldc 55, 2) := by decide +kernel
theorem d3_98 : decode K3 98 = .ok (.invokestatic 39, 3) := by decide +kernel
theorem d3_101 : decode K3 101 = .ok (.invokevirtual 43, 3) := by decide +kernel
theorem d3_104 : decode K3 104 = .ok (.ldc 59, 2) := by decide +kernel
theorem d3_106 : decode K3 106 = .ok (.invokevirtual 43, 3) := by decide +kernel
theorem d3_109 : decode K3 109 = .ok (.aload_n 0, 1) := by decide +kernel
theorem d3_110 : decode K3 110 = .ok (.getfield 28, 3) := by decide +kernel
theorem d3_113 : decode K3 113 = .ok (.ldc 61, 2) := by decide +kernel
theorem d3_115 : decode K3 115 = .ok (.invokestatic 39, 3) := by decide +kernel
def QrmC1_0 (Z : State) (x1 : Addr) (x2 : Addr) (c3 : ClassId) (d4 : Nat) (u5 : List Value) (h0 : Heap) (n0 : Nat) (v : Option Value) (h : Heap) (L : List Loc) : Prop := ∃ y1 : Addr, ∃ y2 : Addr, ∃ k1_ : ClassId, v = some (.ref y1) ∧ Fr n0 L ∧ Keep h0 h [] ∧ h0.size ≤ y1 ∧ h0.size ≤ y2 ∧ Exa Z h y1 sS ∧ sC Z h y1 ∧ sV Z h y1 y2 ∧ Arv Z h y2 k1_ .byte (oN ((((1 + 1) + d4) + 1) - 0)) (((([(vI 48)] : List Value) ++ lit_11) ++ u5) ++ lit_12) (vI 0)
theorem rmC1_0 (l : Launch) (Z : State) (a0 : Array Value) (hw : HW Z a0) (ws : List Jvm.Cond) (cz : Int32) (dg : Addr) (fm : Value) (x1 : Addr) (x2 : Addr) (c3 : ClassId) (d4 : Nat) (u5 : List Value) (h0 : Heap) (n0 : Nat) (O0 : Old Z n0 h0) (P : Pins Z cz dg fm) (E_x1 : Exa Z h0 x1 sS) (F_x1_value : sV Z h0 x1 x2) (F_x1_coder : sC Z h0 x1) (V_x2 : bA Z h0 x2 c3 (oN d4) u5) (lt_x2 : x2 < h0.size) (hd0 : d4 = 15) (hd1 : u5.length = d4) :
   MetFree l M34 (head1 (Jvm.Cond.code M34 prog_21_method_11_code 2 (some (.object sS)) :: ws) (rO 6 9 324 91)) (fun a U => a = #[(vI 0), (.ref x1)] ∧ Z.Warmed39 U.vm ∧ U.heap = h0 ∧ CHv Z consts_1 U.vm h0) (fun _ _ _ _ _ => True) (fun _ U o U' => ∃ v L, o = .returned v ∧ QrmC1_0 Z x1 x2 c3 d4 u5 h0 n0 v U'.heap L ∧ CHr Z consts_1 U.vm U.heap U'.vm U'.heap ∧ ReturnedEndW U o U' L (rO 6 9 324 91).cells (rO 6 9 324 91).slots) := by
 refine MetFree.of_bodySF (plainFor_of_name pN1) hisR ?_
 intro p e s m args below meth c s₁ Bd hml0 hP hK
 obtain ⟨rfl, hZ, hh, hCv⟩ := hP
 have hx := Bd.exec
 have hby := Bd.bytes
 have hml : c.maxLocals = 2 := hml0
 have hown : s.vm.findClass sI = some m.cls := findClass_of_methodNamed Bd.named
 have hnm := (name_of_methodNamed Bd.named Bd.method).1
 have X0 : Stand p l e (rO 6 9 324 91) (s.setVm s.vm) m #[(vI 0), (.ref x1)] below meth c s₁ [] 0 0 := Stand.of_body Bd
 have e0 : s₁.heap = h0 := by rw [← hh, Bd.state]; rfl
 have N0 := Fr.nil n0
 have Z0 : n0 ≤ h0.size := O0.1 ▸ O0.2.1
 have pre0 : ∀ t, SG p e below s₁ m 0 #[lI 0, lR x1] [] t → Steps p.tables e below (s₁.setTop (entryFrame m #[(vI 0), (.ref x1)] 2)) t := fun t k => castTop (ef_6_IR m (0 : Int32) x1) k
 have Kr : Keep h0 h0 [] := Keep.refl h0 _
 have hEL : EW Z a0 consts_1 := own_ew hw
 have wS : ∀ d ∈ Bundle.stringAtoms, d.before a0 Z = true := fun d hd => hw d (own_wsa d hd)
 have hS : s.Since s.vm 0 := (State.WarmedH.refl s).since 0
 have hk : 0 ≤ h0.size := Nat.zero_le _
 have C0 : CHr Z consts_1 s.vm h0 s.vm h0 := CHr.refl hCv
 obtain ⟨T1, h1, X1, e1, E1, A1, D1, -, st1⟩ := newO X0 hx hZ hown (wd hw 14 rfl) (wd hw 15 rfl) (wd hw 16 rfl) e0 (g := (mkF m 0 #[lI 0, lR x1] [])) rfl (hb hby d6_0) (by decide) (by decide)
 obtain ⟨b1, g1⟩ : ∃ z, z = (h0).size := ⟨_, rfl⟩
 rw [← g1] at A1 D1 st1
 have Zs2 := Nat.le_trans Z0 E1.1
 have Os2 := O0.ext E1
 have Ks2 := Kr.ext E1
 have Cs2 := C0.trans (CHr.ext E1 C0.1)
 have hk2 := Nat.le_trans hk E1.1
 have D1_value : Fld Z h1 b1 sA "value" "[B" .null := D1 (Or.inl (wd hw 31 rfl)) (ty := (.array .byte)) (by decide)
 have D1_coder : aC Z h1 b1 := D1 (Or.inl (wd hw 33 rfl)) (ty := .byte) (by decide)
 have D1_count : aN Z h1 b1 0 := D1 (Or.inl (wd hw 56 rfl)) (ty := .int) (by decide)
 obtain ⟨_, _, ⟨T3, L3, k3, n3⟩, -, X3, ⟨Lc3, hQ3, l3, y3, z3⟩, st3⟩ := X1.specialBack hx (y := M10) rfl hown (mvT hZ (wd hw 17 rfl)) (mvT hZ (wd hw 18 rfl)) (mvT hZ (wd hw 19 rfl)) (by decide) (backOf (W := 1) (rm4_11 l Z a0 hw [] cz dg fm b1 h1 n0 Os2 P D1_count A1 D1_value (Nat.le_trans Z0 (Nat.le_of_eq g1.symm)) D1_coder) hZ (wd hw 19 rfl) (wd hw 16 rfl) (by decide) (by decide)) (g := (mkF m 4 #[lI 0, lR x1] [(.ref b1), (.ref b1)])) rfl (by rw [hml]; rfl) (Steps.refl _) (a := b1) (argsL := []) (rest := [(.ref b1)]) (lenOf pd_0 rfl) rfl (lz rfl) (hb hby d6_4) (fun _ _ => ⟨rfl, e1, (by decide : 1 + 1 ≤ _), (by decide : 4 + 16 ≤ _)⟩)
 dsimp only [Pt.U, Pt.locs, Pt.cells, Pt.slots] at X3 l3 y3 z3 st3 hQ3
 obtain rfl : k3 = 2 := y3
 obtain rfl : n3 = 20 := z3
 obtain ⟨b3_0, k3_0, rfl, N3q, K3, l3_0, q3_0, q3_1, q3_2, q3_3⟩ := hQ3
 have N3 : Fr n0 L3 := by rw [l3]; exact Fr.app N0 N3q
 have sf4 : Safe Z consts_1 s.vm (h1) b3_0 := Safe.new l3_0
 have Ks5 := Ks2.trans K3 (allS (Or.inr (Nat.le_trans Kr.1 (Nat.le_of_eq g1.symm))) all0)
 have Zs5 := Nat.le_trans Zs2 K3.1
 have Os5 := Os2.keep K3 (allS (Nat.le_trans Z0 (Nat.le_of_eq g1.symm)) all0)
 have Cs5 := Cs2.trans (CHr.keep K3 (sfS (Safe.exa hZ.alike A1 (by decide) (by decide)) sf0) Cs2.1)
 have sf6 := (Safe.keep K3 (sfS (Safe.exa hZ.alike A1 (by decide) (by decide)) sf0) Cs2.1 sf4)
 have hk5 := Nat.le_trans hk2 K3.1
 have f7 := (A1.keep K3)
 have nz8 := (Nat.ne_of_lt (Nat.lt_of_lt_of_le (A1).lt l3_0))
 obtain ⟨cq9, kq9, q9a, q9b, q9c⟩ := isOf hZ rfl f7
 obtain ⟨_, _, ⟨T9, L9, k9, n9⟩, -, X9, ⟨Lc9, hQ9, l9, y9, z9⟩, st9⟩ := X3.virtualBack hx (y := M16) (z := M16) hown (mvT hZ (wd hw 45 rfl)) (mvT hZ (wd hw 46 rfl)) (notFace_of_selects (args := #[]) (mvT hZ (wd hw 48 rfl))) (mvT hZ (wd hw 48 rfl)) (mvT hZ (wd hw 47 rfl)) (by decide) (backOf (W := 0) (rm7_17 l Z a0 hw [] cz dg fm b1 b3_0 k3_0 T3.heap n0 Os5 P q3_0 f7 q3_1 q3_3 q3_2 (Nat.le_trans Zs2 l3_0) nz8 (Nat.le_trans Z0 (Nat.le_of_eq g1.symm)) (Ne.symm nz8)) hZ (wd hw 49 rfl) (wd hw 16 rfl) (by decide) (by decide)) q9a q9c (g := (mkF m 8 #[lI 0, lR x1] [(vI 0), (.ref b1)])) rfl (by rw [hml]; rfl) (Steps.refl _) (argsL := [(vI 0)]) (rest := []) (lenOf pd_6 rfl) rfl (lz rfl) (hb hby d6_8) (fun _ _ => ⟨rfl, rfl, (by decide : 2 + 0 ≤ _), (by decide : 20 + 0 ≤ _)⟩)
 dsimp only [Pt.U, Pt.locs, Pt.cells, Pt.slots] at X9 l9 y9 z9 st9 hQ9
 obtain rfl : k9 = 2 := y9
 obtain rfl : n9 = 20 := z9
 obtain ⟨rfl, N9q, K9, q9_0, q9_1, q9_2, q9_3⟩ := hQ9
 have N9 : Fr n0 L9 := by rw [l9]; exact Fr.app N3 N9q
 have Ks10 := Ks5.trans K9 (allS (Or.inr (Nat.le_trans Kr.1 (Nat.le_of_eq g1.symm))) (allS (Or.inr (Nat.le_trans Ks2.1 l3_0)) all0))
 have Zs10 := Nat.le_trans Zs5 K9.1
 have Os10 := Os5.keep K9 (allS (Nat.le_trans Z0 (Nat.le_of_eq g1.symm)) (allS (Nat.le_trans Zs2 l3_0) all0))
 have Cs10 := Cs5.trans (CHr.keep K9 (sfS (Safe.exa hZ.alike f7 (by decide) (by decide)) (sfS sf6 sf0)) Cs5.1)
 have sf11 := (Safe.keep K9 (sfS (Safe.exa hZ.alike f7 (by decide) (by decide)) (sfS sf6 sf0)) Cs5.1 sf6)
 have hk10 := Nat.le_trans hk5 K9.1
 obtain ⟨w12, T12, h12, kq12, wb12, kb12, X12, e12, E12, hS12, hkq12, hZ12, hown12, Ex12, Fc12, Fv12, Va12, la12, lb12, Cq12, -, hne12, st12⟩ := ldcCH X9 hx hZ hown (wd hw 75 rfl) wS rfl hS hk10 hEL (mg 11 rfl) Cs10.1 (vs := [(vI 32)]) (z := (1 : Int32)) ⟨by decide, rfl⟩ (by decide) rfl (g := (mkF m 11 #[lI 0, lR x1] [(.ref b1)])) rfl (hb hby d6_11) (n := 4) (by decide) (by decide) (by decide) (by decide)
 have Zs13 := Nat.le_trans Zs10 E12.1
 have Os13 := Os10.ext E12
 have Ks13 := Ks10.ext E12
 have Cs13 := Cs10.trans Cq12
 have sf14 := (Cq12.safe (q9_3).lt sf11)
 have Vl12 : bA Z h12 wb12 kb12 1 lit_11 := Va12
 have f15 := ((f7.keep K9).ext E12)
 have f16 := (q9_1.ext E12)
 have f17 := (q9_0.ext E12)
 have f18 := (q9_3.ext E12)
 have f19 := (q9_2.ext E12)
 obtain ⟨cq20, kq20, q20a, q20b, q20c⟩ := isOf hZ12 e12 f15
 obtain ⟨_, _, ⟨T20, L20, k20, n20⟩, -, X20, ⟨Lc20, hQ20, l20, y20, z20⟩, st20⟩ := X12.virtualBack hx (y := M23) (z := M23) hown12 (mvT hZ12 (wd hw 76 rfl)) (mvT hZ12 (wd hw 77 rfl)) (notFace_of_selects (args := #[]) (mvT hZ12 (wd hw 79 rfl))) (mvT hZ12 (wd hw 79 rfl)) (mvT hZ12 (wd hw 78 rfl)) (by decide) (backOf (W := 0) (rm13_25 l Z a0 hw [] cz dg fm b1 w12 wb12 kb12 1 lit_11 1 b3_0 k3_0 16 ([(vI 48)] : List Value) h12 n0 Os13 P Ex12 Fv12 Vl12 Fc12 f17 f15 f16 f18 f19 (by decide) (by decide) (by (try simp only [List.length_append, List.length_cons, List.length_nil, len_0, len_1, len_2, len_3, len_4, len_5, len_6, len_7, len_8, len_9, len_10, len_11, len_12, len_13]) <;> omega) (by (try simp only [List.length_append, List.length_cons, List.length_nil, len_0, len_1, len_2, len_3, len_4, len_5, len_6, len_7, len_8, len_9, len_10, len_11, len_12, len_13]) <;> omega) (Nat.le_trans Zs2 l3_0) (by decide) (by decide) (by decide) nz8 (Nat.le_trans Z0 (Nat.le_of_eq g1.symm)) (Ne.symm nz8)) hZ12 (wd hw 80 rfl) (wd hw 16 rfl) (by decide) (by decide)) q20a q20c (g := (mkF m 13 #[lI 0, lR x1] [(.ref w12), (.ref b1)])) rfl (by rw [hml]; rfl) (Steps.refl _) (argsL := [(.ref w12)]) (rest := []) (lenOf pd_13 rfl) rfl (lz rfl) (hb hby d6_13) (fun _ _ => ⟨rfl, e12, (by decide : 4 + 0 ≤ _), (by decide : 28 + 0 ≤ _)⟩)
 dsimp only [Pt.U, Pt.locs, Pt.cells, Pt.slots] at X20 l20 y20 z20 st20 hQ20
 obtain rfl : k20 = 4 := y20
 obtain rfl : n20 = 28 := z20
 obtain ⟨rfl, N20q, K20, q20_0, q20_1, q20_2, q20_3⟩ := hQ20
 have N20 : Fr n0 L20 := by rw [l20]; exact Fr.app N9 N20q
 have Ks21 := Ks13.trans K20 (allS (Or.inr (Nat.le_trans Kr.1 (Nat.le_of_eq g1.symm))) (allS (Or.inr (Nat.le_trans Ks2.1 l3_0)) all0))
 have Zs21 := Nat.le_trans Zs13 K20.1
 have Os21 := Os13.keep K20 (allS (Nat.le_trans Z0 (Nat.le_of_eq g1.symm)) (allS (Nat.le_trans Zs2 l3_0) all0))
 have Cs21 := Cs13.trans (CHr.keep K20 (sfS (Safe.exa hZ12.alike f15 (by decide) (by decide)) (sfS sf14 sf0)) Cs13.1)
 have hk21 := Nat.le_trans hkq12 K20.1
 have f23 := (f15.keep K20)
 have nz24 := (Nat.ne_of_lt (Nat.lt_of_lt_of_le (E_x1).lt (Nat.le_of_eq g1.symm)))
 have nz25 := (Nat.ne_of_lt (Nat.lt_of_lt_of_le ((E_x1.ext E1)).lt l3_0))
 have f26 := (((((F_x1_value.ext E1).keep K3 (ninS nz24 nin0)).keep K9 (ninS nz24 (ninS nz25 nin0))).ext E12).keep K20 (ninS nz24 (ninS nz25 nin0)))
 have nz27 := (Nat.ne_of_lt (Nat.lt_of_lt_of_le (V_x2).lt (Nat.le_of_eq g1.symm)))
 have nz28 := (Nat.ne_of_lt (Nat.lt_of_lt_of_le ((V_x2.ext E1)).lt l3_0))
 have f29 := (((((V_x2.ext E1).keep K3 (ninS nz27 nin0)).keep K9 (ninS nz27 (ninS nz28 nin0))).ext E12).keep K20 (ninS nz27 (ninS nz28 nin0)))
 have f30 := (((((E_x1.ext E1).keep K3).keep K9).ext E12).keep K20)
 have f31 := (((((F_x1_coder.ext E1).keep K3 (ninS nz24 nin0)).keep K9 (ninS nz24 (ninS nz25 nin0))).ext E12).keep K20 (ninS nz24 (ninS nz25 nin0)))
 obtain ⟨cq32, kq32, q32a, q32b, q32c⟩ := isOf hZ12 rfl f23
 obtain ⟨_, _, ⟨T32, L32, k32, n32⟩, -, X32, ⟨Lc32, hQ32, l32, y32, z32⟩, st32⟩ := X20.virtualBack hx (y := M23) (z := M23) hown12 (mvT hZ12 (wd hw 76 rfl)) (mvT hZ12 (wd hw 77 rfl)) (notFace_of_selects (args := #[]) (mvT hZ12 (wd hw 79 rfl))) (mvT hZ12 (wd hw 79 rfl)) (mvT hZ12 (wd hw 78 rfl)) (by decide) (backOf (W := 0) (rmGg l Z a0 hw [] cz dg fm b1 x1 x2 c3 d4 u5 (1 + 1) b3_0 k3_0 16 (([(vI 48)] : List Value) ++ lit_11) T20.heap n0 Os21 P f30 f26 f29 f31 q20_0 f23 q20_1 q20_3 q20_2 (by omega) (by omega) (by omega) (by omega) (by decide) (by decide) (by decide) (by decide) (by decide) (by decide) (by decide) (by decide) (by decide) (by (try simp only [List.length_append, List.length_cons, List.length_nil, len_0, len_1, len_2, len_3, len_4, len_5, len_6, len_7, len_8, len_9, len_10, len_11, len_12, len_13]) <;> omega) (by decide) (by decide) (Nat.le_trans Z0 (Nat.le_of_eq g1.symm)) nz24 nz27 (by (try simp only [List.length_append, List.length_cons, List.length_nil, len_0, len_1, len_2, len_3, len_4, len_5, len_6, len_7, len_8, len_9, len_10, len_11, len_12, len_13]) <;> omega) (by (try simp only [List.length_append, List.length_cons, List.length_nil, len_0, len_1, len_2, len_3, len_4, len_5, len_6, len_7, len_8, len_9, len_10, len_11, len_12, len_13]) <;> omega) (by omega) (by omega) (by omega)) hZ12 (wd hw 80 rfl) (wd hw 16 rfl) (by decide) (by decide)) q32a q32c (g := (mkF m 17 #[lI 0, lR x1] [(.ref x1), (.ref b1)])) rfl (by rw [hml]; rfl) (Steps.refl _) (argsL := [(.ref x1)]) (rest := []) (lenOf pd_13 rfl) rfl (lz rfl) (hb hby d6_17) (fun _ _ => ⟨rfl, rfl, (by decide : 4 + 1 ≤ _), (by decide : 28 + 142 ≤ _)⟩)
 dsimp only [Pt.U, Pt.locs, Pt.cells, Pt.slots] at X32 l32 y32 z32 st32 hQ32
 obtain rfl : k32 = 5 := y32
 obtain rfl : n32 = 170 := z32
 obtain ⟨b32_0, k32_0, rfl, N32q, K32, l32_0, q32_0, q32_1, q32_2, q32_3⟩ := hQ32
 have N32 : Fr n0 L32 := by rw [l32]; exact Fr.app N20 N32q
 have sf33 : Safe Z consts_1 T12.vm (T20.heap) b32_0 := Safe.new l32_0
 have Ks34 := Ks21.trans K32 (allS (Or.inr (Nat.le_trans Kr.1 (Nat.le_of_eq g1.symm))) all0)
 have Os34 := Os21.keep K32 (allS (Nat.le_trans Z0 (Nat.le_of_eq g1.symm)) all0)
 have Cs34 := Cs21.trans (CHr.keep K32 (sfS (Safe.exa hZ12.alike f23 (by decide) (by decide)) sf0) Cs21.1)
 have sf36 := (Safe.keep K32 (sfS (Safe.exa hZ12.alike f23 (by decide) (by decide)) sf0) Cs21.1 sf33)
 have hk34 := Nat.le_trans hk21 K32.1
 obtain ⟨w37, T37, h37, kq37, wb37, kb37, X37, e37, E37, hS37, hkq37, hZ37, hown37, Ex37, Fc37, Fv37, Va37, la37, lb37, Cq37, -, hne37, st37⟩ := ldcCH X32 hx hZ12 hown12 (wd hw 118 rfl) wS rfl hS12 hk34 hEL (mg 13 rfl) Cs34.1 (vs := [(vI 115)]) (z := (1 : Int32)) ⟨by decide, rfl⟩ (by decide) rfl (g := (mkF m 30 #[lI 0, lR x1] [(.ref b1)])) rfl (hb hby d6_30) (n := 4) (by decide) (by decide) (by decide) (by decide)
 have Os38 := Os34.ext E37
 have Ks38 := Ks34.ext E37
 have Cs38 := Cs34.trans Cq37
 have sf40 := (Cq37.safe (q32_3).lt sf36)
 have Vl37 : bA Z h37 wb37 kb37 1 lit_12 := Va37
 have f41 := ((f23.keep K32).ext E37)
 have f42 := (q32_1.ext E37)
 have f43 := (q32_0.ext E37)
 have f44 := (q32_3.ext E37)
 have f45 := (q32_2.ext E37)
 have nz46 := (Nat.ne_of_lt (Nat.lt_of_lt_of_le (f23).lt l32_0))
 obtain ⟨cq47, kq47, q47a, q47b, q47c⟩ := isOf hZ37 e37 f41
 obtain ⟨_, _, ⟨T47, L47, k47, n47⟩, -, X47, ⟨Lc47, hQ47, l47, y47, z47⟩, st47⟩ := X37.virtualBack hx (y := M23) (z := M23) hown37 (mvT hZ37 (wd hw 76 rfl)) (mvT hZ37 (wd hw 77 rfl)) (notFace_of_selects (args := #[]) (mvT hZ37 (wd hw 79 rfl))) (mvT hZ37 (wd hw 79 rfl)) (mvT hZ37 (wd hw 78 rfl)) (by decide) (backOf (W := 0) (rm13_25 l Z a0 hw [] cz dg fm b1 w37 wb37 kb37 1 lit_12 ((1 + 1) + d4) b32_0 k32_0 (16 + (16 + 2)) ((([(vI 48)] : List Value) ++ lit_11) ++ u5) h37 n0 Os38 P Ex37 Fv37 Vl37 Fc37 f43 f41 f42 f44 f45 (by omega) (by decide) (by (try simp only [List.length_append, List.length_cons, List.length_nil, len_0, len_1, len_2, len_3, len_4, len_5, len_6, len_7, len_8, len_9, len_10, len_11, len_12, len_13]) <;> omega) (by (try simp only [List.length_append, List.length_cons, List.length_nil, len_0, len_1, len_2, len_3, len_4, len_5, len_6, len_7, len_8, len_9, len_10, len_11, len_12, len_13]) <;> omega) (Nat.le_trans Zs21 l32_0) (by decide) (by omega) (by decide) nz46 (Nat.le_trans Z0 (Nat.le_of_eq g1.symm)) (Ne.symm nz46)) hZ37 (wd hw 80 rfl) (wd hw 16 rfl) (by decide) (by decide)) q47a q47c (g := (mkF m 32 #[lI 0, lR x1] [(.ref w37), (.ref b1)])) rfl (by rw [hml]; rfl) (Steps.refl _) (argsL := [(.ref w37)]) (rest := []) (lenOf pd_13 rfl) rfl (lz rfl) (hb hby d6_32) (fun _ _ => ⟨rfl, e37, (by decide : 7 + 0 ≤ _), (by decide : 178 + 0 ≤ _)⟩)
 dsimp only [Pt.U, Pt.locs, Pt.cells, Pt.slots] at X47 l47 y47 z47 st47 hQ47
 obtain rfl : k47 = 7 := y47
 obtain rfl : n47 = 178 := z47
 obtain ⟨rfl, N47q, K47, q47_0, q47_1, q47_2, q47_3⟩ := hQ47
 have N47 : Fr n0 L47 := by rw [l47]; exact Fr.app N32 N47q
 have Ks48 := Ks38.trans K47 (allS (Or.inr (Nat.le_trans Kr.1 (Nat.le_of_eq g1.symm))) (allS (Or.inr (Nat.le_trans Ks21.1 l32_0)) all0))
 have Os48 := Os38.keep K47 (allS (Nat.le_trans Z0 (Nat.le_of_eq g1.symm)) (allS (Nat.le_trans Zs21 l32_0) all0))
 have Cs48 := Cs38.trans (CHr.keep K47 (sfS (Safe.exa hZ37.alike f41 (by decide) (by decide)) (sfS sf40 sf0)) Cs38.1)
 have hk48 := Nat.le_trans hkq37 K47.1
 have f51 := (f41.keep K47)
 obtain ⟨cq52, kq52, q52a, q52b, q52c⟩ := isOf hZ37 rfl f51
 obtain ⟨_, _, ⟨T52, L52, k52, n52⟩, -, X52, ⟨Lc52, hQ52, l52, y52, z52⟩, st52⟩ := X47.virtualBack hx (y := M33) (z := M33) hown37 (mvT hZ37 (wd hw 119 rfl)) (mvT hZ37 (wd hw 120 rfl)) (notFace_of_selects (args := #[]) (mvT hZ37 (wd hw 122 rfl))) (mvT hZ37 (wd hw 122 rfl)) (mvT hZ37 (wd hw 121 rfl)) (by decide) (backOf (W := 0) (rm20_35 l Z a0 hw [] cz dg fm b1 b32_0 (((1 + 1) + d4) + 1) k32_0 (16 + (16 + 2)) (((([(vI 48)] : List Value) ++ lit_11) ++ u5) ++ lit_12) T47.heap n0 Os48 P f51 q47_1 q47_0 q47_2 q47_3 (by omega) (by omega) (by decide) (by omega) (by omega) (by omega) (by decide) (by omega) (by decide) (by (try simp only [List.length_append, List.length_cons, List.length_nil, len_0, len_1, len_2, len_3, len_4, len_5, len_6, len_7, len_8, len_9, len_10, len_11, len_12, len_13]) <;> omega) (by omega) (by omega)) hZ37 (wd hw 123 rfl) (wd hw 16 rfl) (by decide) (by decide)) q52a q52c (g := (mkF m 35 #[lI 0, lR x1] [(.ref b1)])) rfl (by rw [hml]; rfl) (Steps.refl _) (argsL := []) (rest := []) (lenOf pd_20 rfl) rfl (lz rfl) (hb hby d6_35) (fun _ _ => ⟨rfl, rfl, (by decide : 7 + 2 ≤ _), (by decide : 178 + 146 ≤ _)⟩)
 dsimp only [Pt.U, Pt.locs, Pt.cells, Pt.slots] at X52 l52 y52 z52 st52 hQ52
 obtain rfl : k52 = 9 := y52
 obtain rfl : n52 = 324 := z52
 obtain ⟨b52_0, b52_1, k52_0, rfl, N52q, K52, l52_0, l52_1, q52_0, q52_1, q52_2, q52_3⟩ := hQ52
 have N52 : Fr n0 L52 := by rw [l52]; exact Fr.app N47 N52q
 have Ks55 := Ks48.trans K52 all0
 have Cs55 := Cs48.trans (CHr.keep K52 sf0 Cs48.1)
 have hk55 := Nat.le_trans hk48 K52.1
 have Cend := Cs55.trans (CHv.at X52 hZ37 hEL Cs55.1)
 obtain ⟨fs, hr, hrun, hended, hREW⟩ := X52.leaveW hS37 hk55 (v := some (.ref b52_0)) (fun h => by rw [Bd.returns] at h; cases h)
 refine ⟨_, _, pre0 _ ?_, hrun, hended, _, _, rfl, ?_, ?_, own_rew hREW (by decide) (by decide)⟩
 · show SH s₁ 0 #[lI 0, lR x1] []
   refine st1 _ ?_
   show SH T1 3 #[lI 0, lR x1] [(.ref b1)]
   refine XS.dup X1.here hx rfl (hb hby d6_3) rfl rfl ?_
   show SH T1 4 #[lI 0, lR x1] [(.ref b1), (.ref b1)]
   refine st3.trans ?_
   show SH T3 7 #[lI 0, lR x1] [(.ref b1)]
   refine XS.iloadN X3.here hx rfl (hb hby d6_7) rfl ?_
   show SH T3 8 #[lI 0, lR x1] [(vI 0), (.ref b1)]
   refine st9.trans ?_
   show SH T9 11 #[lI 0, lR x1] [(.ref b1)]
   refine st12 _ ?_
   show SH T12 13 #[lI 0, lR x1] [(.ref w12), (.ref b1)]
   refine st20.trans ?_
   show SH T20 16 #[lI 0, lR x1] [(.ref b1)]
   refine XS.aloadN X20.here hx rfl (hb hby d6_16) rfl rfl ?_
   show SH T20 17 #[lI 0, lR x1] [(.ref x1), (.ref b1)]
   refine st32.trans ?_
   show SH T32 20 #[lI 0, lR x1] [(.ref b1)]
   refine XS.iloadN X32.here hx rfl (hb hby d6_20) rfl ?_
   show SH T32 21 #[lI 0, lR x1] [(vI 0), (.ref b1)]
   refine XS.iconst X32.here hx rfl (hb hby d6_21) ?_
   show SH T32 22 #[lI 0, lR x1] [(vI 1), (vI 0), (.ref b1)]
   refine XS.icmpYes X32.here hx rfl (pc0 := 22) (pc' := 30) rfl (hb hby d6_22) rfl (by decide) (by decide) (by decide) ?_
   show SH T32 30 #[lI 0, lR x1] [(.ref b1)]
   refine st37 _ ?_
   show SH T37 32 #[lI 0, lR x1] [(.ref w37), (.ref b1)]
   refine st47.trans ?_
   show SH T47 35 #[lI 0, lR x1] [(.ref b1)]
   refine st52.trans ?_
   show SH T52 38 #[lI 0, lR x1] [(.ref b52_0)]
   exact retOut X52 hx Bd.returns rfl (Or.inr (Or.inr (Or.inr (Or.inr ⟨rfl, rfl, rfl⟩)))) (hb hby d6_38) hr
 · show QrmC1_0 Z x1 x2 c3 d4 u5 h0 n0 _ T52.heap _
   exact ⟨b52_0, b52_1, k52_0, rfl, N52, Ks55, (Nat.le_trans Ks48.1 l52_0), (Nat.le_trans Ks48.1 l52_1), q52_0, q52_1, q52_2, q52_3⟩
 · rw [hh]
   show CHr Z consts_1 s.vm h0 T52.vm T52.heap
   exact Cend
def QrmC1_1 (Z : State) (x1 : Addr) (x2 : Addr) (c3 : ClassId) (d4 : Nat) (u5 : List Value) (h0 : Heap) (n0 : Nat) (v : Option Value) (h : Heap) (L : List Loc) : Prop := ∃ y1 : Addr, ∃ y2 : Addr, ∃ k1_ : ClassId, v = some (.ref y1) ∧ Fr n0 L ∧ Keep h0 h [] ∧ h0.size ≤ y1 ∧ h0.size ≤ y2 ∧ Exa Z h y1 sS ∧ sC Z h y1 ∧ sV Z h y1 y2 ∧ Arv Z h y2 k1_ .byte (oN ((((1 + 1) + d4) + 0) - 0)) (((([(vI 49)] : List Value) ++ lit_11) ++ u5) ++ lit_13) (vI 0)
theorem rmC1_1 (l : Launch) (Z : State) (a0 : Array Value) (hw : HW Z a0) (ws : List Jvm.Cond) (cz : Int32) (dg : Addr) (fm : Value) (x1 : Addr) (x2 : Addr) (c3 : ClassId) (d4 : Nat) (u5 : List Value) (h0 : Heap) (n0 : Nat) (O0 : Old Z n0 h0) (P : Pins Z cz dg fm) (E_x1 : Exa Z h0 x1 sS) (F_x1_value : sV Z h0 x1 x2) (F_x1_coder : sC Z h0 x1) (V_x2 : bA Z h0 x2 c3 (oN d4) u5) (lt_x2 : x2 < h0.size) (hd0 : d4 = 15) (hd1 : u5.length = d4) :
   MetFree l M34 (head1 (Jvm.Cond.code M34 prog_21_method_11_code 2 (some (.object sS)) :: ws) (rO 6 9 324 91)) (fun a U => a = #[(vI 1), (.ref x1)] ∧ Z.Warmed39 U.vm ∧ U.heap = h0 ∧ CHv Z consts_1 U.vm h0) (fun _ _ _ _ _ => True) (fun _ U o U' => ∃ v L, o = .returned v ∧ QrmC1_1 Z x1 x2 c3 d4 u5 h0 n0 v U'.heap L ∧ CHr Z consts_1 U.vm U.heap U'.vm U'.heap ∧ ReturnedEndW U o U' L (rO 6 9 324 91).cells (rO 6 9 324 91).slots) := by
 refine MetFree.of_bodySF (plainFor_of_name pN1) hisR ?_
 intro p e s m args below meth c s₁ Bd hml0 hP hK
 obtain ⟨rfl, hZ, hh, hCv⟩ := hP
 have hx := Bd.exec
 have hby := Bd.bytes
 have hml : c.maxLocals = 2 := hml0
 have hown : s.vm.findClass sI = some m.cls := findClass_of_methodNamed Bd.named
 have hnm := (name_of_methodNamed Bd.named Bd.method).1
 have X0 : Stand p l e (rO 6 9 324 91) (s.setVm s.vm) m #[(vI 1), (.ref x1)] below meth c s₁ [] 0 0 := Stand.of_body Bd
 have e0 : s₁.heap = h0 := by rw [← hh, Bd.state]; rfl
 have N0 := Fr.nil n0
 have Z0 : n0 ≤ h0.size := O0.1 ▸ O0.2.1
 have pre0 : ∀ t, SG p e below s₁ m 0 #[lI 1, lR x1] [] t → Steps p.tables e below (s₁.setTop (entryFrame m #[(vI 1), (.ref x1)] 2)) t := fun t k => castTop (ef_6_IR m (1 : Int32) x1) k
 have Kr : Keep h0 h0 [] := Keep.refl h0 _
 have hEL : EW Z a0 consts_1 := own_ew hw
 have wS : ∀ d ∈ Bundle.stringAtoms, d.before a0 Z = true := fun d hd => hw d (own_wsa d hd)
 have hS : s.Since s.vm 0 := (State.WarmedH.refl s).since 0
 have hk : 0 ≤ h0.size := Nat.zero_le _
 have C0 : CHr Z consts_1 s.vm h0 s.vm h0 := CHr.refl hCv
 obtain ⟨T1, h1, X1, e1, E1, A1, D1, -, st1⟩ := newO X0 hx hZ hown (wd hw 14 rfl) (wd hw 15 rfl) (wd hw 16 rfl) e0 (g := (mkF m 0 #[lI 1, lR x1] [])) rfl (hb hby d6_0) (by decide) (by decide)
 obtain ⟨b1, g1⟩ : ∃ z, z = (h0).size := ⟨_, rfl⟩
 rw [← g1] at A1 D1 st1
 have Zs2 := Nat.le_trans Z0 E1.1
 have Os2 := O0.ext E1
 have Ks2 := Kr.ext E1
 have Cs2 := C0.trans (CHr.ext E1 C0.1)
 have hk2 := Nat.le_trans hk E1.1
 have D1_value : Fld Z h1 b1 sA "value" "[B" .null := D1 (Or.inl (wd hw 31 rfl)) (ty := (.array .byte)) (by decide)
 have D1_coder : aC Z h1 b1 := D1 (Or.inl (wd hw 33 rfl)) (ty := .byte) (by decide)
 have D1_count : aN Z h1 b1 0 := D1 (Or.inl (wd hw 56 rfl)) (ty := .int) (by decide)
 obtain ⟨_, _, ⟨T3, L3, k3, n3⟩, -, X3, ⟨Lc3, hQ3, l3, y3, z3⟩, st3⟩ := X1.specialBack hx (y := M10) rfl hown (mvT hZ (wd hw 17 rfl)) (mvT hZ (wd hw 18 rfl)) (mvT hZ (wd hw 19 rfl)) (by decide) (backOf (W := 1) (rm4_11 l Z a0 hw [] cz dg fm b1 h1 n0 Os2 P D1_count A1 D1_value (Nat.le_trans Z0 (Nat.le_of_eq g1.symm)) D1_coder) hZ (wd hw 19 rfl) (wd hw 16 rfl) (by decide) (by decide)) (g := (mkF m 4 #[lI 1, lR x1] [(.ref b1), (.ref b1)])) rfl (by rw [hml]; rfl) (Steps.refl _) (a := b1) (argsL := []) (rest := [(.ref b1)]) (lenOf pd_0 rfl) rfl (lz rfl) (hb hby d6_4) (fun _ _ => ⟨rfl, e1, (by decide : 1 + 1 ≤ _), (by decide : 4 + 16 ≤ _)⟩)
 dsimp only [Pt.U, Pt.locs, Pt.cells, Pt.slots] at X3 l3 y3 z3 st3 hQ3
 obtain rfl : k3 = 2 := y3
 obtain rfl : n3 = 20 := z3
 obtain ⟨b3_0, k3_0, rfl, N3q, K3, l3_0, q3_0, q3_1, q3_2, q3_3⟩ := hQ3
 have N3 : Fr n0 L3 := by rw [l3]; exact Fr.app N0 N3q
 have sf4 : Safe Z consts_1 s.vm (h1) b3_0 := Safe.new l3_0
 have Ks5 := Ks2.trans K3 (allS (Or.inr (Nat.le_trans Kr.1 (Nat.le_of_eq g1.symm))) all0)
 have Zs5 := Nat.le_trans Zs2 K3.1
 have Os5 := Os2.keep K3 (allS (Nat.le_trans Z0 (Nat.le_of_eq g1.symm)) all0)
 have Cs5 := Cs2.trans (CHr.keep K3 (sfS (Safe.exa hZ.alike A1 (by decide) (by decide)) sf0) Cs2.1)
 have sf6 := (Safe.keep K3 (sfS (Safe.exa hZ.alike A1 (by decide) (by decide)) sf0) Cs2.1 sf4)
 have hk5 := Nat.le_trans hk2 K3.1
 have f7 := (A1.keep K3)
 have nz8 := (Nat.ne_of_lt (Nat.lt_of_lt_of_le (A1).lt l3_0))
 obtain ⟨cq9, kq9, q9a, q9b, q9c⟩ := isOf hZ rfl f7
 obtain ⟨_, _, ⟨T9, L9, k9, n9⟩, -, X9, ⟨Lc9, hQ9, l9, y9, z9⟩, st9⟩ := X3.virtualBack hx (y := M16) (z := M16) hown (mvT hZ (wd hw 45 rfl)) (mvT hZ (wd hw 46 rfl)) (notFace_of_selects (args := #[]) (mvT hZ (wd hw 48 rfl))) (mvT hZ (wd hw 48 rfl)) (mvT hZ (wd hw 47 rfl)) (by decide) (backOf (W := 0) (rm7_39 l Z a0 hw [] cz dg fm b1 b3_0 k3_0 T3.heap n0 Os5 P q3_0 f7 q3_1 q3_3 q3_2 (Nat.le_trans Zs2 l3_0) nz8 (Nat.le_trans Z0 (Nat.le_of_eq g1.symm)) (Ne.symm nz8)) hZ (wd hw 49 rfl) (wd hw 16 rfl) (by decide) (by decide)) q9a q9c (g := (mkF m 8 #[lI 1, lR x1] [(vI 1), (.ref b1)])) rfl (by rw [hml]; rfl) (Steps.refl _) (argsL := [(vI 1)]) (rest := []) (lenOf pd_6 rfl) rfl (lz rfl) (hb hby d6_8) (fun _ _ => ⟨rfl, rfl, (by decide : 2 + 0 ≤ _), (by decide : 20 + 0 ≤ _)⟩)
 dsimp only [Pt.U, Pt.locs, Pt.cells, Pt.slots] at X9 l9 y9 z9 st9 hQ9
 obtain rfl : k9 = 2 := y9
 obtain rfl : n9 = 20 := z9
 obtain ⟨rfl, N9q, K9, q9_0, q9_1, q9_2, q9_3⟩ := hQ9
 have N9 : Fr n0 L9 := by rw [l9]; exact Fr.app N3 N9q
 have Ks10 := Ks5.trans K9 (allS (Or.inr (Nat.le_trans Kr.1 (Nat.le_of_eq g1.symm))) (allS (Or.inr (Nat.le_trans Ks2.1 l3_0)) all0))
 have Zs10 := Nat.le_trans Zs5 K9.1
 have Os10 := Os5.keep K9 (allS (Nat.le_trans Z0 (Nat.le_of_eq g1.symm)) (allS (Nat.le_trans Zs2 l3_0) all0))
 have Cs10 := Cs5.trans (CHr.keep K9 (sfS (Safe.exa hZ.alike f7 (by decide) (by decide)) (sfS sf6 sf0)) Cs5.1)
 have sf11 := (Safe.keep K9 (sfS (Safe.exa hZ.alike f7 (by decide) (by decide)) (sfS sf6 sf0)) Cs5.1 sf6)
 have hk10 := Nat.le_trans hk5 K9.1
 obtain ⟨w12, T12, h12, kq12, wb12, kb12, X12, e12, E12, hS12, hkq12, hZ12, hown12, Ex12, Fc12, Fv12, Va12, la12, lb12, Cq12, -, hne12, st12⟩ := ldcCH X9 hx hZ hown (wd hw 75 rfl) wS rfl hS hk10 hEL (mg 11 rfl) Cs10.1 (vs := [(vI 32)]) (z := (1 : Int32)) ⟨by decide, rfl⟩ (by decide) rfl (g := (mkF m 11 #[lI 1, lR x1] [(.ref b1)])) rfl (hb hby d6_11) (n := 4) (by decide) (by decide) (by decide) (by decide)
 have Zs13 := Nat.le_trans Zs10 E12.1
 have Os13 := Os10.ext E12
 have Ks13 := Ks10.ext E12
 have Cs13 := Cs10.trans Cq12
 have sf14 := (Cq12.safe (q9_3).lt sf11)
 have Vl12 : bA Z h12 wb12 kb12 1 lit_11 := Va12
 have f15 := ((f7.keep K9).ext E12)
 have f16 := (q9_1.ext E12)
 have f17 := (q9_0.ext E12)
 have f18 := (q9_3.ext E12)
 have f19 := (q9_2.ext E12)
 obtain ⟨cq20, kq20, q20a, q20b, q20c⟩ := isOf hZ12 e12 f15
 obtain ⟨_, _, ⟨T20, L20, k20, n20⟩, -, X20, ⟨Lc20, hQ20, l20, y20, z20⟩, st20⟩ := X12.virtualBack hx (y := M23) (z := M23) hown12 (mvT hZ12 (wd hw 76 rfl)) (mvT hZ12 (wd hw 77 rfl)) (notFace_of_selects (args := #[]) (mvT hZ12 (wd hw 79 rfl))) (mvT hZ12 (wd hw 79 rfl)) (mvT hZ12 (wd hw 78 rfl)) (by decide) (backOf (W := 0) (rm13_25 l Z a0 hw [] cz dg fm b1 w12 wb12 kb12 1 lit_11 1 b3_0 k3_0 16 ([(vI 49)] : List Value) h12 n0 Os13 P Ex12 Fv12 Vl12 Fc12 f17 f15 f16 f18 f19 (by decide) (by decide) (by (try simp only [List.length_append, List.length_cons, List.length_nil, len_0, len_1, len_2, len_3, len_4, len_5, len_6, len_7, len_8, len_9, len_10, len_11, len_12, len_13]) <;> omega) (by (try simp only [List.length_append, List.length_cons, List.length_nil, len_0, len_1, len_2, len_3, len_4, len_5, len_6, len_7, len_8, len_9, len_10, len_11, len_12, len_13]) <;> omega) (Nat.le_trans Zs2 l3_0) (by decide) (by decide) (by decide) nz8 (Nat.le_trans Z0 (Nat.le_of_eq g1.symm)) (Ne.symm nz8)) hZ12 (wd hw 80 rfl) (wd hw 16 rfl) (by decide) (by decide)) q20a q20c (g := (mkF m 13 #[lI 1, lR x1] [(.ref w12), (.ref b1)])) rfl (by rw [hml]; rfl) (Steps.refl _) (argsL := [(.ref w12)]) (rest := []) (lenOf pd_13 rfl) rfl (lz rfl) (hb hby d6_13) (fun _ _ => ⟨rfl, e12, (by decide : 4 + 0 ≤ _), (by decide : 28 + 0 ≤ _)⟩)
 dsimp only [Pt.U, Pt.locs, Pt.cells, Pt.slots] at X20 l20 y20 z20 st20 hQ20
 obtain rfl : k20 = 4 := y20
 obtain rfl : n20 = 28 := z20
 obtain ⟨rfl, N20q, K20, q20_0, q20_1, q20_2, q20_3⟩ := hQ20
 have N20 : Fr n0 L20 := by rw [l20]; exact Fr.app N9 N20q
 have Ks21 := Ks13.trans K20 (allS (Or.inr (Nat.le_trans Kr.1 (Nat.le_of_eq g1.symm))) (allS (Or.inr (Nat.le_trans Ks2.1 l3_0)) all0))
 have Zs21 := Nat.le_trans Zs13 K20.1
 have Os21 := Os13.keep K20 (allS (Nat.le_trans Z0 (Nat.le_of_eq g1.symm)) (allS (Nat.le_trans Zs2 l3_0) all0))
 have Cs21 := Cs13.trans (CHr.keep K20 (sfS (Safe.exa hZ12.alike f15 (by decide) (by decide)) (sfS sf14 sf0)) Cs13.1)
 have hk21 := Nat.le_trans hkq12 K20.1
 have f23 := (f15.keep K20)
 have nz24 := (Nat.ne_of_lt (Nat.lt_of_lt_of_le (E_x1).lt (Nat.le_of_eq g1.symm)))
 have nz25 := (Nat.ne_of_lt (Nat.lt_of_lt_of_le ((E_x1.ext E1)).lt l3_0))
 have f26 := (((((F_x1_value.ext E1).keep K3 (ninS nz24 nin0)).keep K9 (ninS nz24 (ninS nz25 nin0))).ext E12).keep K20 (ninS nz24 (ninS nz25 nin0)))
 have nz27 := (Nat.ne_of_lt (Nat.lt_of_lt_of_le (V_x2).lt (Nat.le_of_eq g1.symm)))
 have nz28 := (Nat.ne_of_lt (Nat.lt_of_lt_of_le ((V_x2.ext E1)).lt l3_0))
 have f29 := (((((V_x2.ext E1).keep K3 (ninS nz27 nin0)).keep K9 (ninS nz27 (ninS nz28 nin0))).ext E12).keep K20 (ninS nz27 (ninS nz28 nin0)))
 have f30 := (((((E_x1.ext E1).keep K3).keep K9).ext E12).keep K20)
 have f31 := (((((F_x1_coder.ext E1).keep K3 (ninS nz24 nin0)).keep K9 (ninS nz24 (ninS nz25 nin0))).ext E12).keep K20 (ninS nz24 (ninS nz25 nin0)))
 obtain ⟨cq32, kq32, q32a, q32b, q32c⟩ := isOf hZ12 rfl f23
 obtain ⟨_, _, ⟨T32, L32, k32, n32⟩, -, X32, ⟨Lc32, hQ32, l32, y32, z32⟩, st32⟩ := X20.virtualBack hx (y := M23) (z := M23) hown12 (mvT hZ12 (wd hw 76 rfl)) (mvT hZ12 (wd hw 77 rfl)) (notFace_of_selects (args := #[]) (mvT hZ12 (wd hw 79 rfl))) (mvT hZ12 (wd hw 79 rfl)) (mvT hZ12 (wd hw 78 rfl)) (by decide) (backOf (W := 0) (rmGg l Z a0 hw [] cz dg fm b1 x1 x2 c3 d4 u5 (1 + 1) b3_0 k3_0 16 (([(vI 49)] : List Value) ++ lit_11) T20.heap n0 Os21 P f30 f26 f29 f31 q20_0 f23 q20_1 q20_3 q20_2 (by omega) (by omega) (by omega) (by omega) (by decide) (by decide) (by decide) (by decide) (by decide) (by decide) (by decide) (by decide) (by decide) (by (try simp only [List.length_append, List.length_cons, List.length_nil, len_0, len_1, len_2, len_3, len_4, len_5, len_6, len_7, len_8, len_9, len_10, len_11, len_12, len_13]) <;> omega) (by decide) (by decide) (Nat.le_trans Z0 (Nat.le_of_eq g1.symm)) nz24 nz27 (by (try simp only [List.length_append, List.length_cons, List.length_nil, len_0, len_1, len_2, len_3, len_4, len_5, len_6, len_7, len_8, len_9, len_10, len_11, len_12, len_13]) <;> omega) (by (try simp only [List.length_append, List.length_cons, List.length_nil, len_0, len_1, len_2, len_3, len_4, len_5, len_6, len_7, len_8, len_9, len_10, len_11, len_12, len_13]) <;> omega) (by omega) (by omega) (by omega)) hZ12 (wd hw 80 rfl) (wd hw 16 rfl) (by decide) (by decide)) q32a q32c (g := (mkF m 17 #[lI 1, lR x1] [(.ref x1), (.ref b1)])) rfl (by rw [hml]; rfl) (Steps.refl _) (argsL := [(.ref x1)]) (rest := []) (lenOf pd_13 rfl) rfl (lz rfl) (hb hby d6_17) (fun _ _ => ⟨rfl, rfl, (by decide : 4 + 1 ≤ _), (by decide : 28 + 142 ≤ _)⟩)
 dsimp only [Pt.U, Pt.locs, Pt.cells, Pt.slots] at X32 l32 y32 z32 st32 hQ32
 obtain rfl : k32 = 5 := y32
 obtain rfl : n32 = 170 := z32
 obtain ⟨b32_0, k32_0, rfl, N32q, K32, l32_0, q32_0, q32_1, q32_2, q32_3⟩ := hQ32
 have N32 : Fr n0 L32 := by rw [l32]; exact Fr.app N20 N32q
 have sf33 : Safe Z consts_1 T12.vm (T20.heap) b32_0 := Safe.new l32_0
 have Ks34 := Ks21.trans K32 (allS (Or.inr (Nat.le_trans Kr.1 (Nat.le_of_eq g1.symm))) all0)
 have Os34 := Os21.keep K32 (allS (Nat.le_trans Z0 (Nat.le_of_eq g1.symm)) all0)
 have Cs34 := Cs21.trans (CHr.keep K32 (sfS (Safe.exa hZ12.alike f23 (by decide) (by decide)) sf0) Cs21.1)
 have sf36 := (Safe.keep K32 (sfS (Safe.exa hZ12.alike f23 (by decide) (by decide)) sf0) Cs21.1 sf33)
 have hk34 := Nat.le_trans hk21 K32.1
 obtain ⟨w37, T37, h37, kq37, wb37, kb37, X37, e37, E37, hS37, hkq37, hZ37, hown37, Ex37, Fc37, Fv37, Va37, la37, lb37, Cq37, -, hne37, st37⟩ := ldcCH X32 hx hZ12 hown12 (wd hw 257 rfl) wS rfl hS12 hk34 hEL (mg 12 rfl) Cs34.1 (vs := []) (z := (0 : Int32)) ⟨by decide, rfl⟩ (by decide) rfl (g := (mkF m 25 #[lI 1, lR x1] [(.ref b1)])) rfl (hb hby d6_25) (n := 0) (by decide) (by decide) (by decide) (by decide)
 have Os38 := Os34.ext E37
 have Ks38 := Ks34.ext E37
 have Cs38 := Cs34.trans Cq37
 have sf40 := (Cq37.safe (q32_3).lt sf36)
 have Vl37 : bA Z h37 wb37 kb37 0 lit_13 := Va37
 have f41 := ((f23.keep K32).ext E37)
 have f42 := (q32_1.ext E37)
 have f43 := (q32_0.ext E37)
 have f44 := (q32_3.ext E37)
 have f45 := (q32_2.ext E37)
 have nz46 := (Nat.ne_of_lt (Nat.lt_of_lt_of_le (f23).lt l32_0))
 obtain ⟨cq47, kq47, q47a, q47b, q47c⟩ := isOf hZ37 e37 f41
 obtain ⟨_, _, ⟨T47, L47, k47, n47⟩, -, X47, ⟨Lc47, hQ47, l47, y47, z47⟩, st47⟩ := X37.virtualBack hx (y := M23) (z := M23) hown37 (mvT hZ37 (wd hw 76 rfl)) (mvT hZ37 (wd hw 77 rfl)) (notFace_of_selects (args := #[]) (mvT hZ37 (wd hw 79 rfl))) (mvT hZ37 (wd hw 79 rfl)) (mvT hZ37 (wd hw 78 rfl)) (by decide) (backOf (W := 0) (rm13_25 l Z a0 hw [] cz dg fm b1 w37 wb37 kb37 0 lit_13 ((1 + 1) + d4) b32_0 k32_0 (16 + (16 + 2)) ((([(vI 49)] : List Value) ++ lit_11) ++ u5) h37 n0 Os38 P Ex37 Fv37 Vl37 Fc37 f43 f41 f42 f44 f45 (by omega) (by decide) (by (try simp only [List.length_append, List.length_cons, List.length_nil, len_0, len_1, len_2, len_3, len_4, len_5, len_6, len_7, len_8, len_9, len_10, len_11, len_12, len_13]) <;> omega) (by (try simp only [List.length_append, List.length_cons, List.length_nil, len_0, len_1, len_2, len_3, len_4, len_5, len_6, len_7, len_8, len_9, len_10, len_11, len_12, len_13]) <;> omega) (Nat.le_trans Zs21 l32_0) (by decide) (by omega) (by decide) nz46 (Nat.le_trans Z0 (Nat.le_of_eq g1.symm)) (Ne.symm nz46)) hZ37 (wd hw 80 rfl) (wd hw 16 rfl) (by decide) (by decide)) q47a q47c (g := (mkF m 32 #[lI 1, lR x1] [(.ref w37), (.ref b1)])) rfl (by rw [hml]; rfl) (Steps.refl _) (argsL := [(.ref w37)]) (rest := []) (lenOf pd_13 rfl) rfl (lz rfl) (hb hby d6_32) (fun _ _ => ⟨rfl, e37, (by decide : 7 + 0 ≤ _), (by decide : 174 + 0 ≤ _)⟩)
 dsimp only [Pt.U, Pt.locs, Pt.cells, Pt.slots] at X47 l47 y47 z47 st47 hQ47
 obtain rfl : k47 = 7 := y47
 obtain rfl : n47 = 174 := z47
 obtain ⟨rfl, N47q, K47, q47_0, q47_1, q47_2, q47_3⟩ := hQ47
 have N47 : Fr n0 L47 := by rw [l47]; exact Fr.app N32 N47q
 have Ks48 := Ks38.trans K47 (allS (Or.inr (Nat.le_trans Kr.1 (Nat.le_of_eq g1.symm))) (allS (Or.inr (Nat.le_trans Ks21.1 l32_0)) all0))
 have Os48 := Os38.keep K47 (allS (Nat.le_trans Z0 (Nat.le_of_eq g1.symm)) (allS (Nat.le_trans Zs21 l32_0) all0))
 have Cs48 := Cs38.trans (CHr.keep K47 (sfS (Safe.exa hZ37.alike f41 (by decide) (by decide)) (sfS sf40 sf0)) Cs38.1)
 have hk48 := Nat.le_trans hkq37 K47.1
 have f51 := (f41.keep K47)
 obtain ⟨cq52, kq52, q52a, q52b, q52c⟩ := isOf hZ37 rfl f51
 obtain ⟨_, _, ⟨T52, L52, k52, n52⟩, -, X52, ⟨Lc52, hQ52, l52, y52, z52⟩, st52⟩ := X47.virtualBack hx (y := M33) (z := M33) hown37 (mvT hZ37 (wd hw 119 rfl)) (mvT hZ37 (wd hw 120 rfl)) (notFace_of_selects (args := #[]) (mvT hZ37 (wd hw 122 rfl))) (mvT hZ37 (wd hw 122 rfl)) (mvT hZ37 (wd hw 121 rfl)) (by decide) (backOf (W := 0) (rm20_35 l Z a0 hw [] cz dg fm b1 b32_0 (((1 + 1) + d4) + 0) k32_0 (16 + (16 + 2)) (((([(vI 49)] : List Value) ++ lit_11) ++ u5) ++ lit_13) T47.heap n0 Os48 P f51 q47_1 q47_0 q47_2 q47_3 (by omega) (by omega) (by decide) (by omega) (by omega) (by omega) (by decide) (by omega) (by decide) (by (try simp only [List.length_append, List.length_cons, List.length_nil, len_0, len_1, len_2, len_3, len_4, len_5, len_6, len_7, len_8, len_9, len_10, len_11, len_12, len_13]) <;> omega) (by omega) (by omega)) hZ37 (wd hw 123 rfl) (wd hw 16 rfl) (by decide) (by decide)) q52a q52c (g := (mkF m 35 #[lI 1, lR x1] [(.ref b1)])) rfl (by rw [hml]; rfl) (Steps.refl _) (argsL := []) (rest := []) (lenOf pd_20 rfl) rfl (lz rfl) (hb hby d6_35) (fun _ _ => ⟨rfl, rfl, (by decide : 7 + 2 ≤ _), (by decide : 174 + 146 ≤ _)⟩)
 dsimp only [Pt.U, Pt.locs, Pt.cells, Pt.slots] at X52 l52 y52 z52 st52 hQ52
 obtain rfl : k52 = 9 := y52
 obtain rfl : n52 = 320 := z52
 obtain ⟨b52_0, b52_1, k52_0, rfl, N52q, K52, l52_0, l52_1, q52_0, q52_1, q52_2, q52_3⟩ := hQ52
 have N52 : Fr n0 L52 := by rw [l52]; exact Fr.app N47 N52q
 have Ks55 := Ks48.trans K52 all0
 have Cs55 := Cs48.trans (CHr.keep K52 sf0 Cs48.1)
 have hk55 := Nat.le_trans hk48 K52.1
 have Cend := Cs55.trans (CHv.at X52 hZ37 hEL Cs55.1)
 obtain ⟨fs, hr, hrun, hended, hREW⟩ := X52.leaveW hS37 hk55 (v := some (.ref b52_0)) (fun h => by rw [Bd.returns] at h; cases h)
 refine ⟨_, _, pre0 _ ?_, hrun, hended, _, _, rfl, ?_, ?_, own_rew hREW (by decide) (by decide)⟩
 · show SH s₁ 0 #[lI 1, lR x1] []
   refine st1 _ ?_
   show SH T1 3 #[lI 1, lR x1] [(.ref b1)]
   refine XS.dup X1.here hx rfl (hb hby d6_3) rfl rfl ?_
   show SH T1 4 #[lI 1, lR x1] [(.ref b1), (.ref b1)]
   refine st3.trans ?_
   show SH T3 7 #[lI 1, lR x1] [(.ref b1)]
   refine XS.iloadN X3.here hx rfl (hb hby d6_7) rfl ?_
   show SH T3 8 #[lI 1, lR x1] [(vI 1), (.ref b1)]
   refine st9.trans ?_
   show SH T9 11 #[lI 1, lR x1] [(.ref b1)]
   refine st12 _ ?_
   show SH T12 13 #[lI 1, lR x1] [(.ref w12), (.ref b1)]
   refine st20.trans ?_
   show SH T20 16 #[lI 1, lR x1] [(.ref b1)]
   refine XS.aloadN X20.here hx rfl (hb hby d6_16) rfl rfl ?_
   show SH T20 17 #[lI 1, lR x1] [(.ref x1), (.ref b1)]
   refine st32.trans ?_
   show SH T32 20 #[lI 1, lR x1] [(.ref b1)]
   refine XS.iloadN X32.here hx rfl (hb hby d6_20) rfl ?_
   show SH T32 21 #[lI 1, lR x1] [(vI 1), (.ref b1)]
   refine XS.iconst X32.here hx rfl (hb hby d6_21) ?_
   show SH T32 22 #[lI 1, lR x1] [(vI 1), (vI 1), (.ref b1)]
   refine XS.icmpNo X32.here hx rfl (hb hby d6_22) rfl (by decide) ?_
   show SH T32 25 #[lI 1, lR x1] [(.ref b1)]
   refine st37 _ ?_
   show SH T37 27 #[lI 1, lR x1] [(.ref w37), (.ref b1)]
   refine XS.goto X37.here hx rfl (pc0 := 27) (pc' := 32) rfl (hb hby d6_27) (by decide) (by decide) ?_
   show SH T37 32 #[lI 1, lR x1] [(.ref w37), (.ref b1)]
   refine st47.trans ?_
   show SH T47 35 #[lI 1, lR x1] [(.ref b1)]
   refine st52.trans ?_
   show SH T52 38 #[lI 1, lR x1] [(.ref b52_0)]
   exact retOut X52 hx Bd.returns rfl (Or.inr (Or.inr (Or.inr (Or.inr ⟨rfl, rfl, rfl⟩)))) (hb hby d6_38) hr
 · show QrmC1_1 Z x1 x2 c3 d4 u5 h0 n0 _ T52.heap _
   exact ⟨b52_0, b52_1, k52_0, rfl, N52, Ks55, (Nat.le_trans Ks48.1 l52_0), (Nat.le_trans Ks48.1 l52_1), q52_0, q52_1, q52_2, q52_3⟩
 · rw [hh]
   show CHr Z consts_1 s.vm h0 T52.vm T52.heap
   exact Cend
def QrmC1_2 (Z : State) (x1 : Addr) (x2 : Addr) (c3 : ClassId) (d4 : Nat) (u5 : List Value) (h0 : Heap) (n0 : Nat) (v : Option Value) (h : Heap) (L : List Loc) : Prop := ∃ y1 : Addr, ∃ y2 : Addr, ∃ k1_ : ClassId, v = some (.ref y1) ∧ Fr n0 L ∧ Keep h0 h [] ∧ h0.size ≤ y1 ∧ h0.size ≤ y2 ∧ Exa Z h y1 sS ∧ sC Z h y1 ∧ sV Z h y1 y2 ∧ Arv Z h y2 k1_ .byte (oN ((((1 + 1) + d4) + 1) - 0)) (((([(vI 50)] : List Value) ++ lit_11) ++ u5) ++ lit_12) (vI 0)
theorem rmC1_2 (l : Launch) (Z : State) (a0 : Array Value) (hw : HW Z a0) (ws : List Jvm.Cond) (cz : Int32) (dg : Addr) (fm : Value) (x1 : Addr) (x2 : Addr) (c3 : ClassId) (d4 : Nat) (u5 : List Value) (h0 : Heap) (n0 : Nat) (O0 : Old Z n0 h0) (P : Pins Z cz dg fm) (E_x1 : Exa Z h0 x1 sS) (F_x1_value : sV Z h0 x1 x2) (F_x1_coder : sC Z h0 x1) (V_x2 : bA Z h0 x2 c3 (oN d4) u5) (lt_x2 : x2 < h0.size) (hd0 : d4 = 15) (hd1 : u5.length = d4) :
   MetFree l M34 (head1 (Jvm.Cond.code M34 prog_21_method_11_code 2 (some (.object sS)) :: ws) (rO 6 9 324 91)) (fun a U => a = #[(vI 2), (.ref x1)] ∧ Z.Warmed39 U.vm ∧ U.heap = h0 ∧ CHv Z consts_1 U.vm h0) (fun _ _ _ _ _ => True) (fun _ U o U' => ∃ v L, o = .returned v ∧ QrmC1_2 Z x1 x2 c3 d4 u5 h0 n0 v U'.heap L ∧ CHr Z consts_1 U.vm U.heap U'.vm U'.heap ∧ ReturnedEndW U o U' L (rO 6 9 324 91).cells (rO 6 9 324 91).slots) := by
 refine MetFree.of_bodySF (plainFor_of_name pN1) hisR ?_
 intro p e s m args below meth c s₁ Bd hml0 hP hK
 obtain ⟨rfl, hZ, hh, hCv⟩ := hP
 have hx := Bd.exec
 have hby := Bd.bytes
 have hml : c.maxLocals = 2 := hml0
 have hown : s.vm.findClass sI = some m.cls := findClass_of_methodNamed Bd.named
 have hnm := (name_of_methodNamed Bd.named Bd.method).1
 have X0 : Stand p l e (rO 6 9 324 91) (s.setVm s.vm) m #[(vI 2), (.ref x1)] below meth c s₁ [] 0 0 := Stand.of_body Bd
 have e0 : s₁.heap = h0 := by rw [← hh, Bd.state]; rfl
 have N0 := Fr.nil n0
 have Z0 : n0 ≤ h0.size := O0.1 ▸ O0.2.1
 have pre0 : ∀ t, SG p e below s₁ m 0 #[lI 2, lR x1] [] t → Steps p.tables e below (s₁.setTop (entryFrame m #[(vI 2), (.ref x1)] 2)) t := fun t k => castTop (ef_6_IR m (2 : Int32) x1) k
 have Kr : Keep h0 h0 [] := Keep.refl h0 _
 have hEL : EW Z a0 consts_1 := own_ew hw
 have wS : ∀ d ∈ Bundle.stringAtoms, d.before a0 Z = true := fun d hd => hw d (own_wsa d hd)
 have hS : s.Since s.vm 0 := (State.WarmedH.refl s).since 0
 have hk : 0 ≤ h0.size := Nat.zero_le _
 have C0 : CHr Z consts_1 s.vm h0 s.vm h0 := CHr.refl hCv
 obtain ⟨T1, h1, X1, e1, E1, A1, D1, -, st1⟩ := newO X0 hx hZ hown (wd hw 14 rfl) (wd hw 15 rfl) (wd hw 16 rfl) e0 (g := (mkF m 0 #[lI 2, lR x1] [])) rfl (hb hby d6_0) (by decide) (by decide)
 obtain ⟨b1, g1⟩ : ∃ z, z = (h0).size := ⟨_, rfl⟩
 rw [← g1] at A1 D1 st1
 have Zs2 := Nat.le_trans Z0 E1.1
 have Os2 := O0.ext E1
 have Ks2 := Kr.ext E1
 have Cs2 := C0.trans (CHr.ext E1 C0.1)
 have hk2 := Nat.le_trans hk E1.1
 have D1_value : Fld Z h1 b1 sA "value" "[B" .null := D1 (Or.inl (wd hw 31 rfl)) (ty := (.array .byte)) (by decide)
 have D1_coder : aC Z h1 b1 := D1 (Or.inl (wd hw 33 rfl)) (ty := .byte) (by decide)
 have D1_count : aN Z h1 b1 0 := D1 (Or.inl (wd hw 56 rfl)) (ty := .int) (by decide)
 obtain ⟨_, _, ⟨T3, L3, k3, n3⟩, -, X3, ⟨Lc3, hQ3, l3, y3, z3⟩, st3⟩ := X1.specialBack hx (y := M10) rfl hown (mvT hZ (wd hw 17 rfl)) (mvT hZ (wd hw 18 rfl)) (mvT hZ (wd hw 19 rfl)) (by decide) (backOf (W := 1) (rm4_11 l Z a0 hw [] cz dg fm b1 h1 n0 Os2 P D1_count A1 D1_value (Nat.le_trans Z0 (Nat.le_of_eq g1.symm)) D1_coder) hZ (wd hw 19 rfl) (wd hw 16 rfl) (by decide) (by decide)) (g := (mkF m 4 #[lI 2, lR x1] [(.ref b1), (.ref b1)])) rfl (by rw [hml]; rfl) (Steps.refl _) (a := b1) (argsL := []) (rest := [(.ref b1)]) (lenOf pd_0 rfl) rfl (lz rfl) (hb hby d6_4) (fun _ _ => ⟨rfl, e1, (by decide : 1 + 1 ≤ _), (by decide : 4 + 16 ≤ _)⟩)
 dsimp only [Pt.U, Pt.locs, Pt.cells, Pt.slots] at X3 l3 y3 z3 st3 hQ3
 obtain rfl : k3 = 2 := y3
 obtain rfl : n3 = 20 := z3
 obtain ⟨b3_0, k3_0, rfl, N3q, K3, l3_0, q3_0, q3_1, q3_2, q3_3⟩ := hQ3
 have N3 : Fr n0 L3 := by rw [l3]; exact Fr.app N0 N3q
 have sf4 : Safe Z consts_1 s.vm (h1) b3_0 := Safe.new l3_0
 have Ks5 := Ks2.trans K3 (allS (Or.inr (Nat.le_trans Kr.1 (Nat.le_of_eq g1.symm))) all0)
 have Zs5 := Nat.le_trans Zs2 K3.1
 have Os5 := Os2.keep K3 (allS (Nat.le_trans Z0 (Nat.le_of_eq g1.symm)) all0)
 have Cs5 := Cs2.trans (CHr.keep K3 (sfS (Safe.exa hZ.alike A1 (by decide) (by decide)) sf0) Cs2.1)
 have sf6 := (Safe.keep K3 (sfS (Safe.exa hZ.alike A1 (by decide) (by decide)) sf0) Cs2.1 sf4)
 have hk5 := Nat.le_trans hk2 K3.1
 have f7 := (A1.keep K3)
 have nz8 := (Nat.ne_of_lt (Nat.lt_of_lt_of_le (A1).lt l3_0))
 obtain ⟨cq9, kq9, q9a, q9b, q9c⟩ := isOf hZ rfl f7
 obtain ⟨_, _, ⟨T9, L9, k9, n9⟩, -, X9, ⟨Lc9, hQ9, l9, y9, z9⟩, st9⟩ := X3.virtualBack hx (y := M16) (z := M16) hown (mvT hZ (wd hw 45 rfl)) (mvT hZ (wd hw 46 rfl)) (notFace_of_selects (args := #[]) (mvT hZ (wd hw 48 rfl))) (mvT hZ (wd hw 48 rfl)) (mvT hZ (wd hw 47 rfl)) (by decide) (backOf (W := 0) (rm7_43 l Z a0 hw [] cz dg fm b1 b3_0 k3_0 T3.heap n0 Os5 P q3_0 f7 q3_1 q3_3 q3_2 (Nat.le_trans Zs2 l3_0) nz8 (Nat.le_trans Z0 (Nat.le_of_eq g1.symm)) (Ne.symm nz8)) hZ (wd hw 49 rfl) (wd hw 16 rfl) (by decide) (by decide)) q9a q9c (g := (mkF m 8 #[lI 2, lR x1] [(vI 2), (.ref b1)])) rfl (by rw [hml]; rfl) (Steps.refl _) (argsL := [(vI 2)]) (rest := []) (lenOf pd_6 rfl) rfl (lz rfl) (hb hby d6_8) (fun _ _ => ⟨rfl, rfl, (by decide : 2 + 0 ≤ _), (by decide : 20 + 0 ≤ _)⟩)
 dsimp only [Pt.U, Pt.locs, Pt.cells, Pt.slots] at X9 l9 y9 z9 st9 hQ9
 obtain rfl : k9 = 2 := y9
 obtain rfl : n9 = 20 := z9
 obtain ⟨rfl, N9q, K9, q9_0, q9_1, q9_2, q9_3⟩ := hQ9
 have N9 : Fr n0 L9 := by rw [l9]; exact Fr.app N3 N9q
 have Ks10 := Ks5.trans K9 (allS (Or.inr (Nat.le_trans Kr.1 (Nat.le_of_eq g1.symm))) (allS (Or.inr (Nat.le_trans Ks2.1 l3_0)) all0))
 have Zs10 := Nat.le_trans Zs5 K9.1
 have Os10 := Os5.keep K9 (allS (Nat.le_trans Z0 (Nat.le_of_eq g1.symm)) (allS (Nat.le_trans Zs2 l3_0) all0))
 have Cs10 := Cs5.trans (CHr.keep K9 (sfS (Safe.exa hZ.alike f7 (by decide) (by decide)) (sfS sf6 sf0)) Cs5.1)
 have sf11 := (Safe.keep K9 (sfS (Safe.exa hZ.alike f7 (by decide) (by decide)) (sfS sf6 sf0)) Cs5.1 sf6)
 have hk10 := Nat.le_trans hk5 K9.1
 obtain ⟨w12, T12, h12, kq12, wb12, kb12, X12, e12, E12, hS12, hkq12, hZ12, hown12, Ex12, Fc12, Fv12, Va12, la12, lb12, Cq12, -, hne12, st12⟩ := ldcCH X9 hx hZ hown (wd hw 75 rfl) wS rfl hS hk10 hEL (mg 11 rfl) Cs10.1 (vs := [(vI 32)]) (z := (1 : Int32)) ⟨by decide, rfl⟩ (by decide) rfl (g := (mkF m 11 #[lI 2, lR x1] [(.ref b1)])) rfl (hb hby d6_11) (n := 4) (by decide) (by decide) (by decide) (by decide)
 have Zs13 := Nat.le_trans Zs10 E12.1
 have Os13 := Os10.ext E12
 have Ks13 := Ks10.ext E12
 have Cs13 := Cs10.trans Cq12
 have sf14 := (Cq12.safe (q9_3).lt sf11)
 have Vl12 : bA Z h12 wb12 kb12 1 lit_11 := Va12
 have f15 := ((f7.keep K9).ext E12)
 have f16 := (q9_1.ext E12)
 have f17 := (q9_0.ext E12)
 have f18 := (q9_3.ext E12)
 have f19 := (q9_2.ext E12)
 obtain ⟨cq20, kq20, q20a, q20b, q20c⟩ := isOf hZ12 e12 f15
 obtain ⟨_, _, ⟨T20, L20, k20, n20⟩, -, X20, ⟨Lc20, hQ20, l20, y20, z20⟩, st20⟩ := X12.virtualBack hx (y := M23) (z := M23) hown12 (mvT hZ12 (wd hw 76 rfl)) (mvT hZ12 (wd hw 77 rfl)) (notFace_of_selects (args := #[]) (mvT hZ12 (wd hw 79 rfl))) (mvT hZ12 (wd hw 79 rfl)) (mvT hZ12 (wd hw 78 rfl)) (by decide) (backOf (W := 0) (rm13_25 l Z a0 hw [] cz dg fm b1 w12 wb12 kb12 1 lit_11 1 b3_0 k3_0 16 ([(vI 50)] : List Value) h12 n0 Os13 P Ex12 Fv12 Vl12 Fc12 f17 f15 f16 f18 f19 (by decide) (by decide) (by (try simp only [List.length_append, List.length_cons, List.length_nil, len_0, len_1, len_2, len_3, len_4, len_5, len_6, len_7, len_8, len_9, len_10, len_11, len_12, len_13]) <;> omega) (by (try simp only [List.length_append, List.length_cons, List.length_nil, len_0, len_1, len_2, len_3, len_4, len_5, len_6, len_7, len_8, len_9, len_10, len_11, len_12, len_13]) <;> omega) (Nat.le_trans Zs2 l3_0) (by decide) (by decide) (by decide) nz8 (Nat.le_trans Z0 (Nat.le_of_eq g1.symm)) (Ne.symm nz8)) hZ12 (wd hw 80 rfl) (wd hw 16 rfl) (by decide) (by decide)) q20a q20c (g := (mkF m 13 #[lI 2, lR x1] [(.ref w12), (.ref b1)])) rfl (by rw [hml]; rfl) (Steps.refl _) (argsL := [(.ref w12)]) (rest := []) (lenOf pd_13 rfl) rfl (lz rfl) (hb hby d6_13) (fun _ _ => ⟨rfl, e12, (by decide : 4 + 0 ≤ _), (by decide : 28 + 0 ≤ _)⟩)
 dsimp only [Pt.U, Pt.locs, Pt.cells, Pt.slots] at X20 l20 y20 z20 st20 hQ20
 obtain rfl : k20 = 4 := y20
 obtain rfl : n20 = 28 := z20
 obtain ⟨rfl, N20q, K20, q20_0, q20_1, q20_2, q20_3⟩ := hQ20
 have N20 : Fr n0 L20 := by rw [l20]; exact Fr.app N9 N20q
 have Ks21 := Ks13.trans K20 (allS (Or.inr (Nat.le_trans Kr.1 (Nat.le_of_eq g1.symm))) (allS (Or.inr (Nat.le_trans Ks2.1 l3_0)) all0))
 have Zs21 := Nat.le_trans Zs13 K20.1
 have Os21 := Os13.keep K20 (allS (Nat.le_trans Z0 (Nat.le_of_eq g1.symm)) (allS (Nat.le_trans Zs2 l3_0) all0))
 have Cs21 := Cs13.trans (CHr.keep K20 (sfS (Safe.exa hZ12.alike f15 (by decide) (by decide)) (sfS sf14 sf0)) Cs13.1)
 have hk21 := Nat.le_trans hkq12 K20.1
 have f23 := (f15.keep K20)
 have nz24 := (Nat.ne_of_lt (Nat.lt_of_lt_of_le (E_x1).lt (Nat.le_of_eq g1.symm)))
 have nz25 := (Nat.ne_of_lt (Nat.lt_of_lt_of_le ((E_x1.ext E1)).lt l3_0))
 have f26 := (((((F_x1_value.ext E1).keep K3 (ninS nz24 nin0)).keep K9 (ninS nz24 (ninS nz25 nin0))).ext E12).keep K20 (ninS nz24 (ninS nz25 nin0)))
 have nz27 := (Nat.ne_of_lt (Nat.lt_of_lt_of_le (V_x2).lt (Nat.le_of_eq g1.symm)))
 have nz28 := (Nat.ne_of_lt (Nat.lt_of_lt_of_le ((V_x2.ext E1)).lt l3_0))
 have f29 := (((((V_x2.ext E1).keep K3 (ninS nz27 nin0)).keep K9 (ninS nz27 (ninS nz28 nin0))).ext E12).keep K20 (ninS nz27 (ninS nz28 nin0)))
 have f30 := (((((E_x1.ext E1).keep K3).keep K9).ext E12).keep K20)
 have f31 := (((((F_x1_coder.ext E1).keep K3 (ninS nz24 nin0)).keep K9 (ninS nz24 (ninS nz25 nin0))).ext E12).keep K20 (ninS nz24 (ninS nz25 nin0)))
 obtain ⟨cq32, kq32, q32a, q32b, q32c⟩ := isOf hZ12 rfl f23
 obtain ⟨_, _, ⟨T32, L32, k32, n32⟩, -, X32, ⟨Lc32, hQ32, l32, y32, z32⟩, st32⟩ := X20.virtualBack hx (y := M23) (z := M23) hown12 (mvT hZ12 (wd hw 76 rfl)) (mvT hZ12 (wd hw 77 rfl)) (notFace_of_selects (args := #[]) (mvT hZ12 (wd hw 79 rfl))) (mvT hZ12 (wd hw 79 rfl)) (mvT hZ12 (wd hw 78 rfl)) (by decide) (backOf (W := 0) (rmGg l Z a0 hw [] cz dg fm b1 x1 x2 c3 d4 u5 (1 + 1) b3_0 k3_0 16 (([(vI 50)] : List Value) ++ lit_11) T20.heap n0 Os21 P f30 f26 f29 f31 q20_0 f23 q20_1 q20_3 q20_2 (by omega) (by omega) (by omega) (by omega) (by decide) (by decide) (by decide) (by decide) (by decide) (by decide) (by decide) (by decide) (by decide) (by (try simp only [List.length_append, List.length_cons, List.length_nil, len_0, len_1, len_2, len_3, len_4, len_5, len_6, len_7, len_8, len_9, len_10, len_11, len_12, len_13]) <;> omega) (by decide) (by decide) (Nat.le_trans Z0 (Nat.le_of_eq g1.symm)) nz24 nz27 (by (try simp only [List.length_append, List.length_cons, List.length_nil, len_0, len_1, len_2, len_3, len_4, len_5, len_6, len_7, len_8, len_9, len_10, len_11, len_12, len_13]) <;> omega) (by (try simp only [List.length_append, List.length_cons, List.length_nil, len_0, len_1, len_2, len_3, len_4, len_5, len_6, len_7, len_8, len_9, len_10, len_11, len_12, len_13]) <;> omega) (by omega) (by omega) (by omega)) hZ12 (wd hw 80 rfl) (wd hw 16 rfl) (by decide) (by decide)) q32a q32c (g := (mkF m 17 #[lI 2, lR x1] [(.ref x1), (.ref b1)])) rfl (by rw [hml]; rfl) (Steps.refl _) (argsL := [(.ref x1)]) (rest := []) (lenOf pd_13 rfl) rfl (lz rfl) (hb hby d6_17) (fun _ _ => ⟨rfl, rfl, (by decide : 4 + 1 ≤ _), (by decide : 28 + 142 ≤ _)⟩)
 dsimp only [Pt.U, Pt.locs, Pt.cells, Pt.slots] at X32 l32 y32 z32 st32 hQ32
 obtain rfl : k32 = 5 := y32
 obtain rfl : n32 = 170 := z32
 obtain ⟨b32_0, k32_0, rfl, N32q, K32, l32_0, q32_0, q32_1, q32_2, q32_3⟩ := hQ32
 have N32 : Fr n0 L32 := by rw [l32]; exact Fr.app N20 N32q
 have sf33 : Safe Z consts_1 T12.vm (T20.heap) b32_0 := Safe.new l32_0
 have Ks34 := Ks21.trans K32 (allS (Or.inr (Nat.le_trans Kr.1 (Nat.le_of_eq g1.symm))) all0)
 have Os34 := Os21.keep K32 (allS (Nat.le_trans Z0 (Nat.le_of_eq g1.symm)) all0)
 have Cs34 := Cs21.trans (CHr.keep K32 (sfS (Safe.exa hZ12.alike f23 (by decide) (by decide)) sf0) Cs21.1)
 have sf36 := (Safe.keep K32 (sfS (Safe.exa hZ12.alike f23 (by decide) (by decide)) sf0) Cs21.1 sf33)
 have hk34 := Nat.le_trans hk21 K32.1
 obtain ⟨w37, T37, h37, kq37, wb37, kb37, X37, e37, E37, hS37, hkq37, hZ37, hown37, Ex37, Fc37, Fv37, Va37, la37, lb37, Cq37, -, hne37, st37⟩ := ldcCH X32 hx hZ12 hown12 (wd hw 118 rfl) wS rfl hS12 hk34 hEL (mg 13 rfl) Cs34.1 (vs := [(vI 115)]) (z := (1 : Int32)) ⟨by decide, rfl⟩ (by decide) rfl (g := (mkF m 30 #[lI 2, lR x1] [(.ref b1)])) rfl (hb hby d6_30) (n := 4) (by decide) (by decide) (by decide) (by decide)
 have Os38 := Os34.ext E37
 have Ks38 := Ks34.ext E37
 have Cs38 := Cs34.trans Cq37
 have sf40 := (Cq37.safe (q32_3).lt sf36)
 have Vl37 : bA Z h37 wb37 kb37 1 lit_12 := Va37
 have f41 := ((f23.keep K32).ext E37)
 have f42 := (q32_1.ext E37)
 have f43 := (q32_0.ext E37)
 have f44 := (q32_3.ext E37)
 have f45 := (q32_2.ext E37)
 have nz46 := (Nat.ne_of_lt (Nat.lt_of_lt_of_le (f23).lt l32_0))
 obtain ⟨cq47, kq47, q47a, q47b, q47c⟩ := isOf hZ37 e37 f41
 obtain ⟨_, _, ⟨T47, L47, k47, n47⟩, -, X47, ⟨Lc47, hQ47, l47, y47, z47⟩, st47⟩ := X37.virtualBack hx (y := M23) (z := M23) hown37 (mvT hZ37 (wd hw 76 rfl)) (mvT hZ37 (wd hw 77 rfl)) (notFace_of_selects (args := #[]) (mvT hZ37 (wd hw 79 rfl))) (mvT hZ37 (wd hw 79 rfl)) (mvT hZ37 (wd hw 78 rfl)) (by decide) (backOf (W := 0) (rm13_25 l Z a0 hw [] cz dg fm b1 w37 wb37 kb37 1 lit_12 ((1 + 1) + d4) b32_0 k32_0 (16 + (16 + 2)) ((([(vI 50)] : List Value) ++ lit_11) ++ u5) h37 n0 Os38 P Ex37 Fv37 Vl37 Fc37 f43 f41 f42 f44 f45 (by omega) (by decide) (by (try simp only [List.length_append, List.length_cons, List.length_nil, len_0, len_1, len_2, len_3, len_4, len_5, len_6, len_7, len_8, len_9, len_10, len_11, len_12, len_13]) <;> omega) (by (try simp only [List.length_append, List.length_cons, List.length_nil, len_0, len_1, len_2, len_3, len_4, len_5, len_6, len_7, len_8, len_9, len_10, len_11, len_12, len_13]) <;> omega) (Nat.le_trans Zs21 l32_0) (by decide) (by omega) (by decide) nz46 (Nat.le_trans Z0 (Nat.le_of_eq g1.symm)) (Ne.symm nz46)) hZ37 (wd hw 80 rfl) (wd hw 16 rfl) (by decide) (by decide)) q47a q47c (g := (mkF m 32 #[lI 2, lR x1] [(.ref w37), (.ref b1)])) rfl (by rw [hml]; rfl) (Steps.refl _) (argsL := [(.ref w37)]) (rest := []) (lenOf pd_13 rfl) rfl (lz rfl) (hb hby d6_32) (fun _ _ => ⟨rfl, e37, (by decide : 7 + 0 ≤ _), (by decide : 178 + 0 ≤ _)⟩)
 dsimp only [Pt.U, Pt.locs, Pt.cells, Pt.slots] at X47 l47 y47 z47 st47 hQ47
 obtain rfl : k47 = 7 := y47
 obtain rfl : n47 = 178 := z47
 obtain ⟨rfl, N47q, K47, q47_0, q47_1, q47_2, q47_3⟩ := hQ47
 have N47 : Fr n0 L47 := by rw [l47]; exact Fr.app N32 N47q
 have Ks48 := Ks38.trans K47 (allS (Or.inr (Nat.le_trans Kr.1 (Nat.le_of_eq g1.symm))) (allS (Or.inr (Nat.le_trans Ks21.1 l32_0)) all0))
 have Os48 := Os38.keep K47 (allS (Nat.le_trans Z0 (Nat.le_of_eq g1.symm)) (allS (Nat.le_trans Zs21 l32_0) all0))
 have Cs48 := Cs38.trans (CHr.keep K47 (sfS (Safe.exa hZ37.alike f41 (by decide) (by decide)) (sfS sf40 sf0)) Cs38.1)
 have hk48 := Nat.le_trans hkq37 K47.1
 have f51 := (f41.keep K47)
 obtain ⟨cq52, kq52, q52a, q52b, q52c⟩ := isOf hZ37 rfl f51
 obtain ⟨_, _, ⟨T52, L52, k52, n52⟩, -, X52, ⟨Lc52, hQ52, l52, y52, z52⟩, st52⟩ := X47.virtualBack hx (y := M33) (z := M33) hown37 (mvT hZ37 (wd hw 119 rfl)) (mvT hZ37 (wd hw 120 rfl)) (notFace_of_selects (args := #[]) (mvT hZ37 (wd hw 122 rfl))) (mvT hZ37 (wd hw 122 rfl)) (mvT hZ37 (wd hw 121 rfl)) (by decide) (backOf (W := 0) (rm20_35 l Z a0 hw [] cz dg fm b1 b32_0 (((1 + 1) + d4) + 1) k32_0 (16 + (16 + 2)) (((([(vI 50)] : List Value) ++ lit_11) ++ u5) ++ lit_12) T47.heap n0 Os48 P f51 q47_1 q47_0 q47_2 q47_3 (by omega) (by omega) (by decide) (by omega) (by omega) (by omega) (by decide) (by omega) (by decide) (by (try simp only [List.length_append, List.length_cons, List.length_nil, len_0, len_1, len_2, len_3, len_4, len_5, len_6, len_7, len_8, len_9, len_10, len_11, len_12, len_13]) <;> omega) (by omega) (by omega)) hZ37 (wd hw 123 rfl) (wd hw 16 rfl) (by decide) (by decide)) q52a q52c (g := (mkF m 35 #[lI 2, lR x1] [(.ref b1)])) rfl (by rw [hml]; rfl) (Steps.refl _) (argsL := []) (rest := []) (lenOf pd_20 rfl) rfl (lz rfl) (hb hby d6_35) (fun _ _ => ⟨rfl, rfl, (by decide : 7 + 2 ≤ _), (by decide : 178 + 146 ≤ _)⟩)
 dsimp only [Pt.U, Pt.locs, Pt.cells, Pt.slots] at X52 l52 y52 z52 st52 hQ52
 obtain rfl : k52 = 9 := y52
 obtain rfl : n52 = 324 := z52
 obtain ⟨b52_0, b52_1, k52_0, rfl, N52q, K52, l52_0, l52_1, q52_0, q52_1, q52_2, q52_3⟩ := hQ52
 have N52 : Fr n0 L52 := by rw [l52]; exact Fr.app N47 N52q
 have Ks55 := Ks48.trans K52 all0
 have Cs55 := Cs48.trans (CHr.keep K52 sf0 Cs48.1)
 have hk55 := Nat.le_trans hk48 K52.1
 have Cend := Cs55.trans (CHv.at X52 hZ37 hEL Cs55.1)
 obtain ⟨fs, hr, hrun, hended, hREW⟩ := X52.leaveW hS37 hk55 (v := some (.ref b52_0)) (fun h => by rw [Bd.returns] at h; cases h)
 refine ⟨_, _, pre0 _ ?_, hrun, hended, _, _, rfl, ?_, ?_, own_rew hREW (by decide) (by decide)⟩
 · show SH s₁ 0 #[lI 2, lR x1] []
   refine st1 _ ?_
   show SH T1 3 #[lI 2, lR x1] [(.ref b1)]
   refine XS.dup X1.here hx rfl (hb hby d6_3) rfl rfl ?_
   show SH T1 4 #[lI 2, lR x1] [(.ref b1), (.ref b1)]
   refine st3.trans ?_
   show SH T3 7 #[lI 2, lR x1] [(.ref b1)]
   refine XS.iloadN X3.here hx rfl (hb hby d6_7) rfl ?_
   show SH T3 8 #[lI 2, lR x1] [(vI 2), (.ref b1)]
   refine st9.trans ?_
   show SH T9 11 #[lI 2, lR x1] [(.ref b1)]
   refine st12 _ ?_
   show SH T12 13 #[lI 2, lR x1] [(.ref w12), (.ref b1)]
   refine st20.trans ?_
   show SH T20 16 #[lI 2, lR x1] [(.ref b1)]
   refine XS.aloadN X20.here hx rfl (hb hby d6_16) rfl rfl ?_
   show SH T20 17 #[lI 2, lR x1] [(.ref x1), (.ref b1)]
   refine st32.trans ?_
   show SH T32 20 #[lI 2, lR x1] [(.ref b1)]
   refine XS.iloadN X32.here hx rfl (hb hby d6_20) rfl ?_
   show SH T32 21 #[lI 2, lR x1] [(vI 2), (.ref b1)]
   refine XS.iconst X32.here hx rfl (hb hby d6_21) ?_
   show SH T32 22 #[lI 2, lR x1] [(vI 1), (vI 2), (.ref b1)]
   refine XS.icmpYes X32.here hx rfl (pc0 := 22) (pc' := 30) rfl (hb hby d6_22) rfl (by decide) (by decide) (by decide) ?_
   show SH T32 30 #[lI 2, lR x1] [(.ref b1)]
   refine st37 _ ?_
   show SH T37 32 #[lI 2, lR x1] [(.ref w37), (.ref b1)]
   refine st47.trans ?_
   show SH T47 35 #[lI 2, lR x1] [(.ref b1)]
   refine st52.trans ?_
   show SH T52 38 #[lI 2, lR x1] [(.ref b52_0)]
   exact retOut X52 hx Bd.returns rfl (Or.inr (Or.inr (Or.inr (Or.inr ⟨rfl, rfl, rfl⟩)))) (hb hby d6_38) hr
 · show QrmC1_2 Z x1 x2 c3 d4 u5 h0 n0 _ T52.heap _
   exact ⟨b52_0, b52_1, k52_0, rfl, N52, Ks55, (Nat.le_trans Ks48.1 l52_0), (Nat.le_trans Ks48.1 l52_1), q52_0, q52_1, q52_2, q52_3⟩
 · rw [hh]
   show CHr Z consts_1 s.vm h0 T52.vm T52.heap
   exact Cend
theorem rmC1 (l : Launch) (Z : State) (a0 : Array Value) (hw : HW Z a0) (ws : List Jvm.Cond) (cz : Int32) (dg : Addr) (fm : Value) (i1 : Int32) (x1 : Addr) (x2 : Addr) (c3 : ClassId) (d4 : Nat) (u5 : List Value) (h0 : Heap) (n0 : Nat) (O0 : Old Z n0 h0) (P : Pins Z cz dg fm) (hN : i1 = (0 : Int32) ∨ i1 = (1 : Int32) ∨ i1 = (2 : Int32)) (E_x1 : Exa Z h0 x1 sS) (F_x1_value : sV Z h0 x1 x2) (F_x1_coder : sC Z h0 x1) (V_x2 : bA Z h0 x2 c3 (oN d4) u5) (lt_x2 : x2 < h0.size) (hd0 : d4 = 15) (hd1 : u5.length = d4) :
   MetFree l M34 (head1 (Jvm.Cond.code M34 prog_21_method_11_code 2 (some (.object sS)) :: ws) (rO 6 9 324 91)) (fun a U => a = #[(.int i1), (.ref x1)] ∧ Z.Warmed39 U.vm ∧ U.heap = h0 ∧ CHv Z consts_1 U.vm h0) (fun _ _ _ _ _ => True) (fun _ U o U' => ∃ v L, o = .returned v ∧ QC Z i1 u5 h0 n0 v U'.heap L ∧ CHr Z consts_1 U.vm U.heap U'.vm U'.heap ∧ ReturnedEndW U o U' L (rO 6 9 324 91).cells (rO 6 9 324 91).slots) := by
 rcases hN with rfl | rfl | rfl
 · refine own_qh (rmC1_0 l Z a0 hw ws cz dg fm x1 x2 c3 d4 u5 h0 n0 O0 P E_x1 F_x1_value F_x1_coder V_x2 lt_x2 hd0 hd1) ?_
   rintro v h L ⟨y1, y2, k, e1, N, K, l1, l2, q1, q2, q3, q4⟩
   exact ⟨y1, y2, k, _, _, rfl, rfl, (own_sl _ _).1, (own_sl _ _).2, e1, N, K, l1, l2, q1, q2, q3, own_sc q4 rfl (by simp only [List.length_append, List.length_cons, List.length_nil, len_0, len_1, len_2, len_3, len_4, len_5, len_6, len_7, len_8, len_9, len_10, len_11, len_12, len_13]; omega)⟩
 · refine own_qh (rmC1_1 l Z a0 hw ws cz dg fm x1 x2 c3 d4 u5 h0 n0 O0 P E_x1 F_x1_value F_x1_coder V_x2 lt_x2 hd0 hd1) ?_
   rintro v h L ⟨y1, y2, k, e1, N, K, l1, l2, q1, q2, q3, q4⟩
   exact ⟨y1, y2, k, _, _, rfl, rfl, (own_sl _ _).1, (own_sl _ _).2, e1, N, K, l1, l2, q1, q2, q3, own_sc q4 rfl (by simp only [List.length_append, List.length_cons, List.length_nil, len_0, len_1, len_2, len_3, len_4, len_5, len_6, len_7, len_8, len_9, len_10, len_11, len_12, len_13]; omega)⟩
 · refine own_qh (rmC1_2 l Z a0 hw ws cz dg fm x1 x2 c3 d4 u5 h0 n0 O0 P E_x1 F_x1_value F_x1_coder V_x2 lt_x2 hd0 hd1) ?_
   rintro v h L ⟨y1, y2, k, e1, N, K, l1, l2, q1, q2, q3, q4⟩
   exact ⟨y1, y2, k, _, _, rfl, rfl, (own_sl _ _).1, (own_sl _ _).2, e1, N, K, l1, l2, q1, q2, q3, own_sc q4 rfl (by simp only [List.length_append, List.length_cons, List.length_nil, len_0, len_1, len_2, len_3, len_4, len_5, len_6, len_7, len_8, len_9, len_10, len_11, len_12, len_13]; omega)⟩
theorem d3_118 : decode K3 118 = .ok (.invokevirtual 43, 3) := by decide +kernel
theorem d3_121 : decode K3 121 = .ok (.ldc 63, 2) := by decide +kernel
theorem d3_123 : decode K3 123 = .ok (.invokevirtual 43, 3) := by decide +kernel
theorem d3_126 : decode K3 126 = .ok (.aload_n 0, 1) := by decide +kernel
theorem d3_127 : decode K3 127 = .ok (.getfield 31, 3) := by decide +kernel
theorem d3_130 : decode K3 130 = .ok (.ldc 65, 2) := by decide +kernel
theorem d3_132 : decode K3 132 = .ok (.invokestatic 39, 3) := by decide +kernel
theorem d3_135 : decode K3 135 = .ok (.invokevirtual 43, 3) := by decide +kernel
theorem d3_138 : decode K3 138 = .ok (.invokevirtual 67, 3) := by decide +kernel
theorem d3_141 : decode K3 141 = .ok (.areturn, 1) := by decide +kernel
def tsl (j0 j1 j2 j3 j4 j5 j6 j7 : Int32) : List Value := (segc j0 lit_0 ++ (lit_7 ++ (segc j1 lit_1 ++ (lit_7 ++ (segc j2 lit_2 ++ (lit_8 ++ (segc j3 lit_3 ++ (lit_7 ++ (segc j4 lit_4 ++ (lit_8 ++ (segc j5 lit_3 ++ (lit_9 ++ (segc j6 lit_5 ++ (lit_10 ++ (segc j7 lit_6 ++ [])))))))))))))))
theorem own_tl (j0 j1 j2 j3 j4 j5 j6 j7 : Int32) : (tsl j0 j1 j2 j3 j4 j5 j6 j7).length ≤ 120 := by
 have h0 : (segc j0 lit_0).length ≤ 8 := (own_sl j0 _).2
 have h1 : (segc j1 lit_1).length ≤ 7 := (own_sl j1 _).2
 have h2 : (segc j2 lit_2).length ≤ 10 := (own_sl j2 _).2
 have h3 : (segc j3 lit_3).length ≤ 8 := (own_sl j3 _).2
 have h4 : (segc j4 lit_4).length ≤ 11 := (own_sl j4 _).2
 have h5 : (segc j5 lit_3).length ≤ 8 := (own_sl j5 _).2
 have h6 : (segc j6 lit_5).length ≤ 18 := (own_sl j6 _).2
 have h7 : (segc j7 lit_6).length ≤ 10 := (own_sl j7 _).2
 unfold tsl
 simp only [List.length_append, List.length_cons, List.length_nil, len_0, len_1, len_2, len_3, len_4, len_5, len_6, len_7, len_8, len_9, len_10, len_11, len_12, len_13]
 omega
theorem ef_3_R (m : MethodId) (x0 : Addr) : entryFrame m #[(.ref x0)] 1 = mkF m 0 #[.val (.ref x0)] [] := by first | (simp [entryFrame, mkF, argsToLocals, Value.category]; done) | rfl
def QrmT (Z : State) (x1 : Addr) (i2 : Int32) (i3 : Int32) (i4 : Int32) (i5 : Int32) (i6 : Int32) (i7 : Int32) (i8 : Int32) (i9 : Int32) (h0 : Heap) (n0 : Nat) (v : Option Value) (h : Heap) (L : List Loc) : Prop := ∃ y1 : Addr, ∃ y2 : Addr, ∃ k1_ : ClassId, v = some (.ref y1) ∧ Fr n0 L ∧ Keep h0 h [] ∧ h0.size ≤ y1 ∧ h0.size ≤ y2 ∧ Exa Z h y1 sS ∧ sC Z h y1 ∧ sV Z h y1 y2 ∧ Arv Z h y2 k1_ .byte (oN (tsl i2 i3 i4 i5 i6 i7 i8 i9).length) (tsl i2 i3 i4 i5 i6 i7 i8 i9) (vI 0)
theorem rmT (l : Launch) (Z : State) (a0 : Array Value) (hw : HW Z a0) (ws : List Jvm.Cond) (cz : Int32) (dg : Addr) (fm : Value) (x1 : Addr) (i2 : Int32) (i3 : Int32) (i4 : Int32) (i5 : Int32) (i6 : Int32) (i7 : Int32) (i8 : Int32) (i9 : Int32) (h0 : Heap) (n0 : Nat) (O0 : Old Z n0 h0) (P : Pins Z cz dg fm) (F_x1_groups : iF Z h0 x1 "groups" i2) (F_x1_users : iF Z h0 x1 "users" i3) (F_x1_projects : iF Z h0 x1 "projects" i4) (F_x1_projectShares : iF Z h0 x1 "projectShares" i5) (F_x1_documents : iF Z h0 x1 "documents" i6) (F_x1_documentShares : iF Z h0 x1 "documentShares" i7) (F_x1_versions : iF Z h0 x1 "versions" i8) (F_x1_comments : iF Z h0 x1 "comments" i9) (hc0 : i2 = (0 : Int32) ∨ i2 = (1 : Int32) ∨ i2 = (2 : Int32)) (hc1 : i3 = (0 : Int32) ∨ i3 = (1 : Int32) ∨ i3 = (2 : Int32)) (hc2 : i4 = (0 : Int32) ∨ i4 = (1 : Int32) ∨ i4 = (2 : Int32)) (hc3 : i5 = (0 : Int32) ∨ i5 = (1 : Int32) ∨ i5 = (2 : Int32)) (hc4 : i6 = (0 : Int32) ∨ i6 = (1 : Int32) ∨ i6 = (2 : Int32)) (hc5 : i7 = (0 : Int32) ∨ i7 = (1 : Int32) ∨ i7 = (2 : Int32)) (hc6 : i8 = (0 : Int32) ∨ i8 = (1 : Int32) ∨ i8 = (2 : Int32)) (hc7 : i9 = (0 : Int32) ∨ i9 = (1 : Int32) ∨ i9 = (2 : Int32)) :
   MetFree l M39 (head1 (Jvm.Cond.code M39 prog_21_method_10_code 1 (some (.object sS)) :: ws) (rO 7 112 4010 105)) (fun a U => a = #[(.ref x1)] ∧ Z.Warmed39 U.vm ∧ U.heap = h0 ∧ CHv Z consts_1 U.vm h0) (fun _ _ _ _ _ => True) (fun _ U o U' => ∃ v L, o = .returned v ∧ QrmT Z x1 i2 i3 i4 i5 i6 i7 i8 i9 h0 n0 v U'.heap L ∧ CHr Z consts_1 U.vm U.heap U'.vm U'.heap ∧ ReturnedEndW U o U' L (rO 7 112 4010 105).cells (rO 7 112 4010 105).slots) := by
 refine MetFree.of_bodySF (plainFor_of_name pN1) hisR ?_
 intro p e s m args below meth c s₁ Bd hml0 hP hK
 obtain ⟨rfl, hZ, hh, hCv⟩ := hP
 have hx := Bd.exec
 have hby := Bd.bytes
 have hml : c.maxLocals = 1 := hml0
 have hown : s.vm.findClass sI = some m.cls := findClass_of_methodNamed Bd.named
 have hnm := (name_of_methodNamed Bd.named Bd.method).1
 have X0 : Stand p l e (rO 7 112 4010 105) (s.setVm s.vm) m #[(.ref x1)] below meth c s₁ [] 0 0 := Stand.of_body Bd
 have e0 : s₁.heap = h0 := by rw [← hh, Bd.state]; rfl
 have N0 := Fr.nil n0
 have Z0 : n0 ≤ h0.size := O0.1 ▸ O0.2.1
 have pre0 : ∀ t, SG p e below s₁ m 0 #[lR x1] [] t → Steps p.tables e below (s₁.setTop (entryFrame m #[(.ref x1)] 1)) t := fun t k => castTop (ef_3_R m x1) k
 have Kr : Keep h0 h0 [] := Keep.refl h0 _
 have hEL : EW Z a0 consts_1 := own_ew hw
 have wS : ∀ d ∈ Bundle.stringAtoms, d.before a0 Z = true := fun d hd => hw d (own_wsa d hd)
 have hS : s.Since s.vm 0 := (State.WarmedH.refl s).since 0
 have hk : 0 ≤ h0.size := Nat.zero_le _
 have C0 : CHr Z consts_1 s.vm h0 s.vm h0 := CHr.refl hCv
 obtain ⟨T1, h1, X1, e1, E1, A1, D1, -, st1⟩ := newO X0 hx hZ hown (wd hw 14 rfl) (wd hw 15 rfl) (wd hw 16 rfl) e0 (g := (mkF m 0 #[lR x1] [])) rfl (hb hby d3_0) (by decide) (by decide)
 obtain ⟨b1, g1⟩ : ∃ z, z = (h0).size := ⟨_, rfl⟩
 rw [← g1] at A1 D1 st1
 have Zs2 := Nat.le_trans Z0 E1.1
 have Os2 := O0.ext E1
 have Ks2 := Kr.ext E1
 have Cs2 := C0.trans (CHr.ext E1 C0.1)
 have hk2 := Nat.le_trans hk E1.1
 have D1_value : Fld Z h1 b1 sA "value" "[B" .null := D1 (Or.inl (wd hw 31 rfl)) (ty := (.array .byte)) (by decide)
 have D1_coder : aC Z h1 b1 := D1 (Or.inl (wd hw 33 rfl)) (ty := .byte) (by decide)
 have D1_count : aN Z h1 b1 0 := D1 (Or.inl (wd hw 56 rfl)) (ty := .int) (by decide)
 obtain ⟨_, _, ⟨T3, L3, k3, n3⟩, -, X3, ⟨Lc3, hQ3, l3, y3, z3⟩, st3⟩ := X1.specialBack hx (y := M10) rfl hown (mvT hZ (wd hw 17 rfl)) (mvT hZ (wd hw 18 rfl)) (mvT hZ (wd hw 19 rfl)) (by decide) (backOf (W := 1) (rm4_11 l Z a0 hw [] cz dg fm b1 h1 n0 Os2 P D1_count A1 D1_value (Nat.le_trans Z0 (Nat.le_of_eq g1.symm)) D1_coder) hZ (wd hw 19 rfl) (wd hw 16 rfl) (by decide) (by decide)) (g := (mkF m 4 #[lR x1] [(.ref b1), (.ref b1)])) rfl (by rw [hml]; rfl) (Steps.refl _) (a := b1) (argsL := []) (rest := [(.ref b1)]) (lenOf pd_0 rfl) rfl (lz rfl) (hb hby d3_4) (fun _ _ => ⟨rfl, e1, (by decide : 1 + 1 ≤ _), (by decide : 4 + 16 ≤ _)⟩)
 dsimp only [Pt.U, Pt.locs, Pt.cells, Pt.slots] at X3 l3 y3 z3 st3 hQ3
 obtain rfl : k3 = 2 := y3
 obtain rfl : n3 = 20 := z3
 obtain ⟨b3_0, k3_0, rfl, N3q, K3, l3_0, q3_0, q3_1, q3_2, q3_3⟩ := hQ3
 have N3 : Fr n0 L3 := by rw [l3]; exact Fr.app N0 N3q
 have sf4 : Safe Z consts_1 s.vm (h1) b3_0 := Safe.new l3_0
 have Ks5 := Ks2.trans K3 (allS (Or.inr (Nat.le_trans Kr.1 (Nat.le_of_eq g1.symm))) all0)
 have Os5 := Os2.keep K3 (allS (Nat.le_trans Z0 (Nat.le_of_eq g1.symm)) all0)
 have Cs5 := Cs2.trans (CHr.keep K3 (sfS (Safe.exa hZ.alike A1 (by decide) (by decide)) sf0) Cs2.1)
 have sf6 := (Safe.keep K3 (sfS (Safe.exa hZ.alike A1 (by decide) (by decide)) sf0) Cs2.1 sf4)
 have hk5 := Nat.le_trans hk2 K3.1
 have nz7 := (Nat.ne_of_lt (Nat.lt_of_lt_of_le (F_x1_groups).lt (Nat.le_of_eq g1.symm)))
 have f8 := ((F_x1_groups.ext E1).keep K3 (ninS nz7 nin0))
 obtain ⟨T9, X9, e9, st9⟩ := getF X3 hx hZ hown (host := "") (Or.inl (wd hw 34 rfl)) Via.refl rfl f8 (g := (mkF m 8 #[lR x1] [(.ref x1), (.ref b1)])) rfl rfl (hb hby d3_8)
 obtain ⟨w10, T10, h10, kq10, wb10, kb10, X10, e10, E10, hS10, hkq10, hZ10, hown10, Ex10, Fc10, Fv10, Va10, la10, lb10, Cq10, -, hne10, st10⟩ := ldcCH X9 hx hZ hown (wd hw 36 rfl) wS e9 hS hk5 hEL (mg 0 rfl) Cs5.1 (vs := [(vI 103), (vI 114), (vI 111), (vI 117), (vI 112)]) (z := (5 : Int32)) ⟨by decide, rfl⟩ (by decide) rfl (g := (mkF m 11 #[lR x1] [(.int i2), (.ref b1)])) rfl (hb hby d3_11) (n := 20) (by decide) (by decide) (by decide) (by decide)
 have Os11 := Os5.ext E10
 have Ks11 := Ks5.ext E10
 have Cs11 := Cs5.trans Cq10
 have sf12 := (Cq10.safe (q3_3).lt sf6)
 have Vl10 : bA Z h10 wb10 kb10 5 lit_0 := Va10
 obtain ⟨_, _, ⟨T13, L13, k13, n13⟩, -, Xq13, Sq13, gq13, ⟨Lc13, hQ13, l13, y13, z13, Cq13⟩, st13⟩ := callSS X10 hx (y := M34) hown10 (mvT hZ10 (wd hw 42 rfl)) (mvT hZ10 (wd hw 43 rfl)) (mvT hZ10 (wd hw 2 rfl)) (mvT hZ10 (wd hw 44 rfl)) (by decide) (backOfSH (W := 1) (rmC0 l Z a0 hw [] cz dg fm i2 w10 wb10 kb10 5 lit_0 h10 n0 Os11 P hc0 Ex10 Fv10 Fc10 Vl10 (Vl10).lt (by decide) len_0) hZ10 (wd hw 44 rfl) (wd hw 2 rfl) (by decide) (by decide) hEL Cs11.1) (g := (mkF m 13 #[lR x1] [(.ref w10), (.int i2), (.ref b1)])) rfl (by rw [hml]; rfl) (argsL := [(.int i2), (.ref w10)]) (rest := [(.ref b1)]) (lenOf pd_21 rfl) rfl (lz rfl) (hb hby d3_13) (fun _ _ => ⟨rfl, e10, (by decide : 4 + 8 ≤ _), (by decide : 44 + 182 ≤ _)⟩)
 dsimp only [Pt.U, Pt.locs, Pt.cells, Pt.slots] at Xq13 Sq13 gq13 l13 y13 z13 st13 hQ13 Cq13
 obtain rfl : k13 = 12 := y13
 obtain rfl : n13 = 226 := z13
 obtain ⟨X13, hS13, hZ13, hown13⟩ := rebS hS10 (show _ ≤ T10.heap.size by rw [e10]; exact hkq10) Xq13 Sq13 gq13 hZ10 hown10
 have hkq13 : T13.heap.size ≤ (T13.heap).size := Nat.le_refl _
 obtain ⟨b13_0, b13_1, k13_0, nl13, wl13, hw13, hl13, hm13, hM13, rfl, N13q, K13, l13_0, l13_1, q13_0, q13_1, q13_2, q13_3⟩ := hQ13
 have N13 : Fr n0 L13 := by rw [l13]; exact Fr.app N3 N13q
 have hn13 : 7 ≤ nl13 := hm13
 have hx13 : nl13 ≤ 8 := hM13
 have Ks14 := Ks11.trans K13 all0
 have Os14 := Os11.keep K13 all0
 have Cs14 := Cs11.trans Cq13
 have sf15 := (Cq13.safe ((q3_3.ext E10)).lt sf12)
 have f16 := (((A1.keep K3).ext E10).keep K13)
 have f17 := ((q3_1.ext E10).keep K13 nin0)
 have f18 := ((q3_0.ext E10).keep K13 nin0)
 have f19 := ((q3_3.ext E10).keep K13 nin0)
 have f20 := ((q3_2.ext E10).keep K13 nin0)
 have nz21 := (Nat.ne_of_lt (Nat.lt_of_lt_of_le (A1).lt l3_0))
 obtain ⟨cq22, kq22, q22a, q22b, q22c⟩ := isOf hZ13 rfl f16
 obtain ⟨_, _, ⟨T22, L22, k22, n22⟩, -, X22, ⟨Lc22, hQ22, l22, y22, z22⟩, st22⟩ := X13.virtualBack hx (y := M23) (z := M23) hown13 (mvT hZ13 (wd hw 76 rfl)) (mvT hZ13 (wd hw 77 rfl)) (notFace_of_selects (args := #[]) (mvT hZ13 (wd hw 79 rfl))) (mvT hZ13 (wd hw 79 rfl)) (mvT hZ13 (wd hw 78 rfl)) (by decide) (backOf (W := 0) (rm13_25 l Z a0 hw [] cz dg fm b1 b13_0 b13_1 k13_0 nl13 wl13 0 b3_0 k3_0 16 ([] : List Value) T13.heap n0 Os14 P q13_0 q13_2 q13_3 q13_1 f18 f16 f17 f19 f20 (by omega) (by decide) (by (try simp only [List.length_append, List.length_cons, List.length_nil, len_0, len_1, len_2, len_3, len_4, len_5, len_6, len_7, len_8, len_9, len_10, len_11, len_12, len_13]) <;> omega) (by (try simp only [List.length_append, List.length_cons, List.length_nil, len_0, len_1, len_2, len_3, len_4, len_5, len_6, len_7, len_8, len_9, len_10, len_11, len_12, len_13]) <;> omega) (Nat.le_trans Zs2 l3_0) (by omega) (by omega) (by omega) nz21 (Nat.le_trans Z0 (Nat.le_of_eq g1.symm)) (Ne.symm nz21)) hZ13 (wd hw 80 rfl) (wd hw 16 rfl) (by decide) (by decide)) q22a q22c (g := (mkF m 16 #[lR x1] [(.ref b13_0), (.ref b1)])) rfl (by rw [hml]; rfl) (Steps.refl _) (argsL := [(.ref b13_0)]) (rest := []) (lenOf pd_13 rfl) rfl (lz rfl) (hb hby d3_16) (fun _ _ => ⟨rfl, rfl, (by decide : 12 + 0 ≤ _), (by decide : 226 + 0 ≤ _)⟩)
 dsimp only [Pt.U, Pt.locs, Pt.cells, Pt.slots] at X22 l22 y22 z22 st22 hQ22
 obtain rfl : k22 = 12 := y22
 obtain rfl : n22 = 226 := z22
 obtain ⟨rfl, N22q, K22, q22_0, q22_1, q22_2, q22_3⟩ := hQ22
 have N22 : Fr n0 L22 := by rw [l22]; exact Fr.app N13 N22q
 have Ks23 := Ks14.trans K22 (allS (Or.inr (Nat.le_trans Kr.1 (Nat.le_of_eq g1.symm))) (allS (Or.inr (Nat.le_trans Ks2.1 l3_0)) all0))
 have Os23 := Os14.keep K22 (allS (Nat.le_trans Z0 (Nat.le_of_eq g1.symm)) (allS (Nat.le_trans Zs2 l3_0) all0))
 have Cs23 := Cs14.trans (CHr.keep K22 (sfS (Safe.exa hZ13.alike f16 (by decide) (by decide)) (sfS sf15 sf0)) Cs14.1)
 have sf24 := (Safe.keep K22 (sfS (Safe.exa hZ13.alike f16 (by decide) (by decide)) (sfS sf15 sf0)) Cs14.1 sf15)
 have hk23 := Nat.le_trans hkq13 K22.1
 obtain ⟨w25, T25, h25, kq25, wb25, kb25, X25, e25, E25, hS25, hkq25, hZ25, hown25, Ex25, Fc25, Fv25, Va25, la25, lb25, Cq25, -, hne25, st25⟩ := ldcCH X22 hx hZ13 hown13 (wd hw 162 rfl) wS rfl hS13 hk23 hEL (mg 1 rfl) Cs23.1 (vs := [(vI 44), (vI 32)]) (z := (2 : Int32)) ⟨by decide, rfl⟩ (by decide) rfl (g := (mkF m 19 #[lR x1] [(.ref b1)])) rfl (hb hby d3_19) (n := 8) (by decide) (by decide) (by decide) (by decide)
 have Os26 := Os23.ext E25
 have Ks26 := Ks23.ext E25
 have Cs26 := Cs23.trans Cq25
 have sf27 := (Cq25.safe (q22_3).lt sf24)
 have Vl25 : bA Z h25 wb25 kb25 2 lit_7 := Va25
 have f28 := ((f16.keep K22).ext E25)
 have f29 := (q22_1.ext E25)
 have f30 := (q22_0.ext E25)
 have f31 := (q22_3.ext E25)
 have f32 := (q22_2.ext E25)
 obtain ⟨cq33, kq33, q33a, q33b, q33c⟩ := isOf hZ25 e25 f28
 obtain ⟨_, _, ⟨T33, L33, k33, n33⟩, -, X33, ⟨Lc33, hQ33, l33, y33, z33⟩, st33⟩ := X25.virtualBack hx (y := M23) (z := M23) hown25 (mvT hZ25 (wd hw 76 rfl)) (mvT hZ25 (wd hw 77 rfl)) (notFace_of_selects (args := #[]) (mvT hZ25 (wd hw 79 rfl))) (mvT hZ25 (wd hw 79 rfl)) (mvT hZ25 (wd hw 78 rfl)) (by decide) (backOf (W := 0) (rm13_25 l Z a0 hw [] cz dg fm b1 w25 wb25 kb25 2 lit_7 (0 + nl13) b3_0 k3_0 16 (([] : List Value) ++ wl13) h25 n0 Os26 P Ex25 Fv25 Vl25 Fc25 f30 f28 f29 f31 f32 (by omega) (by decide) (by (try simp only [List.length_append, List.length_cons, List.length_nil, len_0, len_1, len_2, len_3, len_4, len_5, len_6, len_7, len_8, len_9, len_10, len_11, len_12, len_13]) <;> omega) (by (try simp only [List.length_append, List.length_cons, List.length_nil, len_0, len_1, len_2, len_3, len_4, len_5, len_6, len_7, len_8, len_9, len_10, len_11, len_12, len_13]) <;> omega) (Nat.le_trans Zs2 l3_0) (by decide) (by omega) (by decide) nz21 (Nat.le_trans Z0 (Nat.le_of_eq g1.symm)) (Ne.symm nz21)) hZ25 (wd hw 80 rfl) (wd hw 16 rfl) (by decide) (by decide)) q33a q33c (g := (mkF m 21 #[lR x1] [(.ref w25), (.ref b1)])) rfl (by rw [hml]; rfl) (Steps.refl _) (argsL := [(.ref w25)]) (rest := []) (lenOf pd_13 rfl) rfl (lz rfl) (hb hby d3_21) (fun _ _ => ⟨rfl, e25, (by decide : 14 + 0 ≤ _), (by decide : 238 + 0 ≤ _)⟩)
 dsimp only [Pt.U, Pt.locs, Pt.cells, Pt.slots] at X33 l33 y33 z33 st33 hQ33
 obtain rfl : k33 = 14 := y33
 obtain rfl : n33 = 238 := z33
 obtain ⟨rfl, N33q, K33, q33_0, q33_1, q33_2, q33_3⟩ := hQ33
 have N33 : Fr n0 L33 := by rw [l33]; exact Fr.app N22 N33q
 have Ks34 := Ks26.trans K33 (allS (Or.inr (Nat.le_trans Kr.1 (Nat.le_of_eq g1.symm))) (allS (Or.inr (Nat.le_trans Ks2.1 l3_0)) all0))
 have Os34 := Os26.keep K33 (allS (Nat.le_trans Z0 (Nat.le_of_eq g1.symm)) (allS (Nat.le_trans Zs2 l3_0) all0))
 have Cs34 := Cs26.trans (CHr.keep K33 (sfS (Safe.exa hZ25.alike f28 (by decide) (by decide)) (sfS sf27 sf0)) Cs26.1)
 have sf35 := (Safe.keep K33 (sfS (Safe.exa hZ25.alike f28 (by decide) (by decide)) (sfS sf27 sf0)) Cs26.1 sf27)
 have hk34 := Nat.le_trans hkq25 K33.1
 have nz36 := (Nat.ne_of_lt (Nat.lt_of_lt_of_le ((F_x1_groups.ext E1)).lt l3_0))
 have f37 := (((((((F_x1_users.ext E1).keep K3 (ninS nz7 nin0)).ext E10).keep K13 nin0).keep K22 (ninS nz7 (ninS nz36 nin0))).ext E25).keep K33 (ninS nz7 (ninS nz36 nin0)))
 obtain ⟨T38, X38, e38, st38⟩ := getF X33 hx hZ25 hown25 (host := "") (Or.inl (wd hw 163 rfl)) Via.refl rfl f37 (g := (mkF m 25 #[lR x1] [(.ref x1), (.ref b1)])) rfl rfl (hb hby d3_25)
 obtain ⟨w39, T39, h39, kq39, wb39, kb39, X39, e39, E39, hS39, hkq39, hZ39, hown39, Ex39, Fc39, Fv39, Va39, la39, lb39, Cq39, -, hne39, st39⟩ := ldcCH X38 hx hZ25 hown25 (wd hw 165 rfl) wS e38 hS25 hk34 hEL (mg 2 rfl) Cs34.1 (vs := [(vI 117), (vI 115), (vI 101), (vI 114)]) (z := (4 : Int32)) ⟨by decide, rfl⟩ (by decide) rfl (g := (mkF m 28 #[lR x1] [(.int i3), (.ref b1)])) rfl (hb hby d3_28) (n := 16) (by decide) (by decide) (by decide) (by decide)
 have Os40 := Os34.ext E39
 have Ks40 := Ks34.ext E39
 have Cs40 := Cs34.trans Cq39
 have sf41 := (Cq39.safe (q33_3).lt sf35)
 have Vl39 : bA Z h39 wb39 kb39 4 lit_1 := Va39
 obtain ⟨_, _, ⟨T42, L42, k42, n42⟩, -, Xq42, Sq42, gq42, ⟨Lc42, hQ42, l42, y42, z42, Cq42⟩, st42⟩ := callSS X39 hx (y := M34) hown39 (mvT hZ39 (wd hw 42 rfl)) (mvT hZ39 (wd hw 43 rfl)) (mvT hZ39 (wd hw 2 rfl)) (mvT hZ39 (wd hw 44 rfl)) (by decide) (backOfSH (W := 1) (rmC0 l Z a0 hw [] cz dg fm i3 w39 wb39 kb39 4 lit_1 h39 n0 Os40 P hc1 Ex39 Fv39 Fc39 Vl39 (Vl39).lt (by decide) len_1) hZ39 (wd hw 44 rfl) (wd hw 2 rfl) (by decide) (by decide) hEL Cs40.1) (g := (mkF m 30 #[lR x1] [(.ref w39), (.int i3), (.ref b1)])) rfl (by rw [hml]; rfl) (argsL := [(.int i3), (.ref w39)]) (rest := [(.ref b1)]) (lenOf pd_21 rfl) rfl (lz rfl) (hb hby d3_30) (fun _ _ => ⟨rfl, e39, (by decide : 16 + 8 ≤ _), (by decide : 258 + 182 ≤ _)⟩)
 dsimp only [Pt.U, Pt.locs, Pt.cells, Pt.slots] at Xq42 Sq42 gq42 l42 y42 z42 st42 hQ42 Cq42
 obtain rfl : k42 = 24 := y42
 obtain rfl : n42 = 440 := z42
 obtain ⟨X42, hS42, hZ42, hown42⟩ := rebS hS39 (show _ ≤ T39.heap.size by rw [e39]; exact hkq39) Xq42 Sq42 gq42 hZ39 hown39
 have hkq42 : T42.heap.size ≤ (T42.heap).size := Nat.le_refl _
 obtain ⟨b42_0, b42_1, k42_0, nl42, wl42, hw42, hl42, hm42, hM42, rfl, N42q, K42, l42_0, l42_1, q42_0, q42_1, q42_2, q42_3⟩ := hQ42
 have N42 : Fr n0 L42 := by rw [l42]; exact Fr.app N33 N42q
 have hn42 : 6 ≤ nl42 := hm42
 have hx42 : nl42 ≤ 7 := hM42
 have Ks43 := Ks40.trans K42 all0
 have Os43 := Os40.keep K42 all0
 have Cs43 := Cs40.trans Cq42
 have sf44 := (Cq42.safe ((q33_3.ext E39)).lt sf41)
 have f45 := (((f28.keep K33).ext E39).keep K42)
 have f46 := ((q33_1.ext E39).keep K42 nin0)
 have f47 := ((q33_0.ext E39).keep K42 nin0)
 have f48 := ((q33_3.ext E39).keep K42 nin0)
 have f49 := ((q33_2.ext E39).keep K42 nin0)
 have nz50 := (Nat.ne_of_lt (Nat.lt_of_lt_of_le ((q33_0.ext E39)).lt l42_0))
 have nz51 := (Nat.ne_of_lt (Nat.lt_of_lt_of_le ((q33_0.ext E39)).lt l42_1))
 have hu52 : ((([] : List Value) ++ wl13) ++ lit_7).length = ((0 + nl13) + 2) := by
   simp only [List.length_append, List.length_cons, List.length_nil, len_0, len_1, len_2, len_3, len_4, len_5, len_6, len_7, len_8, len_9, len_10, len_11, len_12, len_13]
   omega
 have hlo52 : 9 ≤ ((0 + nl13) + 2) := by omega
 have hhi52 : ((0 + nl13) + 2) ≤ 10 := by omega
 have hcb52 : CapB 16 := Or.inl rfl
 have hle52 : ((0 + nl13) + 2) ≤ 16 := by omega
 obtain ⟨cq53, kq53, q53a, q53b, q53c⟩ := isOf hZ42 rfl f45
 obtain ⟨_, _, ⟨T53, L53, k53, n53⟩, -, X53, ⟨Lc53, hQ53, l53, y53, z53⟩, st53⟩ := X42.virtualBack hx (y := M23) (z := M23) hown42 (mvT hZ42 (wd hw 76 rfl)) (mvT hZ42 (wd hw 77 rfl)) (notFace_of_selects (args := #[]) (mvT hZ42 (wd hw 79 rfl))) (mvT hZ42 (wd hw 79 rfl)) (mvT hZ42 (wd hw 78 rfl)) (by decide) (backOf (W := 0) (rmG l Z a0 hw [] cz dg fm b1 b42_0 b42_1 k42_0 nl42 wl42 ((0 + nl13) + 2) b3_0 k3_0 16 ((([] : List Value) ++ wl13) ++ lit_7) T42.heap n0 Os43 P f45 q42_0 f49 f47 f46 q42_1 q42_2 q42_3 f48 (Nat.le_trans Z0 (Nat.le_of_eq g1.symm)) (Nat.le_trans Zs2 l3_0) nz21 (Ne.symm nz50) (Ne.symm nz51) (Ne.symm nz21) hu52 hl42 hcb52 hle52 (own_g4 hcb52 hle52 hlo52 hx42 (by decide)) (own_g5 hhi52 hx42 (by decide))) hZ42 (wd hw 80 rfl) (wd hw 16 rfl) (by decide) (by decide)) q53a q53c (g := (mkF m 33 #[lR x1] [(.ref b42_0), (.ref b1)])) rfl (by rw [hml]; rfl) (Steps.refl _) (argsL := [(.ref b42_0)]) (rest := []) (lenOf pd_13 rfl) rfl (lz rfl) (hb hby d3_33) (fun _ _ => ⟨rfl, rfl, (by decide : 24 + 1 ≤ _), (by decide : 440 + 142 ≤ _)⟩)
 dsimp only [Pt.U, Pt.locs, Pt.cells, Pt.slots] at X53 l53 y53 z53 st53 hQ53
 obtain rfl : k53 = 25 := y53
 obtain rfl : n53 = 582 := z53
 obtain ⟨b53_0, k53_0, cp53, nq53, uq53, rfl, N53q, K53, hb53, ny53, hc53, hle53, hd53, hU53, hu53, q53_0, q53_1, q53_2, q53_3⟩ := hQ53
 have N53 : Fr n0 L53 := by rw [l53]; exact Fr.app N42 N53q
 have hlo53 : 15 ≤ nq53 := own_lo hd53 hlo52 hn42
 have hhi53 : nq53 ≤ 17 := own_hi hd53 hhi52 hx42
 have lbg53 : h0.size ≤ b53_0 := own_lg hb53 (Nat.le_trans Ks2.1 l3_0) Ks43.1
 have sg53 : Safe Z consts_1 T42.vm (T42.heap) b53_0 := own_sg hb53 sf44
 have Ks54 := Ks43.trans K53 (allS (Or.inr (Nat.le_trans Kr.1 (Nat.le_of_eq g1.symm))) (allS (Or.inr (Nat.le_trans Ks2.1 l3_0)) all0))
 have Os54 := Os43.keep K53 (allS (Nat.le_trans Z0 (Nat.le_of_eq g1.symm)) (allS (Nat.le_trans Zs2 l3_0) all0))
 have Cs54 := Cs43.trans (CHr.keep K53 (sfS (Safe.exa hZ42.alike f45 (by decide) (by decide)) (sfS sf44 sf0)) Cs43.1)
 have sf56 := (Safe.keep K53 (sfS (Safe.exa hZ42.alike f45 (by decide) (by decide)) (sfS sf44 sf0)) Cs43.1 sg53)
 have hk54 := Nat.le_trans hkq42 K53.1
 obtain ⟨w57, T57, h57, kq57, wb57, kb57, X57, e57, E57, hS57, hkq57, hZ57, hown57, Ex57, Fc57, Fv57, Va57, la57, lb57, Cq57, -, hne57, st57⟩ := ldcCH X53 hx hZ42 hown42 (wd hw 162 rfl) wS rfl hS42 hk54 hEL (mg 1 rfl) Cs54.1 (vs := [(vI 44), (vI 32)]) (z := (2 : Int32)) ⟨by decide, rfl⟩ (by decide) rfl (g := (mkF m 36 #[lR x1] [(.ref b1)])) rfl (hb hby d3_36) (n := 8) (by decide) (by decide) (by decide) (by decide)
 have Os58 := Os54.ext E57
 have Ks58 := Ks54.ext E57
 have Cs58 := Cs54.trans Cq57
 have sf59 := (Cq57.safe (q53_3).lt sf56)
 have Vl57 : bA Z h57 wb57 kb57 2 lit_7 := Va57
 have f60 := ((f45.keep K53).ext E57)
 have f61 := (q53_1.ext E57)
 have f62 := (q53_0.ext E57)
 have f63 := (q53_3.ext E57)
 have f64 := (q53_2.ext E57)
 have nz65 := (hne57 b1 (Safe.exa hZ57.alike f60 (by decide) (by decide))).1
 have nz66 := (hne57 b1 (Safe.exa hZ57.alike f60 (by decide) (by decide))).2
 obtain ⟨cq67, kq67, q67a, q67b, q67c⟩ := isOf hZ57 e57 f60
 obtain ⟨_, _, ⟨T67, L67, k67, n67⟩, -, X67, ⟨Lc67, hQ67, l67, y67, z67⟩, st67⟩ := X57.virtualBack hx (y := M23) (z := M23) hown57 (mvT hZ57 (wd hw 76 rfl)) (mvT hZ57 (wd hw 77 rfl)) (notFace_of_selects (args := #[]) (mvT hZ57 (wd hw 79 rfl))) (mvT hZ57 (wd hw 79 rfl)) (mvT hZ57 (wd hw 78 rfl)) (by decide) (backOf (W := 0) (rmG l Z a0 hw [] cz dg fm b1 w57 wb57 kb57 2 lit_7 nq53 b53_0 k53_0 cp53 uq53 h57 n0 Os58 P f60 Ex57 f64 f62 f61 Fc57 Fv57 Vl57 f63 (Nat.le_trans Z0 (Nat.le_of_eq g1.symm)) (Nat.le_trans Z0 lbg53) (Ne.symm ny53) (Ne.symm nz65) (Ne.symm nz66) ny53 hu53 len_7 hc53 hle53 (own_g4 hc53 hle53 hlo53 (Nat.le_refl _) (by decide)) (own_g5 hhi53 (Nat.le_refl _) (by decide))) hZ57 (wd hw 80 rfl) (wd hw 16 rfl) (by decide) (by decide)) q67a q67c (g := (mkF m 38 #[lR x1] [(.ref w57), (.ref b1)])) rfl (by rw [hml]; rfl) (Steps.refl _) (argsL := [(.ref w57)]) (rest := []) (lenOf pd_13 rfl) rfl (lz rfl) (hb hby d3_38) (fun _ _ => ⟨rfl, e57, (by decide : 27 + 1 ≤ _), (by decide : 594 + 142 ≤ _)⟩)
 dsimp only [Pt.U, Pt.locs, Pt.cells, Pt.slots] at X67 l67 y67 z67 st67 hQ67
 obtain rfl : k67 = 28 := y67
 obtain rfl : n67 = 736 := z67
 obtain ⟨b67_0, k67_0, cp67, nq67, uq67, rfl, N67q, K67, hb67, ny67, hc67, hle67, hd67, hU67, hu67, q67_0, q67_1, q67_2, q67_3⟩ := hQ67
 have N67 : Fr n0 L67 := by rw [l67]; exact Fr.app N53 N67q
 have hlo67 : 17 ≤ nq67 := own_lo hd67 hlo53 (Nat.le_refl _)
 have hhi67 : nq67 ≤ 19 := own_hi hd67 hhi53 (Nat.le_refl _)
 have lbg67 : h0.size ≤ b67_0 := own_lg hb67 (Nat.le_trans Kr.1 lbg53) Ks58.1
 have sg67 : Safe Z consts_1 T57.vm (h57) b67_0 := own_sg hb67 sf59
 have Ks68 := Ks58.trans K67 (allS (Or.inr (Nat.le_trans Kr.1 (Nat.le_of_eq g1.symm))) (allS (Or.inr (Nat.le_trans Kr.1 lbg53)) all0))
 have Os68 := Os58.keep K67 (allS (Nat.le_trans Z0 (Nat.le_of_eq g1.symm)) (allS (Nat.le_trans Z0 lbg53) all0))
 have Cs68 := Cs58.trans (CHr.keep K67 (sfS (Safe.exa hZ57.alike f60 (by decide) (by decide)) (sfS sf59 sf0)) Cs58.1)
 have sf70 := (Safe.keep K67 (sfS (Safe.exa hZ57.alike f60 (by decide) (by decide)) (sfS sf59 sf0)) Cs58.1 sg67)
 have hk68 := Nat.le_trans hkq57 K67.1
 have nz71 := (Nat.ne_of_lt (Nat.lt_of_lt_of_le (F_x1_groups).lt lbg53))
 have f72 := ((((((((((((F_x1_projects.ext E1).keep K3 (ninS nz7 nin0)).ext E10).keep K13 nin0).keep K22 (ninS nz7 (ninS nz36 nin0))).ext E25).keep K33 (ninS nz7 (ninS nz36 nin0))).ext E39).keep K42 nin0).keep K53 (ninS nz7 (ninS nz36 nin0))).ext E57).keep K67 (ninS nz7 (ninS nz71 nin0)))
 obtain ⟨T73, X73, e73, st73⟩ := getF X67 hx hZ57 hown57 (host := "") (Or.inl (wd hw 183 rfl)) Via.refl rfl f72 (g := (mkF m 42 #[lR x1] [(.ref x1), (.ref b1)])) rfl rfl (hb hby d3_42)
 obtain ⟨w74, T74, h74, kq74, wb74, kb74, X74, e74, E74, hS74, hkq74, hZ74, hown74, Ex74, Fc74, Fv74, Va74, la74, lb74, Cq74, -, hne74, st74⟩ := ldcCH X73 hx hZ57 hown57 (wd hw 185 rfl) wS e73 hS57 hk68 hEL (mg 3 rfl) Cs68.1 (vs := [(vI 112), (vI 114), (vI 111), (vI 106), (vI 101), (vI 99), (vI 116)]) (z := (7 : Int32)) ⟨by decide, rfl⟩ (by decide) rfl (g := (mkF m 45 #[lR x1] [(.int i4), (.ref b1)])) rfl (hb hby d3_45) (n := 28) (by decide) (by decide) (by decide) (by decide)
 have Os75 := Os68.ext E74
 have Ks75 := Ks68.ext E74
 have Cs75 := Cs68.trans Cq74
 have sf76 := (Cq74.safe (q67_3).lt sf70)
 have Vl74 : bA Z h74 wb74 kb74 7 lit_2 := Va74
 obtain ⟨_, _, ⟨T77, L77, k77, n77⟩, -, Xq77, Sq77, gq77, ⟨Lc77, hQ77, l77, y77, z77, Cq77⟩, st77⟩ := callSS X74 hx (y := M34) hown74 (mvT hZ74 (wd hw 42 rfl)) (mvT hZ74 (wd hw 43 rfl)) (mvT hZ74 (wd hw 2 rfl)) (mvT hZ74 (wd hw 44 rfl)) (by decide) (backOfSH (W := 1) (rmC0 l Z a0 hw [] cz dg fm i4 w74 wb74 kb74 7 lit_2 h74 n0 Os75 P hc2 Ex74 Fv74 Fc74 Vl74 (Vl74).lt (by decide) len_2) hZ74 (wd hw 44 rfl) (wd hw 2 rfl) (by decide) (by decide) hEL Cs75.1) (g := (mkF m 47 #[lR x1] [(.ref w74), (.int i4), (.ref b1)])) rfl (by rw [hml]; rfl) (argsL := [(.int i4), (.ref w74)]) (rest := [(.ref b1)]) (lenOf pd_21 rfl) rfl (lz rfl) (hb hby d3_47) (fun _ _ => ⟨rfl, e74, (by decide : 30 + 8 ≤ _), (by decide : 768 + 182 ≤ _)⟩)
 dsimp only [Pt.U, Pt.locs, Pt.cells, Pt.slots] at Xq77 Sq77 gq77 l77 y77 z77 st77 hQ77 Cq77
 obtain rfl : k77 = 38 := y77
 obtain rfl : n77 = 950 := z77
 obtain ⟨X77, hS77, hZ77, hown77⟩ := rebS hS74 (show _ ≤ T74.heap.size by rw [e74]; exact hkq74) Xq77 Sq77 gq77 hZ74 hown74
 have hkq77 : T77.heap.size ≤ (T77.heap).size := Nat.le_refl _
 obtain ⟨b77_0, b77_1, k77_0, nl77, wl77, hw77, hl77, hm77, hM77, rfl, N77q, K77, l77_0, l77_1, q77_0, q77_1, q77_2, q77_3⟩ := hQ77
 have N77 : Fr n0 L77 := by rw [l77]; exact Fr.app N67 N77q
 have hn77 : 9 ≤ nl77 := hm77
 have hx77 : nl77 ≤ 10 := hM77
 have Ks78 := Ks75.trans K77 all0
 have Os78 := Os75.keep K77 all0
 have Cs78 := Cs75.trans Cq77
 have sf79 := (Cq77.safe ((q67_3.ext E74)).lt sf76)
 have f80 := (((f60.keep K67).ext E74).keep K77)
 have f81 := ((q67_1.ext E74).keep K77 nin0)
 have f82 := ((q67_0.ext E74).keep K77 nin0)
 have f83 := ((q67_3.ext E74).keep K77 nin0)
 have f84 := ((q67_2.ext E74).keep K77 nin0)
 have nz85 := (Nat.ne_of_lt (Nat.lt_of_lt_of_le ((q67_0.ext E74)).lt l77_0))
 have nz86 := (Nat.ne_of_lt (Nat.lt_of_lt_of_le ((q67_0.ext E74)).lt l77_1))
 obtain ⟨cq87, kq87, q87a, q87b, q87c⟩ := isOf hZ77 rfl f80
 obtain ⟨_, _, ⟨T87, L87, k87, n87⟩, -, X87, ⟨Lc87, hQ87, l87, y87, z87⟩, st87⟩ := X77.virtualBack hx (y := M23) (z := M23) hown77 (mvT hZ77 (wd hw 76 rfl)) (mvT hZ77 (wd hw 77 rfl)) (notFace_of_selects (args := #[]) (mvT hZ77 (wd hw 79 rfl))) (mvT hZ77 (wd hw 79 rfl)) (mvT hZ77 (wd hw 78 rfl)) (by decide) (backOf (W := 0) (rmG l Z a0 hw [] cz dg fm b1 b77_0 b77_1 k77_0 nl77 wl77 nq67 b67_0 k67_0 cp67 uq67 T77.heap n0 Os78 P f80 q77_0 f84 f82 f81 q77_1 q77_2 q77_3 f83 (Nat.le_trans Z0 (Nat.le_of_eq g1.symm)) (Nat.le_trans Z0 lbg67) (Ne.symm ny67) (Ne.symm nz85) (Ne.symm nz86) ny67 hu67 hl77 hc67 hle67 (own_g4 hc67 hle67 hlo67 hx77 (by decide)) (own_g5 hhi67 hx77 (by decide))) hZ77 (wd hw 80 rfl) (wd hw 16 rfl) (by decide) (by decide)) q87a q87c (g := (mkF m 50 #[lR x1] [(.ref b77_0), (.ref b1)])) rfl (by rw [hml]; rfl) (Steps.refl _) (argsL := [(.ref b77_0)]) (rest := []) (lenOf pd_13 rfl) rfl (lz rfl) (hb hby d3_50) (fun _ _ => ⟨rfl, rfl, (by decide : 38 + 1 ≤ _), (by decide : 950 + 142 ≤ _)⟩)
 dsimp only [Pt.U, Pt.locs, Pt.cells, Pt.slots] at X87 l87 y87 z87 st87 hQ87
 obtain rfl : k87 = 39 := y87
 obtain rfl : n87 = 1092 := z87
 obtain ⟨b87_0, k87_0, cp87, nq87, uq87, rfl, N87q, K87, hb87, ny87, hc87, hle87, hd87, hU87, hu87, q87_0, q87_1, q87_2, q87_3⟩ := hQ87
 have N87 : Fr n0 L87 := by rw [l87]; exact Fr.app N77 N87q
 have hlo87 : 26 ≤ nq87 := own_lo hd87 hlo67 hn77
 have hhi87 : nq87 ≤ 29 := own_hi hd87 hhi67 hx77
 have lbg87 : h0.size ≤ b87_0 := own_lg hb87 (Nat.le_trans Kr.1 lbg67) Ks78.1
 have sg87 : Safe Z consts_1 T77.vm (T77.heap) b87_0 := own_sg hb87 sf79
 have Ks88 := Ks78.trans K87 (allS (Or.inr (Nat.le_trans Kr.1 (Nat.le_of_eq g1.symm))) (allS (Or.inr (Nat.le_trans Kr.1 lbg67)) all0))
 have Os88 := Os78.keep K87 (allS (Nat.le_trans Z0 (Nat.le_of_eq g1.symm)) (allS (Nat.le_trans Z0 lbg67) all0))
 have Cs88 := Cs78.trans (CHr.keep K87 (sfS (Safe.exa hZ77.alike f80 (by decide) (by decide)) (sfS sf79 sf0)) Cs78.1)
 have sf90 := (Safe.keep K87 (sfS (Safe.exa hZ77.alike f80 (by decide) (by decide)) (sfS sf79 sf0)) Cs78.1 sg87)
 have hk88 := Nat.le_trans hkq77 K87.1
 obtain ⟨w91, T91, h91, kq91, wb91, kb91, X91, e91, E91, hS91, hkq91, hZ91, hown91, Ex91, Fc91, Fv91, Va91, la91, lb91, Cq91, -, hne91, st91⟩ := ldcCH X87 hx hZ77 hown77 (wd hw 186 rfl) wS rfl hS77 hk88 hEL (mg 4 rfl) Cs88.1 (vs := [(vI 32), (vI 119), (vI 105), (vI 116), (vI 104), (vI 32)]) (z := (6 : Int32)) ⟨by decide, rfl⟩ (by decide) rfl (g := (mkF m 53 #[lR x1] [(.ref b1)])) rfl (hb hby d3_53) (n := 24) (by decide) (by decide) (by decide) (by decide)
 have Os92 := Os88.ext E91
 have Ks92 := Ks88.ext E91
 have Cs92 := Cs88.trans Cq91
 have sf93 := (Cq91.safe (q87_3).lt sf90)
 have Vl91 : bA Z h91 wb91 kb91 6 lit_8 := Va91
 have f94 := ((f80.keep K87).ext E91)
 have f95 := (q87_1.ext E91)
 have f96 := (q87_0.ext E91)
 have f97 := (q87_3.ext E91)
 have f98 := (q87_2.ext E91)
 have nz99 := (hne91 b1 (Safe.exa hZ91.alike f94 (by decide) (by decide))).1
 have nz100 := (hne91 b1 (Safe.exa hZ91.alike f94 (by decide) (by decide))).2
 obtain ⟨cq101, kq101, q101a, q101b, q101c⟩ := isOf hZ91 e91 f94
 obtain ⟨_, _, ⟨T101, L101, k101, n101⟩, -, X101, ⟨Lc101, hQ101, l101, y101, z101⟩, st101⟩ := X91.virtualBack hx (y := M23) (z := M23) hown91 (mvT hZ91 (wd hw 76 rfl)) (mvT hZ91 (wd hw 77 rfl)) (notFace_of_selects (args := #[]) (mvT hZ91 (wd hw 79 rfl))) (mvT hZ91 (wd hw 79 rfl)) (mvT hZ91 (wd hw 78 rfl)) (by decide) (backOf (W := 0) (rmG l Z a0 hw [] cz dg fm b1 w91 wb91 kb91 6 lit_8 nq87 b87_0 k87_0 cp87 uq87 h91 n0 Os92 P f94 Ex91 f98 f96 f95 Fc91 Fv91 Vl91 f97 (Nat.le_trans Z0 (Nat.le_of_eq g1.symm)) (Nat.le_trans Z0 lbg87) (Ne.symm ny87) (Ne.symm nz99) (Ne.symm nz100) ny87 hu87 len_8 hc87 hle87 (own_g4 hc87 hle87 hlo87 (Nat.le_refl _) (by decide)) (own_g5 hhi87 (Nat.le_refl _) (by decide))) hZ91 (wd hw 80 rfl) (wd hw 16 rfl) (by decide) (by decide)) q101a q101c (g := (mkF m 55 #[lR x1] [(.ref w91), (.ref b1)])) rfl (by rw [hml]; rfl) (Steps.refl _) (argsL := [(.ref w91)]) (rest := []) (lenOf pd_13 rfl) rfl (lz rfl) (hb hby d3_55) (fun _ _ => ⟨rfl, e91, (by decide : 41 + 1 ≤ _), (by decide : 1120 + 142 ≤ _)⟩)
 dsimp only [Pt.U, Pt.locs, Pt.cells, Pt.slots] at X101 l101 y101 z101 st101 hQ101
 obtain rfl : k101 = 42 := y101
 obtain rfl : n101 = 1262 := z101
 obtain ⟨b101_0, k101_0, cp101, nq101, uq101, rfl, N101q, K101, hb101, ny101, hc101, hle101, hd101, hU101, hu101, q101_0, q101_1, q101_2, q101_3⟩ := hQ101
 have N101 : Fr n0 L101 := by rw [l101]; exact Fr.app N87 N101q
 have hlo101 : 32 ≤ nq101 := own_lo hd101 hlo87 (Nat.le_refl _)
 have hhi101 : nq101 ≤ 35 := own_hi hd101 hhi87 (Nat.le_refl _)
 have lbg101 : h0.size ≤ b101_0 := own_lg hb101 (Nat.le_trans Kr.1 lbg87) Ks92.1
 have sg101 : Safe Z consts_1 T91.vm (h91) b101_0 := own_sg hb101 sf93
 have Ks102 := Ks92.trans K101 (allS (Or.inr (Nat.le_trans Kr.1 (Nat.le_of_eq g1.symm))) (allS (Or.inr (Nat.le_trans Kr.1 lbg87)) all0))
 have Os102 := Os92.keep K101 (allS (Nat.le_trans Z0 (Nat.le_of_eq g1.symm)) (allS (Nat.le_trans Z0 lbg87) all0))
 have Cs102 := Cs92.trans (CHr.keep K101 (sfS (Safe.exa hZ91.alike f94 (by decide) (by decide)) (sfS sf93 sf0)) Cs92.1)
 have sf104 := (Safe.keep K101 (sfS (Safe.exa hZ91.alike f94 (by decide) (by decide)) (sfS sf93 sf0)) Cs92.1 sg101)
 have hk102 := Nat.le_trans hkq91 K101.1
 have nz105 := (Nat.ne_of_lt (Nat.lt_of_lt_of_le (F_x1_groups).lt lbg67))
 have nz106 := (Nat.ne_of_lt (Nat.lt_of_lt_of_le (F_x1_groups).lt lbg87))
 have f107 := (((((((((((((((((F_x1_projectShares.ext E1).keep K3 (ninS nz7 nin0)).ext E10).keep K13 nin0).keep K22 (ninS nz7 (ninS nz36 nin0))).ext E25).keep K33 (ninS nz7 (ninS nz36 nin0))).ext E39).keep K42 nin0).keep K53 (ninS nz7 (ninS nz36 nin0))).ext E57).keep K67 (ninS nz7 (ninS nz71 nin0))).ext E74).keep K77 nin0).keep K87 (ninS nz7 (ninS nz105 nin0))).ext E91).keep K101 (ninS nz7 (ninS nz106 nin0)))
 obtain ⟨T108, X108, e108, st108⟩ := getF X101 hx hZ91 hown91 (host := "") (Or.inl (wd hw 187 rfl)) Via.refl rfl f107 (g := (mkF m 59 #[lR x1] [(.ref x1), (.ref b1)])) rfl rfl (hb hby d3_59)
 obtain ⟨w109, T109, h109, kq109, wb109, kb109, X109, e109, E109, hS109, hkq109, hZ109, hown109, Ex109, Fc109, Fv109, Va109, la109, lb109, Cq109, -, hne109, st109⟩ := ldcCH X108 hx hZ91 hown91 (wd hw 189 rfl) wS e108 hS91 hk102 hEL (mg 5 rfl) Cs102.1 (vs := [(vI 115), (vI 104), (vI 97), (vI 114), (vI 101)]) (z := (5 : Int32)) ⟨by decide, rfl⟩ (by decide) rfl (g := (mkF m 62 #[lR x1] [(.int i5), (.ref b1)])) rfl (hb hby d3_62) (n := 20) (by decide) (by decide) (by decide) (by decide)
 have Os110 := Os102.ext E109
 have Ks110 := Ks102.ext E109
 have Cs110 := Cs102.trans Cq109
 have sf111 := (Cq109.safe (q101_3).lt sf104)
 have Vl109 : bA Z h109 wb109 kb109 5 lit_3 := Va109
 obtain ⟨_, _, ⟨T112, L112, k112, n112⟩, -, Xq112, Sq112, gq112, ⟨Lc112, hQ112, l112, y112, z112, Cq112⟩, st112⟩ := callSS X109 hx (y := M34) hown109 (mvT hZ109 (wd hw 42 rfl)) (mvT hZ109 (wd hw 43 rfl)) (mvT hZ109 (wd hw 2 rfl)) (mvT hZ109 (wd hw 44 rfl)) (by decide) (backOfSH (W := 1) (rmC0 l Z a0 hw [] cz dg fm i5 w109 wb109 kb109 5 lit_3 h109 n0 Os110 P hc3 Ex109 Fv109 Fc109 Vl109 (Vl109).lt (by decide) len_3) hZ109 (wd hw 44 rfl) (wd hw 2 rfl) (by decide) (by decide) hEL Cs110.1) (g := (mkF m 64 #[lR x1] [(.ref w109), (.int i5), (.ref b1)])) rfl (by rw [hml]; rfl) (argsL := [(.int i5), (.ref w109)]) (rest := [(.ref b1)]) (lenOf pd_21 rfl) rfl (lz rfl) (hb hby d3_64) (fun _ _ => ⟨rfl, e109, (by decide : 44 + 8 ≤ _), (by decide : 1286 + 182 ≤ _)⟩)
 dsimp only [Pt.U, Pt.locs, Pt.cells, Pt.slots] at Xq112 Sq112 gq112 l112 y112 z112 st112 hQ112 Cq112
 obtain rfl : k112 = 52 := y112
 obtain rfl : n112 = 1468 := z112
 obtain ⟨X112, hS112, hZ112, hown112⟩ := rebS hS109 (show _ ≤ T109.heap.size by rw [e109]; exact hkq109) Xq112 Sq112 gq112 hZ109 hown109
 have hkq112 : T112.heap.size ≤ (T112.heap).size := Nat.le_refl _
 obtain ⟨b112_0, b112_1, k112_0, nl112, wl112, hw112, hl112, hm112, hM112, rfl, N112q, K112, l112_0, l112_1, q112_0, q112_1, q112_2, q112_3⟩ := hQ112
 have N112 : Fr n0 L112 := by rw [l112]; exact Fr.app N101 N112q
 have hn112 : 7 ≤ nl112 := hm112
 have hx112 : nl112 ≤ 8 := hM112
 have Ks113 := Ks110.trans K112 all0
 have Os113 := Os110.keep K112 all0
 have Cs113 := Cs110.trans Cq112
 have sf114 := (Cq112.safe ((q101_3.ext E109)).lt sf111)
 have f115 := (((f94.keep K101).ext E109).keep K112)
 have f116 := ((q101_1.ext E109).keep K112 nin0)
 have f117 := ((q101_0.ext E109).keep K112 nin0)
 have f118 := ((q101_3.ext E109).keep K112 nin0)
 have f119 := ((q101_2.ext E109).keep K112 nin0)
 have nz120 := (Nat.ne_of_lt (Nat.lt_of_lt_of_le ((q101_0.ext E109)).lt l112_0))
 have nz121 := (Nat.ne_of_lt (Nat.lt_of_lt_of_le ((q101_0.ext E109)).lt l112_1))
 obtain ⟨cq122, kq122, q122a, q122b, q122c⟩ := isOf hZ112 rfl f115
 obtain ⟨_, _, ⟨T122, L122, k122, n122⟩, -, X122, ⟨Lc122, hQ122, l122, y122, z122⟩, st122⟩ := X112.virtualBack hx (y := M23) (z := M23) hown112 (mvT hZ112 (wd hw 76 rfl)) (mvT hZ112 (wd hw 77 rfl)) (notFace_of_selects (args := #[]) (mvT hZ112 (wd hw 79 rfl))) (mvT hZ112 (wd hw 79 rfl)) (mvT hZ112 (wd hw 78 rfl)) (by decide) (backOf (W := 0) (rmG l Z a0 hw [] cz dg fm b1 b112_0 b112_1 k112_0 nl112 wl112 nq101 b101_0 k101_0 cp101 uq101 T112.heap n0 Os113 P f115 q112_0 f119 f117 f116 q112_1 q112_2 q112_3 f118 (Nat.le_trans Z0 (Nat.le_of_eq g1.symm)) (Nat.le_trans Z0 lbg101) (Ne.symm ny101) (Ne.symm nz120) (Ne.symm nz121) ny101 hu101 hl112 hc101 hle101 (own_g4 hc101 hle101 hlo101 hx112 (by decide)) (own_g5 hhi101 hx112 (by decide))) hZ112 (wd hw 80 rfl) (wd hw 16 rfl) (by decide) (by decide)) q122a q122c (g := (mkF m 67 #[lR x1] [(.ref b112_0), (.ref b1)])) rfl (by rw [hml]; rfl) (Steps.refl _) (argsL := [(.ref b112_0)]) (rest := []) (lenOf pd_13 rfl) rfl (lz rfl) (hb hby d3_67) (fun _ _ => ⟨rfl, rfl, (by decide : 52 + 1 ≤ _), (by decide : 1468 + 142 ≤ _)⟩)
 dsimp only [Pt.U, Pt.locs, Pt.cells, Pt.slots] at X122 l122 y122 z122 st122 hQ122
 obtain rfl : k122 = 53 := y122
 obtain rfl : n122 = 1610 := z122
 obtain ⟨b122_0, k122_0, cp122, nq122, uq122, rfl, N122q, K122, hb122, ny122, hc122, hle122, hd122, hU122, hu122, q122_0, q122_1, q122_2, q122_3⟩ := hQ122
 have N122 : Fr n0 L122 := by rw [l122]; exact Fr.app N112 N122q
 have hlo122 : 39 ≤ nq122 := own_lo hd122 hlo101 hn112
 have hhi122 : nq122 ≤ 43 := own_hi hd122 hhi101 hx112
 have lbg122 : h0.size ≤ b122_0 := own_lg hb122 (Nat.le_trans Kr.1 lbg101) Ks113.1
 have sg122 : Safe Z consts_1 T112.vm (T112.heap) b122_0 := own_sg hb122 sf114
 have Ks123 := Ks113.trans K122 (allS (Or.inr (Nat.le_trans Kr.1 (Nat.le_of_eq g1.symm))) (allS (Or.inr (Nat.le_trans Kr.1 lbg101)) all0))
 have Os123 := Os113.keep K122 (allS (Nat.le_trans Z0 (Nat.le_of_eq g1.symm)) (allS (Nat.le_trans Z0 lbg101) all0))
 have Cs123 := Cs113.trans (CHr.keep K122 (sfS (Safe.exa hZ112.alike f115 (by decide) (by decide)) (sfS sf114 sf0)) Cs113.1)
 have sf125 := (Safe.keep K122 (sfS (Safe.exa hZ112.alike f115 (by decide) (by decide)) (sfS sf114 sf0)) Cs113.1 sg122)
 have hk123 := Nat.le_trans hkq112 K122.1
 obtain ⟨w126, T126, h126, kq126, wb126, kb126, X126, e126, E126, hS126, hkq126, hZ126, hown126, Ex126, Fc126, Fv126, Va126, la126, lb126, Cq126, -, hne126, st126⟩ := ldcCH X122 hx hZ112 hown112 (wd hw 162 rfl) wS rfl hS112 hk123 hEL (mg 1 rfl) Cs123.1 (vs := [(vI 44), (vI 32)]) (z := (2 : Int32)) ⟨by decide, rfl⟩ (by decide) rfl (g := (mkF m 70 #[lR x1] [(.ref b1)])) rfl (hb hby d3_70) (n := 8) (by decide) (by decide) (by decide) (by decide)
 have Os127 := Os123.ext E126
 have Ks127 := Ks123.ext E126
 have Cs127 := Cs123.trans Cq126
 have sf128 := (Cq126.safe (q122_3).lt sf125)
 have Vl126 : bA Z h126 wb126 kb126 2 lit_7 := Va126
 have f129 := ((f115.keep K122).ext E126)
 have f130 := (q122_1.ext E126)
 have f131 := (q122_0.ext E126)
 have f132 := (q122_3.ext E126)
 have f133 := (q122_2.ext E126)
 have nz134 := (hne126 b1 (Safe.exa hZ126.alike f129 (by decide) (by decide))).1
 have nz135 := (hne126 b1 (Safe.exa hZ126.alike f129 (by decide) (by decide))).2
 obtain ⟨cq136, kq136, q136a, q136b, q136c⟩ := isOf hZ126 e126 f129
 obtain ⟨_, _, ⟨T136, L136, k136, n136⟩, -, X136, ⟨Lc136, hQ136, l136, y136, z136⟩, st136⟩ := X126.virtualBack hx (y := M23) (z := M23) hown126 (mvT hZ126 (wd hw 76 rfl)) (mvT hZ126 (wd hw 77 rfl)) (notFace_of_selects (args := #[]) (mvT hZ126 (wd hw 79 rfl))) (mvT hZ126 (wd hw 79 rfl)) (mvT hZ126 (wd hw 78 rfl)) (by decide) (backOf (W := 0) (rmG l Z a0 hw [] cz dg fm b1 w126 wb126 kb126 2 lit_7 nq122 b122_0 k122_0 cp122 uq122 h126 n0 Os127 P f129 Ex126 f133 f131 f130 Fc126 Fv126 Vl126 f132 (Nat.le_trans Z0 (Nat.le_of_eq g1.symm)) (Nat.le_trans Z0 lbg122) (Ne.symm ny122) (Ne.symm nz134) (Ne.symm nz135) ny122 hu122 len_7 hc122 hle122 (own_g4 hc122 hle122 hlo122 (Nat.le_refl _) (by decide)) (own_g5 hhi122 (Nat.le_refl _) (by decide))) hZ126 (wd hw 80 rfl) (wd hw 16 rfl) (by decide) (by decide)) q136a q136c (g := (mkF m 72 #[lR x1] [(.ref w126), (.ref b1)])) rfl (by rw [hml]; rfl) (Steps.refl _) (argsL := [(.ref w126)]) (rest := []) (lenOf pd_13 rfl) rfl (lz rfl) (hb hby d3_72) (fun _ _ => ⟨rfl, e126, (by decide : 55 + 1 ≤ _), (by decide : 1622 + 142 ≤ _)⟩)
 dsimp only [Pt.U, Pt.locs, Pt.cells, Pt.slots] at X136 l136 y136 z136 st136 hQ136
 obtain rfl : k136 = 56 := y136
 obtain rfl : n136 = 1764 := z136
 obtain ⟨b136_0, k136_0, cp136, nq136, uq136, rfl, N136q, K136, hb136, ny136, hc136, hle136, hd136, hU136, hu136, q136_0, q136_1, q136_2, q136_3⟩ := hQ136
 have N136 : Fr n0 L136 := by rw [l136]; exact Fr.app N122 N136q
 have hlo136 : 41 ≤ nq136 := own_lo hd136 hlo122 (Nat.le_refl _)
 have hhi136 : nq136 ≤ 45 := own_hi hd136 hhi122 (Nat.le_refl _)
 have lbg136 : h0.size ≤ b136_0 := own_lg hb136 (Nat.le_trans Kr.1 lbg122) Ks127.1
 have sg136 : Safe Z consts_1 T126.vm (h126) b136_0 := own_sg hb136 sf128
 have Ks137 := Ks127.trans K136 (allS (Or.inr (Nat.le_trans Kr.1 (Nat.le_of_eq g1.symm))) (allS (Or.inr (Nat.le_trans Kr.1 lbg122)) all0))
 have Os137 := Os127.keep K136 (allS (Nat.le_trans Z0 (Nat.le_of_eq g1.symm)) (allS (Nat.le_trans Z0 lbg122) all0))
 have Cs137 := Cs127.trans (CHr.keep K136 (sfS (Safe.exa hZ126.alike f129 (by decide) (by decide)) (sfS sf128 sf0)) Cs127.1)
 have sf139 := (Safe.keep K136 (sfS (Safe.exa hZ126.alike f129 (by decide) (by decide)) (sfS sf128 sf0)) Cs127.1 sg136)
 have hk137 := Nat.le_trans hkq126 K136.1
 have nz140 := (Nat.ne_of_lt (Nat.lt_of_lt_of_le (F_x1_groups).lt lbg101))
 have nz141 := (Nat.ne_of_lt (Nat.lt_of_lt_of_le (F_x1_groups).lt lbg122))
 have f142 := ((((((((((((((((((((((F_x1_documents.ext E1).keep K3 (ninS nz7 nin0)).ext E10).keep K13 nin0).keep K22 (ninS nz7 (ninS nz36 nin0))).ext E25).keep K33 (ninS nz7 (ninS nz36 nin0))).ext E39).keep K42 nin0).keep K53 (ninS nz7 (ninS nz36 nin0))).ext E57).keep K67 (ninS nz7 (ninS nz71 nin0))).ext E74).keep K77 nin0).keep K87 (ninS nz7 (ninS nz105 nin0))).ext E91).keep K101 (ninS nz7 (ninS nz106 nin0))).ext E109).keep K112 nin0).keep K122 (ninS nz7 (ninS nz140 nin0))).ext E126).keep K136 (ninS nz7 (ninS nz141 nin0)))
 obtain ⟨T143, X143, e143, st143⟩ := getF X136 hx hZ126 hown126 (host := "") (Or.inl (wd hw 190 rfl)) Via.refl rfl f142 (g := (mkF m 76 #[lR x1] [(.ref x1), (.ref b1)])) rfl rfl (hb hby d3_76)
 obtain ⟨w144, T144, h144, kq144, wb144, kb144, X144, e144, E144, hS144, hkq144, hZ144, hown144, Ex144, Fc144, Fv144, Va144, la144, lb144, Cq144, -, hne144, st144⟩ := ldcCH X143 hx hZ126 hown126 (wd hw 192 rfl) wS e143 hS126 hk137 hEL (mg 6 rfl) Cs137.1 (vs := [(vI 100), (vI 111), (vI 99), (vI 117), (vI 109), (vI 101), (vI 110), (vI 116)]) (z := (8 : Int32)) ⟨by decide, rfl⟩ (by decide) rfl (g := (mkF m 79 #[lR x1] [(.int i6), (.ref b1)])) rfl (hb hby d3_79) (n := 32) (by decide) (by decide) (by decide) (by decide)
 have Os145 := Os137.ext E144
 have Ks145 := Ks137.ext E144
 have Cs145 := Cs137.trans Cq144
 have sf146 := (Cq144.safe (q136_3).lt sf139)
 have Vl144 : bA Z h144 wb144 kb144 8 lit_4 := Va144
 obtain ⟨_, _, ⟨T147, L147, k147, n147⟩, -, Xq147, Sq147, gq147, ⟨Lc147, hQ147, l147, y147, z147, Cq147⟩, st147⟩ := callSS X144 hx (y := M34) hown144 (mvT hZ144 (wd hw 42 rfl)) (mvT hZ144 (wd hw 43 rfl)) (mvT hZ144 (wd hw 2 rfl)) (mvT hZ144 (wd hw 44 rfl)) (by decide) (backOfSH (W := 1) (rmC0 l Z a0 hw [] cz dg fm i6 w144 wb144 kb144 8 lit_4 h144 n0 Os145 P hc4 Ex144 Fv144 Fc144 Vl144 (Vl144).lt (by decide) len_4) hZ144 (wd hw 44 rfl) (wd hw 2 rfl) (by decide) (by decide) hEL Cs145.1) (g := (mkF m 81 #[lR x1] [(.ref w144), (.int i6), (.ref b1)])) rfl (by rw [hml]; rfl) (argsL := [(.int i6), (.ref w144)]) (rest := [(.ref b1)]) (lenOf pd_21 rfl) rfl (lz rfl) (hb hby d3_81) (fun _ _ => ⟨rfl, e144, (by decide : 58 + 8 ≤ _), (by decide : 1800 + 182 ≤ _)⟩)
 dsimp only [Pt.U, Pt.locs, Pt.cells, Pt.slots] at Xq147 Sq147 gq147 l147 y147 z147 st147 hQ147 Cq147
 obtain rfl : k147 = 66 := y147
 obtain rfl : n147 = 1982 := z147
 obtain ⟨X147, hS147, hZ147, hown147⟩ := rebS hS144 (show _ ≤ T144.heap.size by rw [e144]; exact hkq144) Xq147 Sq147 gq147 hZ144 hown144
 have hkq147 : T147.heap.size ≤ (T147.heap).size := Nat.le_refl _
 obtain ⟨b147_0, b147_1, k147_0, nl147, wl147, hw147, hl147, hm147, hM147, rfl, N147q, K147, l147_0, l147_1, q147_0, q147_1, q147_2, q147_3⟩ := hQ147
 have N147 : Fr n0 L147 := by rw [l147]; exact Fr.app N136 N147q
 have hn147 : 10 ≤ nl147 := hm147
 have hx147 : nl147 ≤ 11 := hM147
 have Ks148 := Ks145.trans K147 all0
 have Os148 := Os145.keep K147 all0
 have Cs148 := Cs145.trans Cq147
 have sf149 := (Cq147.safe ((q136_3.ext E144)).lt sf146)
 have f150 := (((f129.keep K136).ext E144).keep K147)
 have f151 := ((q136_1.ext E144).keep K147 nin0)
 have f152 := ((q136_0.ext E144).keep K147 nin0)
 have f153 := ((q136_3.ext E144).keep K147 nin0)
 have f154 := ((q136_2.ext E144).keep K147 nin0)
 have nz155 := (Nat.ne_of_lt (Nat.lt_of_lt_of_le ((q136_0.ext E144)).lt l147_0))
 have nz156 := (Nat.ne_of_lt (Nat.lt_of_lt_of_le ((q136_0.ext E144)).lt l147_1))
 obtain ⟨cq157, kq157, q157a, q157b, q157c⟩ := isOf hZ147 rfl f150
 obtain ⟨_, _, ⟨T157, L157, k157, n157⟩, -, X157, ⟨Lc157, hQ157, l157, y157, z157⟩, st157⟩ := X147.virtualBack hx (y := M23) (z := M23) hown147 (mvT hZ147 (wd hw 76 rfl)) (mvT hZ147 (wd hw 77 rfl)) (notFace_of_selects (args := #[]) (mvT hZ147 (wd hw 79 rfl))) (mvT hZ147 (wd hw 79 rfl)) (mvT hZ147 (wd hw 78 rfl)) (by decide) (backOf (W := 0) (rmG l Z a0 hw [] cz dg fm b1 b147_0 b147_1 k147_0 nl147 wl147 nq136 b136_0 k136_0 cp136 uq136 T147.heap n0 Os148 P f150 q147_0 f154 f152 f151 q147_1 q147_2 q147_3 f153 (Nat.le_trans Z0 (Nat.le_of_eq g1.symm)) (Nat.le_trans Z0 lbg136) (Ne.symm ny136) (Ne.symm nz155) (Ne.symm nz156) ny136 hu136 hl147 hc136 hle136 (own_g4 hc136 hle136 hlo136 hx147 (by decide)) (own_g5 hhi136 hx147 (by decide))) hZ147 (wd hw 80 rfl) (wd hw 16 rfl) (by decide) (by decide)) q157a q157c (g := (mkF m 84 #[lR x1] [(.ref b147_0), (.ref b1)])) rfl (by rw [hml]; rfl) (Steps.refl _) (argsL := [(.ref b147_0)]) (rest := []) (lenOf pd_13 rfl) rfl (lz rfl) (hb hby d3_84) (fun _ _ => ⟨rfl, rfl, (by decide : 66 + 1 ≤ _), (by decide : 1982 + 142 ≤ _)⟩)
 dsimp only [Pt.U, Pt.locs, Pt.cells, Pt.slots] at X157 l157 y157 z157 st157 hQ157
 obtain rfl : k157 = 67 := y157
 obtain rfl : n157 = 2124 := z157
 obtain ⟨b157_0, k157_0, cp157, nq157, uq157, rfl, N157q, K157, hb157, ny157, hc157, hle157, hd157, hU157, hu157, q157_0, q157_1, q157_2, q157_3⟩ := hQ157
 have N157 : Fr n0 L157 := by rw [l157]; exact Fr.app N147 N157q
 have hlo157 : 51 ≤ nq157 := own_lo hd157 hlo136 hn147
 have hhi157 : nq157 ≤ 56 := own_hi hd157 hhi136 hx147
 have lbg157 : h0.size ≤ b157_0 := own_lg hb157 (Nat.le_trans Kr.1 lbg136) Ks148.1
 have sg157 : Safe Z consts_1 T147.vm (T147.heap) b157_0 := own_sg hb157 sf149
 have Ks158 := Ks148.trans K157 (allS (Or.inr (Nat.le_trans Kr.1 (Nat.le_of_eq g1.symm))) (allS (Or.inr (Nat.le_trans Kr.1 lbg136)) all0))
 have Os158 := Os148.keep K157 (allS (Nat.le_trans Z0 (Nat.le_of_eq g1.symm)) (allS (Nat.le_trans Z0 lbg136) all0))
 have Cs158 := Cs148.trans (CHr.keep K157 (sfS (Safe.exa hZ147.alike f150 (by decide) (by decide)) (sfS sf149 sf0)) Cs148.1)
 have sf160 := (Safe.keep K157 (sfS (Safe.exa hZ147.alike f150 (by decide) (by decide)) (sfS sf149 sf0)) Cs148.1 sg157)
 have hk158 := Nat.le_trans hkq147 K157.1
 obtain ⟨w161, T161, h161, kq161, wb161, kb161, X161, e161, E161, hS161, hkq161, hZ161, hown161, Ex161, Fc161, Fv161, Va161, la161, lb161, Cq161, -, hne161, st161⟩ := ldcCH X157 hx hZ147 hown147 (wd hw 186 rfl) wS rfl hS147 hk158 hEL (mg 4 rfl) Cs158.1 (vs := [(vI 32), (vI 119), (vI 105), (vI 116), (vI 104), (vI 32)]) (z := (6 : Int32)) ⟨by decide, rfl⟩ (by decide) rfl (g := (mkF m 87 #[lR x1] [(.ref b1)])) rfl (hb hby d3_87) (n := 24) (by decide) (by decide) (by decide) (by decide)
 have Os162 := Os158.ext E161
 have Ks162 := Ks158.ext E161
 have Cs162 := Cs158.trans Cq161
 have sf163 := (Cq161.safe (q157_3).lt sf160)
 have Vl161 : bA Z h161 wb161 kb161 6 lit_8 := Va161
 have f164 := ((f150.keep K157).ext E161)
 have f165 := (q157_1.ext E161)
 have f166 := (q157_0.ext E161)
 have f167 := (q157_3.ext E161)
 have f168 := (q157_2.ext E161)
 have nz169 := (hne161 b1 (Safe.exa hZ161.alike f164 (by decide) (by decide))).1
 have nz170 := (hne161 b1 (Safe.exa hZ161.alike f164 (by decide) (by decide))).2
 obtain ⟨cq171, kq171, q171a, q171b, q171c⟩ := isOf hZ161 e161 f164
 obtain ⟨_, _, ⟨T171, L171, k171, n171⟩, -, X171, ⟨Lc171, hQ171, l171, y171, z171⟩, st171⟩ := X161.virtualBack hx (y := M23) (z := M23) hown161 (mvT hZ161 (wd hw 76 rfl)) (mvT hZ161 (wd hw 77 rfl)) (notFace_of_selects (args := #[]) (mvT hZ161 (wd hw 79 rfl))) (mvT hZ161 (wd hw 79 rfl)) (mvT hZ161 (wd hw 78 rfl)) (by decide) (backOf (W := 0) (rmG l Z a0 hw [] cz dg fm b1 w161 wb161 kb161 6 lit_8 nq157 b157_0 k157_0 cp157 uq157 h161 n0 Os162 P f164 Ex161 f168 f166 f165 Fc161 Fv161 Vl161 f167 (Nat.le_trans Z0 (Nat.le_of_eq g1.symm)) (Nat.le_trans Z0 lbg157) (Ne.symm ny157) (Ne.symm nz169) (Ne.symm nz170) ny157 hu157 len_8 hc157 hle157 (own_g4 hc157 hle157 hlo157 (Nat.le_refl _) (by decide)) (own_g5 hhi157 (Nat.le_refl _) (by decide))) hZ161 (wd hw 80 rfl) (wd hw 16 rfl) (by decide) (by decide)) q171a q171c (g := (mkF m 89 #[lR x1] [(.ref w161), (.ref b1)])) rfl (by rw [hml]; rfl) (Steps.refl _) (argsL := [(.ref w161)]) (rest := []) (lenOf pd_13 rfl) rfl (lz rfl) (hb hby d3_89) (fun _ _ => ⟨rfl, e161, (by decide : 69 + 1 ≤ _), (by decide : 2152 + 142 ≤ _)⟩)
 dsimp only [Pt.U, Pt.locs, Pt.cells, Pt.slots] at X171 l171 y171 z171 st171 hQ171
 obtain rfl : k171 = 70 := y171
 obtain rfl : n171 = 2294 := z171
 obtain ⟨b171_0, k171_0, cp171, nq171, uq171, rfl, N171q, K171, hb171, ny171, hc171, hle171, hd171, hU171, hu171, q171_0, q171_1, q171_2, q171_3⟩ := hQ171
 have N171 : Fr n0 L171 := by rw [l171]; exact Fr.app N157 N171q
 have hlo171 : 57 ≤ nq171 := own_lo hd171 hlo157 (Nat.le_refl _)
 have hhi171 : nq171 ≤ 62 := own_hi hd171 hhi157 (Nat.le_refl _)
 have lbg171 : h0.size ≤ b171_0 := own_lg hb171 (Nat.le_trans Kr.1 lbg157) Ks162.1
 have sg171 : Safe Z consts_1 T161.vm (h161) b171_0 := own_sg hb171 sf163
 have Ks172 := Ks162.trans K171 (allS (Or.inr (Nat.le_trans Kr.1 (Nat.le_of_eq g1.symm))) (allS (Or.inr (Nat.le_trans Kr.1 lbg157)) all0))
 have Os172 := Os162.keep K171 (allS (Nat.le_trans Z0 (Nat.le_of_eq g1.symm)) (allS (Nat.le_trans Z0 lbg157) all0))
 have Cs172 := Cs162.trans (CHr.keep K171 (sfS (Safe.exa hZ161.alike f164 (by decide) (by decide)) (sfS sf163 sf0)) Cs162.1)
 have sf174 := (Safe.keep K171 (sfS (Safe.exa hZ161.alike f164 (by decide) (by decide)) (sfS sf163 sf0)) Cs162.1 sg171)
 have hk172 := Nat.le_trans hkq161 K171.1
 have nz175 := (Nat.ne_of_lt (Nat.lt_of_lt_of_le (F_x1_groups).lt lbg136))
 have nz176 := (Nat.ne_of_lt (Nat.lt_of_lt_of_le (F_x1_groups).lt lbg157))
 have f177 := (((((((((((((((((((((((((((F_x1_documentShares.ext E1).keep K3 (ninS nz7 nin0)).ext E10).keep K13 nin0).keep K22 (ninS nz7 (ninS nz36 nin0))).ext E25).keep K33 (ninS nz7 (ninS nz36 nin0))).ext E39).keep K42 nin0).keep K53 (ninS nz7 (ninS nz36 nin0))).ext E57).keep K67 (ninS nz7 (ninS nz71 nin0))).ext E74).keep K77 nin0).keep K87 (ninS nz7 (ninS nz105 nin0))).ext E91).keep K101 (ninS nz7 (ninS nz106 nin0))).ext E109).keep K112 nin0).keep K122 (ninS nz7 (ninS nz140 nin0))).ext E126).keep K136 (ninS nz7 (ninS nz141 nin0))).ext E144).keep K147 nin0).keep K157 (ninS nz7 (ninS nz175 nin0))).ext E161).keep K171 (ninS nz7 (ninS nz176 nin0)))
 obtain ⟨T178, X178, e178, st178⟩ := getF X171 hx hZ161 hown161 (host := "") (Or.inl (wd hw 193 rfl)) Via.refl rfl f177 (g := (mkF m 93 #[lR x1] [(.ref x1), (.ref b1)])) rfl rfl (hb hby d3_93)
 obtain ⟨w179, T179, h179, kq179, wb179, kb179, X179, e179, E179, hS179, hkq179, hZ179, hown179, Ex179, Fc179, Fv179, Va179, la179, lb179, Cq179, -, hne179, st179⟩ := ldcCH X178 hx hZ161 hown161 (wd hw 189 rfl) wS e178 hS161 hk172 hEL (mg 5 rfl) Cs172.1 (vs := [(vI 115), (vI 104), (vI 97), (vI 114), (vI 101)]) (z := (5 : Int32)) ⟨by decide, rfl⟩ (by decide) rfl (g := (mkF m 96 #[lR x1] [(.int i7), (.ref b1)])) rfl (hb hby d3_96) (n := 20) (by decide) (by decide) (by decide) (by decide)
 have Os180 := Os172.ext E179
 have Ks180 := Ks172.ext E179
 have Cs180 := Cs172.trans Cq179
 have sf181 := (Cq179.safe (q171_3).lt sf174)
 have Vl179 : bA Z h179 wb179 kb179 5 lit_3 := Va179
 obtain ⟨_, _, ⟨T182, L182, k182, n182⟩, -, Xq182, Sq182, gq182, ⟨Lc182, hQ182, l182, y182, z182, Cq182⟩, st182⟩ := callSS X179 hx (y := M34) hown179 (mvT hZ179 (wd hw 42 rfl)) (mvT hZ179 (wd hw 43 rfl)) (mvT hZ179 (wd hw 2 rfl)) (mvT hZ179 (wd hw 44 rfl)) (by decide) (backOfSH (W := 1) (rmC0 l Z a0 hw [] cz dg fm i7 w179 wb179 kb179 5 lit_3 h179 n0 Os180 P hc5 Ex179 Fv179 Fc179 Vl179 (Vl179).lt (by decide) len_3) hZ179 (wd hw 44 rfl) (wd hw 2 rfl) (by decide) (by decide) hEL Cs180.1) (g := (mkF m 98 #[lR x1] [(.ref w179), (.int i7), (.ref b1)])) rfl (by rw [hml]; rfl) (argsL := [(.int i7), (.ref w179)]) (rest := [(.ref b1)]) (lenOf pd_21 rfl) rfl (lz rfl) (hb hby d3_98) (fun _ _ => ⟨rfl, e179, (by decide : 72 + 8 ≤ _), (by decide : 2318 + 182 ≤ _)⟩)
 dsimp only [Pt.U, Pt.locs, Pt.cells, Pt.slots] at Xq182 Sq182 gq182 l182 y182 z182 st182 hQ182 Cq182
 obtain rfl : k182 = 80 := y182
 obtain rfl : n182 = 2500 := z182
 obtain ⟨X182, hS182, hZ182, hown182⟩ := rebS hS179 (show _ ≤ T179.heap.size by rw [e179]; exact hkq179) Xq182 Sq182 gq182 hZ179 hown179
 have hkq182 : T182.heap.size ≤ (T182.heap).size := Nat.le_refl _
 obtain ⟨b182_0, b182_1, k182_0, nl182, wl182, hw182, hl182, hm182, hM182, rfl, N182q, K182, l182_0, l182_1, q182_0, q182_1, q182_2, q182_3⟩ := hQ182
 have N182 : Fr n0 L182 := by rw [l182]; exact Fr.app N171 N182q
 have hn182 : 7 ≤ nl182 := hm182
 have hx182 : nl182 ≤ 8 := hM182
 have Ks183 := Ks180.trans K182 all0
 have Os183 := Os180.keep K182 all0
 have Cs183 := Cs180.trans Cq182
 have sf184 := (Cq182.safe ((q171_3.ext E179)).lt sf181)
 have f185 := (((f164.keep K171).ext E179).keep K182)
 have f186 := ((q171_1.ext E179).keep K182 nin0)
 have f187 := ((q171_0.ext E179).keep K182 nin0)
 have f188 := ((q171_3.ext E179).keep K182 nin0)
 have f189 := ((q171_2.ext E179).keep K182 nin0)
 have nz190 := (Nat.ne_of_lt (Nat.lt_of_lt_of_le ((q171_0.ext E179)).lt l182_0))
 have nz191 := (Nat.ne_of_lt (Nat.lt_of_lt_of_le ((q171_0.ext E179)).lt l182_1))
 obtain ⟨cq192, kq192, q192a, q192b, q192c⟩ := isOf hZ182 rfl f185
 obtain ⟨_, _, ⟨T192, L192, k192, n192⟩, -, X192, ⟨Lc192, hQ192, l192, y192, z192⟩, st192⟩ := X182.virtualBack hx (y := M23) (z := M23) hown182 (mvT hZ182 (wd hw 76 rfl)) (mvT hZ182 (wd hw 77 rfl)) (notFace_of_selects (args := #[]) (mvT hZ182 (wd hw 79 rfl))) (mvT hZ182 (wd hw 79 rfl)) (mvT hZ182 (wd hw 78 rfl)) (by decide) (backOf (W := 0) (rmG l Z a0 hw [] cz dg fm b1 b182_0 b182_1 k182_0 nl182 wl182 nq171 b171_0 k171_0 cp171 uq171 T182.heap n0 Os183 P f185 q182_0 f189 f187 f186 q182_1 q182_2 q182_3 f188 (Nat.le_trans Z0 (Nat.le_of_eq g1.symm)) (Nat.le_trans Z0 lbg171) (Ne.symm ny171) (Ne.symm nz190) (Ne.symm nz191) ny171 hu171 hl182 hc171 hle171 (own_g4 hc171 hle171 hlo171 hx182 (by decide)) (own_g5 hhi171 hx182 (by decide))) hZ182 (wd hw 80 rfl) (wd hw 16 rfl) (by decide) (by decide)) q192a q192c (g := (mkF m 101 #[lR x1] [(.ref b182_0), (.ref b1)])) rfl (by rw [hml]; rfl) (Steps.refl _) (argsL := [(.ref b182_0)]) (rest := []) (lenOf pd_13 rfl) rfl (lz rfl) (hb hby d3_101) (fun _ _ => ⟨rfl, rfl, (by decide : 80 + 1 ≤ _), (by decide : 2500 + 142 ≤ _)⟩)
 dsimp only [Pt.U, Pt.locs, Pt.cells, Pt.slots] at X192 l192 y192 z192 st192 hQ192
 obtain rfl : k192 = 81 := y192
 obtain rfl : n192 = 2642 := z192
 obtain ⟨b192_0, k192_0, cp192, nq192, uq192, rfl, N192q, K192, hb192, ny192, hc192, hle192, hd192, hU192, hu192, q192_0, q192_1, q192_2, q192_3⟩ := hQ192
 have N192 : Fr n0 L192 := by rw [l192]; exact Fr.app N182 N192q
 have hlo192 : 64 ≤ nq192 := own_lo hd192 hlo171 hn182
 have hhi192 : nq192 ≤ 70 := own_hi hd192 hhi171 hx182
 have lbg192 : h0.size ≤ b192_0 := own_lg hb192 (Nat.le_trans Kr.1 lbg171) Ks183.1
 have sg192 : Safe Z consts_1 T182.vm (T182.heap) b192_0 := own_sg hb192 sf184
 have Ks193 := Ks183.trans K192 (allS (Or.inr (Nat.le_trans Kr.1 (Nat.le_of_eq g1.symm))) (allS (Or.inr (Nat.le_trans Kr.1 lbg171)) all0))
 have Os193 := Os183.keep K192 (allS (Nat.le_trans Z0 (Nat.le_of_eq g1.symm)) (allS (Nat.le_trans Z0 lbg171) all0))
 have Cs193 := Cs183.trans (CHr.keep K192 (sfS (Safe.exa hZ182.alike f185 (by decide) (by decide)) (sfS sf184 sf0)) Cs183.1)
 have sf195 := (Safe.keep K192 (sfS (Safe.exa hZ182.alike f185 (by decide) (by decide)) (sfS sf184 sf0)) Cs183.1 sg192)
 have hk193 := Nat.le_trans hkq182 K192.1
 obtain ⟨w196, T196, h196, kq196, wb196, kb196, X196, e196, E196, hS196, hkq196, hZ196, hown196, Ex196, Fc196, Fv196, Va196, la196, lb196, Cq196, -, hne196, st196⟩ := ldcCH X192 hx hZ182 hown182 (wd hw 195 rfl) wS rfl hS182 hk193 hEL (mg 7 rfl) Cs193.1 (vs := [(vI 32), (vI 97), (vI 110), (vI 100), (vI 32)]) (z := (5 : Int32)) ⟨by decide, rfl⟩ (by decide) rfl (g := (mkF m 104 #[lR x1] [(.ref b1)])) rfl (hb hby d3_104) (n := 20) (by decide) (by decide) (by decide) (by decide)
 have Os197 := Os193.ext E196
 have Ks197 := Ks193.ext E196
 have Cs197 := Cs193.trans Cq196
 have sf198 := (Cq196.safe (q192_3).lt sf195)
 have Vl196 : bA Z h196 wb196 kb196 5 lit_9 := Va196
 have f199 := ((f185.keep K192).ext E196)
 have f200 := (q192_1.ext E196)
 have f201 := (q192_0.ext E196)
 have f202 := (q192_3.ext E196)
 have f203 := (q192_2.ext E196)
 have nz204 := (hne196 b1 (Safe.exa hZ196.alike f199 (by decide) (by decide))).1
 have nz205 := (hne196 b1 (Safe.exa hZ196.alike f199 (by decide) (by decide))).2
 obtain ⟨cq206, kq206, q206a, q206b, q206c⟩ := isOf hZ196 e196 f199
 obtain ⟨_, _, ⟨T206, L206, k206, n206⟩, -, X206, ⟨Lc206, hQ206, l206, y206, z206⟩, st206⟩ := X196.virtualBack hx (y := M23) (z := M23) hown196 (mvT hZ196 (wd hw 76 rfl)) (mvT hZ196 (wd hw 77 rfl)) (notFace_of_selects (args := #[]) (mvT hZ196 (wd hw 79 rfl))) (mvT hZ196 (wd hw 79 rfl)) (mvT hZ196 (wd hw 78 rfl)) (by decide) (backOf (W := 0) (rmG l Z a0 hw [] cz dg fm b1 w196 wb196 kb196 5 lit_9 nq192 b192_0 k192_0 cp192 uq192 h196 n0 Os197 P f199 Ex196 f203 f201 f200 Fc196 Fv196 Vl196 f202 (Nat.le_trans Z0 (Nat.le_of_eq g1.symm)) (Nat.le_trans Z0 lbg192) (Ne.symm ny192) (Ne.symm nz204) (Ne.symm nz205) ny192 hu192 len_9 hc192 hle192 (own_g4 hc192 hle192 hlo192 (Nat.le_refl _) (by decide)) (own_g5 hhi192 (Nat.le_refl _) (by decide))) hZ196 (wd hw 80 rfl) (wd hw 16 rfl) (by decide) (by decide)) q206a q206c (g := (mkF m 106 #[lR x1] [(.ref w196), (.ref b1)])) rfl (by rw [hml]; rfl) (Steps.refl _) (argsL := [(.ref w196)]) (rest := []) (lenOf pd_13 rfl) rfl (lz rfl) (hb hby d3_106) (fun _ _ => ⟨rfl, e196, (by decide : 83 + 1 ≤ _), (by decide : 2666 + 142 ≤ _)⟩)
 dsimp only [Pt.U, Pt.locs, Pt.cells, Pt.slots] at X206 l206 y206 z206 st206 hQ206
 obtain rfl : k206 = 84 := y206
 obtain rfl : n206 = 2808 := z206
 obtain ⟨b206_0, k206_0, cp206, nq206, uq206, rfl, N206q, K206, hb206, ny206, hc206, hle206, hd206, hU206, hu206, q206_0, q206_1, q206_2, q206_3⟩ := hQ206
 have N206 : Fr n0 L206 := by rw [l206]; exact Fr.app N192 N206q
 have hlo206 : 69 ≤ nq206 := own_lo hd206 hlo192 (Nat.le_refl _)
 have hhi206 : nq206 ≤ 75 := own_hi hd206 hhi192 (Nat.le_refl _)
 have lbg206 : h0.size ≤ b206_0 := own_lg hb206 (Nat.le_trans Kr.1 lbg192) Ks197.1
 have sg206 : Safe Z consts_1 T196.vm (h196) b206_0 := own_sg hb206 sf198
 have Ks207 := Ks197.trans K206 (allS (Or.inr (Nat.le_trans Kr.1 (Nat.le_of_eq g1.symm))) (allS (Or.inr (Nat.le_trans Kr.1 lbg192)) all0))
 have Os207 := Os197.keep K206 (allS (Nat.le_trans Z0 (Nat.le_of_eq g1.symm)) (allS (Nat.le_trans Z0 lbg192) all0))
 have Cs207 := Cs197.trans (CHr.keep K206 (sfS (Safe.exa hZ196.alike f199 (by decide) (by decide)) (sfS sf198 sf0)) Cs197.1)
 have sf209 := (Safe.keep K206 (sfS (Safe.exa hZ196.alike f199 (by decide) (by decide)) (sfS sf198 sf0)) Cs197.1 sg206)
 have hk207 := Nat.le_trans hkq196 K206.1
 have nz210 := (Nat.ne_of_lt (Nat.lt_of_lt_of_le (F_x1_groups).lt lbg171))
 have nz211 := (Nat.ne_of_lt (Nat.lt_of_lt_of_le (F_x1_groups).lt lbg192))
 have f212 := ((((((((((((((((((((((((((((((((F_x1_versions.ext E1).keep K3 (ninS nz7 nin0)).ext E10).keep K13 nin0).keep K22 (ninS nz7 (ninS nz36 nin0))).ext E25).keep K33 (ninS nz7 (ninS nz36 nin0))).ext E39).keep K42 nin0).keep K53 (ninS nz7 (ninS nz36 nin0))).ext E57).keep K67 (ninS nz7 (ninS nz71 nin0))).ext E74).keep K77 nin0).keep K87 (ninS nz7 (ninS nz105 nin0))).ext E91).keep K101 (ninS nz7 (ninS nz106 nin0))).ext E109).keep K112 nin0).keep K122 (ninS nz7 (ninS nz140 nin0))).ext E126).keep K136 (ninS nz7 (ninS nz141 nin0))).ext E144).keep K147 nin0).keep K157 (ninS nz7 (ninS nz175 nin0))).ext E161).keep K171 (ninS nz7 (ninS nz176 nin0))).ext E179).keep K182 nin0).keep K192 (ninS nz7 (ninS nz210 nin0))).ext E196).keep K206 (ninS nz7 (ninS nz211 nin0)))
 obtain ⟨T213, X213, e213, st213⟩ := getF X206 hx hZ196 hown196 (host := "") (Or.inl (wd hw 196 rfl)) Via.refl rfl f212 (g := (mkF m 110 #[lR x1] [(.ref x1), (.ref b1)])) rfl rfl (hb hby d3_110)
 obtain ⟨w214, T214, h214, kq214, wb214, kb214, X214, e214, E214, hS214, hkq214, hZ214, hown214, Ex214, Fc214, Fv214, Va214, la214, lb214, Cq214, -, hne214, st214⟩ := ldcCH X213 hx hZ196 hown196 (wd hw 198 rfl) wS e213 hS196 hk207 hEL (mg 8 rfl) Cs207.1 (vs := [(vI 101), (vI 97), (vI 114), (vI 108), (vI 105), (vI 101), (vI 114), (vI 32), (vI 118), (vI 101), (vI 114), (vI 115), (vI 105), (vI 111), (vI 110)]) (z := (15 : Int32)) ⟨by decide, rfl⟩ (by decide) rfl (g := (mkF m 113 #[lR x1] [(.int i8), (.ref b1)])) rfl (hb hby d3_113) (n := 60) (by decide) (by decide) (by decide) (by decide)
 have Os215 := Os207.ext E214
 have Ks215 := Ks207.ext E214
 have Cs215 := Cs207.trans Cq214
 have sf216 := (Cq214.safe (q206_3).lt sf209)
 have Vl214 : bA Z h214 wb214 kb214 15 lit_5 := Va214
 obtain ⟨_, _, ⟨T217, L217, k217, n217⟩, -, Xq217, Sq217, gq217, ⟨Lc217, hQ217, l217, y217, z217, Cq217⟩, st217⟩ := callSS X214 hx (y := M34) hown214 (mvT hZ214 (wd hw 42 rfl)) (mvT hZ214 (wd hw 43 rfl)) (mvT hZ214 (wd hw 2 rfl)) (mvT hZ214 (wd hw 44 rfl)) (by decide) (backOfSH (W := 1) (rmC1 l Z a0 hw [] cz dg fm i8 w214 wb214 kb214 15 lit_5 h214 n0 Os215 P hc6 Ex214 Fv214 Fc214 Vl214 (Vl214).lt (by decide) len_5) hZ214 (wd hw 44 rfl) (wd hw 2 rfl) (by decide) (by decide) hEL Cs215.1) (g := (mkF m 115 #[lR x1] [(.ref w214), (.int i8), (.ref b1)])) rfl (by rw [hml]; rfl) (argsL := [(.int i8), (.ref w214)]) (rest := [(.ref b1)]) (lenOf pd_21 rfl) rfl (lz rfl) (hb hby d3_115) (fun _ _ => ⟨rfl, e214, (by decide : 86 + 9 ≤ _), (by decide : 2872 + 324 ≤ _)⟩)
 dsimp only [Pt.U, Pt.locs, Pt.cells, Pt.slots] at Xq217 Sq217 gq217 l217 y217 z217 st217 hQ217 Cq217
 obtain rfl : k217 = 95 := y217
 obtain rfl : n217 = 3196 := z217
 obtain ⟨X217, hS217, hZ217, hown217⟩ := rebS hS214 (show _ ≤ T214.heap.size by rw [e214]; exact hkq214) Xq217 Sq217 gq217 hZ214 hown214
 have hkq217 : T217.heap.size ≤ (T217.heap).size := Nat.le_refl _
 obtain ⟨b217_0, b217_1, k217_0, nl217, wl217, hw217, hl217, hm217, hM217, rfl, N217q, K217, l217_0, l217_1, q217_0, q217_1, q217_2, q217_3⟩ := hQ217
 have N217 : Fr n0 L217 := by rw [l217]; exact Fr.app N206 N217q
 have hn217 : 17 ≤ nl217 := hm217
 have hx217 : nl217 ≤ 18 := hM217
 have Ks218 := Ks215.trans K217 all0
 have Os218 := Os215.keep K217 all0
 have Cs218 := Cs215.trans Cq217
 have sf219 := (Cq217.safe ((q206_3.ext E214)).lt sf216)
 have f220 := (((f199.keep K206).ext E214).keep K217)
 have f221 := ((q206_1.ext E214).keep K217 nin0)
 have f222 := ((q206_0.ext E214).keep K217 nin0)
 have f223 := ((q206_3.ext E214).keep K217 nin0)
 have f224 := ((q206_2.ext E214).keep K217 nin0)
 have nz225 := (Nat.ne_of_lt (Nat.lt_of_lt_of_le ((q206_0.ext E214)).lt l217_0))
 have nz226 := (Nat.ne_of_lt (Nat.lt_of_lt_of_le ((q206_0.ext E214)).lt l217_1))
 obtain ⟨cq227, kq227, q227a, q227b, q227c⟩ := isOf hZ217 rfl f220
 obtain ⟨_, _, ⟨T227, L227, k227, n227⟩, -, X227, ⟨Lc227, hQ227, l227, y227, z227⟩, st227⟩ := X217.virtualBack hx (y := M23) (z := M23) hown217 (mvT hZ217 (wd hw 76 rfl)) (mvT hZ217 (wd hw 77 rfl)) (notFace_of_selects (args := #[]) (mvT hZ217 (wd hw 79 rfl))) (mvT hZ217 (wd hw 79 rfl)) (mvT hZ217 (wd hw 78 rfl)) (by decide) (backOf (W := 0) (rmG l Z a0 hw [] cz dg fm b1 b217_0 b217_1 k217_0 nl217 wl217 nq206 b206_0 k206_0 cp206 uq206 T217.heap n0 Os218 P f220 q217_0 f224 f222 f221 q217_1 q217_2 q217_3 f223 (Nat.le_trans Z0 (Nat.le_of_eq g1.symm)) (Nat.le_trans Z0 lbg206) (Ne.symm ny206) (Ne.symm nz225) (Ne.symm nz226) ny206 hu206 hl217 hc206 hle206 (own_g4 hc206 hle206 hlo206 hx217 (by decide)) (own_g5 hhi206 hx217 (by decide))) hZ217 (wd hw 80 rfl) (wd hw 16 rfl) (by decide) (by decide)) q227a q227c (g := (mkF m 118 #[lR x1] [(.ref b217_0), (.ref b1)])) rfl (by rw [hml]; rfl) (Steps.refl _) (argsL := [(.ref b217_0)]) (rest := []) (lenOf pd_13 rfl) rfl (lz rfl) (hb hby d3_118) (fun _ _ => ⟨rfl, rfl, (by decide : 95 + 1 ≤ _), (by decide : 3196 + 142 ≤ _)⟩)
 dsimp only [Pt.U, Pt.locs, Pt.cells, Pt.slots] at X227 l227 y227 z227 st227 hQ227
 obtain rfl : k227 = 96 := y227
 obtain rfl : n227 = 3338 := z227
 obtain ⟨b227_0, k227_0, cp227, nq227, uq227, rfl, N227q, K227, hb227, ny227, hc227, hle227, hd227, hU227, hu227, q227_0, q227_1, q227_2, q227_3⟩ := hQ227
 have N227 : Fr n0 L227 := by rw [l227]; exact Fr.app N217 N227q
 have hlo227 : 86 ≤ nq227 := own_lo hd227 hlo206 hn217
 have hhi227 : nq227 ≤ 93 := own_hi hd227 hhi206 hx217
 have lbg227 : h0.size ≤ b227_0 := own_lg hb227 (Nat.le_trans Kr.1 lbg206) Ks218.1
 have sg227 : Safe Z consts_1 T217.vm (T217.heap) b227_0 := own_sg hb227 sf219
 have Ks228 := Ks218.trans K227 (allS (Or.inr (Nat.le_trans Kr.1 (Nat.le_of_eq g1.symm))) (allS (Or.inr (Nat.le_trans Kr.1 lbg206)) all0))
 have Os228 := Os218.keep K227 (allS (Nat.le_trans Z0 (Nat.le_of_eq g1.symm)) (allS (Nat.le_trans Z0 lbg206) all0))
 have Cs228 := Cs218.trans (CHr.keep K227 (sfS (Safe.exa hZ217.alike f220 (by decide) (by decide)) (sfS sf219 sf0)) Cs218.1)
 have sf230 := (Safe.keep K227 (sfS (Safe.exa hZ217.alike f220 (by decide) (by decide)) (sfS sf219 sf0)) Cs218.1 sg227)
 have hk228 := Nat.le_trans hkq217 K227.1
 obtain ⟨w231, T231, h231, kq231, wb231, kb231, X231, e231, E231, hS231, hkq231, hZ231, hown231, Ex231, Fc231, Fv231, Va231, la231, lb231, Cq231, -, hne231, st231⟩ := ldcCH X227 hx hZ217 hown217 (wd hw 199 rfl) wS rfl hS217 hk228 hEL (mg 9 rfl) Cs228.1 (vs := [(vI 44), (vI 32), (vI 97), (vI 110), (vI 100), (vI 32)]) (z := (6 : Int32)) ⟨by decide, rfl⟩ (by decide) rfl (g := (mkF m 121 #[lR x1] [(.ref b1)])) rfl (hb hby d3_121) (n := 24) (by decide) (by decide) (by decide) (by decide)
 have Os232 := Os228.ext E231
 have Ks232 := Ks228.ext E231
 have Cs232 := Cs228.trans Cq231
 have sf233 := (Cq231.safe (q227_3).lt sf230)
 have Vl231 : bA Z h231 wb231 kb231 6 lit_10 := Va231
 have f234 := ((f220.keep K227).ext E231)
 have f235 := (q227_1.ext E231)
 have f236 := (q227_0.ext E231)
 have f237 := (q227_3.ext E231)
 have f238 := (q227_2.ext E231)
 have nz239 := (hne231 b1 (Safe.exa hZ231.alike f234 (by decide) (by decide))).1
 have nz240 := (hne231 b1 (Safe.exa hZ231.alike f234 (by decide) (by decide))).2
 obtain ⟨cq241, kq241, q241a, q241b, q241c⟩ := isOf hZ231 e231 f234
 obtain ⟨_, _, ⟨T241, L241, k241, n241⟩, -, X241, ⟨Lc241, hQ241, l241, y241, z241⟩, st241⟩ := X231.virtualBack hx (y := M23) (z := M23) hown231 (mvT hZ231 (wd hw 76 rfl)) (mvT hZ231 (wd hw 77 rfl)) (notFace_of_selects (args := #[]) (mvT hZ231 (wd hw 79 rfl))) (mvT hZ231 (wd hw 79 rfl)) (mvT hZ231 (wd hw 78 rfl)) (by decide) (backOf (W := 0) (rmG l Z a0 hw [] cz dg fm b1 w231 wb231 kb231 6 lit_10 nq227 b227_0 k227_0 cp227 uq227 h231 n0 Os232 P f234 Ex231 f238 f236 f235 Fc231 Fv231 Vl231 f237 (Nat.le_trans Z0 (Nat.le_of_eq g1.symm)) (Nat.le_trans Z0 lbg227) (Ne.symm ny227) (Ne.symm nz239) (Ne.symm nz240) ny227 hu227 len_10 hc227 hle227 (own_g4 hc227 hle227 hlo227 (Nat.le_refl _) (by decide)) (own_g5 hhi227 (Nat.le_refl _) (by decide))) hZ231 (wd hw 80 rfl) (wd hw 16 rfl) (by decide) (by decide)) q241a q241c (g := (mkF m 123 #[lR x1] [(.ref w231), (.ref b1)])) rfl (by rw [hml]; rfl) (Steps.refl _) (argsL := [(.ref w231)]) (rest := []) (lenOf pd_13 rfl) rfl (lz rfl) (hb hby d3_123) (fun _ _ => ⟨rfl, e231, (by decide : 98 + 1 ≤ _), (by decide : 3366 + 142 ≤ _)⟩)
 dsimp only [Pt.U, Pt.locs, Pt.cells, Pt.slots] at X241 l241 y241 z241 st241 hQ241
 obtain rfl : k241 = 99 := y241
 obtain rfl : n241 = 3508 := z241
 obtain ⟨b241_0, k241_0, cp241, nq241, uq241, rfl, N241q, K241, hb241, ny241, hc241, hle241, hd241, hU241, hu241, q241_0, q241_1, q241_2, q241_3⟩ := hQ241
 have N241 : Fr n0 L241 := by rw [l241]; exact Fr.app N227 N241q
 have hlo241 : 92 ≤ nq241 := own_lo hd241 hlo227 (Nat.le_refl _)
 have hhi241 : nq241 ≤ 99 := own_hi hd241 hhi227 (Nat.le_refl _)
 have lbg241 : h0.size ≤ b241_0 := own_lg hb241 (Nat.le_trans Kr.1 lbg227) Ks232.1
 have sg241 : Safe Z consts_1 T231.vm (h231) b241_0 := own_sg hb241 sf233
 have Ks242 := Ks232.trans K241 (allS (Or.inr (Nat.le_trans Kr.1 (Nat.le_of_eq g1.symm))) (allS (Or.inr (Nat.le_trans Kr.1 lbg227)) all0))
 have Os242 := Os232.keep K241 (allS (Nat.le_trans Z0 (Nat.le_of_eq g1.symm)) (allS (Nat.le_trans Z0 lbg227) all0))
 have Cs242 := Cs232.trans (CHr.keep K241 (sfS (Safe.exa hZ231.alike f234 (by decide) (by decide)) (sfS sf233 sf0)) Cs232.1)
 have sf244 := (Safe.keep K241 (sfS (Safe.exa hZ231.alike f234 (by decide) (by decide)) (sfS sf233 sf0)) Cs232.1 sg241)
 have hk242 := Nat.le_trans hkq231 K241.1
 have nz245 := (Nat.ne_of_lt (Nat.lt_of_lt_of_le (F_x1_groups).lt lbg206))
 have nz246 := (Nat.ne_of_lt (Nat.lt_of_lt_of_le (F_x1_groups).lt lbg227))
 have f247 := (((((((((((((((((((((((((((((((((((((F_x1_comments.ext E1).keep K3 (ninS nz7 nin0)).ext E10).keep K13 nin0).keep K22 (ninS nz7 (ninS nz36 nin0))).ext E25).keep K33 (ninS nz7 (ninS nz36 nin0))).ext E39).keep K42 nin0).keep K53 (ninS nz7 (ninS nz36 nin0))).ext E57).keep K67 (ninS nz7 (ninS nz71 nin0))).ext E74).keep K77 nin0).keep K87 (ninS nz7 (ninS nz105 nin0))).ext E91).keep K101 (ninS nz7 (ninS nz106 nin0))).ext E109).keep K112 nin0).keep K122 (ninS nz7 (ninS nz140 nin0))).ext E126).keep K136 (ninS nz7 (ninS nz141 nin0))).ext E144).keep K147 nin0).keep K157 (ninS nz7 (ninS nz175 nin0))).ext E161).keep K171 (ninS nz7 (ninS nz176 nin0))).ext E179).keep K182 nin0).keep K192 (ninS nz7 (ninS nz210 nin0))).ext E196).keep K206 (ninS nz7 (ninS nz211 nin0))).ext E214).keep K217 nin0).keep K227 (ninS nz7 (ninS nz245 nin0))).ext E231).keep K241 (ninS nz7 (ninS nz246 nin0)))
 obtain ⟨T248, X248, e248, st248⟩ := getF X241 hx hZ231 hown231 (host := "") (Or.inl (wd hw 200 rfl)) Via.refl rfl f247 (g := (mkF m 127 #[lR x1] [(.ref x1), (.ref b1)])) rfl rfl (hb hby d3_127)
 obtain ⟨w249, T249, h249, kq249, wb249, kb249, X249, e249, E249, hS249, hkq249, hZ249, hown249, Ex249, Fc249, Fv249, Va249, la249, lb249, Cq249, -, hne249, st249⟩ := ldcCH X248 hx hZ231 hown231 (wd hw 202 rfl) wS e248 hS231 hk242 hEL (mg 10 rfl) Cs242.1 (vs := [(vI 99), (vI 111), (vI 109), (vI 109), (vI 101), (vI 110), (vI 116)]) (z := (7 : Int32)) ⟨by decide, rfl⟩ (by decide) rfl (g := (mkF m 130 #[lR x1] [(.int i9), (.ref b1)])) rfl (hb hby d3_130) (n := 28) (by decide) (by decide) (by decide) (by decide)
 have Os250 := Os242.ext E249
 have Ks250 := Ks242.ext E249
 have Cs250 := Cs242.trans Cq249
 have sf251 := (Cq249.safe (q241_3).lt sf244)
 have Vl249 : bA Z h249 wb249 kb249 7 lit_6 := Va249
 obtain ⟨_, _, ⟨T252, L252, k252, n252⟩, -, Xq252, Sq252, gq252, ⟨Lc252, hQ252, l252, y252, z252, Cq252⟩, st252⟩ := callSS X249 hx (y := M34) hown249 (mvT hZ249 (wd hw 42 rfl)) (mvT hZ249 (wd hw 43 rfl)) (mvT hZ249 (wd hw 2 rfl)) (mvT hZ249 (wd hw 44 rfl)) (by decide) (backOfSH (W := 1) (rmC0 l Z a0 hw [] cz dg fm i9 w249 wb249 kb249 7 lit_6 h249 n0 Os250 P hc7 Ex249 Fv249 Fc249 Vl249 (Vl249).lt (by decide) len_6) hZ249 (wd hw 44 rfl) (wd hw 2 rfl) (by decide) (by decide) hEL Cs250.1) (g := (mkF m 132 #[lR x1] [(.ref w249), (.int i9), (.ref b1)])) rfl (by rw [hml]; rfl) (argsL := [(.int i9), (.ref w249)]) (rest := [(.ref b1)]) (lenOf pd_21 rfl) rfl (lz rfl) (hb hby d3_132) (fun _ _ => ⟨rfl, e249, (by decide : 101 + 8 ≤ _), (by decide : 3540 + 182 ≤ _)⟩)
 dsimp only [Pt.U, Pt.locs, Pt.cells, Pt.slots] at Xq252 Sq252 gq252 l252 y252 z252 st252 hQ252 Cq252
 obtain rfl : k252 = 109 := y252
 obtain rfl : n252 = 3722 := z252
 obtain ⟨X252, hS252, hZ252, hown252⟩ := rebS hS249 (show _ ≤ T249.heap.size by rw [e249]; exact hkq249) Xq252 Sq252 gq252 hZ249 hown249
 have hkq252 : T252.heap.size ≤ (T252.heap).size := Nat.le_refl _
 obtain ⟨b252_0, b252_1, k252_0, nl252, wl252, hw252, hl252, hm252, hM252, rfl, N252q, K252, l252_0, l252_1, q252_0, q252_1, q252_2, q252_3⟩ := hQ252
 have N252 : Fr n0 L252 := by rw [l252]; exact Fr.app N241 N252q
 have hn252 : 9 ≤ nl252 := hm252
 have hx252 : nl252 ≤ 10 := hM252
 have Ks253 := Ks250.trans K252 all0
 have Os253 := Os250.keep K252 all0
 have Cs253 := Cs250.trans Cq252
 have sf254 := (Cq252.safe ((q241_3.ext E249)).lt sf251)
 have f255 := (((f234.keep K241).ext E249).keep K252)
 have f256 := ((q241_1.ext E249).keep K252 nin0)
 have f257 := ((q241_0.ext E249).keep K252 nin0)
 have f258 := ((q241_3.ext E249).keep K252 nin0)
 have f259 := ((q241_2.ext E249).keep K252 nin0)
 have nz260 := (Nat.ne_of_lt (Nat.lt_of_lt_of_le ((q241_0.ext E249)).lt l252_0))
 have nz261 := (Nat.ne_of_lt (Nat.lt_of_lt_of_le ((q241_0.ext E249)).lt l252_1))
 obtain ⟨cq262, kq262, q262a, q262b, q262c⟩ := isOf hZ252 rfl f255
 obtain ⟨_, _, ⟨T262, L262, k262, n262⟩, -, X262, ⟨Lc262, hQ262, l262, y262, z262⟩, st262⟩ := X252.virtualBack hx (y := M23) (z := M23) hown252 (mvT hZ252 (wd hw 76 rfl)) (mvT hZ252 (wd hw 77 rfl)) (notFace_of_selects (args := #[]) (mvT hZ252 (wd hw 79 rfl))) (mvT hZ252 (wd hw 79 rfl)) (mvT hZ252 (wd hw 78 rfl)) (by decide) (backOf (W := 0) (rmG l Z a0 hw [] cz dg fm b1 b252_0 b252_1 k252_0 nl252 wl252 nq241 b241_0 k241_0 cp241 uq241 T252.heap n0 Os253 P f255 q252_0 f259 f257 f256 q252_1 q252_2 q252_3 f258 (Nat.le_trans Z0 (Nat.le_of_eq g1.symm)) (Nat.le_trans Z0 lbg241) (Ne.symm ny241) (Ne.symm nz260) (Ne.symm nz261) ny241 hu241 hl252 hc241 hle241 (own_g4 hc241 hle241 hlo241 hx252 (by decide)) (own_g5 hhi241 hx252 (by decide))) hZ252 (wd hw 80 rfl) (wd hw 16 rfl) (by decide) (by decide)) q262a q262c (g := (mkF m 135 #[lR x1] [(.ref b252_0), (.ref b1)])) rfl (by rw [hml]; rfl) (Steps.refl _) (argsL := [(.ref b252_0)]) (rest := []) (lenOf pd_13 rfl) rfl (lz rfl) (hb hby d3_135) (fun _ _ => ⟨rfl, rfl, (by decide : 109 + 1 ≤ _), (by decide : 3722 + 142 ≤ _)⟩)
 dsimp only [Pt.U, Pt.locs, Pt.cells, Pt.slots] at X262 l262 y262 z262 st262 hQ262
 obtain rfl : k262 = 110 := y262
 obtain rfl : n262 = 3864 := z262
 obtain ⟨b262_0, k262_0, cp262, nq262, uq262, rfl, N262q, K262, hb262, ny262, hc262, hle262, hd262, hU262, hu262, q262_0, q262_1, q262_2, q262_3⟩ := hQ262
 have N262 : Fr n0 L262 := by rw [l262]; exact Fr.app N252 N262q
 have hlo262 : 101 ≤ nq262 := own_lo hd262 hlo241 hn252
 have hhi262 : nq262 ≤ 109 := own_hi hd262 hhi241 hx252
 have Ks263 := Ks253.trans K262 (allS (Or.inr (Nat.le_trans Kr.1 (Nat.le_of_eq g1.symm))) (allS (Or.inr (Nat.le_trans Kr.1 lbg241)) all0))
 have Os263 := Os253.keep K262 (allS (Nat.le_trans Z0 (Nat.le_of_eq g1.symm)) (allS (Nat.le_trans Z0 lbg241) all0))
 have Cs263 := Cs253.trans (CHr.keep K262 (sfS (Safe.exa hZ252.alike f255 (by decide) (by decide)) (sfS sf254 sf0)) Cs253.1)
 have hk263 := Nat.le_trans hkq252 K262.1
 have f266 := (f255.keep K262)
 have hfin267 := own_fin hc262 hle262 hlo262 hhi262 hu262
 obtain ⟨cq268, kq268, q268a, q268b, q268c⟩ := isOf hZ252 rfl f266
 obtain ⟨_, _, ⟨T268, L268, k268, n268⟩, -, X268, ⟨Lc268, hQ268, l268, y268, z268⟩, st268⟩ := X262.virtualBack hx (y := M33) (z := M33) hown252 (mvT hZ252 (wd hw 119 rfl)) (mvT hZ252 (wd hw 120 rfl)) (notFace_of_selects (args := #[]) (mvT hZ252 (wd hw 122 rfl))) (mvT hZ252 (wd hw 122 rfl)) (mvT hZ252 (wd hw 121 rfl)) (by decide) (backOf (W := 0) (rm20_35 l Z a0 hw [] cz dg fm b1 b262_0 nq262 k262_0 cp262 uq262 T262.heap n0 Os263 P f266 q262_1 q262_0 q262_2 q262_3 hfin267.1 hfin267.2.1 hfin267.2.2.1 hfin267.2.2.2.1 hfin267.2.2.2.2.1 hfin267.2.2.2.2.2.1 hfin267.2.2.2.2.2.2.1 hfin267.2.2.2.2.2.2.2.1 hfin267.2.2.2.2.2.2.2.2.1 hfin267.2.2.2.2.2.2.2.2.2.1 hfin267.2.2.2.2.2.2.2.2.2.2.1 hfin267.2.2.2.2.2.2.2.2.2.2.2) hZ252 (wd hw 123 rfl) (wd hw 16 rfl) (by decide) (by decide)) q268a q268c (g := (mkF m 138 #[lR x1] [(.ref b1)])) rfl (by rw [hml]; rfl) (Steps.refl _) (argsL := []) (rest := []) (lenOf pd_20 rfl) rfl (lz rfl) (hb hby d3_138) (fun _ _ => ⟨rfl, rfl, (by decide : 110 + 2 ≤ _), (by decide : 3864 + 146 ≤ _)⟩)
 dsimp only [Pt.U, Pt.locs, Pt.cells, Pt.slots] at X268 l268 y268 z268 st268 hQ268
 obtain rfl : k268 = 112 := y268
 obtain rfl : n268 = 4010 := z268
 obtain ⟨b268_0, b268_1, k268_0, rfl, N268q, K268, l268_0, l268_1, q268_0, q268_1, q268_2, q268_3⟩ := hQ268
 have N268 : Fr n0 L268 := by rw [l268]; exact Fr.app N262 N268q
 have Ks271 := Ks263.trans K268 all0
 have Cs271 := Cs263.trans (CHr.keep K268 sf0 Cs263.1)
 have hk271 := Nat.le_trans hk263 K268.1
 have eL : uq262 = (tsl i2 i3 i4 i5 i6 i7 i8 i9) := by
   rw [hU262, hU241, hU227, hU206, hU192, hU171, hU157, hU136, hU122, hU101, hU87, hU67, hU53, hw13, hw42, hw77, hw112, hw147, hw182, hw217, hw252]
   simp only [tsl, List.append_assoc, List.nil_append, List.append_nil]
 have eN : (nq262 - 0) = (tsl i2 i3 i4 i5 i6 i7 i8 i9).length := by
   rw [← eL, hu262]; rfl
 have VF : Arv Z (T268.heap) b268_1 k268_0 .byte (oN (tsl i2 i3 i4 i5 i6 i7 i8 i9).length) (tsl i2 i3 i4 i5 i6 i7 i8 i9) (vI 0) := by
   have q := q268_3
   rw [eN, eL] at q
   exact q
 have Cend := Cs271.trans (CHv.at X268 hZ252 hEL Cs271.1)
 obtain ⟨fs, hr, hrun, hended, hREW⟩ := X268.leaveW hS252 hk271 (v := some (.ref b268_0)) (fun h => by rw [Bd.returns] at h; cases h)
 refine ⟨_, _, pre0 _ ?_, hrun, hended, _, _, rfl, ?_, ?_, own_rew hREW (by decide) (by decide)⟩
 · show SH s₁ 0 #[lR x1] []
   refine st1 _ ?_
   show SH T1 3 #[lR x1] [(.ref b1)]
   refine XS.dup X1.here hx rfl (hb hby d3_3) rfl rfl ?_
   show SH T1 4 #[lR x1] [(.ref b1), (.ref b1)]
   refine st3.trans ?_
   show SH T3 7 #[lR x1] [(.ref b1)]
   refine XS.aloadN X3.here hx rfl (hb hby d3_7) rfl rfl ?_
   show SH T3 8 #[lR x1] [(.ref x1), (.ref b1)]
   refine st9 _ ?_
   show SH T9 11 #[lR x1] [(.int i2), (.ref b1)]
   refine st10 _ ?_
   show SH T10 13 #[lR x1] [(.ref w10), (.int i2), (.ref b1)]
   refine st13.trans ?_
   show SH T13 16 #[lR x1] [(.ref b13_0), (.ref b1)]
   refine st22.trans ?_
   show SH T22 19 #[lR x1] [(.ref b1)]
   refine st25 _ ?_
   show SH T25 21 #[lR x1] [(.ref w25), (.ref b1)]
   refine st33.trans ?_
   show SH T33 24 #[lR x1] [(.ref b1)]
   refine XS.aloadN X33.here hx rfl (hb hby d3_24) rfl rfl ?_
   show SH T33 25 #[lR x1] [(.ref x1), (.ref b1)]
   refine st38 _ ?_
   show SH T38 28 #[lR x1] [(.int i3), (.ref b1)]
   refine st39 _ ?_
   show SH T39 30 #[lR x1] [(.ref w39), (.int i3), (.ref b1)]
   refine st42.trans ?_
   show SH T42 33 #[lR x1] [(.ref b42_0), (.ref b1)]
   refine st53.trans ?_
   show SH T53 36 #[lR x1] [(.ref b1)]
   refine st57 _ ?_
   show SH T57 38 #[lR x1] [(.ref w57), (.ref b1)]
   refine st67.trans ?_
   show SH T67 41 #[lR x1] [(.ref b1)]
   refine XS.aloadN X67.here hx rfl (hb hby d3_41) rfl rfl ?_
   show SH T67 42 #[lR x1] [(.ref x1), (.ref b1)]
   refine st73 _ ?_
   show SH T73 45 #[lR x1] [(.int i4), (.ref b1)]
   refine st74 _ ?_
   show SH T74 47 #[lR x1] [(.ref w74), (.int i4), (.ref b1)]
   refine st77.trans ?_
   show SH T77 50 #[lR x1] [(.ref b77_0), (.ref b1)]
   refine st87.trans ?_
   show SH T87 53 #[lR x1] [(.ref b1)]
   refine st91 _ ?_
   show SH T91 55 #[lR x1] [(.ref w91), (.ref b1)]
   refine st101.trans ?_
   show SH T101 58 #[lR x1] [(.ref b1)]
   refine XS.aloadN X101.here hx rfl (hb hby d3_58) rfl rfl ?_
   show SH T101 59 #[lR x1] [(.ref x1), (.ref b1)]
   refine st108 _ ?_
   show SH T108 62 #[lR x1] [(.int i5), (.ref b1)]
   refine st109 _ ?_
   show SH T109 64 #[lR x1] [(.ref w109), (.int i5), (.ref b1)]
   refine st112.trans ?_
   show SH T112 67 #[lR x1] [(.ref b112_0), (.ref b1)]
   refine st122.trans ?_
   show SH T122 70 #[lR x1] [(.ref b1)]
   refine st126 _ ?_
   show SH T126 72 #[lR x1] [(.ref w126), (.ref b1)]
   refine st136.trans ?_
   show SH T136 75 #[lR x1] [(.ref b1)]
   refine XS.aloadN X136.here hx rfl (hb hby d3_75) rfl rfl ?_
   show SH T136 76 #[lR x1] [(.ref x1), (.ref b1)]
   refine st143 _ ?_
   show SH T143 79 #[lR x1] [(.int i6), (.ref b1)]
   refine st144 _ ?_
   show SH T144 81 #[lR x1] [(.ref w144), (.int i6), (.ref b1)]
   refine st147.trans ?_
   show SH T147 84 #[lR x1] [(.ref b147_0), (.ref b1)]
   refine st157.trans ?_
   show SH T157 87 #[lR x1] [(.ref b1)]
   refine st161 _ ?_
   show SH T161 89 #[lR x1] [(.ref w161), (.ref b1)]
   refine st171.trans ?_
   show SH T171 92 #[lR x1] [(.ref b1)]
   refine XS.aloadN X171.here hx rfl (hb hby d3_92) rfl rfl ?_
   show SH T171 93 #[lR x1] [(.ref x1), (.ref b1)]
   refine st178 _ ?_
   show SH T178 96 #[lR x1] [(.int i7), (.ref b1)]
   refine st179 _ ?_
   show SH T179 98 #[lR x1] [(.ref w179), (.int i7), (.ref b1)]
   refine st182.trans ?_
   show SH T182 101 #[lR x1] [(.ref b182_0), (.ref b1)]
   refine st192.trans ?_
   show SH T192 104 #[lR x1] [(.ref b1)]
   refine st196 _ ?_
   show SH T196 106 #[lR x1] [(.ref w196), (.ref b1)]
   refine st206.trans ?_
   show SH T206 109 #[lR x1] [(.ref b1)]
   refine XS.aloadN X206.here hx rfl (hb hby d3_109) rfl rfl ?_
   show SH T206 110 #[lR x1] [(.ref x1), (.ref b1)]
   refine st213 _ ?_
   show SH T213 113 #[lR x1] [(.int i8), (.ref b1)]
   refine st214 _ ?_
   show SH T214 115 #[lR x1] [(.ref w214), (.int i8), (.ref b1)]
   refine st217.trans ?_
   show SH T217 118 #[lR x1] [(.ref b217_0), (.ref b1)]
   refine st227.trans ?_
   show SH T227 121 #[lR x1] [(.ref b1)]
   refine st231 _ ?_
   show SH T231 123 #[lR x1] [(.ref w231), (.ref b1)]
   refine st241.trans ?_
   show SH T241 126 #[lR x1] [(.ref b1)]
   refine XS.aloadN X241.here hx rfl (hb hby d3_126) rfl rfl ?_
   show SH T241 127 #[lR x1] [(.ref x1), (.ref b1)]
   refine st248 _ ?_
   show SH T248 130 #[lR x1] [(.int i9), (.ref b1)]
   refine st249 _ ?_
   show SH T249 132 #[lR x1] [(.ref w249), (.int i9), (.ref b1)]
   refine st252.trans ?_
   show SH T252 135 #[lR x1] [(.ref b252_0), (.ref b1)]
   refine st262.trans ?_
   show SH T262 138 #[lR x1] [(.ref b1)]
   refine st268.trans ?_
   show SH T268 141 #[lR x1] [(.ref b268_0)]
   exact retOut X268 hx Bd.returns rfl (Or.inr (Or.inr (Or.inr (Or.inr ⟨rfl, rfl, rfl⟩)))) (hb hby d3_141) hr
 · show QrmT Z x1 i2 i3 i4 i5 i6 i7 i8 i9 h0 n0 _ T268.heap _
   exact ⟨b268_0, b268_1, k268_0, rfl, N268, Ks271, (Nat.le_trans Ks263.1 l268_0), (Nat.le_trans Ks263.1 l268_1), q268_0, q268_1, q268_2, VF⟩
 · rw [hh]
   show CHr Z consts_1 s.vm h0 T268.vm T268.heap
   exact Cend
theorem own_el {U a l b : List Value} {P k : Nat} {v : Value} (e : U = a ++ (l ++ b)) (h : a.length = P) (q : l[k]? = some v) : U[P + k]? = some v := by
 subst e h
 have hk : k < l.length := by
   rcases Nat.lt_or_ge k l.length with z | z
   · exact z
   · rw [List.getElem?_eq_none z] at q; cases q
 rw [List.getElem?_append_right (Nat.le_add_right _ _), Nat.add_sub_cancel_left, List.getElem?_append_left hk]; exact q
theorem own_sk0 {n : Int32} {u : List Value} (h : ¬ n = (1 : Int32)) : (segc n u).length = u.length + 3 := by unfold segc; rw [if_neg h]; simp
theorem own_sk1 {u : List Value} : (segc (1 : Int32) u).length = u.length + 2 := by unfold segc; rw [if_pos rfl]; simp
theorem own_s0 {U a u b : List Value} {n : Int32} (h : ¬ n = (1 : Int32)) (e : U = a ++ (segc n u ++ b)) : U = (a ++ [.int ((48 : Int32) + n), .int (32 : Int32)]) ++ (u ++ ([.int (115 : Int32)] ++ b)) := by
 rw [e]; unfold segc; rw [if_neg h]; simp
theorem own_s1 {U a u b : List Value} (e : U = a ++ (segc (1 : Int32) u ++ b)) : U = (a ++ [.int ((48 : Int32) + (1 : Int32)), .int (32 : Int32)]) ++ (u ++ b) := by
 rw [e]; unfold segc; rw [if_pos rfl]; simp
theorem own_sn {U a u b : List Value} {n : Int32} {P M : Nat} (h : ¬ n = (1 : Int32)) (e : U = a ++ (segc n u ++ b)) (hP : a.length = P) (hT : u.length = M) : U[((P + 1) + 1) + M]? = some (.int (115 : Int32)) := by
 have z := own_s0 h e
 have q := own_el (k := 0) (v := .int (115 : Int32)) (a := (a ++ [.int ((48 : Int32) + n), .int (32 : Int32)]) ++ u) (l := [.int (115 : Int32)]) (b := b) (U := U) (by rw [z, List.append_assoc, List.append_assoc, List.append_assoc]) rfl rfl
 rw [List.length_append, List.length_append, hP, hT] at q
 exact q
theorem own_p2 {a : List Value} {P : Nat} {x y : Value} (h : a.length = P) : (a ++ [x, y]).length = ((P + 1) + 1) := by rw [List.length_append, h]; rfl
theorem own_le {U a b : List Value} {r n : Nat} (e : U = a ++ b) (h : a.length = r) (hn : U.length = n) : r ≤ n := by rw [← hn, e, List.length_append, h]; exact Nat.le_add_right _ _
def own_chs (u : List Value) : Prop := ∀ v ∈ u, ∃ c : Int32, v = .int c ∧ own_ch c
theorem own_cN : own_chs [] := fun v h => nomatch h
theorem own_cC {c : Int32} {u : List Value} (h : own_ch c) (t : own_chs u) : own_chs (.int c :: u) := fun v q => (List.mem_cons.mp q).elim (fun e => ⟨c, e, h⟩) (t v)
theorem own_ce {u : List Value} {k : Nat} (h : own_chs u) (hk : k < u.length) : ∃ c : Int32, u[k]? = some (.int c) ∧ own_ch c := by
 obtain ⟨c, e, q⟩ := h _ (List.getElem_mem hk)
 exact ⟨c, by rw [List.getElem?_eq_getElem hk, e], q⟩
def LitB (Z : State) (h0 : Heap) (xs xb : Addr) (ks : ClassId) (dS : Nat) (uS : List Value) (xt tb : Addr) (kt : ClassId) (dT : Nat) (uT ua ub : List Value) (dP : Nat) : Prop :=
 Exa Z h0 xs sS ∧ sV Z h0 xs xb ∧ sC Z h0 xs ∧ bA Z h0 xb ks (oN dS) uS ∧ Exa Z h0 xt sS ∧ sV Z h0 xt tb ∧ sC Z h0 xt ∧ bA Z h0 tb kt (oN dT) uT ∧ uS = ua ++ (uT ++ ub) ∧ ua.length = dP ∧ uT.length = dT ∧ dT ≤ 16 ∧ dP + dT ≤ dS ∧ dS ≤ 120 ∧ own_chs uT
def QK (r : Nat) (h0 : Heap) (n0 : Nat) (v : Option Value) (h : Heap) (L : List Loc) : Prop := v = some (.int (oN r)) ∧ Fr n0 L ∧ h = h0
theorem chs_0 : own_chs lit_0 := (own_cC ⟨by decide, by decide⟩ (own_cC ⟨by decide, by decide⟩ (own_cC ⟨by decide, by decide⟩ (own_cC ⟨by decide, by decide⟩ (own_cC ⟨by decide, by decide⟩ own_cN)))))
theorem chs_1 : own_chs lit_1 := (own_cC ⟨by decide, by decide⟩ (own_cC ⟨by decide, by decide⟩ (own_cC ⟨by decide, by decide⟩ (own_cC ⟨by decide, by decide⟩ own_cN))))
theorem chs_2 : own_chs lit_2 := (own_cC ⟨by decide, by decide⟩ (own_cC ⟨by decide, by decide⟩ (own_cC ⟨by decide, by decide⟩ (own_cC ⟨by decide, by decide⟩ (own_cC ⟨by decide, by decide⟩ (own_cC ⟨by decide, by decide⟩ (own_cC ⟨by decide, by decide⟩ own_cN)))))))
theorem chs_3 : own_chs lit_3 := (own_cC ⟨by decide, by decide⟩ (own_cC ⟨by decide, by decide⟩ (own_cC ⟨by decide, by decide⟩ (own_cC ⟨by decide, by decide⟩ (own_cC ⟨by decide, by decide⟩ own_cN)))))
theorem chs_4 : own_chs lit_4 := (own_cC ⟨by decide, by decide⟩ (own_cC ⟨by decide, by decide⟩ (own_cC ⟨by decide, by decide⟩ (own_cC ⟨by decide, by decide⟩ (own_cC ⟨by decide, by decide⟩ (own_cC ⟨by decide, by decide⟩ (own_cC ⟨by decide, by decide⟩ (own_cC ⟨by decide, by decide⟩ own_cN))))))))
theorem chs_5 : own_chs lit_5 := (own_cC ⟨by decide, by decide⟩ (own_cC ⟨by decide, by decide⟩ (own_cC ⟨by decide, by decide⟩ (own_cC ⟨by decide, by decide⟩ (own_cC ⟨by decide, by decide⟩ (own_cC ⟨by decide, by decide⟩ (own_cC ⟨by decide, by decide⟩ (own_cC ⟨by decide, by decide⟩ (own_cC ⟨by decide, by decide⟩ (own_cC ⟨by decide, by decide⟩ (own_cC ⟨by decide, by decide⟩ (own_cC ⟨by decide, by decide⟩ (own_cC ⟨by decide, by decide⟩ (own_cC ⟨by decide, by decide⟩ (own_cC ⟨by decide, by decide⟩ own_cN)))))))))))))))
theorem chs_6 : own_chs lit_6 := (own_cC ⟨by decide, by decide⟩ (own_cC ⟨by decide, by decide⟩ (own_cC ⟨by decide, by decide⟩ (own_cC ⟨by decide, by decide⟩ (own_cC ⟨by decide, by decide⟩ (own_cC ⟨by decide, by decide⟩ (own_cC ⟨by decide, by decide⟩ own_cN)))))))
theorem chs_7 : own_chs lit_7 := (own_cC ⟨by decide, by decide⟩ (own_cC ⟨by decide, by decide⟩ own_cN))
theorem chs_8 : own_chs lit_8 := (own_cC ⟨by decide, by decide⟩ (own_cC ⟨by decide, by decide⟩ (own_cC ⟨by decide, by decide⟩ (own_cC ⟨by decide, by decide⟩ (own_cC ⟨by decide, by decide⟩ (own_cC ⟨by decide, by decide⟩ own_cN))))))
theorem chs_9 : own_chs lit_9 := (own_cC ⟨by decide, by decide⟩ (own_cC ⟨by decide, by decide⟩ (own_cC ⟨by decide, by decide⟩ (own_cC ⟨by decide, by decide⟩ (own_cC ⟨by decide, by decide⟩ own_cN)))))
theorem chs_10 : own_chs lit_10 := (own_cC ⟨by decide, by decide⟩ (own_cC ⟨by decide, by decide⟩ (own_cC ⟨by decide, by decide⟩ (own_cC ⟨by decide, by decide⟩ (own_cC ⟨by decide, by decide⟩ (own_cC ⟨by decide, by decide⟩ own_cN))))))
theorem chs_11 : own_chs lit_11 := (own_cC ⟨by decide, by decide⟩ own_cN)
theorem chs_12 : own_chs lit_12 := (own_cC ⟨by decide, by decide⟩ own_cN)
theorem chs_13 : own_chs lit_13 := own_cN
theorem d34_0 : decode K34 0 = .ok (.aload_n 0, 1) := by decide +kernel
theorem d34_1 : decode K34 1 = .ok (.iload_n 1, 1) := by decide +kernel
theorem d34_2 : decode K34 2 = .ok (.bipush 48, 2) := by decide +kernel
theorem d34_4 : decode K34 4 = .ok (.iload_n 2, 1) := by decide +kernel
theorem d34_5 : decode K34 5 = .ok (.iadd, 1) := by decide +kernel
theorem d34_6 : decode K34 6 = .ok (.i2c, 1) := by decide +kernel
theorem d34_7 : decode K34 7 = .ok (.invokestatic 71, 3) := by decide +kernel
theorem d35_0 : decode K35 0 = .ok (.iload_n 1, 1) := by decide +kernel
theorem d35_1 : decode K35 1 = .ok (.ifCond .lt 11, 3) := by decide +kernel
theorem d35_4 : decode K35 4 = .ok (.iload_n 1, 1) := by decide +kernel
theorem d35_5 : decode K35 5 = .ok (.aload_n 0, 1) := by decide +kernel
theorem d35_6 : decode K35 6 = .ok (.invokevirtual 65, 3) := by decide +kernel
theorem d35_9 : decode K35 9 = .ok (.if_icmp .lt 5, 3) := by decide +kernel
theorem d35_14 : decode K35 14 = .ok (.aload_n 0, 1) := by decide +kernel
theorem d35_15 : decode K35 15 = .ok (.iload_n 1, 1) := by decide +kernel
theorem d35_16 : decode K35 16 = .ok (.invokevirtual 75, 3) := by decide +kernel
theorem d36_0 : decode K36 0 = .ok (.aload_n 0, 1) := by decide +kernel
theorem d36_1 : decode K36 1 = .ok (.invokevirtual 492, 3) := by decide +kernel
theorem d37_0 : decode K37 0 = .ok (.getstatic 38, 3) := by decide +kernel
theorem d37_3 : decode K37 3 = .ok (.ifCond .eq 14, 3) := by decide +kernel
theorem d37_6 : decode K37 6 = .ok (.aload_n 0, 1) := by decide +kernel
theorem d37_7 : decode K37 7 = .ok (.getfield 15, 3) := by decide +kernel
theorem d37_10 : decode K37 10 = .ok (.ifCond .ne 7, 3) := by decide +kernel
theorem d37_13 : decode K37 13 = .ok (.iconst 1, 1) := by decide +kernel
theorem d37_14 : decode K37 14 = .ok (.goto 4, 3) := by decide +kernel
theorem d37_18 : decode K37 18 = .ok (.ireturn, 1) := by decide +kernel
theorem ef_37_R (m : MethodId) (x0 : Addr) : entryFrame m #[(.ref x0)] 1 = mkF m 0 #[.val (.ref x0)] [] := by first | (simp [entryFrame, mkF, argsToLocals, Value.category]; done) | rfl
def Qrm37_60 (Z : State) (x1 : Addr) (h0 : Heap) (n0 : Nat) (v : Option Value) (h : Heap) (L : List Loc) : Prop := v = some (vI 1) ∧ Fr n0 L ∧ h = h0
theorem rm37_60 (l : Launch) (Z : State) (a0 : Array Value) (hw : HW Z a0) (ws : List Jvm.Cond) (cz : Int32) (dg : Addr) (fm : Value) (x1 : Addr) (h0 : Heap) (n0 : Nat) (O0 : Old Z n0 h0) (P : Pins Z cz dg fm) (F_x1_coder : sC Z h0 x1) :
   Ctr l M40 (Jvm.Cond.code M40 jdk_42_method_154_code 1 (some .boolean) :: ws) (rO 0 0 0 0) Z h0 #[(.ref x1)] (Qrm37_60 Z x1 h0 n0) := by
 have S_compact : Sta Z Z.heap sS "COMPACT_STRINGS" "Z" (.int cz) := P.1
 have N_cz : ¬ cz = 0 := P.2.1
 refine own_body (own := sS) rfl (plainFor_of_name pN9) O0 (fun m => ef_37_R m x1) ?_
 intro p e s m below meth c s₁ Bd hZ hx hby hml hown X0 e0 Z0
 have N0 := Fr.nil n0
 obtain ⟨T1, X1, e1, st1⟩ := getS2 X0 hx hZ hown (host := "") (Or.inl (wd hw 96 rfl)) Via.refl e0 (S_compact.ext O0.2) (g := (mkF m 0 #[lR x1] [])) rfl (hb hby d37_0)
 obtain ⟨T2, X2, e2, st2⟩ := getF X1 hx hZ hown (host := "") (Or.inl (wd hw 97 rfl)) Via.refl e1 F_x1_coder (g := (mkF m 7 #[lR x1] [(.ref x1)])) rfl rfl (hb hby d37_7)
 obtain ⟨fs, hr, hrun, hended, hW, hsame⟩ := X2.leave (v := some (vI 1)) (fun h => by rw [Bd.returns] at h; cases h)
 refine ⟨_, _, ?_, hrun, hended, _, _, rfl, ?_, ⟨_, rfl⟩, hW, hsame.mono (by decide) (by decide)⟩
 · show SH s₁ 0 #[lR x1] []
   refine st1 _ ?_
   show SH T1 3 #[lR x1] [(.int cz)]
   refine XS.ifNo X1.here hx rfl (hb hby d37_3) rfl ((if0 _ _).trans (feq N_cz).1) ?_
   show SH T1 6 #[lR x1] []
   refine XS.aloadN X1.here hx rfl (hb hby d37_6) rfl rfl ?_
   show SH T1 7 #[lR x1] [(.ref x1)]
   refine st2 _ ?_
   show SH T2 10 #[lR x1] [(vI 0)]
   refine XS.ifNo X2.here hx rfl (hb hby d37_10) rfl (by decide) ?_
   show SH T2 13 #[lR x1] []
   refine XS.iconst X2.here hx rfl (hb hby d37_13) ?_
   show SH T2 14 #[lR x1] [(vI 1)]
   refine XS.goto X2.here hx rfl (pc0 := 14) (pc' := 18) rfl (hb hby d37_14) (by decide) (by decide) ?_
   show SH T2 18 #[lR x1] [(vI 1)]
   exact retN X2 hx (t := .boolean) Bd.returns (by simp) (hb hby d37_18) hr
 · exact ⟨rfl, N0, e2⟩
theorem d36_4 : decode K36 4 = .ok (.ifCond .eq 12, 3) := by decide +kernel
theorem d36_7 : decode K36 7 = .ok (.aload_n 0, 1) := by decide +kernel
theorem d36_8 : decode K36 8 = .ok (.getfield 9, 3) := by decide +kernel
theorem d36_11 : decode K36 11 = .ok (.iload_n 1, 1) := by decide +kernel
theorem d36_12 : decode K36 12 = .ok (.invokestatic 495, 3) := by decide +kernel
theorem d38_0 : decode K38 0 = .ok (.iload_n 1, 1) := by decide +kernel
theorem d38_1 : decode K38 1 = .ok (.aload_n 0, 1) := by decide +kernel
theorem d38_2 : decode K38 2 = .ok (.arraylength, 1) := by decide +kernel
theorem d38_3 : decode K38 3 = .ok (.invokestatic 9, 3) := by decide +kernel
theorem d39_0 : decode K39 0 = .ok (.iload_n 0, 1) := by decide +kernel
theorem d39_1 : decode K39 1 = .ok (.iload_n 1, 1) := by decide +kernel
theorem d39_2 : decode K39 2 = .ok (.getstatic 1053, 3) := by decide +kernel
theorem d39_5 : decode K39 5 = .ok (.invokestatic 1059, 3) := by decide +kernel
theorem d40_0 : decode K40 0 = .ok (.iload_n 0, 1) := by decide +kernel
theorem d40_1 : decode K40 1 = .ok (.ifCond .lt 8, 3) := by decide +kernel
theorem d40_4 : decode K40 4 = .ok (.iload_n 0, 1) := by decide +kernel
theorem d40_5 : decode K40 5 = .ok (.iload_n 1, 1) := by decide +kernel
theorem d40_6 : decode K40 6 = .ok (.if_icmp .lt 10, 3) := by decide +kernel
theorem d40_16 : decode K40 16 = .ok (.iload_n 0, 1) := by decide +kernel
theorem d40_17 : decode K40 17 = .ok (.ireturn, 1) := by decide +kernel
theorem ef_40_IIN (m : MethodId) (x0 : Int32) (x1 : Int32) (x2 : Value) (h2 : x2.isRef = true) : entryFrame m #[(.int x0), (.int x1), x2] 3 = mkF m 0 #[.val (.int x0), .val (.int x1), .val x2] [] := by rcases ref_cases h2 with rfl | ⟨_, rfl⟩ <;> first | (simp [entryFrame, mkF, argsToLocals, Value.category]; done) | rfl
theorem pN2 : plainName sP = true := by first | (simp [plainName, overriddenIn]; done) | decide +kernel
def Qrm40_61 (Z : State) (d1 : Nat) (d2 : Nat) (h0 : Heap) (n0 : Nat) (v : Option Value) (h : Heap) (L : List Loc) : Prop := v = some (.int (oN d1)) ∧ Fr n0 L ∧ h = h0
theorem rm40_61 (l : Launch) (Z : State) (a0 : Array Value) (hw : HW Z a0) (ws : List Jvm.Cond) (cz : Int32) (dg : Addr) (fm : Value) (d1 : Nat) (d2 : Nat) (h0 : Heap) (n0 : Nat) (O0 : Old Z n0 h0) (P : Pins Z cz dg fm) (hn0 : 0 ≤ d1) (hn1 : d1 < 2147483648) (hn2 : d1 < d2) (hn3 : d2 < 2147483648) :
   Ctr l M41 (Jvm.Cond.code M41 jdk_41_method_11_code 3 (some .int) :: ws) (rO 0 0 0 0) Z h0 #[(.int (oN d1)), (.int (oN d2)), fm] (Qrm40_61 Z d1 d2 h0 n0) := by
 have R_fm : fm.isRef = true := P.2.2.2.2.2
 refine own_body (own := sP) rfl (plainFor_of_name pN2) O0 (fun m => ef_40_IIN m (oN d1) (oN d2) fm R_fm) ?_
 intro p e s m below meth c s₁ Bd hZ hx hby hml hown X0 e0 Z0
 have N0 := Fr.nil n0
 obtain ⟨fs, hr, hrun, hended, hW, hsame⟩ := X0.leave (v := some (.int (oN d1))) (fun h => by rw [Bd.returns] at h; cases h)
 refine ⟨_, _, ?_, hrun, hended, _, _, rfl, ?_, ⟨_, rfl⟩, hW, hsame.mono (by decide) (by decide)⟩
 · show SH s₁ 0 #[lI ((oN d1)), lI ((oN d2)), .val fm] []
   refine XS.iloadN X0.here hx rfl (hb hby d40_0) rfl ?_
   show SH s₁ 1 #[lI ((oN d1)), lI ((oN d2)), .val fm] [(.int (oN d1))]
   refine XS.ifNo X0.here hx rfl (hb hby d40_1) rfl ((if0 _ _).trans (flt (show ¬ ((oN d1) < (0 : Int32)) from own_leI (A := d1) (B := 0) hn0 hn1)).1) ?_
   show SH s₁ 4 #[lI ((oN d1)), lI ((oN d2)), .val fm] []
   refine XS.iloadN X0.here hx rfl (hb hby d40_4) rfl ?_
   show SH s₁ 5 #[lI ((oN d1)), lI ((oN d2)), .val fm] [(.int (oN d1))]
   refine XS.iloadN X0.here hx rfl (hb hby d40_5) rfl ?_
   show SH s₁ 6 #[lI ((oN d1)), lI ((oN d2)), .val fm] [(.int (oN d2)), (.int (oN d1))]
   refine XS.icmpYes X0.here hx rfl (pc0 := 6) (pc' := 16) rfl (hb hby d40_6) rfl (tlt (show (oN d1) < (oN d2) from own_ltI (A := d1) (B := d2) hn2 hn3)).1 (by decide) (by decide) ?_
   show SH s₁ 16 #[lI ((oN d1)), lI ((oN d2)), .val fm] []
   refine XS.iloadN X0.here hx rfl (hb hby d40_16) rfl ?_
   show SH s₁ 17 #[lI ((oN d1)), lI ((oN d2)), .val fm] [(.int (oN d1))]
   exact retI X0 hx Bd.returns (hb hby d40_17) hr
 · exact ⟨rfl, N0, e0⟩
theorem pd_24 : parseMethodDescriptor "(IILjava/util/function/BiFunction;)I" = some ⟨[.int, .int, (.object "java/util/function/BiFunction")], some .int⟩ := by decide +kernel
theorem d39_8 : decode K39 8 = .ok (.pop, 1) := by decide +kernel
theorem d39_9 : decode K39 9 = .ok (.return_, 1) := by decide +kernel
theorem ef_39_II (m : MethodId) (x0 : Int32) (x1 : Int32) : entryFrame m #[(.int x0), (.int x1)] 2 = mkF m 0 #[.val (.int x0), .val (.int x1)] [] := by first | (simp [entryFrame, mkF, argsToLocals, Value.category]; done) | rfl
def Qrm39_62 (Z : State) (d1 : Nat) (d2 : Nat) (h0 : Heap) (n0 : Nat) (v : Option Value) (h : Heap) (L : List Loc) : Prop := v = none ∧ Fr n0 L ∧ h = h0
theorem rm39_62 (l : Launch) (Z : State) (a0 : Array Value) (hw : HW Z a0) (ws : List Jvm.Cond) (cz : Int32) (dg : Addr) (fm : Value) (d1 : Nat) (d2 : Nat) (h0 : Heap) (n0 : Nat) (O0 : Old Z n0 h0) (P : Pins Z cz dg fm) (hn0 : 0 ≤ d1) (hn1 : d1 < 2147483648) (hn2 : d1 < d2) (hn3 : d2 < 2147483648) :
   Ctr l M42 (Jvm.Cond.code M42 jdk_42_method_155_code 2 none :: ws) (rO 1 0 0 14) Z h0 #[(.int (oN d1)), (.int (oN d2))] (Qrm39_62 Z d1 d2 h0 n0) := by
 have S_fm : Sta Z Z.heap sP "SIOOBE_FORMATTER" "Ljava/util/function/BiFunction;" fm := P.2.2.2.2.1
 refine own_body (own := sS) rfl (plainFor_of_name pN9) O0 (fun m => ef_39_II m (oN d1) (oN d2)) ?_
 intro p e s m below meth c s₁ Bd hZ hx hby hml hown X0 e0 Z0
 have N0 := Fr.nil n0
 obtain ⟨T1, X1, e1, st1⟩ := getS2 X0 hx hZ hown (host := "") (Or.inl (wd hw 229 rfl)) Via.refl e0 (S_fm.ext O0.2) (g := (mkF m 2 #[lI ((oN d1)), lI ((oN d2))] [(.int (oN d2)), (.int (oN d1))])) rfl (hb hby d39_2)
 obtain ⟨_, _, ⟨T2, L2, k2, n2⟩, -, X2, ⟨Lc2, hQ2, l2, y2, z2⟩, st2⟩ := Jvm.LawKit.callS X1 hx (y := M41) hown (mvT hZ (wd hw 231 rfl)) (mvT hZ (wd hw 232 rfl)) (mvT hZ (wd hw 230 rfl)) (mvT hZ (wd hw 233 rfl)) (by decide) (backOf (W := 0) (rm40_61 l Z a0 hw [] cz dg fm d1 d2 h0 n0 O0 P hn0 hn1 hn2 hn3) hZ (wd hw 233 rfl) (wd hw 230 rfl) (by decide) (by decide)) (g := (mkF m 5 #[lI ((oN d1)), lI ((oN d2))] [fm, (.int (oN d2)), (.int (oN d1))])) rfl (by rw [hml]; rfl) (argsL := [(.int (oN d1)), (.int (oN d2)), fm]) (rest := []) (lenOf pd_24 rfl) rfl (lz rfl) (hb hby d39_5) (fun _ _ => ⟨rfl, e1, (by decide : 0 + 0 ≤ _), (by decide : 0 + 0 ≤ _)⟩)
 dsimp only [Pt.U, Pt.locs, Pt.cells, Pt.slots] at X2 l2 y2 z2 st2 hQ2
 subst y2 z2
 obtain ⟨rfl, N2q, e2⟩ := hQ2
 have N2 : Fr n0 L2 := by rw [l2]; exact Fr.app N0 N2q
 obtain ⟨fs, hr, hrun, hended, hW, hsame⟩ := X2.leave (v := none) (fun _ => rfl)
 refine ⟨_, _, ?_, hrun, hended, _, _, rfl, ?_, ⟨_, rfl⟩, hW, hsame.mono (by decide) (by decide)⟩
 · show SH s₁ 0 #[lI ((oN d1)), lI ((oN d2))] []
   refine XS.iloadN X0.here hx rfl (hb hby d39_0) rfl ?_
   show SH s₁ 1 #[lI ((oN d1)), lI ((oN d2))] [(.int (oN d1))]
   refine XS.iloadN X0.here hx rfl (hb hby d39_1) rfl ?_
   show SH s₁ 2 #[lI ((oN d1)), lI ((oN d2))] [(.int (oN d2)), (.int (oN d1))]
   refine st1 _ ?_
   show SH T1 5 #[lI ((oN d1)), lI ((oN d2))] [fm, (.int (oN d2)), (.int (oN d1))]
   refine st2 _ ?_
   show SH T2 8 #[lI ((oN d1)), lI ((oN d2))] [(.int (oN d1))]
   refine XS.pop X2.here hx rfl (hb hby d39_8) rfl rfl ?_
   show SH T2 9 #[lI ((oN d1)), lI ((oN d2))] []
   exact X2.returnOut hx Bd.returns (hb hby d39_9) hr
 · exact ⟨rfl, N2, e2⟩
theorem d38_6 : decode K38 6 = .ok (.aload_n 0, 1) := by decide +kernel
theorem d38_7 : decode K38 7 = .ok (.iload_n 1, 1) := by decide +kernel
theorem d38_8 : decode K38 8 = .ok (.baload, 1) := by decide +kernel
theorem d38_9 : decode K38 9 = .ok (.sipush 255, 3) := by decide +kernel
theorem d38_12 : decode K38 12 = .ok (.iand, 1) := by decide +kernel
theorem d38_13 : decode K38 13 = .ok (.i2c, 1) := by decide +kernel
theorem d38_14 : decode K38 14 = .ok (.ireturn, 1) := by decide +kernel
theorem ef_38_RI (m : MethodId) (x0 : Addr) (x1 : Int32) : entryFrame m #[(.ref x0), (.int x1)] 2 = mkF m 0 #[.val (.ref x0), .val (.int x1)] [] := by first | (simp [entryFrame, mkF, argsToLocals, Value.category]; done) | rfl
theorem pN6 : plainName "java/lang/StringLatin1" = true := by first | (simp [plainName, overriddenIn]; done) | decide +kernel
def Qrm38_63 (Z : State) (x1 : Addr) (d2 : Nat) (c3 : ClassId) (d4 : Nat) (u5 : List Value) (i6 : Int32) (h0 : Heap) (n0 : Nat) (v : Option Value) (h : Heap) (L : List Loc) : Prop := v = some (.int i6) ∧ Fr n0 L ∧ h = h0
theorem rm38_63 (l : Launch) (Z : State) (a0 : Array Value) (hw : HW Z a0) (ws : List Jvm.Cond) (cz : Int32) (dg : Addr) (fm : Value) (x1 : Addr) (d2 : Nat) (c3 : ClassId) (d4 : Nat) (u5 : List Value) (i6 : Int32) (h0 : Heap) (n0 : Nat) (O0 : Old Z n0 h0) (P : Pins Z cz dg fm) (V_x1 : bA Z h0 x1 c3 (oN d4) u5) (hn0 : 0 ≤ d2) (hn1 : d2 < 2147483648) (hn2 : d2 < d4) (hn3 : d4 < 2147483648) (el_i6 : (u5)[d2]? = some (.int i6)) (ch_i6 : own_ch i6) :
   Ctr l M43 (Jvm.Cond.code M43 jdk_43_method_2_code 2 (some .char) :: ws) (rO 2 0 0 27) Z h0 #[(.ref x1), (.int (oN d2))] (Qrm38_63 Z x1 d2 c3 d4 u5 i6 h0 n0) := by
 refine own_body (own := "java/lang/StringLatin1") rfl (plainFor_of_name pN6) O0 (fun m => ef_38_RI m x1 (oN d2)) ?_
 intro p e s m below meth c s₁ Bd hZ hx hby hml hown X0 e0 Z0
 have N0 := Fr.nil n0
 obtain ⟨cl1, A1, -, S1, M1, -, -⟩ := id V_x1
 obtain ⟨_, _, ⟨T2, L2, k2, n2⟩, -, X2, ⟨Lc2, hQ2, l2, y2, z2⟩, st2⟩ := Jvm.LawKit.callS X0 hx (y := M42) hown (mvT hZ (wd hw 226 rfl)) (mvT hZ (wd hw 227 rfl)) (mvT hZ (wd hw 28 rfl)) (mvT hZ (wd hw 228 rfl)) (by decide) (backOf (W := 0) (rm39_62 l Z a0 hw [] cz dg fm d2 d4 h0 n0 O0 P hn0 hn1 hn2 hn3) hZ (wd hw 228 rfl) (wd hw 28 rfl) (by decide) (by decide)) (g := (mkF m 3 #[lR x1, lI ((oN d2))] [(.int (oN d4)), (.int (oN d2))])) rfl (by rw [hml]; rfl) (argsL := [(.int (oN d2)), (.int (oN d4))]) (rest := []) (lenOf pd_15 rfl) rfl (lz rfl) (hb hby d38_3) (fun _ _ => ⟨rfl, e0, (by decide : 0 + 0 ≤ _), (by decide : 0 + 0 ≤ _)⟩)
 dsimp only [Pt.U, Pt.locs, Pt.cells, Pt.slots] at X2 l2 y2 z2 st2 hQ2
 subst y2 z2
 obtain ⟨rfl, N2q, e2⟩ := hQ2
 have N2 : Fr n0 L2 := by rw [l2]; exact Fr.app N0 N2q
 obtain ⟨cl3, A3, -, S3, M3, H3, -⟩ := id V_x1
 have hin3 : ¬ ((oN d2) < 0 ∨ cl3.slots.size ≤ ((oN d2)).toNatClampNeg) := inb_of S3 ⟨own_nn (A := d2) hn1, own_ltI (A := d2) (B := d4) hn2 hn3⟩
 have hat3 : cl3.slots[((oN d2)).toNatClampNeg]? = some (.int i6) := by rw [own_tn (A := d2) hn1]; exact own_has H3 (by rw [S3, own_tn (A := d4) hn3]; exact hn2) el_i6
 obtain ⟨fs, hr, hrun, hended, hW, hsame⟩ := X2.leave (v := some (.int i6)) (fun h => by rw [Bd.returns] at h; cases h)
 refine ⟨_, _, ?_, hrun, hended, _, _, rfl, ?_, ⟨_, rfl⟩, hW, hsame.mono (by decide) (by decide)⟩
 · show SH s₁ 0 #[lR x1, lI ((oN d2))] []
   refine XS.iloadN X0.here hx rfl (hb hby d38_0) rfl ?_
   show SH s₁ 1 #[lR x1, lI ((oN d2))] [(.int (oN d2))]
   refine XS.aloadN X0.here hx rfl (hb hby d38_1) rfl rfl ?_
   show SH s₁ 2 #[lR x1, lI ((oN d2))] [(.ref x1), (.int (oN d2))]
   refine X0.arraylength hx (by rw [e0]; exact A1.1) (State.isArrayOf_alike hZ.alike A1.2.1) (g := (mkF m 2 #[lR x1, lI ((oN d2))] [(.ref x1), (.int (oN d2))])) rfl rfl (hb hby d38_2) _ ?_
   rw [len_of S1 M1]
   refine st2 _ ?_
   show SH T2 6 #[lR x1, lI ((oN d2))] []
   refine XS.aloadN X2.here hx rfl (hb hby d38_6) rfl rfl ?_
   show SH T2 7 #[lR x1, lI ((oN d2))] [(.ref x1)]
   refine XS.iloadN X2.here hx rfl (hb hby d38_7) rfl ?_
   show SH T2 8 #[lR x1, lI ((oN d2))] [(.int (oN d2)), (.ref x1)]
   refine X2.baloadBytes hx (j := (oN d2)) (v := (.int i6)) (by rw [e2]; exact A3.1) (State.isArrayOf_alike hZ.alike A3.2.1) A3.2.2 hin3 hat3 (g := (mkF m 8 #[lR x1, lI ((oN d2))] [(.int (oN d2)), (.ref x1)])) rfl rfl (hb hby d38_8) _ ?_
   show SH T2 9 #[lR x1, lI ((oN d2))] [(.int i6)]
   refine XS.sipush X2.here hx rfl (hb hby d38_9) ?_
   show SH T2 12 #[lR x1, lI ((oN d2))] [(vI 255), (.int i6)]
   refine XS.iand X2.here hx rfl (hb hby d38_12) rfl ?_
   show SH T2 13 #[lR x1, lI ((oN d2))] [(.int (i6 &&& (255 : Int32)))]
   refine XS.i2c X2.here hx rfl (hb hby d38_13) rfl ?_
   show SH T2 14 #[lR x1, lI ((oN d2))] [(.int ((i6 &&& (255 : Int32)).toUInt32.toUInt16.toUInt32.toInt32))]
   rw [ch_i6.1]
   exact retOut X2 hx Bd.returns ch_i6.2 (Or.inl ⟨rfl, Or.inr (Or.inr (Or.inr (Or.inl rfl))), _, rfl⟩) (hb hby d38_14) hr
 · exact ⟨rfl, N2, e2⟩
theorem pd_25 : parseMethodDescriptor "([BI)C" = some ⟨[(.array .byte), .int], some .char⟩ := by decide +kernel
theorem d36_15 : decode K36 15 = .ok (.ireturn, 1) := by decide +kernel
theorem ef_36_RI (m : MethodId) (x0 : Addr) (x1 : Int32) : entryFrame m #[(.ref x0), (.int x1)] 2 = mkF m 0 #[.val (.ref x0), .val (.int x1)] [] := by first | (simp [entryFrame, mkF, argsToLocals, Value.category]; done) | rfl
def Qrm36_64 (Z : State) (x1 : Addr) (d2 : Nat) (x3 : Addr) (c4 : ClassId) (d5 : Nat) (u6 : List Value) (i7 : Int32) (h0 : Heap) (n0 : Nat) (v : Option Value) (h : Heap) (L : List Loc) : Prop := v = some (.int i7) ∧ Fr n0 L ∧ h = h0
theorem rm36_64 (l : Launch) (Z : State) (a0 : Array Value) (hw : HW Z a0) (ws : List Jvm.Cond) (cz : Int32) (dg : Addr) (fm : Value) (x1 : Addr) (d2 : Nat) (x3 : Addr) (c4 : ClassId) (d5 : Nat) (u6 : List Value) (i7 : Int32) (h0 : Heap) (n0 : Nat) (O0 : Old Z n0 h0) (P : Pins Z cz dg fm) (E_x1 : Exa Z h0 x1 sS) (F_x1_coder : sC Z h0 x1) (F_x1_value : sV Z h0 x1 x3) (V_x3 : bA Z h0 x3 c4 (oN d5) u6) (hn0 : 0 ≤ d2) (hn1 : d2 < 2147483648) (hn2 : d2 < d5) (hn3 : d5 < 2147483648) (el_i7 : (u6)[d2]? = some (.int i7)) (ch_i7 : own_ch i7) :
   Ctr l M44 (Jvm.Cond.code M44 jdk_42_method_56_code 2 (some .char) :: ws) (rO 3 0 0 40) Z h0 #[(.ref x1), (.int (oN d2))] (Qrm36_64 Z x1 d2 x3 c4 d5 u6 i7 h0 n0) := by
 refine own_body (own := sS) rfl (plainFor_of_name pN9) O0 (fun m => ef_36_RI m x1 (oN d2)) ?_
 intro p e s m below meth c s₁ Bd hZ hx hby hml hown X0 e0 Z0
 have N0 := Fr.nil n0
 obtain ⟨cq1, kq1, q1a, q1b, q1c⟩ := isOf hZ e0 E_x1
 obtain ⟨_, _, ⟨T1, L1, k1, n1⟩, -, X1, ⟨Lc1, hQ1, l1, y1, z1⟩, st1⟩ := X0.virtualBack hx (y := M40) (z := M40) hown (mvT hZ (wd hw 217 rfl)) (mvT hZ (wd hw 218 rfl)) (notFace_of_selects (args := #[]) (mvT hZ (wd hw 220 rfl))) (mvT hZ (wd hw 220 rfl)) (mvT hZ (wd hw 219 rfl)) (by decide) (backOf (W := 0) (rm37_60 l Z a0 hw [] cz dg fm x1 h0 n0 O0 P F_x1_coder) hZ (wd hw 221 rfl) (wd hw 28 rfl) (by decide) (by decide)) q1a q1c (g := (mkF m 1 #[lR x1, lI ((oN d2))] [(.ref x1)])) rfl (by rw [hml]; rfl) (Steps.refl _) (argsL := []) (rest := []) (lenOf pd_3 rfl) rfl (lz rfl) (hb hby d36_1) (fun _ _ => ⟨rfl, e0, (by decide : 0 + 0 ≤ _), (by decide : 0 + 0 ≤ _)⟩)
 dsimp only [Pt.U, Pt.locs, Pt.cells, Pt.slots] at X1 l1 y1 z1 st1 hQ1
 subst y1 z1
 obtain ⟨rfl, N1q, e1⟩ := hQ1
 have N1 : Fr n0 L1 := by rw [l1]; exact Fr.app N0 N1q
 obtain ⟨T2, X2, e2, st2⟩ := getF X1 hx hZ hown (host := "") (Or.inl (wd hw 90 rfl)) Via.refl e1 F_x1_value (g := (mkF m 8 #[lR x1, lI ((oN d2))] [(.ref x1)])) rfl rfl (hb hby d36_8)
 obtain ⟨_, _, ⟨T3, L3, k3, n3⟩, -, X3, ⟨Lc3, hQ3, l3, y3, z3⟩, st3⟩ := Jvm.LawKit.callS X2 hx (y := M43) hown (mvT hZ (wd hw 222 rfl)) (mvT hZ (wd hw 223 rfl)) (mvT hZ (wd hw 224 rfl)) (mvT hZ (wd hw 225 rfl)) (by decide) (backOf (W := 0) (rm38_63 l Z a0 hw [] cz dg fm x3 d2 c4 d5 u6 i7 h0 n0 O0 P V_x3 hn0 hn1 hn2 hn3 el_i7 ch_i7) hZ (wd hw 225 rfl) (wd hw 224 rfl) (by decide) (by decide)) (g := (mkF m 12 #[lR x1, lI ((oN d2))] [(.int (oN d2)), (.ref x3)])) rfl (by rw [hml]; rfl) (argsL := [(.ref x3), (.int (oN d2))]) (rest := []) (lenOf pd_25 rfl) rfl (lz rfl) (hb hby d36_12) (fun _ _ => ⟨rfl, e2, (by decide : 0 + 0 ≤ _), (by decide : 0 + 0 ≤ _)⟩)
 dsimp only [Pt.U, Pt.locs, Pt.cells, Pt.slots] at X3 l3 y3 z3 st3 hQ3
 subst y3 z3
 obtain ⟨rfl, N3q, e3⟩ := hQ3
 have N3 : Fr n0 L3 := by rw [l3]; exact Fr.app N1 N3q
 obtain ⟨fs, hr, hrun, hended, hW, hsame⟩ := X3.leave (v := some (.int i7)) (fun h => by rw [Bd.returns] at h; cases h)
 refine ⟨_, _, ?_, hrun, hended, _, _, rfl, ?_, ⟨_, rfl⟩, hW, hsame.mono (by decide) (by decide)⟩
 · show SH s₁ 0 #[lR x1, lI ((oN d2))] []
   refine XS.aloadN X0.here hx rfl (hb hby d36_0) rfl rfl ?_
   show SH s₁ 1 #[lR x1, lI ((oN d2))] [(.ref x1)]
   refine st1.trans ?_
   show SH T1 4 #[lR x1, lI ((oN d2))] [(vI 1)]
   refine XS.ifNo X1.here hx rfl (hb hby d36_4) rfl (by decide) ?_
   show SH T1 7 #[lR x1, lI ((oN d2))] []
   refine XS.aloadN X1.here hx rfl (hb hby d36_7) rfl rfl ?_
   show SH T1 8 #[lR x1, lI ((oN d2))] [(.ref x1)]
   refine st2 _ ?_
   show SH T2 11 #[lR x1, lI ((oN d2))] [(.ref x3)]
   refine XS.iloadN X2.here hx rfl (hb hby d36_11) rfl ?_
   show SH T2 12 #[lR x1, lI ((oN d2))] [(.int (oN d2)), (.ref x3)]
   refine st3 _ ?_
   show SH T3 15 #[lR x1, lI ((oN d2))] [(.int i7)]
   exact retOut X3 hx Bd.returns ch_i7.2 (Or.inl ⟨rfl, Or.inr (Or.inr (Or.inr (Or.inl rfl))), _, rfl⟩) (hb hby d36_15) hr
 · exact ⟨rfl, N3, e3⟩
theorem pd_26 : parseMethodDescriptor "(I)C" = some ⟨[.int], some .char⟩ := by decide +kernel
theorem d35_19 : decode K35 19 = .ok (.iload_n 2, 1) := by decide +kernel
theorem d35_20 : decode K35 20 = .ok (.if_icmp .ne 9, 3) := by decide +kernel
theorem d35_23 : decode K35 23 = .ok (.iload_n 1, 1) := by decide +kernel
theorem d35_24 : decode K35 24 = .ok (.iconst 1, 1) := by decide +kernel
theorem d35_25 : decode K35 25 = .ok (.iadd, 1) := by decide +kernel
theorem d35_26 : decode K35 26 = .ok (.goto 4, 3) := by decide +kernel
theorem d35_30 : decode K35 30 = .ok (.ireturn, 1) := by decide +kernel
theorem ef_35_RII (m : MethodId) (x0 : Addr) (x1 : Int32) (x2 : Int32) : entryFrame m #[(.ref x0), (.int x1), (.int x2)] 3 = mkF m 0 #[.val (.ref x0), .val (.int x1), .val (.int x2)] [] := by first | (simp [entryFrame, mkF, argsToLocals, Value.category]; done) | rfl
theorem pN0 : plainName sL = true := by first | (simp [plainName, overriddenIn]; done) | decide +kernel
def QrmH (Z : State) (x1 : Addr) (d2 : Nat) (i3 : Int32) (x4 : Addr) (c5 : ClassId) (d6 : Nat) (u7 : List Value) (h0 : Heap) (n0 : Nat) (v : Option Value) (h : Heap) (L : List Loc) : Prop := v = some (.int (oN (d2 + 1))) ∧ Fr n0 L ∧ h = h0
theorem rmH (l : Launch) (Z : State) (a0 : Array Value) (hw : HW Z a0) (ws : List Jvm.Cond) (cz : Int32) (dg : Addr) (fm : Value) (x1 : Addr) (d2 : Nat) (i3 : Int32) (x4 : Addr) (c5 : ClassId) (d6 : Nat) (u7 : List Value) (h0 : Heap) (n0 : Nat) (O0 : Old Z n0 h0) (P : Pins Z cz dg fm) (E_x1 : Exa Z h0 x1 sS) (F_x1_value : sV Z h0 x1 x4) (F_x1_coder : sC Z h0 x1) (V_x4 : bA Z h0 x4 c5 (oN d6) u7) (el : u7[d2]? = some (.int i3)) (hch : own_ch i3) (hd0 : d2 < d6) (hd1 : d6 ≤ 120) :
   Ctr l M45 (Jvm.Cond.code M45 method_4_code 3 (some .int) :: ws) (rO 4 0 0 53) Z h0 #[(.ref x1), (.int (oN d2)), (.int i3)] (QrmH Z x1 d2 i3 x4 c5 d6 u7 h0 n0) := by
 refine own_body (own := sL) rfl (plainFor_of_name pN0) O0 (fun m => ef_35_RII m x1 (oN d2) i3) ?_
 intro p e s m below meth c s₁ Bd hZ hx hby hml hown X0 e0 Z0
 have N0 := Fr.nil n0
 obtain ⟨cq1, kq1, q1a, q1b, q1c⟩ := isOf hZ e0 E_x1
 obtain ⟨_, _, ⟨T1, L1, k1, n1⟩, -, X1, ⟨Lc1, hQ1, l1, y1, z1⟩, st1⟩ := X0.virtualBack hx (y := M18) (z := M18) hown (mvT hZ (wd hw 211 rfl)) (mvT hZ (wd hw 86 rfl)) (notFace_of_selects (args := #[]) (mvT hZ (wd hw 88 rfl))) (mvT hZ (wd hw 88 rfl)) (mvT hZ (wd hw 87 rfl)) (by decide) (backOf (W := 1) (rm15_19 l Z a0 hw [] cz dg fm x1 x4 c5 d6 u7 h0 n0 O0 P F_x1_value V_x4 E_x1 F_x1_coder) hZ (wd hw 89 rfl) (wd hw 28 rfl) (by decide) (by decide)) q1a q1c (g := (mkF m 6 #[lR x1, lI ((oN d2)), lI i3] [(.ref x1), (.int (oN d2))])) rfl (by rw [hml]; rfl) (Steps.refl _) (argsL := []) (rest := [(.int (oN d2))]) (lenOf pd_8 rfl) rfl (lz rfl) (hb hby d35_6) (fun _ _ => ⟨rfl, e0, (by decide : 0 + 0 ≤ _), (by decide : 0 + 0 ≤ _)⟩)
 dsimp only [Pt.U, Pt.locs, Pt.cells, Pt.slots] at X1 l1 y1 z1 st1 hQ1
 subst y1 z1
 obtain ⟨rfl, N1q, e1⟩ := hQ1
 have N1 : Fr n0 L1 := by rw [l1]; exact Fr.app N0 N1q
 obtain ⟨cq2, kq2, q2a, q2b, q2c⟩ := isOf hZ e1 E_x1
 obtain ⟨_, _, ⟨T2, L2, k2, n2⟩, -, X2, ⟨Lc2, hQ2, l2, y2, z2⟩, st2⟩ := X1.virtualBack hx (y := M44) (z := M44) hown (mvT hZ (wd hw 212 rfl)) (mvT hZ (wd hw 213 rfl)) (notFace_of_selects (args := #[]) (mvT hZ (wd hw 215 rfl))) (mvT hZ (wd hw 215 rfl)) (mvT hZ (wd hw 214 rfl)) (by decide) (backOf (W := 0) (rm36_64 l Z a0 hw [] cz dg fm x1 d2 x4 c5 d6 u7 i3 h0 n0 O0 P E_x1 F_x1_coder F_x1_value V_x4 (by omega) (by omega) (by omega) (by omega) el hch) hZ (wd hw 216 rfl) (wd hw 28 rfl) (by decide) (by decide)) q2a q2c (g := (mkF m 16 #[lR x1, lI ((oN d2)), lI i3] [(.int (oN d2)), (.ref x1)])) rfl (by rw [hml]; rfl) (Steps.refl _) (argsL := [(.int (oN d2))]) (rest := []) (lenOf pd_26 rfl) rfl (lz rfl) (hb hby d35_16) (fun _ _ => ⟨rfl, e1, (by decide : 0 + 0 ≤ _), (by decide : 0 + 0 ≤ _)⟩)
 dsimp only [Pt.U, Pt.locs, Pt.cells, Pt.slots] at X2 l2 y2 z2 st2 hQ2
 subst y2 z2
 obtain ⟨rfl, N2q, e2⟩ := hQ2
 have N2 : Fr n0 L2 := by rw [l2]; exact Fr.app N1 N2q
 obtain ⟨fs, hr, hrun, hended, hW, hsame⟩ := X2.leave (v := some (.int (oN (d2 + 1)))) (fun h => by rw [Bd.returns] at h; cases h)
 refine ⟨_, _, ?_, hrun, hended, _, _, rfl, ?_, ⟨_, rfl⟩, hW, hsame.mono (by decide) (by decide)⟩
 · show SH s₁ 0 #[lR x1, lI ((oN d2)), lI i3] []
   refine XS.iloadN X0.here hx rfl (hb hby d35_0) rfl ?_
   show SH s₁ 1 #[lR x1, lI ((oN d2)), lI i3] [(.int (oN d2))]
   refine XS.ifNo X0.here hx rfl (hb hby d35_1) rfl ((if0 _ _).trans (flt (show ¬ ((oN d2) < (0 : Int32)) from own_leI (A := d2) (B := 0) (by omega) (by omega))).1) ?_
   show SH s₁ 4 #[lR x1, lI ((oN d2)), lI i3] []
   refine XS.iloadN X0.here hx rfl (hb hby d35_4) rfl ?_
   show SH s₁ 5 #[lR x1, lI ((oN d2)), lI i3] [(.int (oN d2))]
   refine XS.aloadN X0.here hx rfl (hb hby d35_5) rfl rfl ?_
   show SH s₁ 6 #[lR x1, lI ((oN d2)), lI i3] [(.ref x1), (.int (oN d2))]
   refine st1.trans ?_
   show SH T1 9 #[lR x1, lI ((oN d2)), lI i3] [(.int (oN d6)), (.int (oN d2))]
   refine XS.icmpYes X1.here hx rfl (pc0 := 9) (pc' := 14) rfl (hb hby d35_9) rfl (tlt (show (oN d2) < (oN d6) from own_ltI (A := d2) (B := d6) (by omega) (by omega))).1 (by decide) (by decide) ?_
   show SH T1 14 #[lR x1, lI ((oN d2)), lI i3] []
   refine XS.aloadN X1.here hx rfl (hb hby d35_14) rfl rfl ?_
   show SH T1 15 #[lR x1, lI ((oN d2)), lI i3] [(.ref x1)]
   refine XS.iloadN X1.here hx rfl (hb hby d35_15) rfl ?_
   show SH T1 16 #[lR x1, lI ((oN d2)), lI i3] [(.int (oN d2)), (.ref x1)]
   refine st2.trans ?_
   show SH T2 19 #[lR x1, lI ((oN d2)), lI i3] [(.int i3)]
   refine XS.iloadN X2.here hx rfl (hb hby d35_19) rfl ?_
   show SH T2 20 #[lR x1, lI ((oN d2)), lI i3] [(.int i3), (.int i3)]
   refine XS.icmpNo X2.here hx rfl (hb hby d35_20) rfl (teq (rfl : i3 = i3)).2 ?_
   show SH T2 23 #[lR x1, lI ((oN d2)), lI i3] []
   refine XS.iloadN X2.here hx rfl (hb hby d35_23) rfl ?_
   show SH T2 24 #[lR x1, lI ((oN d2)), lI i3] [(.int (oN d2))]
   refine XS.iconst X2.here hx rfl (hb hby d35_24) ?_
   show SH T2 25 #[lR x1, lI ((oN d2)), lI i3] [(vI 1), (.int (oN d2))]
   refine XS.iadd X2.here hx rfl (hb hby d35_25) rfl ?_
   show SH T2 26 #[lR x1, lI ((oN d2)), lI i3] [(.int ((oN d2) + (1 : Int32)))]
   rw [show ((oN d2) + (1 : Int32)) = (oN (d2 + 1)) from own_addI d2 1]
   refine XS.goto X2.here hx rfl (pc0 := 26) (pc' := 30) rfl (hb hby d35_26) (by decide) (by decide) ?_
   show SH T2 30 #[lR x1, lI ((oN d2)), lI i3] [(.int (oN (d2 + 1)))]
   exact retI X2 hx Bd.returns (hb hby d35_30) hr
 · exact ⟨rfl, N2, e2⟩
theorem pd_27 : parseMethodDescriptor "(Ljava/lang/String;IC)I" = some ⟨[(.object sS), .int, .char], some .int⟩ := by decide +kernel
theorem d34_10 : decode K34 10 = .ok (.istore 4, 2) := by decide +kernel
theorem d34_12 : decode K34 12 = .ok (.aload_n 0, 1) := by decide +kernel
theorem d34_13 : decode K34 13 = .ok (.iload 4, 2) := by decide +kernel
theorem d34_15 : decode K34 15 = .ok (.bipush 32, 2) := by decide +kernel
theorem d34_17 : decode K34 17 = .ok (.invokestatic 71, 3) := by decide +kernel
theorem d34_20 : decode K34 20 = .ok (.istore 4, 2) := by decide +kernel
theorem d34_22 : decode K34 22 = .ok (.aload_n 0, 1) := by decide +kernel
theorem d34_23 : decode K34 23 = .ok (.iload 4, 2) := by decide +kernel
theorem d34_25 : decode K34 25 = .ok (.aload_n 3, 1) := by decide +kernel
theorem d34_26 : decode K34 26 = .ok (.invokestatic 47, 3) := by decide +kernel
theorem d41_31 : decode K41 31 = .ok (.iload_n 3, 1) := by decide +kernel
theorem d41_32 : decode K41 32 = .ok (.ifCond .le 18, 3) := by decide +kernel
theorem d41_35 : decode K41 35 = .ok (.aload_n 0, 1) := by decide +kernel
theorem d41_36 : decode K41 36 = .ok (.iload_n 1, 1) := by decide +kernel
theorem d41_37 : decode K41 37 = .ok (.invokevirtual 75, 3) := by decide +kernel
theorem d41_40 : decode K41 40 = .ok (.aload_n 2, 1) := by decide +kernel
theorem d41_41 : decode K41 41 = .ok (.iconst 0, 1) := by decide +kernel
theorem d41_42 : decode K41 42 = .ok (.invokevirtual 75, 3) := by decide +kernel
theorem d41_45 : decode K41 45 = .ok (.if_icmp .eq 5, 3) := by decide +kernel
theorem d41_50 : decode K41 50 = .ok (.iload_n 3, 1) := by decide +kernel
theorem d41_51 : decode K41 51 = .ok (.iconst 1, 1) := by decide +kernel
theorem d41_52 : decode K41 52 = .ok (.if_icmp .le 20, 3) := by decide +kernel
theorem d41_55 : decode K41 55 = .ok (.aload_n 0, 1) := by decide +kernel
theorem d41_56 : decode K41 56 = .ok (.iload_n 1, 1) := by decide +kernel
theorem d41_57 : decode K41 57 = .ok (.iconst 1, 1) := by decide +kernel
theorem d41_58 : decode K41 58 = .ok (.iadd, 1) := by decide +kernel
theorem d41_59 : decode K41 59 = .ok (.invokevirtual 75, 3) := by decide +kernel
theorem d41_62 : decode K41 62 = .ok (.aload_n 2, 1) := by decide +kernel
theorem d41_63 : decode K41 63 = .ok (.iconst 1, 1) := by decide +kernel
theorem d41_64 : decode K41 64 = .ok (.invokevirtual 75, 3) := by decide +kernel
theorem d41_67 : decode K41 67 = .ok (.if_icmp .eq 5, 3) := by decide +kernel
theorem d41_72 : decode K41 72 = .ok (.iload_n 3, 1) := by decide +kernel
theorem d41_73 : decode K41 73 = .ok (.iconst 2, 1) := by decide +kernel
theorem d41_74 : decode K41 74 = .ok (.if_icmp .le 20, 3) := by decide +kernel
theorem d41_77 : decode K41 77 = .ok (.aload_n 0, 1) := by decide +kernel
theorem d41_78 : decode K41 78 = .ok (.iload_n 1, 1) := by decide +kernel
theorem d41_79 : decode K41 79 = .ok (.iconst 2, 1) := by decide +kernel
theorem d41_80 : decode K41 80 = .ok (.iadd, 1) := by decide +kernel
theorem d41_81 : decode K41 81 = .ok (.invokevirtual 75, 3) := by decide +kernel
theorem d41_84 : decode K41 84 = .ok (.aload_n 2, 1) := by decide +kernel
theorem d41_85 : decode K41 85 = .ok (.iconst 2, 1) := by decide +kernel
theorem d41_86 : decode K41 86 = .ok (.invokevirtual 75, 3) := by decide +kernel
theorem d41_89 : decode K41 89 = .ok (.if_icmp .eq 5, 3) := by decide +kernel
theorem d41_94 : decode K41 94 = .ok (.iload_n 3, 1) := by decide +kernel
theorem d41_95 : decode K41 95 = .ok (.iconst 3, 1) := by decide +kernel
theorem d41_96 : decode K41 96 = .ok (.if_icmp .le 20, 3) := by decide +kernel
theorem d41_99 : decode K41 99 = .ok (.aload_n 0, 1) := by decide +kernel
theorem d41_100 : decode K41 100 = .ok (.iload_n 1, 1) := by decide +kernel
theorem d41_101 : decode K41 101 = .ok (.iconst 3, 1) := by decide +kernel
theorem d41_102 : decode K41 102 = .ok (.iadd, 1) := by decide +kernel
theorem d41_103 : decode K41 103 = .ok (.invokevirtual 75, 3) := by decide +kernel
theorem d41_106 : decode K41 106 = .ok (.aload_n 2, 1) := by decide +kernel
theorem d41_107 : decode K41 107 = .ok (.iconst 3, 1) := by decide +kernel
theorem d41_108 : decode K41 108 = .ok (.invokevirtual 75, 3) := by decide +kernel
theorem d41_111 : decode K41 111 = .ok (.if_icmp .eq 5, 3) := by decide +kernel
theorem d41_116 : decode K41 116 = .ok (.iload_n 3, 1) := by decide +kernel
theorem d41_117 : decode K41 117 = .ok (.iconst 4, 1) := by decide +kernel
theorem d41_118 : decode K41 118 = .ok (.if_icmp .le 20, 3) := by decide +kernel
theorem d41_121 : decode K41 121 = .ok (.aload_n 0, 1) := by decide +kernel
theorem d41_122 : decode K41 122 = .ok (.iload_n 1, 1) := by decide +kernel
theorem d41_123 : decode K41 123 = .ok (.iconst 4, 1) := by decide +kernel
theorem d41_124 : decode K41 124 = .ok (.iadd, 1) := by decide +kernel
theorem d41_125 : decode K41 125 = .ok (.invokevirtual 75, 3) := by decide +kernel
theorem d41_128 : decode K41 128 = .ok (.aload_n 2, 1) := by decide +kernel
theorem d41_129 : decode K41 129 = .ok (.iconst 4, 1) := by decide +kernel
theorem d41_130 : decode K41 130 = .ok (.invokevirtual 75, 3) := by decide +kernel
theorem d41_133 : decode K41 133 = .ok (.if_icmp .eq 5, 3) := by decide +kernel
theorem d41_138 : decode K41 138 = .ok (.iload_n 3, 1) := by decide +kernel
theorem d41_139 : decode K41 139 = .ok (.iconst 5, 1) := by decide +kernel
theorem d41_140 : decode K41 140 = .ok (.if_icmp .le 20, 3) := by decide +kernel
theorem d41_143 : decode K41 143 = .ok (.aload_n 0, 1) := by decide +kernel
theorem d41_144 : decode K41 144 = .ok (.iload_n 1, 1) := by decide +kernel
theorem d41_145 : decode K41 145 = .ok (.iconst 5, 1) := by decide +kernel
theorem d41_146 : decode K41 146 = .ok (.iadd, 1) := by decide +kernel
theorem d41_147 : decode K41 147 = .ok (.invokevirtual 75, 3) := by decide +kernel
theorem d41_150 : decode K41 150 = .ok (.aload_n 2, 1) := by decide +kernel
theorem d41_151 : decode K41 151 = .ok (.iconst 5, 1) := by decide +kernel
theorem d41_152 : decode K41 152 = .ok (.invokevirtual 75, 3) := by decide +kernel
theorem d41_155 : decode K41 155 = .ok (.if_icmp .eq 5, 3) := by decide +kernel
theorem d41_160 : decode K41 160 = .ok (.iload_n 3, 1) := by decide +kernel
theorem d41_161 : decode K41 161 = .ok (.bipush 6, 2) := by decide +kernel
theorem d41_163 : decode K41 163 = .ok (.if_icmp .le 22, 3) := by decide +kernel
theorem d41_166 : decode K41 166 = .ok (.aload_n 0, 1) := by decide +kernel
theorem d41_167 : decode K41 167 = .ok (.iload_n 1, 1) := by decide +kernel
theorem d41_168 : decode K41 168 = .ok (.bipush 6, 2) := by decide +kernel
theorem d41_170 : decode K41 170 = .ok (.iadd, 1) := by decide +kernel
theorem d41_171 : decode K41 171 = .ok (.invokevirtual 75, 3) := by decide +kernel
theorem d41_174 : decode K41 174 = .ok (.aload_n 2, 1) := by decide +kernel
theorem d41_175 : decode K41 175 = .ok (.bipush 6, 2) := by decide +kernel
theorem d41_177 : decode K41 177 = .ok (.invokevirtual 75, 3) := by decide +kernel
theorem d41_180 : decode K41 180 = .ok (.if_icmp .eq 5, 3) := by decide +kernel
theorem d41_185 : decode K41 185 = .ok (.iload_n 3, 1) := by decide +kernel
theorem d41_186 : decode K41 186 = .ok (.bipush 7, 2) := by decide +kernel
theorem d41_188 : decode K41 188 = .ok (.if_icmp .le 22, 3) := by decide +kernel
theorem d41_191 : decode K41 191 = .ok (.aload_n 0, 1) := by decide +kernel
theorem d41_192 : decode K41 192 = .ok (.iload_n 1, 1) := by decide +kernel
theorem d41_193 : decode K41 193 = .ok (.bipush 7, 2) := by decide +kernel
theorem d41_195 : decode K41 195 = .ok (.iadd, 1) := by decide +kernel
theorem d41_196 : decode K41 196 = .ok (.invokevirtual 75, 3) := by decide +kernel
theorem d41_199 : decode K41 199 = .ok (.aload_n 2, 1) := by decide +kernel
theorem d41_200 : decode K41 200 = .ok (.bipush 7, 2) := by decide +kernel
theorem d41_202 : decode K41 202 = .ok (.invokevirtual 75, 3) := by decide +kernel
theorem d41_205 : decode K41 205 = .ok (.if_icmp .eq 5, 3) := by decide +kernel
theorem d41_210 : decode K41 210 = .ok (.iload_n 3, 1) := by decide +kernel
theorem d41_211 : decode K41 211 = .ok (.bipush 8, 2) := by decide +kernel
theorem d41_213 : decode K41 213 = .ok (.if_icmp .le 22, 3) := by decide +kernel
theorem d41_216 : decode K41 216 = .ok (.aload_n 0, 1) := by decide +kernel
theorem d41_217 : decode K41 217 = .ok (.iload_n 1, 1) := by decide +kernel
theorem d41_218 : decode K41 218 = .ok (.bipush 8, 2) := by decide +kernel
theorem d41_220 : decode K41 220 = .ok (.iadd, 1) := by decide +kernel
theorem d41_221 : decode K41 221 = .ok (.invokevirtual 75, 3) := by decide +kernel
theorem d41_224 : decode K41 224 = .ok (.aload_n 2, 1) := by decide +kernel
theorem d41_225 : decode K41 225 = .ok (.bipush 8, 2) := by decide +kernel
theorem d41_227 : decode K41 227 = .ok (.invokevirtual 75, 3) := by decide +kernel
theorem d41_230 : decode K41 230 = .ok (.if_icmp .eq 5, 3) := by decide +kernel
theorem d41_235 : decode K41 235 = .ok (.iload_n 3, 1) := by decide +kernel
theorem d41_236 : decode K41 236 = .ok (.bipush 9, 2) := by decide +kernel
theorem d41_238 : decode K41 238 = .ok (.if_icmp .le 22, 3) := by decide +kernel
theorem d41_241 : decode K41 241 = .ok (.aload_n 0, 1) := by decide +kernel
theorem d41_242 : decode K41 242 = .ok (.iload_n 1, 1) := by decide +kernel
theorem d41_243 : decode K41 243 = .ok (.bipush 9, 2) := by decide +kernel
theorem d41_245 : decode K41 245 = .ok (.iadd, 1) := by decide +kernel
theorem d41_246 : decode K41 246 = .ok (.invokevirtual 75, 3) := by decide +kernel
theorem d41_249 : decode K41 249 = .ok (.aload_n 2, 1) := by decide +kernel
theorem d41_250 : decode K41 250 = .ok (.bipush 9, 2) := by decide +kernel
theorem d41_252 : decode K41 252 = .ok (.invokevirtual 75, 3) := by decide +kernel
theorem d41_255 : decode K41 255 = .ok (.if_icmp .eq 5, 3) := by decide +kernel
theorem d41_260 : decode K41 260 = .ok (.iload_n 3, 1) := by decide +kernel
theorem d41_261 : decode K41 261 = .ok (.bipush 10, 2) := by decide +kernel
theorem d41_263 : decode K41 263 = .ok (.if_icmp .le 22, 3) := by decide +kernel
theorem d41_266 : decode K41 266 = .ok (.aload_n 0, 1) := by decide +kernel
theorem d41_267 : decode K41 267 = .ok (.iload_n 1, 1) := by decide +kernel
theorem d41_268 : decode K41 268 = .ok (.bipush 10, 2) := by decide +kernel
theorem d41_270 : decode K41 270 = .ok (.iadd, 1) := by decide +kernel
theorem d41_271 : decode K41 271 = .ok (.invokevirtual 75, 3) := by decide +kernel
theorem d41_274 : decode K41 274 = .ok (.aload_n 2, 1) := by decide +kernel
theorem d41_275 : decode K41 275 = .ok (.bipush 10, 2) := by decide +kernel
theorem d41_277 : decode K41 277 = .ok (.invokevirtual 75, 3) := by decide +kernel
theorem d41_280 : decode K41 280 = .ok (.if_icmp .eq 5, 3) := by decide +kernel
theorem d41_285 : decode K41 285 = .ok (.iload_n 3, 1) := by decide +kernel
theorem d41_286 : decode K41 286 = .ok (.bipush 11, 2) := by decide +kernel
theorem d41_288 : decode K41 288 = .ok (.if_icmp .le 22, 3) := by decide +kernel
theorem d41_291 : decode K41 291 = .ok (.aload_n 0, 1) := by decide +kernel
theorem d41_292 : decode K41 292 = .ok (.iload_n 1, 1) := by decide +kernel
theorem d41_293 : decode K41 293 = .ok (.bipush 11, 2) := by decide +kernel
theorem d41_295 : decode K41 295 = .ok (.iadd, 1) := by decide +kernel
theorem d41_296 : decode K41 296 = .ok (.invokevirtual 75, 3) := by decide +kernel
theorem d41_299 : decode K41 299 = .ok (.aload_n 2, 1) := by decide +kernel
theorem d41_300 : decode K41 300 = .ok (.bipush 11, 2) := by decide +kernel
theorem d41_302 : decode K41 302 = .ok (.invokevirtual 75, 3) := by decide +kernel
theorem d41_305 : decode K41 305 = .ok (.if_icmp .eq 5, 3) := by decide +kernel
theorem d41_310 : decode K41 310 = .ok (.iload_n 3, 1) := by decide +kernel
theorem d41_311 : decode K41 311 = .ok (.bipush 12, 2) := by decide +kernel
theorem d41_313 : decode K41 313 = .ok (.if_icmp .le 22, 3) := by decide +kernel
theorem d41_316 : decode K41 316 = .ok (.aload_n 0, 1) := by decide +kernel
theorem d41_317 : decode K41 317 = .ok (.iload_n 1, 1) := by decide +kernel
theorem d41_318 : decode K41 318 = .ok (.bipush 12, 2) := by decide +kernel
theorem d41_320 : decode K41 320 = .ok (.iadd, 1) := by decide +kernel
theorem d41_321 : decode K41 321 = .ok (.invokevirtual 75, 3) := by decide +kernel
theorem d41_324 : decode K41 324 = .ok (.aload_n 2, 1) := by decide +kernel
theorem d41_325 : decode K41 325 = .ok (.bipush 12, 2) := by decide +kernel
theorem d41_327 : decode K41 327 = .ok (.invokevirtual 75, 3) := by decide +kernel
theorem d41_330 : decode K41 330 = .ok (.if_icmp .eq 5, 3) := by decide +kernel
theorem d41_335 : decode K41 335 = .ok (.iload_n 3, 1) := by decide +kernel
theorem d41_336 : decode K41 336 = .ok (.bipush 13, 2) := by decide +kernel
theorem d41_338 : decode K41 338 = .ok (.if_icmp .le 22, 3) := by decide +kernel
theorem d41_341 : decode K41 341 = .ok (.aload_n 0, 1) := by decide +kernel
theorem d41_342 : decode K41 342 = .ok (.iload_n 1, 1) := by decide +kernel
theorem d41_343 : decode K41 343 = .ok (.bipush 13, 2) := by decide +kernel
theorem d41_345 : decode K41 345 = .ok (.iadd, 1) := by decide +kernel
theorem d41_346 : decode K41 346 = .ok (.invokevirtual 75, 3) := by decide +kernel
theorem d41_349 : decode K41 349 = .ok (.aload_n 2, 1) := by decide +kernel
theorem d41_350 : decode K41 350 = .ok (.bipush 13, 2) := by decide +kernel
theorem d41_352 : decode K41 352 = .ok (.invokevirtual 75, 3) := by decide +kernel
theorem d41_355 : decode K41 355 = .ok (.if_icmp .eq 5, 3) := by decide +kernel
theorem d41_360 : decode K41 360 = .ok (.iload_n 3, 1) := by decide +kernel
theorem d41_361 : decode K41 361 = .ok (.bipush 14, 2) := by decide +kernel
theorem d41_363 : decode K41 363 = .ok (.if_icmp .le 22, 3) := by decide +kernel
theorem d41_366 : decode K41 366 = .ok (.aload_n 0, 1) := by decide +kernel
theorem d41_367 : decode K41 367 = .ok (.iload_n 1, 1) := by decide +kernel
theorem d41_368 : decode K41 368 = .ok (.bipush 14, 2) := by decide +kernel
theorem d41_370 : decode K41 370 = .ok (.iadd, 1) := by decide +kernel
theorem d41_371 : decode K41 371 = .ok (.invokevirtual 75, 3) := by decide +kernel
theorem d41_374 : decode K41 374 = .ok (.aload_n 2, 1) := by decide +kernel
theorem d41_375 : decode K41 375 = .ok (.bipush 14, 2) := by decide +kernel
theorem d41_377 : decode K41 377 = .ok (.invokevirtual 75, 3) := by decide +kernel
theorem d41_380 : decode K41 380 = .ok (.if_icmp .eq 5, 3) := by decide +kernel
theorem d41_385 : decode K41 385 = .ok (.iload_n 3, 1) := by decide +kernel
theorem d41_386 : decode K41 386 = .ok (.bipush 15, 2) := by decide +kernel
theorem d41_388 : decode K41 388 = .ok (.if_icmp .le 22, 3) := by decide +kernel
theorem d41_391 : decode K41 391 = .ok (.aload_n 0, 1) := by decide +kernel
theorem d41_392 : decode K41 392 = .ok (.iload_n 1, 1) := by decide +kernel
theorem d41_393 : decode K41 393 = .ok (.bipush 15, 2) := by decide +kernel
theorem d41_395 : decode K41 395 = .ok (.iadd, 1) := by decide +kernel
theorem d41_396 : decode K41 396 = .ok (.invokevirtual 75, 3) := by decide +kernel
theorem d41_399 : decode K41 399 = .ok (.aload_n 2, 1) := by decide +kernel
theorem d41_400 : decode K41 400 = .ok (.bipush 15, 2) := by decide +kernel
theorem d41_402 : decode K41 402 = .ok (.invokevirtual 75, 3) := by decide +kernel
theorem d41_405 : decode K41 405 = .ok (.if_icmp .eq 5, 3) := by decide +kernel
theorem d41_0 : decode K41 0 = .ok (.iload_n 1, 1) := by decide +kernel
theorem d41_1 : decode K41 1 = .ok (.ifCond .ge 5, 3) := by decide +kernel
theorem d41_6 : decode K41 6 = .ok (.aload_n 2, 1) := by decide +kernel
theorem d41_7 : decode K41 7 = .ok (.invokevirtual 65, 3) := by decide +kernel
theorem d41_10 : decode K41 10 = .ok (.istore_n 3, 1) := by decide +kernel
theorem d41_11 : decode K41 11 = .ok (.iload_n 3, 1) := by decide +kernel
theorem d41_12 : decode K41 12 = .ok (.bipush 16, 2) := by decide +kernel
theorem d41_14 : decode K41 14 = .ok (.if_icmp .le 5, 3) := by decide +kernel
theorem d41_19 : decode K41 19 = .ok (.iload_n 1, 1) := by decide +kernel
theorem d41_20 : decode K41 20 = .ok (.iload_n 3, 1) := by decide +kernel
theorem d41_21 : decode K41 21 = .ok (.iadd, 1) := by decide +kernel
theorem d41_22 : decode K41 22 = .ok (.aload_n 0, 1) := by decide +kernel
theorem d41_23 : decode K41 23 = .ok (.invokevirtual 65, 3) := by decide +kernel
theorem d41_26 : decode K41 26 = .ok (.if_icmp .le 5, 3) := by decide +kernel
theorem sl_0 {p : Program} {l : Launch} {e : Env} {s : State} {m : MethodId} {args : Array Value} {below : List Frame} {meth : Method} {c : Code} {T0 : State} {locs : List Loc} {Z : State} {a0 : Array Value} {h0 : Heap} {n0 : Nat} {cz : Int32} {dg : Addr} {fm : Value} {xs xb : Addr} {ks : ClassId} {dS : Nat} {uS : List Value} {xt tb : Addr} {kt : ClassId} {dT : Nat} {uT ua ub : List Value} {dP : Nat}
   (X0 : Stand p l e (rO 4 0 0 54) s m args below meth c T0 locs 0 0) (hx : p.tables.exec = Jvm.exec) (hZ : Z.Warmed39 s.vm) (hw : HW Z a0) (hby : c.code = method_5_code) (hml : c.maxLocals = 4) (hown : s.vm.findClass sL = some m.cls) (e0 : T0.heap = h0) (O0 : Old Z n0 h0) (P : Pins Z cz dg fm) (N0 : Fr n0 locs) (B : LitB Z h0 xs xb ks dS uS xt tb kt dT uT ua ub dP) :
   ∃ (T' : State) (locs' : List Loc), Stand p l e (rO 4 0 0 54) s m args below meth c T' locs' 0 0 ∧ T'.heap = h0 ∧ Fr n0 locs' ∧ ∀ target, SG p e below T' m 50 #[lR xs, lI ((oN dP)), lR xt, lI ((oN dT))] [] target → SG p e below T0 m 31 #[lR xs, lI ((oN dP)), lR xt, lI ((oN dT))] [] target := by
 obtain ⟨Es, Vs, Cs, As, Et, Vt, Ct, At, hE, hP, hT, hd2, hd0, hd1, hch⟩ := B
 by_cases q : 0 < dT
 · obtain ⟨ch_, hc_, hh_⟩ := own_ce (k := 0) hch (by omega)
   obtain ⟨cq1, kq1, q1a, q1b, q1c⟩ := isOf hZ e0 Es
   obtain ⟨_, _, ⟨T1, L1, k1, n1⟩, -, X1, ⟨Lc1, hQ1, l1, y1, z1⟩, st1⟩ := X0.virtualBack hx (y := M44) (z := M44) hown (mvT hZ (wd hw 212 rfl)) (mvT hZ (wd hw 213 rfl)) (notFace_of_selects (args := #[]) (mvT hZ (wd hw 215 rfl))) (mvT hZ (wd hw 215 rfl)) (mvT hZ (wd hw 214 rfl)) (by decide) (backOf (W := 0) (rm36_64 l Z a0 hw [] cz dg fm xs dP xb ks dS uS ch_ h0 n0 O0 P Es Cs Vs As (by omega) (by omega) (by omega) (by omega) (own_el (P := dP) (k := 0) hE hP hc_) hh_) hZ (wd hw 216 rfl) (wd hw 28 rfl) (by decide) (by decide)) q1a q1c (g := (mkF m 37 #[lR xs, lI ((oN dP)), lR xt, lI ((oN dT))] [(.int (oN dP)), (.ref xs)])) rfl (by rw [hml]; rfl) (Steps.refl _) (argsL := [(.int (oN dP))]) (rest := []) (lenOf pd_26 rfl) rfl (lz rfl) (hb hby d41_37) (fun _ _ => ⟨rfl, e0, (by decide : 0 + 0 ≤ _), (by decide : 0 + 0 ≤ _)⟩)
   dsimp only [Pt.U, Pt.locs, Pt.cells, Pt.slots] at X1 l1 y1 z1 st1 hQ1
   subst y1 z1
   obtain ⟨rfl, N1q, e1⟩ := hQ1
   have N1 : Fr n0 L1 := by rw [l1]; exact Fr.app N0 N1q
   obtain ⟨cq2, kq2, q2a, q2b, q2c⟩ := isOf hZ e1 Et
   obtain ⟨_, _, ⟨T2, L2, k2, n2⟩, -, X2, ⟨Lc2, hQ2, l2, y2, z2⟩, st2⟩ := X1.virtualBack hx (y := M44) (z := M44) hown (mvT hZ (wd hw 212 rfl)) (mvT hZ (wd hw 213 rfl)) (notFace_of_selects (args := #[]) (mvT hZ (wd hw 215 rfl))) (mvT hZ (wd hw 215 rfl)) (mvT hZ (wd hw 214 rfl)) (by decide) (backOf (W := 1) (rm36_64 l Z a0 hw [] cz dg fm xt 0 tb kt dT uT ch_ h0 n0 O0 P Et Ct Vt At (by decide) (by decide) (by omega) (by omega) hc_ hh_) hZ (wd hw 216 rfl) (wd hw 28 rfl) (by decide) (by decide)) q2a q2c (g := (mkF m 42 #[lR xs, lI ((oN dP)), lR xt, lI ((oN dT))] [(vI 0), (.ref xt), (.int ch_)])) rfl (by rw [hml]; rfl) (Steps.refl _) (argsL := [(vI 0)]) (rest := [(.int ch_)]) (lenOf pd_26 rfl) rfl (lz rfl) (hb hby d41_42) (fun _ _ => ⟨rfl, e1, (by decide : 0 + 0 ≤ _), (by decide : 0 + 0 ≤ _)⟩)
   dsimp only [Pt.U, Pt.locs, Pt.cells, Pt.slots] at X2 l2 y2 z2 st2 hQ2
   subst y2 z2
   obtain ⟨rfl, N2q, e2⟩ := hQ2
   have N2 : Fr n0 L2 := by rw [l2]; exact Fr.app N1 N2q
   refine ⟨T2, _, X2, e2, N2, fun target kt => ?_⟩
   show SH T0 31 #[lR xs, lI ((oN dP)), lR xt, lI ((oN dT))] []
   refine XS.iloadN X0.here hx rfl (hb hby d41_31) rfl ?_
   show SH T0 32 #[lR xs, lI ((oN dP)), lR xt, lI ((oN dT))] [(.int (oN dT))]
   refine XS.ifNo X0.here hx rfl (hb hby d41_32) rfl ((if0 _ _).trans (tlt (show (0 : Int32) < (oN dT) from own_ltI (A := 0) (B := dT) (by omega) (by omega))).2.2.2) ?_
   show SH T0 35 #[lR xs, lI ((oN dP)), lR xt, lI ((oN dT))] []
   refine XS.aloadN X0.here hx rfl (hb hby d41_35) rfl rfl ?_
   show SH T0 36 #[lR xs, lI ((oN dP)), lR xt, lI ((oN dT))] [(.ref xs)]
   refine XS.iloadN X0.here hx rfl (hb hby d41_36) rfl ?_
   show SH T0 37 #[lR xs, lI ((oN dP)), lR xt, lI ((oN dT))] [(.int (oN dP)), (.ref xs)]
   refine st1.trans ?_
   show SH T1 40 #[lR xs, lI ((oN dP)), lR xt, lI ((oN dT))] [(.int ch_)]
   refine XS.aloadN X1.here hx rfl (hb hby d41_40) rfl rfl ?_
   show SH T1 41 #[lR xs, lI ((oN dP)), lR xt, lI ((oN dT))] [(.ref xt), (.int ch_)]
   refine XS.iconst X1.here hx rfl (hb hby d41_41) ?_
   show SH T1 42 #[lR xs, lI ((oN dP)), lR xt, lI ((oN dT))] [(vI 0), (.ref xt), (.int ch_)]
   refine st2.trans ?_
   show SH T2 45 #[lR xs, lI ((oN dP)), lR xt, lI ((oN dT))] [(.int ch_), (.int ch_)]
   refine XS.icmpYes X2.here hx rfl (pc0 := 45) (pc' := 50) rfl (hb hby d41_45) rfl (teq (rfl : ch_ = ch_)).1 (by decide) (by decide) ?_
   exact kt
 · refine ⟨T0, _, X0, e0, N0, fun target kt => ?_⟩
   show SH T0 31 #[lR xs, lI ((oN dP)), lR xt, lI ((oN dT))] []
   refine XS.iloadN X0.here hx rfl (hb hby d41_31) rfl ?_
   show SH T0 32 #[lR xs, lI ((oN dP)), lR xt, lI ((oN dT))] [(.int (oN dT))]
   refine XS.ifYes X0.here hx rfl (pc0 := 32) (pc' := 50) rfl (hb hby d41_32) rfl ((if0 _ _).trans (flt (show ¬ ((0 : Int32) < (oN dT)) from own_leI (A := 0) (B := dT) (by omega) (by decide))).2.2.2) (by decide) (by decide) ?_
   exact kt
theorem sl_1 {p : Program} {l : Launch} {e : Env} {s : State} {m : MethodId} {args : Array Value} {below : List Frame} {meth : Method} {c : Code} {T0 : State} {locs : List Loc} {Z : State} {a0 : Array Value} {h0 : Heap} {n0 : Nat} {cz : Int32} {dg : Addr} {fm : Value} {xs xb : Addr} {ks : ClassId} {dS : Nat} {uS : List Value} {xt tb : Addr} {kt : ClassId} {dT : Nat} {uT ua ub : List Value} {dP : Nat}
   (X0 : Stand p l e (rO 4 0 0 54) s m args below meth c T0 locs 0 0) (hx : p.tables.exec = Jvm.exec) (hZ : Z.Warmed39 s.vm) (hw : HW Z a0) (hby : c.code = method_5_code) (hml : c.maxLocals = 4) (hown : s.vm.findClass sL = some m.cls) (e0 : T0.heap = h0) (O0 : Old Z n0 h0) (P : Pins Z cz dg fm) (N0 : Fr n0 locs) (B : LitB Z h0 xs xb ks dS uS xt tb kt dT uT ua ub dP) :
   ∃ (T' : State) (locs' : List Loc), Stand p l e (rO 4 0 0 54) s m args below meth c T' locs' 0 0 ∧ T'.heap = h0 ∧ Fr n0 locs' ∧ ∀ target, SG p e below T' m 72 #[lR xs, lI ((oN dP)), lR xt, lI ((oN dT))] [] target → SG p e below T0 m 50 #[lR xs, lI ((oN dP)), lR xt, lI ((oN dT))] [] target := by
 obtain ⟨Es, Vs, Cs, As, Et, Vt, Ct, At, hE, hP, hT, hd2, hd0, hd1, hch⟩ := B
 by_cases q : 1 < dT
 · obtain ⟨ch_, hc_, hh_⟩ := own_ce (k := 1) hch (by omega)
   obtain ⟨cq1, kq1, q1a, q1b, q1c⟩ := isOf hZ e0 Es
   obtain ⟨_, _, ⟨T1, L1, k1, n1⟩, -, X1, ⟨Lc1, hQ1, l1, y1, z1⟩, st1⟩ := X0.virtualBack hx (y := M44) (z := M44) hown (mvT hZ (wd hw 212 rfl)) (mvT hZ (wd hw 213 rfl)) (notFace_of_selects (args := #[]) (mvT hZ (wd hw 215 rfl))) (mvT hZ (wd hw 215 rfl)) (mvT hZ (wd hw 214 rfl)) (by decide) (backOf (W := 0) (rm36_64 l Z a0 hw [] cz dg fm xs (dP + 1) xb ks dS uS ch_ h0 n0 O0 P Es Cs Vs As (by omega) (by omega) (by omega) (by omega) (own_el (P := dP) (k := 1) hE hP hc_) hh_) hZ (wd hw 216 rfl) (wd hw 28 rfl) (by decide) (by decide)) q1a q1c (g := (mkF m 59 #[lR xs, lI ((oN dP)), lR xt, lI ((oN dT))] [(.int (oN (dP + 1))), (.ref xs)])) rfl (by rw [hml]; rfl) (Steps.refl _) (argsL := [(.int (oN (dP + 1)))]) (rest := []) (lenOf pd_26 rfl) rfl (lz rfl) (hb hby d41_59) (fun _ _ => ⟨rfl, e0, (by decide : 0 + 0 ≤ _), (by decide : 0 + 0 ≤ _)⟩)
   dsimp only [Pt.U, Pt.locs, Pt.cells, Pt.slots] at X1 l1 y1 z1 st1 hQ1
   subst y1 z1
   obtain ⟨rfl, N1q, e1⟩ := hQ1
   have N1 : Fr n0 L1 := by rw [l1]; exact Fr.app N0 N1q
   obtain ⟨cq2, kq2, q2a, q2b, q2c⟩ := isOf hZ e1 Et
   obtain ⟨_, _, ⟨T2, L2, k2, n2⟩, -, X2, ⟨Lc2, hQ2, l2, y2, z2⟩, st2⟩ := X1.virtualBack hx (y := M44) (z := M44) hown (mvT hZ (wd hw 212 rfl)) (mvT hZ (wd hw 213 rfl)) (notFace_of_selects (args := #[]) (mvT hZ (wd hw 215 rfl))) (mvT hZ (wd hw 215 rfl)) (mvT hZ (wd hw 214 rfl)) (by decide) (backOf (W := 1) (rm36_64 l Z a0 hw [] cz dg fm xt 1 tb kt dT uT ch_ h0 n0 O0 P Et Ct Vt At (by decide) (by decide) (by omega) (by omega) hc_ hh_) hZ (wd hw 216 rfl) (wd hw 28 rfl) (by decide) (by decide)) q2a q2c (g := (mkF m 64 #[lR xs, lI ((oN dP)), lR xt, lI ((oN dT))] [(vI 1), (.ref xt), (.int ch_)])) rfl (by rw [hml]; rfl) (Steps.refl _) (argsL := [(vI 1)]) (rest := [(.int ch_)]) (lenOf pd_26 rfl) rfl (lz rfl) (hb hby d41_64) (fun _ _ => ⟨rfl, e1, (by decide : 0 + 0 ≤ _), (by decide : 0 + 0 ≤ _)⟩)
   dsimp only [Pt.U, Pt.locs, Pt.cells, Pt.slots] at X2 l2 y2 z2 st2 hQ2
   subst y2 z2
   obtain ⟨rfl, N2q, e2⟩ := hQ2
   have N2 : Fr n0 L2 := by rw [l2]; exact Fr.app N1 N2q
   refine ⟨T2, _, X2, e2, N2, fun target kt => ?_⟩
   show SH T0 50 #[lR xs, lI ((oN dP)), lR xt, lI ((oN dT))] []
   refine XS.iloadN X0.here hx rfl (hb hby d41_50) rfl ?_
   show SH T0 51 #[lR xs, lI ((oN dP)), lR xt, lI ((oN dT))] [(.int (oN dT))]
   refine XS.iconst X0.here hx rfl (hb hby d41_51) ?_
   show SH T0 52 #[lR xs, lI ((oN dP)), lR xt, lI ((oN dT))] [(vI 1), (.int (oN dT))]
   refine XS.icmpNo X0.here hx rfl (hb hby d41_52) rfl (tlt (show (1 : Int32) < (oN dT) from own_ltI (A := 1) (B := dT) (by omega) (by omega))).2.2.2 ?_
   show SH T0 55 #[lR xs, lI ((oN dP)), lR xt, lI ((oN dT))] []
   refine XS.aloadN X0.here hx rfl (hb hby d41_55) rfl rfl ?_
   show SH T0 56 #[lR xs, lI ((oN dP)), lR xt, lI ((oN dT))] [(.ref xs)]
   refine XS.iloadN X0.here hx rfl (hb hby d41_56) rfl ?_
   show SH T0 57 #[lR xs, lI ((oN dP)), lR xt, lI ((oN dT))] [(.int (oN dP)), (.ref xs)]
   refine XS.iconst X0.here hx rfl (hb hby d41_57) ?_
   show SH T0 58 #[lR xs, lI ((oN dP)), lR xt, lI ((oN dT))] [(vI 1), (.int (oN dP)), (.ref xs)]
   refine XS.iadd X0.here hx rfl (hb hby d41_58) rfl ?_
   show SH T0 59 #[lR xs, lI ((oN dP)), lR xt, lI ((oN dT))] [(.int ((oN dP) + (1 : Int32))), (.ref xs)]
   rw [show ((oN dP) + (1 : Int32)) = (oN (dP + 1)) from own_addI dP 1]
   refine st1.trans ?_
   show SH T1 62 #[lR xs, lI ((oN dP)), lR xt, lI ((oN dT))] [(.int ch_)]
   refine XS.aloadN X1.here hx rfl (hb hby d41_62) rfl rfl ?_
   show SH T1 63 #[lR xs, lI ((oN dP)), lR xt, lI ((oN dT))] [(.ref xt), (.int ch_)]
   refine XS.iconst X1.here hx rfl (hb hby d41_63) ?_
   show SH T1 64 #[lR xs, lI ((oN dP)), lR xt, lI ((oN dT))] [(vI 1), (.ref xt), (.int ch_)]
   refine st2.trans ?_
   show SH T2 67 #[lR xs, lI ((oN dP)), lR xt, lI ((oN dT))] [(.int ch_), (.int ch_)]
   refine XS.icmpYes X2.here hx rfl (pc0 := 67) (pc' := 72) rfl (hb hby d41_67) rfl (teq (rfl : ch_ = ch_)).1 (by decide) (by decide) ?_
   exact kt
 · refine ⟨T0, _, X0, e0, N0, fun target kt => ?_⟩
   show SH T0 50 #[lR xs, lI ((oN dP)), lR xt, lI ((oN dT))] []
   refine XS.iloadN X0.here hx rfl (hb hby d41_50) rfl ?_
   show SH T0 51 #[lR xs, lI ((oN dP)), lR xt, lI ((oN dT))] [(.int (oN dT))]
   refine XS.iconst X0.here hx rfl (hb hby d41_51) ?_
   show SH T0 52 #[lR xs, lI ((oN dP)), lR xt, lI ((oN dT))] [(vI 1), (.int (oN dT))]
   refine XS.icmpYes X0.here hx rfl (pc0 := 52) (pc' := 72) rfl (hb hby d41_52) rfl (flt (show ¬ ((1 : Int32) < (oN dT)) from own_leI (A := 1) (B := dT) (by omega) (by decide))).2.2.2 (by decide) (by decide) ?_
   exact kt
theorem sl_2 {p : Program} {l : Launch} {e : Env} {s : State} {m : MethodId} {args : Array Value} {below : List Frame} {meth : Method} {c : Code} {T0 : State} {locs : List Loc} {Z : State} {a0 : Array Value} {h0 : Heap} {n0 : Nat} {cz : Int32} {dg : Addr} {fm : Value} {xs xb : Addr} {ks : ClassId} {dS : Nat} {uS : List Value} {xt tb : Addr} {kt : ClassId} {dT : Nat} {uT ua ub : List Value} {dP : Nat}
   (X0 : Stand p l e (rO 4 0 0 54) s m args below meth c T0 locs 0 0) (hx : p.tables.exec = Jvm.exec) (hZ : Z.Warmed39 s.vm) (hw : HW Z a0) (hby : c.code = method_5_code) (hml : c.maxLocals = 4) (hown : s.vm.findClass sL = some m.cls) (e0 : T0.heap = h0) (O0 : Old Z n0 h0) (P : Pins Z cz dg fm) (N0 : Fr n0 locs) (B : LitB Z h0 xs xb ks dS uS xt tb kt dT uT ua ub dP) :
   ∃ (T' : State) (locs' : List Loc), Stand p l e (rO 4 0 0 54) s m args below meth c T' locs' 0 0 ∧ T'.heap = h0 ∧ Fr n0 locs' ∧ ∀ target, SG p e below T' m 94 #[lR xs, lI ((oN dP)), lR xt, lI ((oN dT))] [] target → SG p e below T0 m 72 #[lR xs, lI ((oN dP)), lR xt, lI ((oN dT))] [] target := by
 obtain ⟨Es, Vs, Cs, As, Et, Vt, Ct, At, hE, hP, hT, hd2, hd0, hd1, hch⟩ := B
 by_cases q : 2 < dT
 · obtain ⟨ch_, hc_, hh_⟩ := own_ce (k := 2) hch (by omega)
   obtain ⟨cq1, kq1, q1a, q1b, q1c⟩ := isOf hZ e0 Es
   obtain ⟨_, _, ⟨T1, L1, k1, n1⟩, -, X1, ⟨Lc1, hQ1, l1, y1, z1⟩, st1⟩ := X0.virtualBack hx (y := M44) (z := M44) hown (mvT hZ (wd hw 212 rfl)) (mvT hZ (wd hw 213 rfl)) (notFace_of_selects (args := #[]) (mvT hZ (wd hw 215 rfl))) (mvT hZ (wd hw 215 rfl)) (mvT hZ (wd hw 214 rfl)) (by decide) (backOf (W := 0) (rm36_64 l Z a0 hw [] cz dg fm xs (dP + 2) xb ks dS uS ch_ h0 n0 O0 P Es Cs Vs As (by omega) (by omega) (by omega) (by omega) (own_el (P := dP) (k := 2) hE hP hc_) hh_) hZ (wd hw 216 rfl) (wd hw 28 rfl) (by decide) (by decide)) q1a q1c (g := (mkF m 81 #[lR xs, lI ((oN dP)), lR xt, lI ((oN dT))] [(.int (oN (dP + 2))), (.ref xs)])) rfl (by rw [hml]; rfl) (Steps.refl _) (argsL := [(.int (oN (dP + 2)))]) (rest := []) (lenOf pd_26 rfl) rfl (lz rfl) (hb hby d41_81) (fun _ _ => ⟨rfl, e0, (by decide : 0 + 0 ≤ _), (by decide : 0 + 0 ≤ _)⟩)
   dsimp only [Pt.U, Pt.locs, Pt.cells, Pt.slots] at X1 l1 y1 z1 st1 hQ1
   subst y1 z1
   obtain ⟨rfl, N1q, e1⟩ := hQ1
   have N1 : Fr n0 L1 := by rw [l1]; exact Fr.app N0 N1q
   obtain ⟨cq2, kq2, q2a, q2b, q2c⟩ := isOf hZ e1 Et
   obtain ⟨_, _, ⟨T2, L2, k2, n2⟩, -, X2, ⟨Lc2, hQ2, l2, y2, z2⟩, st2⟩ := X1.virtualBack hx (y := M44) (z := M44) hown (mvT hZ (wd hw 212 rfl)) (mvT hZ (wd hw 213 rfl)) (notFace_of_selects (args := #[]) (mvT hZ (wd hw 215 rfl))) (mvT hZ (wd hw 215 rfl)) (mvT hZ (wd hw 214 rfl)) (by decide) (backOf (W := 1) (rm36_64 l Z a0 hw [] cz dg fm xt 2 tb kt dT uT ch_ h0 n0 O0 P Et Ct Vt At (by decide) (by decide) (by omega) (by omega) hc_ hh_) hZ (wd hw 216 rfl) (wd hw 28 rfl) (by decide) (by decide)) q2a q2c (g := (mkF m 86 #[lR xs, lI ((oN dP)), lR xt, lI ((oN dT))] [(vI 2), (.ref xt), (.int ch_)])) rfl (by rw [hml]; rfl) (Steps.refl _) (argsL := [(vI 2)]) (rest := [(.int ch_)]) (lenOf pd_26 rfl) rfl (lz rfl) (hb hby d41_86) (fun _ _ => ⟨rfl, e1, (by decide : 0 + 0 ≤ _), (by decide : 0 + 0 ≤ _)⟩)
   dsimp only [Pt.U, Pt.locs, Pt.cells, Pt.slots] at X2 l2 y2 z2 st2 hQ2
   subst y2 z2
   obtain ⟨rfl, N2q, e2⟩ := hQ2
   have N2 : Fr n0 L2 := by rw [l2]; exact Fr.app N1 N2q
   refine ⟨T2, _, X2, e2, N2, fun target kt => ?_⟩
   show SH T0 72 #[lR xs, lI ((oN dP)), lR xt, lI ((oN dT))] []
   refine XS.iloadN X0.here hx rfl (hb hby d41_72) rfl ?_
   show SH T0 73 #[lR xs, lI ((oN dP)), lR xt, lI ((oN dT))] [(.int (oN dT))]
   refine XS.iconst X0.here hx rfl (hb hby d41_73) ?_
   show SH T0 74 #[lR xs, lI ((oN dP)), lR xt, lI ((oN dT))] [(vI 2), (.int (oN dT))]
   refine XS.icmpNo X0.here hx rfl (hb hby d41_74) rfl (tlt (show (2 : Int32) < (oN dT) from own_ltI (A := 2) (B := dT) (by omega) (by omega))).2.2.2 ?_
   show SH T0 77 #[lR xs, lI ((oN dP)), lR xt, lI ((oN dT))] []
   refine XS.aloadN X0.here hx rfl (hb hby d41_77) rfl rfl ?_
   show SH T0 78 #[lR xs, lI ((oN dP)), lR xt, lI ((oN dT))] [(.ref xs)]
   refine XS.iloadN X0.here hx rfl (hb hby d41_78) rfl ?_
   show SH T0 79 #[lR xs, lI ((oN dP)), lR xt, lI ((oN dT))] [(.int (oN dP)), (.ref xs)]
   refine XS.iconst X0.here hx rfl (hb hby d41_79) ?_
   show SH T0 80 #[lR xs, lI ((oN dP)), lR xt, lI ((oN dT))] [(vI 2), (.int (oN dP)), (.ref xs)]
   refine XS.iadd X0.here hx rfl (hb hby d41_80) rfl ?_
   show SH T0 81 #[lR xs, lI ((oN dP)), lR xt, lI ((oN dT))] [(.int ((oN dP) + (2 : Int32))), (.ref xs)]
   rw [show ((oN dP) + (2 : Int32)) = (oN (dP + 2)) from own_addI dP 2]
   refine st1.trans ?_
   show SH T1 84 #[lR xs, lI ((oN dP)), lR xt, lI ((oN dT))] [(.int ch_)]
   refine XS.aloadN X1.here hx rfl (hb hby d41_84) rfl rfl ?_
   show SH T1 85 #[lR xs, lI ((oN dP)), lR xt, lI ((oN dT))] [(.ref xt), (.int ch_)]
   refine XS.iconst X1.here hx rfl (hb hby d41_85) ?_
   show SH T1 86 #[lR xs, lI ((oN dP)), lR xt, lI ((oN dT))] [(vI 2), (.ref xt), (.int ch_)]
   refine st2.trans ?_
   show SH T2 89 #[lR xs, lI ((oN dP)), lR xt, lI ((oN dT))] [(.int ch_), (.int ch_)]
   refine XS.icmpYes X2.here hx rfl (pc0 := 89) (pc' := 94) rfl (hb hby d41_89) rfl (teq (rfl : ch_ = ch_)).1 (by decide) (by decide) ?_
   exact kt
 · refine ⟨T0, _, X0, e0, N0, fun target kt => ?_⟩
   show SH T0 72 #[lR xs, lI ((oN dP)), lR xt, lI ((oN dT))] []
   refine XS.iloadN X0.here hx rfl (hb hby d41_72) rfl ?_
   show SH T0 73 #[lR xs, lI ((oN dP)), lR xt, lI ((oN dT))] [(.int (oN dT))]
   refine XS.iconst X0.here hx rfl (hb hby d41_73) ?_
   show SH T0 74 #[lR xs, lI ((oN dP)), lR xt, lI ((oN dT))] [(vI 2), (.int (oN dT))]
   refine XS.icmpYes X0.here hx rfl (pc0 := 74) (pc' := 94) rfl (hb hby d41_74) rfl (flt (show ¬ ((2 : Int32) < (oN dT)) from own_leI (A := 2) (B := dT) (by omega) (by decide))).2.2.2 (by decide) (by decide) ?_
   exact kt
theorem sl_3 {p : Program} {l : Launch} {e : Env} {s : State} {m : MethodId} {args : Array Value} {below : List Frame} {meth : Method} {c : Code} {T0 : State} {locs : List Loc} {Z : State} {a0 : Array Value} {h0 : Heap} {n0 : Nat} {cz : Int32} {dg : Addr} {fm : Value} {xs xb : Addr} {ks : ClassId} {dS : Nat} {uS : List Value} {xt tb : Addr} {kt : ClassId} {dT : Nat} {uT ua ub : List Value} {dP : Nat}
   (X0 : Stand p l e (rO 4 0 0 54) s m args below meth c T0 locs 0 0) (hx : p.tables.exec = Jvm.exec) (hZ : Z.Warmed39 s.vm) (hw : HW Z a0) (hby : c.code = method_5_code) (hml : c.maxLocals = 4) (hown : s.vm.findClass sL = some m.cls) (e0 : T0.heap = h0) (O0 : Old Z n0 h0) (P : Pins Z cz dg fm) (N0 : Fr n0 locs) (B : LitB Z h0 xs xb ks dS uS xt tb kt dT uT ua ub dP) :
   ∃ (T' : State) (locs' : List Loc), Stand p l e (rO 4 0 0 54) s m args below meth c T' locs' 0 0 ∧ T'.heap = h0 ∧ Fr n0 locs' ∧ ∀ target, SG p e below T' m 116 #[lR xs, lI ((oN dP)), lR xt, lI ((oN dT))] [] target → SG p e below T0 m 94 #[lR xs, lI ((oN dP)), lR xt, lI ((oN dT))] [] target := by
 obtain ⟨Es, Vs, Cs, As, Et, Vt, Ct, At, hE, hP, hT, hd2, hd0, hd1, hch⟩ := B
 by_cases q : 3 < dT
 · obtain ⟨ch_, hc_, hh_⟩ := own_ce (k := 3) hch (by omega)
   obtain ⟨cq1, kq1, q1a, q1b, q1c⟩ := isOf hZ e0 Es
   obtain ⟨_, _, ⟨T1, L1, k1, n1⟩, -, X1, ⟨Lc1, hQ1, l1, y1, z1⟩, st1⟩ := X0.virtualBack hx (y := M44) (z := M44) hown (mvT hZ (wd hw 212 rfl)) (mvT hZ (wd hw 213 rfl)) (notFace_of_selects (args := #[]) (mvT hZ (wd hw 215 rfl))) (mvT hZ (wd hw 215 rfl)) (mvT hZ (wd hw 214 rfl)) (by decide) (backOf (W := 0) (rm36_64 l Z a0 hw [] cz dg fm xs (dP + 3) xb ks dS uS ch_ h0 n0 O0 P Es Cs Vs As (by omega) (by omega) (by omega) (by omega) (own_el (P := dP) (k := 3) hE hP hc_) hh_) hZ (wd hw 216 rfl) (wd hw 28 rfl) (by decide) (by decide)) q1a q1c (g := (mkF m 103 #[lR xs, lI ((oN dP)), lR xt, lI ((oN dT))] [(.int (oN (dP + 3))), (.ref xs)])) rfl (by rw [hml]; rfl) (Steps.refl _) (argsL := [(.int (oN (dP + 3)))]) (rest := []) (lenOf pd_26 rfl) rfl (lz rfl) (hb hby d41_103) (fun _ _ => ⟨rfl, e0, (by decide : 0 + 0 ≤ _), (by decide : 0 + 0 ≤ _)⟩)
   dsimp only [Pt.U, Pt.locs, Pt.cells, Pt.slots] at X1 l1 y1 z1 st1 hQ1
   subst y1 z1
   obtain ⟨rfl, N1q, e1⟩ := hQ1
   have N1 : Fr n0 L1 := by rw [l1]; exact Fr.app N0 N1q
   obtain ⟨cq2, kq2, q2a, q2b, q2c⟩ := isOf hZ e1 Et
   obtain ⟨_, _, ⟨T2, L2, k2, n2⟩, -, X2, ⟨Lc2, hQ2, l2, y2, z2⟩, st2⟩ := X1.virtualBack hx (y := M44) (z := M44) hown (mvT hZ (wd hw 212 rfl)) (mvT hZ (wd hw 213 rfl)) (notFace_of_selects (args := #[]) (mvT hZ (wd hw 215 rfl))) (mvT hZ (wd hw 215 rfl)) (mvT hZ (wd hw 214 rfl)) (by decide) (backOf (W := 1) (rm36_64 l Z a0 hw [] cz dg fm xt 3 tb kt dT uT ch_ h0 n0 O0 P Et Ct Vt At (by decide) (by decide) (by omega) (by omega) hc_ hh_) hZ (wd hw 216 rfl) (wd hw 28 rfl) (by decide) (by decide)) q2a q2c (g := (mkF m 108 #[lR xs, lI ((oN dP)), lR xt, lI ((oN dT))] [(vI 3), (.ref xt), (.int ch_)])) rfl (by rw [hml]; rfl) (Steps.refl _) (argsL := [(vI 3)]) (rest := [(.int ch_)]) (lenOf pd_26 rfl) rfl (lz rfl) (hb hby d41_108) (fun _ _ => ⟨rfl, e1, (by decide : 0 + 0 ≤ _), (by decide : 0 + 0 ≤ _)⟩)
   dsimp only [Pt.U, Pt.locs, Pt.cells, Pt.slots] at X2 l2 y2 z2 st2 hQ2
   subst y2 z2
   obtain ⟨rfl, N2q, e2⟩ := hQ2
   have N2 : Fr n0 L2 := by rw [l2]; exact Fr.app N1 N2q
   refine ⟨T2, _, X2, e2, N2, fun target kt => ?_⟩
   show SH T0 94 #[lR xs, lI ((oN dP)), lR xt, lI ((oN dT))] []
   refine XS.iloadN X0.here hx rfl (hb hby d41_94) rfl ?_
   show SH T0 95 #[lR xs, lI ((oN dP)), lR xt, lI ((oN dT))] [(.int (oN dT))]
   refine XS.iconst X0.here hx rfl (hb hby d41_95) ?_
   show SH T0 96 #[lR xs, lI ((oN dP)), lR xt, lI ((oN dT))] [(vI 3), (.int (oN dT))]
   refine XS.icmpNo X0.here hx rfl (hb hby d41_96) rfl (tlt (show (3 : Int32) < (oN dT) from own_ltI (A := 3) (B := dT) (by omega) (by omega))).2.2.2 ?_
   show SH T0 99 #[lR xs, lI ((oN dP)), lR xt, lI ((oN dT))] []
   refine XS.aloadN X0.here hx rfl (hb hby d41_99) rfl rfl ?_
   show SH T0 100 #[lR xs, lI ((oN dP)), lR xt, lI ((oN dT))] [(.ref xs)]
   refine XS.iloadN X0.here hx rfl (hb hby d41_100) rfl ?_
   show SH T0 101 #[lR xs, lI ((oN dP)), lR xt, lI ((oN dT))] [(.int (oN dP)), (.ref xs)]
   refine XS.iconst X0.here hx rfl (hb hby d41_101) ?_
   show SH T0 102 #[lR xs, lI ((oN dP)), lR xt, lI ((oN dT))] [(vI 3), (.int (oN dP)), (.ref xs)]
   refine XS.iadd X0.here hx rfl (hb hby d41_102) rfl ?_
   show SH T0 103 #[lR xs, lI ((oN dP)), lR xt, lI ((oN dT))] [(.int ((oN dP) + (3 : Int32))), (.ref xs)]
   rw [show ((oN dP) + (3 : Int32)) = (oN (dP + 3)) from own_addI dP 3]
   refine st1.trans ?_
   show SH T1 106 #[lR xs, lI ((oN dP)), lR xt, lI ((oN dT))] [(.int ch_)]
   refine XS.aloadN X1.here hx rfl (hb hby d41_106) rfl rfl ?_
   show SH T1 107 #[lR xs, lI ((oN dP)), lR xt, lI ((oN dT))] [(.ref xt), (.int ch_)]
   refine XS.iconst X1.here hx rfl (hb hby d41_107) ?_
   show SH T1 108 #[lR xs, lI ((oN dP)), lR xt, lI ((oN dT))] [(vI 3), (.ref xt), (.int ch_)]
   refine st2.trans ?_
   show SH T2 111 #[lR xs, lI ((oN dP)), lR xt, lI ((oN dT))] [(.int ch_), (.int ch_)]
   refine XS.icmpYes X2.here hx rfl (pc0 := 111) (pc' := 116) rfl (hb hby d41_111) rfl (teq (rfl : ch_ = ch_)).1 (by decide) (by decide) ?_
   exact kt
 · refine ⟨T0, _, X0, e0, N0, fun target kt => ?_⟩
   show SH T0 94 #[lR xs, lI ((oN dP)), lR xt, lI ((oN dT))] []
   refine XS.iloadN X0.here hx rfl (hb hby d41_94) rfl ?_
   show SH T0 95 #[lR xs, lI ((oN dP)), lR xt, lI ((oN dT))] [(.int (oN dT))]
   refine XS.iconst X0.here hx rfl (hb hby d41_95) ?_
   show SH T0 96 #[lR xs, lI ((oN dP)), lR xt, lI ((oN dT))] [(vI 3), (.int (oN dT))]
   refine XS.icmpYes X0.here hx rfl (pc0 := 96) (pc' := 116) rfl (hb hby d41_96) rfl (flt (show ¬ ((3 : Int32) < (oN dT)) from own_leI (A := 3) (B := dT) (by omega) (by decide))).2.2.2 (by decide) (by decide) ?_
   exact kt
theorem sl_4 {p : Program} {l : Launch} {e : Env} {s : State} {m : MethodId} {args : Array Value} {below : List Frame} {meth : Method} {c : Code} {T0 : State} {locs : List Loc} {Z : State} {a0 : Array Value} {h0 : Heap} {n0 : Nat} {cz : Int32} {dg : Addr} {fm : Value} {xs xb : Addr} {ks : ClassId} {dS : Nat} {uS : List Value} {xt tb : Addr} {kt : ClassId} {dT : Nat} {uT ua ub : List Value} {dP : Nat}
   (X0 : Stand p l e (rO 4 0 0 54) s m args below meth c T0 locs 0 0) (hx : p.tables.exec = Jvm.exec) (hZ : Z.Warmed39 s.vm) (hw : HW Z a0) (hby : c.code = method_5_code) (hml : c.maxLocals = 4) (hown : s.vm.findClass sL = some m.cls) (e0 : T0.heap = h0) (O0 : Old Z n0 h0) (P : Pins Z cz dg fm) (N0 : Fr n0 locs) (B : LitB Z h0 xs xb ks dS uS xt tb kt dT uT ua ub dP) :
   ∃ (T' : State) (locs' : List Loc), Stand p l e (rO 4 0 0 54) s m args below meth c T' locs' 0 0 ∧ T'.heap = h0 ∧ Fr n0 locs' ∧ ∀ target, SG p e below T' m 138 #[lR xs, lI ((oN dP)), lR xt, lI ((oN dT))] [] target → SG p e below T0 m 116 #[lR xs, lI ((oN dP)), lR xt, lI ((oN dT))] [] target := by
 obtain ⟨Es, Vs, Cs, As, Et, Vt, Ct, At, hE, hP, hT, hd2, hd0, hd1, hch⟩ := B
 by_cases q : 4 < dT
 · obtain ⟨ch_, hc_, hh_⟩ := own_ce (k := 4) hch (by omega)
   obtain ⟨cq1, kq1, q1a, q1b, q1c⟩ := isOf hZ e0 Es
   obtain ⟨_, _, ⟨T1, L1, k1, n1⟩, -, X1, ⟨Lc1, hQ1, l1, y1, z1⟩, st1⟩ := X0.virtualBack hx (y := M44) (z := M44) hown (mvT hZ (wd hw 212 rfl)) (mvT hZ (wd hw 213 rfl)) (notFace_of_selects (args := #[]) (mvT hZ (wd hw 215 rfl))) (mvT hZ (wd hw 215 rfl)) (mvT hZ (wd hw 214 rfl)) (by decide) (backOf (W := 0) (rm36_64 l Z a0 hw [] cz dg fm xs (dP + 4) xb ks dS uS ch_ h0 n0 O0 P Es Cs Vs As (by omega) (by omega) (by omega) (by omega) (own_el (P := dP) (k := 4) hE hP hc_) hh_) hZ (wd hw 216 rfl) (wd hw 28 rfl) (by decide) (by decide)) q1a q1c (g := (mkF m 125 #[lR xs, lI ((oN dP)), lR xt, lI ((oN dT))] [(.int (oN (dP + 4))), (.ref xs)])) rfl (by rw [hml]; rfl) (Steps.refl _) (argsL := [(.int (oN (dP + 4)))]) (rest := []) (lenOf pd_26 rfl) rfl (lz rfl) (hb hby d41_125) (fun _ _ => ⟨rfl, e0, (by decide : 0 + 0 ≤ _), (by decide : 0 + 0 ≤ _)⟩)
   dsimp only [Pt.U, Pt.locs, Pt.cells, Pt.slots] at X1 l1 y1 z1 st1 hQ1
   subst y1 z1
   obtain ⟨rfl, N1q, e1⟩ := hQ1
   have N1 : Fr n0 L1 := by rw [l1]; exact Fr.app N0 N1q
   obtain ⟨cq2, kq2, q2a, q2b, q2c⟩ := isOf hZ e1 Et
   obtain ⟨_, _, ⟨T2, L2, k2, n2⟩, -, X2, ⟨Lc2, hQ2, l2, y2, z2⟩, st2⟩ := X1.virtualBack hx (y := M44) (z := M44) hown (mvT hZ (wd hw 212 rfl)) (mvT hZ (wd hw 213 rfl)) (notFace_of_selects (args := #[]) (mvT hZ (wd hw 215 rfl))) (mvT hZ (wd hw 215 rfl)) (mvT hZ (wd hw 214 rfl)) (by decide) (backOf (W := 1) (rm36_64 l Z a0 hw [] cz dg fm xt 4 tb kt dT uT ch_ h0 n0 O0 P Et Ct Vt At (by decide) (by decide) (by omega) (by omega) hc_ hh_) hZ (wd hw 216 rfl) (wd hw 28 rfl) (by decide) (by decide)) q2a q2c (g := (mkF m 130 #[lR xs, lI ((oN dP)), lR xt, lI ((oN dT))] [(vI 4), (.ref xt), (.int ch_)])) rfl (by rw [hml]; rfl) (Steps.refl _) (argsL := [(vI 4)]) (rest := [(.int ch_)]) (lenOf pd_26 rfl) rfl (lz rfl) (hb hby d41_130) (fun _ _ => ⟨rfl, e1, (by decide : 0 + 0 ≤ _), (by decide : 0 + 0 ≤ _)⟩)
   dsimp only [Pt.U, Pt.locs, Pt.cells, Pt.slots] at X2 l2 y2 z2 st2 hQ2
   subst y2 z2
   obtain ⟨rfl, N2q, e2⟩ := hQ2
   have N2 : Fr n0 L2 := by rw [l2]; exact Fr.app N1 N2q
   refine ⟨T2, _, X2, e2, N2, fun target kt => ?_⟩
   show SH T0 116 #[lR xs, lI ((oN dP)), lR xt, lI ((oN dT))] []
   refine XS.iloadN X0.here hx rfl (hb hby d41_116) rfl ?_
   show SH T0 117 #[lR xs, lI ((oN dP)), lR xt, lI ((oN dT))] [(.int (oN dT))]
   refine XS.iconst X0.here hx rfl (hb hby d41_117) ?_
   show SH T0 118 #[lR xs, lI ((oN dP)), lR xt, lI ((oN dT))] [(vI 4), (.int (oN dT))]
   refine XS.icmpNo X0.here hx rfl (hb hby d41_118) rfl (tlt (show (4 : Int32) < (oN dT) from own_ltI (A := 4) (B := dT) (by omega) (by omega))).2.2.2 ?_
   show SH T0 121 #[lR xs, lI ((oN dP)), lR xt, lI ((oN dT))] []
   refine XS.aloadN X0.here hx rfl (hb hby d41_121) rfl rfl ?_
   show SH T0 122 #[lR xs, lI ((oN dP)), lR xt, lI ((oN dT))] [(.ref xs)]
   refine XS.iloadN X0.here hx rfl (hb hby d41_122) rfl ?_
   show SH T0 123 #[lR xs, lI ((oN dP)), lR xt, lI ((oN dT))] [(.int (oN dP)), (.ref xs)]
   refine XS.iconst X0.here hx rfl (hb hby d41_123) ?_
   show SH T0 124 #[lR xs, lI ((oN dP)), lR xt, lI ((oN dT))] [(vI 4), (.int (oN dP)), (.ref xs)]
   refine XS.iadd X0.here hx rfl (hb hby d41_124) rfl ?_
   show SH T0 125 #[lR xs, lI ((oN dP)), lR xt, lI ((oN dT))] [(.int ((oN dP) + (4 : Int32))), (.ref xs)]
   rw [show ((oN dP) + (4 : Int32)) = (oN (dP + 4)) from own_addI dP 4]
   refine st1.trans ?_
   show SH T1 128 #[lR xs, lI ((oN dP)), lR xt, lI ((oN dT))] [(.int ch_)]
   refine XS.aloadN X1.here hx rfl (hb hby d41_128) rfl rfl ?_
   show SH T1 129 #[lR xs, lI ((oN dP)), lR xt, lI ((oN dT))] [(.ref xt), (.int ch_)]
   refine XS.iconst X1.here hx rfl (hb hby d41_129) ?_
   show SH T1 130 #[lR xs, lI ((oN dP)), lR xt, lI ((oN dT))] [(vI 4), (.ref xt), (.int ch_)]
   refine st2.trans ?_
   show SH T2 133 #[lR xs, lI ((oN dP)), lR xt, lI ((oN dT))] [(.int ch_), (.int ch_)]
   refine XS.icmpYes X2.here hx rfl (pc0 := 133) (pc' := 138) rfl (hb hby d41_133) rfl (teq (rfl : ch_ = ch_)).1 (by decide) (by decide) ?_
   exact kt
 · refine ⟨T0, _, X0, e0, N0, fun target kt => ?_⟩
   show SH T0 116 #[lR xs, lI ((oN dP)), lR xt, lI ((oN dT))] []
   refine XS.iloadN X0.here hx rfl (hb hby d41_116) rfl ?_
   show SH T0 117 #[lR xs, lI ((oN dP)), lR xt, lI ((oN dT))] [(.int (oN dT))]
   refine XS.iconst X0.here hx rfl (hb hby d41_117) ?_
   show SH T0 118 #[lR xs, lI ((oN dP)), lR xt, lI ((oN dT))] [(vI 4), (.int (oN dT))]
   refine XS.icmpYes X0.here hx rfl (pc0 := 118) (pc' := 138) rfl (hb hby d41_118) rfl (flt (show ¬ ((4 : Int32) < (oN dT)) from own_leI (A := 4) (B := dT) (by omega) (by decide))).2.2.2 (by decide) (by decide) ?_
   exact kt
theorem sl_5 {p : Program} {l : Launch} {e : Env} {s : State} {m : MethodId} {args : Array Value} {below : List Frame} {meth : Method} {c : Code} {T0 : State} {locs : List Loc} {Z : State} {a0 : Array Value} {h0 : Heap} {n0 : Nat} {cz : Int32} {dg : Addr} {fm : Value} {xs xb : Addr} {ks : ClassId} {dS : Nat} {uS : List Value} {xt tb : Addr} {kt : ClassId} {dT : Nat} {uT ua ub : List Value} {dP : Nat}
   (X0 : Stand p l e (rO 4 0 0 54) s m args below meth c T0 locs 0 0) (hx : p.tables.exec = Jvm.exec) (hZ : Z.Warmed39 s.vm) (hw : HW Z a0) (hby : c.code = method_5_code) (hml : c.maxLocals = 4) (hown : s.vm.findClass sL = some m.cls) (e0 : T0.heap = h0) (O0 : Old Z n0 h0) (P : Pins Z cz dg fm) (N0 : Fr n0 locs) (B : LitB Z h0 xs xb ks dS uS xt tb kt dT uT ua ub dP) :
   ∃ (T' : State) (locs' : List Loc), Stand p l e (rO 4 0 0 54) s m args below meth c T' locs' 0 0 ∧ T'.heap = h0 ∧ Fr n0 locs' ∧ ∀ target, SG p e below T' m 160 #[lR xs, lI ((oN dP)), lR xt, lI ((oN dT))] [] target → SG p e below T0 m 138 #[lR xs, lI ((oN dP)), lR xt, lI ((oN dT))] [] target := by
 obtain ⟨Es, Vs, Cs, As, Et, Vt, Ct, At, hE, hP, hT, hd2, hd0, hd1, hch⟩ := B
 by_cases q : 5 < dT
 · obtain ⟨ch_, hc_, hh_⟩ := own_ce (k := 5) hch (by omega)
   obtain ⟨cq1, kq1, q1a, q1b, q1c⟩ := isOf hZ e0 Es
   obtain ⟨_, _, ⟨T1, L1, k1, n1⟩, -, X1, ⟨Lc1, hQ1, l1, y1, z1⟩, st1⟩ := X0.virtualBack hx (y := M44) (z := M44) hown (mvT hZ (wd hw 212 rfl)) (mvT hZ (wd hw 213 rfl)) (notFace_of_selects (args := #[]) (mvT hZ (wd hw 215 rfl))) (mvT hZ (wd hw 215 rfl)) (mvT hZ (wd hw 214 rfl)) (by decide) (backOf (W := 0) (rm36_64 l Z a0 hw [] cz dg fm xs (dP + 5) xb ks dS uS ch_ h0 n0 O0 P Es Cs Vs As (by omega) (by omega) (by omega) (by omega) (own_el (P := dP) (k := 5) hE hP hc_) hh_) hZ (wd hw 216 rfl) (wd hw 28 rfl) (by decide) (by decide)) q1a q1c (g := (mkF m 147 #[lR xs, lI ((oN dP)), lR xt, lI ((oN dT))] [(.int (oN (dP + 5))), (.ref xs)])) rfl (by rw [hml]; rfl) (Steps.refl _) (argsL := [(.int (oN (dP + 5)))]) (rest := []) (lenOf pd_26 rfl) rfl (lz rfl) (hb hby d41_147) (fun _ _ => ⟨rfl, e0, (by decide : 0 + 0 ≤ _), (by decide : 0 + 0 ≤ _)⟩)
   dsimp only [Pt.U, Pt.locs, Pt.cells, Pt.slots] at X1 l1 y1 z1 st1 hQ1
   subst y1 z1
   obtain ⟨rfl, N1q, e1⟩ := hQ1
   have N1 : Fr n0 L1 := by rw [l1]; exact Fr.app N0 N1q
   obtain ⟨cq2, kq2, q2a, q2b, q2c⟩ := isOf hZ e1 Et
   obtain ⟨_, _, ⟨T2, L2, k2, n2⟩, -, X2, ⟨Lc2, hQ2, l2, y2, z2⟩, st2⟩ := X1.virtualBack hx (y := M44) (z := M44) hown (mvT hZ (wd hw 212 rfl)) (mvT hZ (wd hw 213 rfl)) (notFace_of_selects (args := #[]) (mvT hZ (wd hw 215 rfl))) (mvT hZ (wd hw 215 rfl)) (mvT hZ (wd hw 214 rfl)) (by decide) (backOf (W := 1) (rm36_64 l Z a0 hw [] cz dg fm xt 5 tb kt dT uT ch_ h0 n0 O0 P Et Ct Vt At (by decide) (by decide) (by omega) (by omega) hc_ hh_) hZ (wd hw 216 rfl) (wd hw 28 rfl) (by decide) (by decide)) q2a q2c (g := (mkF m 152 #[lR xs, lI ((oN dP)), lR xt, lI ((oN dT))] [(vI 5), (.ref xt), (.int ch_)])) rfl (by rw [hml]; rfl) (Steps.refl _) (argsL := [(vI 5)]) (rest := [(.int ch_)]) (lenOf pd_26 rfl) rfl (lz rfl) (hb hby d41_152) (fun _ _ => ⟨rfl, e1, (by decide : 0 + 0 ≤ _), (by decide : 0 + 0 ≤ _)⟩)
   dsimp only [Pt.U, Pt.locs, Pt.cells, Pt.slots] at X2 l2 y2 z2 st2 hQ2
   subst y2 z2
   obtain ⟨rfl, N2q, e2⟩ := hQ2
   have N2 : Fr n0 L2 := by rw [l2]; exact Fr.app N1 N2q
   refine ⟨T2, _, X2, e2, N2, fun target kt => ?_⟩
   show SH T0 138 #[lR xs, lI ((oN dP)), lR xt, lI ((oN dT))] []
   refine XS.iloadN X0.here hx rfl (hb hby d41_138) rfl ?_
   show SH T0 139 #[lR xs, lI ((oN dP)), lR xt, lI ((oN dT))] [(.int (oN dT))]
   refine XS.iconst X0.here hx rfl (hb hby d41_139) ?_
   show SH T0 140 #[lR xs, lI ((oN dP)), lR xt, lI ((oN dT))] [(vI 5), (.int (oN dT))]
   refine XS.icmpNo X0.here hx rfl (hb hby d41_140) rfl (tlt (show (5 : Int32) < (oN dT) from own_ltI (A := 5) (B := dT) (by omega) (by omega))).2.2.2 ?_
   show SH T0 143 #[lR xs, lI ((oN dP)), lR xt, lI ((oN dT))] []
   refine XS.aloadN X0.here hx rfl (hb hby d41_143) rfl rfl ?_
   show SH T0 144 #[lR xs, lI ((oN dP)), lR xt, lI ((oN dT))] [(.ref xs)]
   refine XS.iloadN X0.here hx rfl (hb hby d41_144) rfl ?_
   show SH T0 145 #[lR xs, lI ((oN dP)), lR xt, lI ((oN dT))] [(.int (oN dP)), (.ref xs)]
   refine XS.iconst X0.here hx rfl (hb hby d41_145) ?_
   show SH T0 146 #[lR xs, lI ((oN dP)), lR xt, lI ((oN dT))] [(vI 5), (.int (oN dP)), (.ref xs)]
   refine XS.iadd X0.here hx rfl (hb hby d41_146) rfl ?_
   show SH T0 147 #[lR xs, lI ((oN dP)), lR xt, lI ((oN dT))] [(.int ((oN dP) + (5 : Int32))), (.ref xs)]
   rw [show ((oN dP) + (5 : Int32)) = (oN (dP + 5)) from own_addI dP 5]
   refine st1.trans ?_
   show SH T1 150 #[lR xs, lI ((oN dP)), lR xt, lI ((oN dT))] [(.int ch_)]
   refine XS.aloadN X1.here hx rfl (hb hby d41_150) rfl rfl ?_
   show SH T1 151 #[lR xs, lI ((oN dP)), lR xt, lI ((oN dT))] [(.ref xt), (.int ch_)]
   refine XS.iconst X1.here hx rfl (hb hby d41_151) ?_
   show SH T1 152 #[lR xs, lI ((oN dP)), lR xt, lI ((oN dT))] [(vI 5), (.ref xt), (.int ch_)]
   refine st2.trans ?_
   show SH T2 155 #[lR xs, lI ((oN dP)), lR xt, lI ((oN dT))] [(.int ch_), (.int ch_)]
   refine XS.icmpYes X2.here hx rfl (pc0 := 155) (pc' := 160) rfl (hb hby d41_155) rfl (teq (rfl : ch_ = ch_)).1 (by decide) (by decide) ?_
   exact kt
 · refine ⟨T0, _, X0, e0, N0, fun target kt => ?_⟩
   show SH T0 138 #[lR xs, lI ((oN dP)), lR xt, lI ((oN dT))] []
   refine XS.iloadN X0.here hx rfl (hb hby d41_138) rfl ?_
   show SH T0 139 #[lR xs, lI ((oN dP)), lR xt, lI ((oN dT))] [(.int (oN dT))]
   refine XS.iconst X0.here hx rfl (hb hby d41_139) ?_
   show SH T0 140 #[lR xs, lI ((oN dP)), lR xt, lI ((oN dT))] [(vI 5), (.int (oN dT))]
   refine XS.icmpYes X0.here hx rfl (pc0 := 140) (pc' := 160) rfl (hb hby d41_140) rfl (flt (show ¬ ((5 : Int32) < (oN dT)) from own_leI (A := 5) (B := dT) (by omega) (by decide))).2.2.2 (by decide) (by decide) ?_
   exact kt
theorem sl_6 {p : Program} {l : Launch} {e : Env} {s : State} {m : MethodId} {args : Array Value} {below : List Frame} {meth : Method} {c : Code} {T0 : State} {locs : List Loc} {Z : State} {a0 : Array Value} {h0 : Heap} {n0 : Nat} {cz : Int32} {dg : Addr} {fm : Value} {xs xb : Addr} {ks : ClassId} {dS : Nat} {uS : List Value} {xt tb : Addr} {kt : ClassId} {dT : Nat} {uT ua ub : List Value} {dP : Nat}
   (X0 : Stand p l e (rO 4 0 0 54) s m args below meth c T0 locs 0 0) (hx : p.tables.exec = Jvm.exec) (hZ : Z.Warmed39 s.vm) (hw : HW Z a0) (hby : c.code = method_5_code) (hml : c.maxLocals = 4) (hown : s.vm.findClass sL = some m.cls) (e0 : T0.heap = h0) (O0 : Old Z n0 h0) (P : Pins Z cz dg fm) (N0 : Fr n0 locs) (B : LitB Z h0 xs xb ks dS uS xt tb kt dT uT ua ub dP) :
   ∃ (T' : State) (locs' : List Loc), Stand p l e (rO 4 0 0 54) s m args below meth c T' locs' 0 0 ∧ T'.heap = h0 ∧ Fr n0 locs' ∧ ∀ target, SG p e below T' m 185 #[lR xs, lI ((oN dP)), lR xt, lI ((oN dT))] [] target → SG p e below T0 m 160 #[lR xs, lI ((oN dP)), lR xt, lI ((oN dT))] [] target := by
 obtain ⟨Es, Vs, Cs, As, Et, Vt, Ct, At, hE, hP, hT, hd2, hd0, hd1, hch⟩ := B
 by_cases q : 6 < dT
 · obtain ⟨ch_, hc_, hh_⟩ := own_ce (k := 6) hch (by omega)
   obtain ⟨cq1, kq1, q1a, q1b, q1c⟩ := isOf hZ e0 Es
   obtain ⟨_, _, ⟨T1, L1, k1, n1⟩, -, X1, ⟨Lc1, hQ1, l1, y1, z1⟩, st1⟩ := X0.virtualBack hx (y := M44) (z := M44) hown (mvT hZ (wd hw 212 rfl)) (mvT hZ (wd hw 213 rfl)) (notFace_of_selects (args := #[]) (mvT hZ (wd hw 215 rfl))) (mvT hZ (wd hw 215 rfl)) (mvT hZ (wd hw 214 rfl)) (by decide) (backOf (W := 0) (rm36_64 l Z a0 hw [] cz dg fm xs (dP + 6) xb ks dS uS ch_ h0 n0 O0 P Es Cs Vs As (by omega) (by omega) (by omega) (by omega) (own_el (P := dP) (k := 6) hE hP hc_) hh_) hZ (wd hw 216 rfl) (wd hw 28 rfl) (by decide) (by decide)) q1a q1c (g := (mkF m 171 #[lR xs, lI ((oN dP)), lR xt, lI ((oN dT))] [(.int (oN (dP + 6))), (.ref xs)])) rfl (by rw [hml]; rfl) (Steps.refl _) (argsL := [(.int (oN (dP + 6)))]) (rest := []) (lenOf pd_26 rfl) rfl (lz rfl) (hb hby d41_171) (fun _ _ => ⟨rfl, e0, (by decide : 0 + 0 ≤ _), (by decide : 0 + 0 ≤ _)⟩)
   dsimp only [Pt.U, Pt.locs, Pt.cells, Pt.slots] at X1 l1 y1 z1 st1 hQ1
   subst y1 z1
   obtain ⟨rfl, N1q, e1⟩ := hQ1
   have N1 : Fr n0 L1 := by rw [l1]; exact Fr.app N0 N1q
   obtain ⟨cq2, kq2, q2a, q2b, q2c⟩ := isOf hZ e1 Et
   obtain ⟨_, _, ⟨T2, L2, k2, n2⟩, -, X2, ⟨Lc2, hQ2, l2, y2, z2⟩, st2⟩ := X1.virtualBack hx (y := M44) (z := M44) hown (mvT hZ (wd hw 212 rfl)) (mvT hZ (wd hw 213 rfl)) (notFace_of_selects (args := #[]) (mvT hZ (wd hw 215 rfl))) (mvT hZ (wd hw 215 rfl)) (mvT hZ (wd hw 214 rfl)) (by decide) (backOf (W := 1) (rm36_64 l Z a0 hw [] cz dg fm xt 6 tb kt dT uT ch_ h0 n0 O0 P Et Ct Vt At (by decide) (by decide) (by omega) (by omega) hc_ hh_) hZ (wd hw 216 rfl) (wd hw 28 rfl) (by decide) (by decide)) q2a q2c (g := (mkF m 177 #[lR xs, lI ((oN dP)), lR xt, lI ((oN dT))] [(vI 6), (.ref xt), (.int ch_)])) rfl (by rw [hml]; rfl) (Steps.refl _) (argsL := [(vI 6)]) (rest := [(.int ch_)]) (lenOf pd_26 rfl) rfl (lz rfl) (hb hby d41_177) (fun _ _ => ⟨rfl, e1, (by decide : 0 + 0 ≤ _), (by decide : 0 + 0 ≤ _)⟩)
   dsimp only [Pt.U, Pt.locs, Pt.cells, Pt.slots] at X2 l2 y2 z2 st2 hQ2
   subst y2 z2
   obtain ⟨rfl, N2q, e2⟩ := hQ2
   have N2 : Fr n0 L2 := by rw [l2]; exact Fr.app N1 N2q
   refine ⟨T2, _, X2, e2, N2, fun target kt => ?_⟩
   show SH T0 160 #[lR xs, lI ((oN dP)), lR xt, lI ((oN dT))] []
   refine XS.iloadN X0.here hx rfl (hb hby d41_160) rfl ?_
   show SH T0 161 #[lR xs, lI ((oN dP)), lR xt, lI ((oN dT))] [(.int (oN dT))]
   refine XS.bipush X0.here hx rfl (hb hby d41_161) ?_
   show SH T0 163 #[lR xs, lI ((oN dP)), lR xt, lI ((oN dT))] [(vI 6), (.int (oN dT))]
   refine XS.icmpNo X0.here hx rfl (hb hby d41_163) rfl (tlt (show (6 : Int32) < (oN dT) from own_ltI (A := 6) (B := dT) (by omega) (by omega))).2.2.2 ?_
   show SH T0 166 #[lR xs, lI ((oN dP)), lR xt, lI ((oN dT))] []
   refine XS.aloadN X0.here hx rfl (hb hby d41_166) rfl rfl ?_
   show SH T0 167 #[lR xs, lI ((oN dP)), lR xt, lI ((oN dT))] [(.ref xs)]
   refine XS.iloadN X0.here hx rfl (hb hby d41_167) rfl ?_
   show SH T0 168 #[lR xs, lI ((oN dP)), lR xt, lI ((oN dT))] [(.int (oN dP)), (.ref xs)]
   refine XS.bipush X0.here hx rfl (hb hby d41_168) ?_
   show SH T0 170 #[lR xs, lI ((oN dP)), lR xt, lI ((oN dT))] [(vI 6), (.int (oN dP)), (.ref xs)]
   refine XS.iadd X0.here hx rfl (hb hby d41_170) rfl ?_
   show SH T0 171 #[lR xs, lI ((oN dP)), lR xt, lI ((oN dT))] [(.int ((oN dP) + (6 : Int32))), (.ref xs)]
   rw [show ((oN dP) + (6 : Int32)) = (oN (dP + 6)) from own_addI dP 6]
   refine st1.trans ?_
   show SH T1 174 #[lR xs, lI ((oN dP)), lR xt, lI ((oN dT))] [(.int ch_)]
   refine XS.aloadN X1.here hx rfl (hb hby d41_174) rfl rfl ?_
   show SH T1 175 #[lR xs, lI ((oN dP)), lR xt, lI ((oN dT))] [(.ref xt), (.int ch_)]
   refine XS.bipush X1.here hx rfl (hb hby d41_175) ?_
   show SH T1 177 #[lR xs, lI ((oN dP)), lR xt, lI ((oN dT))] [(vI 6), (.ref xt), (.int ch_)]
   refine st2.trans ?_
   show SH T2 180 #[lR xs, lI ((oN dP)), lR xt, lI ((oN dT))] [(.int ch_), (.int ch_)]
   refine XS.icmpYes X2.here hx rfl (pc0 := 180) (pc' := 185) rfl (hb hby d41_180) rfl (teq (rfl : ch_ = ch_)).1 (by decide) (by decide) ?_
   exact kt
 · refine ⟨T0, _, X0, e0, N0, fun target kt => ?_⟩
   show SH T0 160 #[lR xs, lI ((oN dP)), lR xt, lI ((oN dT))] []
   refine XS.iloadN X0.here hx rfl (hb hby d41_160) rfl ?_
   show SH T0 161 #[lR xs, lI ((oN dP)), lR xt, lI ((oN dT))] [(.int (oN dT))]
   refine XS.bipush X0.here hx rfl (hb hby d41_161) ?_
   show SH T0 163 #[lR xs, lI ((oN dP)), lR xt, lI ((oN dT))] [(vI 6), (.int (oN dT))]
   refine XS.icmpYes X0.here hx rfl (pc0 := 163) (pc' := 185) rfl (hb hby d41_163) rfl (flt (show ¬ ((6 : Int32) < (oN dT)) from own_leI (A := 6) (B := dT) (by omega) (by decide))).2.2.2 (by decide) (by decide) ?_
   exact kt
theorem sl_7 {p : Program} {l : Launch} {e : Env} {s : State} {m : MethodId} {args : Array Value} {below : List Frame} {meth : Method} {c : Code} {T0 : State} {locs : List Loc} {Z : State} {a0 : Array Value} {h0 : Heap} {n0 : Nat} {cz : Int32} {dg : Addr} {fm : Value} {xs xb : Addr} {ks : ClassId} {dS : Nat} {uS : List Value} {xt tb : Addr} {kt : ClassId} {dT : Nat} {uT ua ub : List Value} {dP : Nat}
   (X0 : Stand p l e (rO 4 0 0 54) s m args below meth c T0 locs 0 0) (hx : p.tables.exec = Jvm.exec) (hZ : Z.Warmed39 s.vm) (hw : HW Z a0) (hby : c.code = method_5_code) (hml : c.maxLocals = 4) (hown : s.vm.findClass sL = some m.cls) (e0 : T0.heap = h0) (O0 : Old Z n0 h0) (P : Pins Z cz dg fm) (N0 : Fr n0 locs) (B : LitB Z h0 xs xb ks dS uS xt tb kt dT uT ua ub dP) :
   ∃ (T' : State) (locs' : List Loc), Stand p l e (rO 4 0 0 54) s m args below meth c T' locs' 0 0 ∧ T'.heap = h0 ∧ Fr n0 locs' ∧ ∀ target, SG p e below T' m 210 #[lR xs, lI ((oN dP)), lR xt, lI ((oN dT))] [] target → SG p e below T0 m 185 #[lR xs, lI ((oN dP)), lR xt, lI ((oN dT))] [] target := by
 obtain ⟨Es, Vs, Cs, As, Et, Vt, Ct, At, hE, hP, hT, hd2, hd0, hd1, hch⟩ := B
 by_cases q : 7 < dT
 · obtain ⟨ch_, hc_, hh_⟩ := own_ce (k := 7) hch (by omega)
   obtain ⟨cq1, kq1, q1a, q1b, q1c⟩ := isOf hZ e0 Es
   obtain ⟨_, _, ⟨T1, L1, k1, n1⟩, -, X1, ⟨Lc1, hQ1, l1, y1, z1⟩, st1⟩ := X0.virtualBack hx (y := M44) (z := M44) hown (mvT hZ (wd hw 212 rfl)) (mvT hZ (wd hw 213 rfl)) (notFace_of_selects (args := #[]) (mvT hZ (wd hw 215 rfl))) (mvT hZ (wd hw 215 rfl)) (mvT hZ (wd hw 214 rfl)) (by decide) (backOf (W := 0) (rm36_64 l Z a0 hw [] cz dg fm xs (dP + 7) xb ks dS uS ch_ h0 n0 O0 P Es Cs Vs As (by omega) (by omega) (by omega) (by omega) (own_el (P := dP) (k := 7) hE hP hc_) hh_) hZ (wd hw 216 rfl) (wd hw 28 rfl) (by decide) (by decide)) q1a q1c (g := (mkF m 196 #[lR xs, lI ((oN dP)), lR xt, lI ((oN dT))] [(.int (oN (dP + 7))), (.ref xs)])) rfl (by rw [hml]; rfl) (Steps.refl _) (argsL := [(.int (oN (dP + 7)))]) (rest := []) (lenOf pd_26 rfl) rfl (lz rfl) (hb hby d41_196) (fun _ _ => ⟨rfl, e0, (by decide : 0 + 0 ≤ _), (by decide : 0 + 0 ≤ _)⟩)
   dsimp only [Pt.U, Pt.locs, Pt.cells, Pt.slots] at X1 l1 y1 z1 st1 hQ1
   subst y1 z1
   obtain ⟨rfl, N1q, e1⟩ := hQ1
   have N1 : Fr n0 L1 := by rw [l1]; exact Fr.app N0 N1q
   obtain ⟨cq2, kq2, q2a, q2b, q2c⟩ := isOf hZ e1 Et
   obtain ⟨_, _, ⟨T2, L2, k2, n2⟩, -, X2, ⟨Lc2, hQ2, l2, y2, z2⟩, st2⟩ := X1.virtualBack hx (y := M44) (z := M44) hown (mvT hZ (wd hw 212 rfl)) (mvT hZ (wd hw 213 rfl)) (notFace_of_selects (args := #[]) (mvT hZ (wd hw 215 rfl))) (mvT hZ (wd hw 215 rfl)) (mvT hZ (wd hw 214 rfl)) (by decide) (backOf (W := 1) (rm36_64 l Z a0 hw [] cz dg fm xt 7 tb kt dT uT ch_ h0 n0 O0 P Et Ct Vt At (by decide) (by decide) (by omega) (by omega) hc_ hh_) hZ (wd hw 216 rfl) (wd hw 28 rfl) (by decide) (by decide)) q2a q2c (g := (mkF m 202 #[lR xs, lI ((oN dP)), lR xt, lI ((oN dT))] [(vI 7), (.ref xt), (.int ch_)])) rfl (by rw [hml]; rfl) (Steps.refl _) (argsL := [(vI 7)]) (rest := [(.int ch_)]) (lenOf pd_26 rfl) rfl (lz rfl) (hb hby d41_202) (fun _ _ => ⟨rfl, e1, (by decide : 0 + 0 ≤ _), (by decide : 0 + 0 ≤ _)⟩)
   dsimp only [Pt.U, Pt.locs, Pt.cells, Pt.slots] at X2 l2 y2 z2 st2 hQ2
   subst y2 z2
   obtain ⟨rfl, N2q, e2⟩ := hQ2
   have N2 : Fr n0 L2 := by rw [l2]; exact Fr.app N1 N2q
   refine ⟨T2, _, X2, e2, N2, fun target kt => ?_⟩
   show SH T0 185 #[lR xs, lI ((oN dP)), lR xt, lI ((oN dT))] []
   refine XS.iloadN X0.here hx rfl (hb hby d41_185) rfl ?_
   show SH T0 186 #[lR xs, lI ((oN dP)), lR xt, lI ((oN dT))] [(.int (oN dT))]
   refine XS.bipush X0.here hx rfl (hb hby d41_186) ?_
   show SH T0 188 #[lR xs, lI ((oN dP)), lR xt, lI ((oN dT))] [(vI 7), (.int (oN dT))]
   refine XS.icmpNo X0.here hx rfl (hb hby d41_188) rfl (tlt (show (7 : Int32) < (oN dT) from own_ltI (A := 7) (B := dT) (by omega) (by omega))).2.2.2 ?_
   show SH T0 191 #[lR xs, lI ((oN dP)), lR xt, lI ((oN dT))] []
   refine XS.aloadN X0.here hx rfl (hb hby d41_191) rfl rfl ?_
   show SH T0 192 #[lR xs, lI ((oN dP)), lR xt, lI ((oN dT))] [(.ref xs)]
   refine XS.iloadN X0.here hx rfl (hb hby d41_192) rfl ?_
   show SH T0 193 #[lR xs, lI ((oN dP)), lR xt, lI ((oN dT))] [(.int (oN dP)), (.ref xs)]
   refine XS.bipush X0.here hx rfl (hb hby d41_193) ?_
   show SH T0 195 #[lR xs, lI ((oN dP)), lR xt, lI ((oN dT))] [(vI 7), (.int (oN dP)), (.ref xs)]
   refine XS.iadd X0.here hx rfl (hb hby d41_195) rfl ?_
   show SH T0 196 #[lR xs, lI ((oN dP)), lR xt, lI ((oN dT))] [(.int ((oN dP) + (7 : Int32))), (.ref xs)]
   rw [show ((oN dP) + (7 : Int32)) = (oN (dP + 7)) from own_addI dP 7]
   refine st1.trans ?_
   show SH T1 199 #[lR xs, lI ((oN dP)), lR xt, lI ((oN dT))] [(.int ch_)]
   refine XS.aloadN X1.here hx rfl (hb hby d41_199) rfl rfl ?_
   show SH T1 200 #[lR xs, lI ((oN dP)), lR xt, lI ((oN dT))] [(.ref xt), (.int ch_)]
   refine XS.bipush X1.here hx rfl (hb hby d41_200) ?_
   show SH T1 202 #[lR xs, lI ((oN dP)), lR xt, lI ((oN dT))] [(vI 7), (.ref xt), (.int ch_)]
   refine st2.trans ?_
   show SH T2 205 #[lR xs, lI ((oN dP)), lR xt, lI ((oN dT))] [(.int ch_), (.int ch_)]
   refine XS.icmpYes X2.here hx rfl (pc0 := 205) (pc' := 210) rfl (hb hby d41_205) rfl (teq (rfl : ch_ = ch_)).1 (by decide) (by decide) ?_
   exact kt
 · refine ⟨T0, _, X0, e0, N0, fun target kt => ?_⟩
   show SH T0 185 #[lR xs, lI ((oN dP)), lR xt, lI ((oN dT))] []
   refine XS.iloadN X0.here hx rfl (hb hby d41_185) rfl ?_
   show SH T0 186 #[lR xs, lI ((oN dP)), lR xt, lI ((oN dT))] [(.int (oN dT))]
   refine XS.bipush X0.here hx rfl (hb hby d41_186) ?_
   show SH T0 188 #[lR xs, lI ((oN dP)), lR xt, lI ((oN dT))] [(vI 7), (.int (oN dT))]
   refine XS.icmpYes X0.here hx rfl (pc0 := 188) (pc' := 210) rfl (hb hby d41_188) rfl (flt (show ¬ ((7 : Int32) < (oN dT)) from own_leI (A := 7) (B := dT) (by omega) (by decide))).2.2.2 (by decide) (by decide) ?_
   exact kt
theorem sl_8 {p : Program} {l : Launch} {e : Env} {s : State} {m : MethodId} {args : Array Value} {below : List Frame} {meth : Method} {c : Code} {T0 : State} {locs : List Loc} {Z : State} {a0 : Array Value} {h0 : Heap} {n0 : Nat} {cz : Int32} {dg : Addr} {fm : Value} {xs xb : Addr} {ks : ClassId} {dS : Nat} {uS : List Value} {xt tb : Addr} {kt : ClassId} {dT : Nat} {uT ua ub : List Value} {dP : Nat}
   (X0 : Stand p l e (rO 4 0 0 54) s m args below meth c T0 locs 0 0) (hx : p.tables.exec = Jvm.exec) (hZ : Z.Warmed39 s.vm) (hw : HW Z a0) (hby : c.code = method_5_code) (hml : c.maxLocals = 4) (hown : s.vm.findClass sL = some m.cls) (e0 : T0.heap = h0) (O0 : Old Z n0 h0) (P : Pins Z cz dg fm) (N0 : Fr n0 locs) (B : LitB Z h0 xs xb ks dS uS xt tb kt dT uT ua ub dP) :
   ∃ (T' : State) (locs' : List Loc), Stand p l e (rO 4 0 0 54) s m args below meth c T' locs' 0 0 ∧ T'.heap = h0 ∧ Fr n0 locs' ∧ ∀ target, SG p e below T' m 235 #[lR xs, lI ((oN dP)), lR xt, lI ((oN dT))] [] target → SG p e below T0 m 210 #[lR xs, lI ((oN dP)), lR xt, lI ((oN dT))] [] target := by
 obtain ⟨Es, Vs, Cs, As, Et, Vt, Ct, At, hE, hP, hT, hd2, hd0, hd1, hch⟩ := B
 by_cases q : 8 < dT
 · obtain ⟨ch_, hc_, hh_⟩ := own_ce (k := 8) hch (by omega)
   obtain ⟨cq1, kq1, q1a, q1b, q1c⟩ := isOf hZ e0 Es
   obtain ⟨_, _, ⟨T1, L1, k1, n1⟩, -, X1, ⟨Lc1, hQ1, l1, y1, z1⟩, st1⟩ := X0.virtualBack hx (y := M44) (z := M44) hown (mvT hZ (wd hw 212 rfl)) (mvT hZ (wd hw 213 rfl)) (notFace_of_selects (args := #[]) (mvT hZ (wd hw 215 rfl))) (mvT hZ (wd hw 215 rfl)) (mvT hZ (wd hw 214 rfl)) (by decide) (backOf (W := 0) (rm36_64 l Z a0 hw [] cz dg fm xs (dP + 8) xb ks dS uS ch_ h0 n0 O0 P Es Cs Vs As (by omega) (by omega) (by omega) (by omega) (own_el (P := dP) (k := 8) hE hP hc_) hh_) hZ (wd hw 216 rfl) (wd hw 28 rfl) (by decide) (by decide)) q1a q1c (g := (mkF m 221 #[lR xs, lI ((oN dP)), lR xt, lI ((oN dT))] [(.int (oN (dP + 8))), (.ref xs)])) rfl (by rw [hml]; rfl) (Steps.refl _) (argsL := [(.int (oN (dP + 8)))]) (rest := []) (lenOf pd_26 rfl) rfl (lz rfl) (hb hby d41_221) (fun _ _ => ⟨rfl, e0, (by decide : 0 + 0 ≤ _), (by decide : 0 + 0 ≤ _)⟩)
   dsimp only [Pt.U, Pt.locs, Pt.cells, Pt.slots] at X1 l1 y1 z1 st1 hQ1
   subst y1 z1
   obtain ⟨rfl, N1q, e1⟩ := hQ1
   have N1 : Fr n0 L1 := by rw [l1]; exact Fr.app N0 N1q
   obtain ⟨cq2, kq2, q2a, q2b, q2c⟩ := isOf hZ e1 Et
   obtain ⟨_, _, ⟨T2, L2, k2, n2⟩, -, X2, ⟨Lc2, hQ2, l2, y2, z2⟩, st2⟩ := X1.virtualBack hx (y := M44) (z := M44) hown (mvT hZ (wd hw 212 rfl)) (mvT hZ (wd hw 213 rfl)) (notFace_of_selects (args := #[]) (mvT hZ (wd hw 215 rfl))) (mvT hZ (wd hw 215 rfl)) (mvT hZ (wd hw 214 rfl)) (by decide) (backOf (W := 1) (rm36_64 l Z a0 hw [] cz dg fm xt 8 tb kt dT uT ch_ h0 n0 O0 P Et Ct Vt At (by decide) (by decide) (by omega) (by omega) hc_ hh_) hZ (wd hw 216 rfl) (wd hw 28 rfl) (by decide) (by decide)) q2a q2c (g := (mkF m 227 #[lR xs, lI ((oN dP)), lR xt, lI ((oN dT))] [(vI 8), (.ref xt), (.int ch_)])) rfl (by rw [hml]; rfl) (Steps.refl _) (argsL := [(vI 8)]) (rest := [(.int ch_)]) (lenOf pd_26 rfl) rfl (lz rfl) (hb hby d41_227) (fun _ _ => ⟨rfl, e1, (by decide : 0 + 0 ≤ _), (by decide : 0 + 0 ≤ _)⟩)
   dsimp only [Pt.U, Pt.locs, Pt.cells, Pt.slots] at X2 l2 y2 z2 st2 hQ2
   subst y2 z2
   obtain ⟨rfl, N2q, e2⟩ := hQ2
   have N2 : Fr n0 L2 := by rw [l2]; exact Fr.app N1 N2q
   refine ⟨T2, _, X2, e2, N2, fun target kt => ?_⟩
   show SH T0 210 #[lR xs, lI ((oN dP)), lR xt, lI ((oN dT))] []
   refine XS.iloadN X0.here hx rfl (hb hby d41_210) rfl ?_
   show SH T0 211 #[lR xs, lI ((oN dP)), lR xt, lI ((oN dT))] [(.int (oN dT))]
   refine XS.bipush X0.here hx rfl (hb hby d41_211) ?_
   show SH T0 213 #[lR xs, lI ((oN dP)), lR xt, lI ((oN dT))] [(vI 8), (.int (oN dT))]
   refine XS.icmpNo X0.here hx rfl (hb hby d41_213) rfl (tlt (show (8 : Int32) < (oN dT) from own_ltI (A := 8) (B := dT) (by omega) (by omega))).2.2.2 ?_
   show SH T0 216 #[lR xs, lI ((oN dP)), lR xt, lI ((oN dT))] []
   refine XS.aloadN X0.here hx rfl (hb hby d41_216) rfl rfl ?_
   show SH T0 217 #[lR xs, lI ((oN dP)), lR xt, lI ((oN dT))] [(.ref xs)]
   refine XS.iloadN X0.here hx rfl (hb hby d41_217) rfl ?_
   show SH T0 218 #[lR xs, lI ((oN dP)), lR xt, lI ((oN dT))] [(.int (oN dP)), (.ref xs)]
   refine XS.bipush X0.here hx rfl (hb hby d41_218) ?_
   show SH T0 220 #[lR xs, lI ((oN dP)), lR xt, lI ((oN dT))] [(vI 8), (.int (oN dP)), (.ref xs)]
   refine XS.iadd X0.here hx rfl (hb hby d41_220) rfl ?_
   show SH T0 221 #[lR xs, lI ((oN dP)), lR xt, lI ((oN dT))] [(.int ((oN dP) + (8 : Int32))), (.ref xs)]
   rw [show ((oN dP) + (8 : Int32)) = (oN (dP + 8)) from own_addI dP 8]
   refine st1.trans ?_
   show SH T1 224 #[lR xs, lI ((oN dP)), lR xt, lI ((oN dT))] [(.int ch_)]
   refine XS.aloadN X1.here hx rfl (hb hby d41_224) rfl rfl ?_
   show SH T1 225 #[lR xs, lI ((oN dP)), lR xt, lI ((oN dT))] [(.ref xt), (.int ch_)]
   refine XS.bipush X1.here hx rfl (hb hby d41_225) ?_
   show SH T1 227 #[lR xs, lI ((oN dP)), lR xt, lI ((oN dT))] [(vI 8), (.ref xt), (.int ch_)]
   refine st2.trans ?_
   show SH T2 230 #[lR xs, lI ((oN dP)), lR xt, lI ((oN dT))] [(.int ch_), (.int ch_)]
   refine XS.icmpYes X2.here hx rfl (pc0 := 230) (pc' := 235) rfl (hb hby d41_230) rfl (teq (rfl : ch_ = ch_)).1 (by decide) (by decide) ?_
   exact kt
 · refine ⟨T0, _, X0, e0, N0, fun target kt => ?_⟩
   show SH T0 210 #[lR xs, lI ((oN dP)), lR xt, lI ((oN dT))] []
   refine XS.iloadN X0.here hx rfl (hb hby d41_210) rfl ?_
   show SH T0 211 #[lR xs, lI ((oN dP)), lR xt, lI ((oN dT))] [(.int (oN dT))]
   refine XS.bipush X0.here hx rfl (hb hby d41_211) ?_
   show SH T0 213 #[lR xs, lI ((oN dP)), lR xt, lI ((oN dT))] [(vI 8), (.int (oN dT))]
   refine XS.icmpYes X0.here hx rfl (pc0 := 213) (pc' := 235) rfl (hb hby d41_213) rfl (flt (show ¬ ((8 : Int32) < (oN dT)) from own_leI (A := 8) (B := dT) (by omega) (by decide))).2.2.2 (by decide) (by decide) ?_
   exact kt
theorem sl_9 {p : Program} {l : Launch} {e : Env} {s : State} {m : MethodId} {args : Array Value} {below : List Frame} {meth : Method} {c : Code} {T0 : State} {locs : List Loc} {Z : State} {a0 : Array Value} {h0 : Heap} {n0 : Nat} {cz : Int32} {dg : Addr} {fm : Value} {xs xb : Addr} {ks : ClassId} {dS : Nat} {uS : List Value} {xt tb : Addr} {kt : ClassId} {dT : Nat} {uT ua ub : List Value} {dP : Nat}
   (X0 : Stand p l e (rO 4 0 0 54) s m args below meth c T0 locs 0 0) (hx : p.tables.exec = Jvm.exec) (hZ : Z.Warmed39 s.vm) (hw : HW Z a0) (hby : c.code = method_5_code) (hml : c.maxLocals = 4) (hown : s.vm.findClass sL = some m.cls) (e0 : T0.heap = h0) (O0 : Old Z n0 h0) (P : Pins Z cz dg fm) (N0 : Fr n0 locs) (B : LitB Z h0 xs xb ks dS uS xt tb kt dT uT ua ub dP) :
   ∃ (T' : State) (locs' : List Loc), Stand p l e (rO 4 0 0 54) s m args below meth c T' locs' 0 0 ∧ T'.heap = h0 ∧ Fr n0 locs' ∧ ∀ target, SG p e below T' m 260 #[lR xs, lI ((oN dP)), lR xt, lI ((oN dT))] [] target → SG p e below T0 m 235 #[lR xs, lI ((oN dP)), lR xt, lI ((oN dT))] [] target := by
 obtain ⟨Es, Vs, Cs, As, Et, Vt, Ct, At, hE, hP, hT, hd2, hd0, hd1, hch⟩ := B
 by_cases q : 9 < dT
 · obtain ⟨ch_, hc_, hh_⟩ := own_ce (k := 9) hch (by omega)
   obtain ⟨cq1, kq1, q1a, q1b, q1c⟩ := isOf hZ e0 Es
   obtain ⟨_, _, ⟨T1, L1, k1, n1⟩, -, X1, ⟨Lc1, hQ1, l1, y1, z1⟩, st1⟩ := X0.virtualBack hx (y := M44) (z := M44) hown (mvT hZ (wd hw 212 rfl)) (mvT hZ (wd hw 213 rfl)) (notFace_of_selects (args := #[]) (mvT hZ (wd hw 215 rfl))) (mvT hZ (wd hw 215 rfl)) (mvT hZ (wd hw 214 rfl)) (by decide) (backOf (W := 0) (rm36_64 l Z a0 hw [] cz dg fm xs (dP + 9) xb ks dS uS ch_ h0 n0 O0 P Es Cs Vs As (by omega) (by omega) (by omega) (by omega) (own_el (P := dP) (k := 9) hE hP hc_) hh_) hZ (wd hw 216 rfl) (wd hw 28 rfl) (by decide) (by decide)) q1a q1c (g := (mkF m 246 #[lR xs, lI ((oN dP)), lR xt, lI ((oN dT))] [(.int (oN (dP + 9))), (.ref xs)])) rfl (by rw [hml]; rfl) (Steps.refl _) (argsL := [(.int (oN (dP + 9)))]) (rest := []) (lenOf pd_26 rfl) rfl (lz rfl) (hb hby d41_246) (fun _ _ => ⟨rfl, e0, (by decide : 0 + 0 ≤ _), (by decide : 0 + 0 ≤ _)⟩)
   dsimp only [Pt.U, Pt.locs, Pt.cells, Pt.slots] at X1 l1 y1 z1 st1 hQ1
   subst y1 z1
   obtain ⟨rfl, N1q, e1⟩ := hQ1
   have N1 : Fr n0 L1 := by rw [l1]; exact Fr.app N0 N1q
   obtain ⟨cq2, kq2, q2a, q2b, q2c⟩ := isOf hZ e1 Et
   obtain ⟨_, _, ⟨T2, L2, k2, n2⟩, -, X2, ⟨Lc2, hQ2, l2, y2, z2⟩, st2⟩ := X1.virtualBack hx (y := M44) (z := M44) hown (mvT hZ (wd hw 212 rfl)) (mvT hZ (wd hw 213 rfl)) (notFace_of_selects (args := #[]) (mvT hZ (wd hw 215 rfl))) (mvT hZ (wd hw 215 rfl)) (mvT hZ (wd hw 214 rfl)) (by decide) (backOf (W := 1) (rm36_64 l Z a0 hw [] cz dg fm xt 9 tb kt dT uT ch_ h0 n0 O0 P Et Ct Vt At (by decide) (by decide) (by omega) (by omega) hc_ hh_) hZ (wd hw 216 rfl) (wd hw 28 rfl) (by decide) (by decide)) q2a q2c (g := (mkF m 252 #[lR xs, lI ((oN dP)), lR xt, lI ((oN dT))] [(vI 9), (.ref xt), (.int ch_)])) rfl (by rw [hml]; rfl) (Steps.refl _) (argsL := [(vI 9)]) (rest := [(.int ch_)]) (lenOf pd_26 rfl) rfl (lz rfl) (hb hby d41_252) (fun _ _ => ⟨rfl, e1, (by decide : 0 + 0 ≤ _), (by decide : 0 + 0 ≤ _)⟩)
   dsimp only [Pt.U, Pt.locs, Pt.cells, Pt.slots] at X2 l2 y2 z2 st2 hQ2
   subst y2 z2
   obtain ⟨rfl, N2q, e2⟩ := hQ2
   have N2 : Fr n0 L2 := by rw [l2]; exact Fr.app N1 N2q
   refine ⟨T2, _, X2, e2, N2, fun target kt => ?_⟩
   show SH T0 235 #[lR xs, lI ((oN dP)), lR xt, lI ((oN dT))] []
   refine XS.iloadN X0.here hx rfl (hb hby d41_235) rfl ?_
   show SH T0 236 #[lR xs, lI ((oN dP)), lR xt, lI ((oN dT))] [(.int (oN dT))]
   refine XS.bipush X0.here hx rfl (hb hby d41_236) ?_
   show SH T0 238 #[lR xs, lI ((oN dP)), lR xt, lI ((oN dT))] [(vI 9), (.int (oN dT))]
   refine XS.icmpNo X0.here hx rfl (hb hby d41_238) rfl (tlt (show (9 : Int32) < (oN dT) from own_ltI (A := 9) (B := dT) (by omega) (by omega))).2.2.2 ?_
   show SH T0 241 #[lR xs, lI ((oN dP)), lR xt, lI ((oN dT))] []
   refine XS.aloadN X0.here hx rfl (hb hby d41_241) rfl rfl ?_
   show SH T0 242 #[lR xs, lI ((oN dP)), lR xt, lI ((oN dT))] [(.ref xs)]
   refine XS.iloadN X0.here hx rfl (hb hby d41_242) rfl ?_
   show SH T0 243 #[lR xs, lI ((oN dP)), lR xt, lI ((oN dT))] [(.int (oN dP)), (.ref xs)]
   refine XS.bipush X0.here hx rfl (hb hby d41_243) ?_
   show SH T0 245 #[lR xs, lI ((oN dP)), lR xt, lI ((oN dT))] [(vI 9), (.int (oN dP)), (.ref xs)]
   refine XS.iadd X0.here hx rfl (hb hby d41_245) rfl ?_
   show SH T0 246 #[lR xs, lI ((oN dP)), lR xt, lI ((oN dT))] [(.int ((oN dP) + (9 : Int32))), (.ref xs)]
   rw [show ((oN dP) + (9 : Int32)) = (oN (dP + 9)) from own_addI dP 9]
   refine st1.trans ?_
   show SH T1 249 #[lR xs, lI ((oN dP)), lR xt, lI ((oN dT))] [(.int ch_)]
   refine XS.aloadN X1.here hx rfl (hb hby d41_249) rfl rfl ?_
   show SH T1 250 #[lR xs, lI ((oN dP)), lR xt, lI ((oN dT))] [(.ref xt), (.int ch_)]
   refine XS.bipush X1.here hx rfl (hb hby d41_250) ?_
   show SH T1 252 #[lR xs, lI ((oN dP)), lR xt, lI ((oN dT))] [(vI 9), (.ref xt), (.int ch_)]
   refine st2.trans ?_
   show SH T2 255 #[lR xs, lI ((oN dP)), lR xt, lI ((oN dT))] [(.int ch_), (.int ch_)]
   refine XS.icmpYes X2.here hx rfl (pc0 := 255) (pc' := 260) rfl (hb hby d41_255) rfl (teq (rfl : ch_ = ch_)).1 (by decide) (by decide) ?_
   exact kt
 · refine ⟨T0, _, X0, e0, N0, fun target kt => ?_⟩
   show SH T0 235 #[lR xs, lI ((oN dP)), lR xt, lI ((oN dT))] []
   refine XS.iloadN X0.here hx rfl (hb hby d41_235) rfl ?_
   show SH T0 236 #[lR xs, lI ((oN dP)), lR xt, lI ((oN dT))] [(.int (oN dT))]
   refine XS.bipush X0.here hx rfl (hb hby d41_236) ?_
   show SH T0 238 #[lR xs, lI ((oN dP)), lR xt, lI ((oN dT))] [(vI 9), (.int (oN dT))]
   refine XS.icmpYes X0.here hx rfl (pc0 := 238) (pc' := 260) rfl (hb hby d41_238) rfl (flt (show ¬ ((9 : Int32) < (oN dT)) from own_leI (A := 9) (B := dT) (by omega) (by decide))).2.2.2 (by decide) (by decide) ?_
   exact kt
theorem sl_10 {p : Program} {l : Launch} {e : Env} {s : State} {m : MethodId} {args : Array Value} {below : List Frame} {meth : Method} {c : Code} {T0 : State} {locs : List Loc} {Z : State} {a0 : Array Value} {h0 : Heap} {n0 : Nat} {cz : Int32} {dg : Addr} {fm : Value} {xs xb : Addr} {ks : ClassId} {dS : Nat} {uS : List Value} {xt tb : Addr} {kt : ClassId} {dT : Nat} {uT ua ub : List Value} {dP : Nat}
   (X0 : Stand p l e (rO 4 0 0 54) s m args below meth c T0 locs 0 0) (hx : p.tables.exec = Jvm.exec) (hZ : Z.Warmed39 s.vm) (hw : HW Z a0) (hby : c.code = method_5_code) (hml : c.maxLocals = 4) (hown : s.vm.findClass sL = some m.cls) (e0 : T0.heap = h0) (O0 : Old Z n0 h0) (P : Pins Z cz dg fm) (N0 : Fr n0 locs) (B : LitB Z h0 xs xb ks dS uS xt tb kt dT uT ua ub dP) :
   ∃ (T' : State) (locs' : List Loc), Stand p l e (rO 4 0 0 54) s m args below meth c T' locs' 0 0 ∧ T'.heap = h0 ∧ Fr n0 locs' ∧ ∀ target, SG p e below T' m 285 #[lR xs, lI ((oN dP)), lR xt, lI ((oN dT))] [] target → SG p e below T0 m 260 #[lR xs, lI ((oN dP)), lR xt, lI ((oN dT))] [] target := by
 obtain ⟨Es, Vs, Cs, As, Et, Vt, Ct, At, hE, hP, hT, hd2, hd0, hd1, hch⟩ := B
 by_cases q : 10 < dT
 · obtain ⟨ch_, hc_, hh_⟩ := own_ce (k := 10) hch (by omega)
   obtain ⟨cq1, kq1, q1a, q1b, q1c⟩ := isOf hZ e0 Es
   obtain ⟨_, _, ⟨T1, L1, k1, n1⟩, -, X1, ⟨Lc1, hQ1, l1, y1, z1⟩, st1⟩ := X0.virtualBack hx (y := M44) (z := M44) hown (mvT hZ (wd hw 212 rfl)) (mvT hZ (wd hw 213 rfl)) (notFace_of_selects (args := #[]) (mvT hZ (wd hw 215 rfl))) (mvT hZ (wd hw 215 rfl)) (mvT hZ (wd hw 214 rfl)) (by decide) (backOf (W := 0) (rm36_64 l Z a0 hw [] cz dg fm xs (dP + 10) xb ks dS uS ch_ h0 n0 O0 P Es Cs Vs As (by omega) (by omega) (by omega) (by omega) (own_el (P := dP) (k := 10) hE hP hc_) hh_) hZ (wd hw 216 rfl) (wd hw 28 rfl) (by decide) (by decide)) q1a q1c (g := (mkF m 271 #[lR xs, lI ((oN dP)), lR xt, lI ((oN dT))] [(.int (oN (dP + 10))), (.ref xs)])) rfl (by rw [hml]; rfl) (Steps.refl _) (argsL := [(.int (oN (dP + 10)))]) (rest := []) (lenOf pd_26 rfl) rfl (lz rfl) (hb hby d41_271) (fun _ _ => ⟨rfl, e0, (by decide : 0 + 0 ≤ _), (by decide : 0 + 0 ≤ _)⟩)
   dsimp only [Pt.U, Pt.locs, Pt.cells, Pt.slots] at X1 l1 y1 z1 st1 hQ1
   subst y1 z1
   obtain ⟨rfl, N1q, e1⟩ := hQ1
   have N1 : Fr n0 L1 := by rw [l1]; exact Fr.app N0 N1q
   obtain ⟨cq2, kq2, q2a, q2b, q2c⟩ := isOf hZ e1 Et
   obtain ⟨_, _, ⟨T2, L2, k2, n2⟩, -, X2, ⟨Lc2, hQ2, l2, y2, z2⟩, st2⟩ := X1.virtualBack hx (y := M44) (z := M44) hown (mvT hZ (wd hw 212 rfl)) (mvT hZ (wd hw 213 rfl)) (notFace_of_selects (args := #[]) (mvT hZ (wd hw 215 rfl))) (mvT hZ (wd hw 215 rfl)) (mvT hZ (wd hw 214 rfl)) (by decide) (backOf (W := 1) (rm36_64 l Z a0 hw [] cz dg fm xt 10 tb kt dT uT ch_ h0 n0 O0 P Et Ct Vt At (by decide) (by decide) (by omega) (by omega) hc_ hh_) hZ (wd hw 216 rfl) (wd hw 28 rfl) (by decide) (by decide)) q2a q2c (g := (mkF m 277 #[lR xs, lI ((oN dP)), lR xt, lI ((oN dT))] [(vI 10), (.ref xt), (.int ch_)])) rfl (by rw [hml]; rfl) (Steps.refl _) (argsL := [(vI 10)]) (rest := [(.int ch_)]) (lenOf pd_26 rfl) rfl (lz rfl) (hb hby d41_277) (fun _ _ => ⟨rfl, e1, (by decide : 0 + 0 ≤ _), (by decide : 0 + 0 ≤ _)⟩)
   dsimp only [Pt.U, Pt.locs, Pt.cells, Pt.slots] at X2 l2 y2 z2 st2 hQ2
   subst y2 z2
   obtain ⟨rfl, N2q, e2⟩ := hQ2
   have N2 : Fr n0 L2 := by rw [l2]; exact Fr.app N1 N2q
   refine ⟨T2, _, X2, e2, N2, fun target kt => ?_⟩
   show SH T0 260 #[lR xs, lI ((oN dP)), lR xt, lI ((oN dT))] []
   refine XS.iloadN X0.here hx rfl (hb hby d41_260) rfl ?_
   show SH T0 261 #[lR xs, lI ((oN dP)), lR xt, lI ((oN dT))] [(.int (oN dT))]
   refine XS.bipush X0.here hx rfl (hb hby d41_261) ?_
   show SH T0 263 #[lR xs, lI ((oN dP)), lR xt, lI ((oN dT))] [(vI 10), (.int (oN dT))]
   refine XS.icmpNo X0.here hx rfl (hb hby d41_263) rfl (tlt (show (10 : Int32) < (oN dT) from own_ltI (A := 10) (B := dT) (by omega) (by omega))).2.2.2 ?_
   show SH T0 266 #[lR xs, lI ((oN dP)), lR xt, lI ((oN dT))] []
   refine XS.aloadN X0.here hx rfl (hb hby d41_266) rfl rfl ?_
   show SH T0 267 #[lR xs, lI ((oN dP)), lR xt, lI ((oN dT))] [(.ref xs)]
   refine XS.iloadN X0.here hx rfl (hb hby d41_267) rfl ?_
   show SH T0 268 #[lR xs, lI ((oN dP)), lR xt, lI ((oN dT))] [(.int (oN dP)), (.ref xs)]
   refine XS.bipush X0.here hx rfl (hb hby d41_268) ?_
   show SH T0 270 #[lR xs, lI ((oN dP)), lR xt, lI ((oN dT))] [(vI 10), (.int (oN dP)), (.ref xs)]
   refine XS.iadd X0.here hx rfl (hb hby d41_270) rfl ?_
   show SH T0 271 #[lR xs, lI ((oN dP)), lR xt, lI ((oN dT))] [(.int ((oN dP) + (10 : Int32))), (.ref xs)]
   rw [show ((oN dP) + (10 : Int32)) = (oN (dP + 10)) from own_addI dP 10]
   refine st1.trans ?_
   show SH T1 274 #[lR xs, lI ((oN dP)), lR xt, lI ((oN dT))] [(.int ch_)]
   refine XS.aloadN X1.here hx rfl (hb hby d41_274) rfl rfl ?_
   show SH T1 275 #[lR xs, lI ((oN dP)), lR xt, lI ((oN dT))] [(.ref xt), (.int ch_)]
   refine XS.bipush X1.here hx rfl (hb hby d41_275) ?_
   show SH T1 277 #[lR xs, lI ((oN dP)), lR xt, lI ((oN dT))] [(vI 10), (.ref xt), (.int ch_)]
   refine st2.trans ?_
   show SH T2 280 #[lR xs, lI ((oN dP)), lR xt, lI ((oN dT))] [(.int ch_), (.int ch_)]
   refine XS.icmpYes X2.here hx rfl (pc0 := 280) (pc' := 285) rfl (hb hby d41_280) rfl (teq (rfl : ch_ = ch_)).1 (by decide) (by decide) ?_
   exact kt
 · refine ⟨T0, _, X0, e0, N0, fun target kt => ?_⟩
   show SH T0 260 #[lR xs, lI ((oN dP)), lR xt, lI ((oN dT))] []
   refine XS.iloadN X0.here hx rfl (hb hby d41_260) rfl ?_
   show SH T0 261 #[lR xs, lI ((oN dP)), lR xt, lI ((oN dT))] [(.int (oN dT))]
   refine XS.bipush X0.here hx rfl (hb hby d41_261) ?_
   show SH T0 263 #[lR xs, lI ((oN dP)), lR xt, lI ((oN dT))] [(vI 10), (.int (oN dT))]
   refine XS.icmpYes X0.here hx rfl (pc0 := 263) (pc' := 285) rfl (hb hby d41_263) rfl (flt (show ¬ ((10 : Int32) < (oN dT)) from own_leI (A := 10) (B := dT) (by omega) (by decide))).2.2.2 (by decide) (by decide) ?_
   exact kt
theorem sl_11 {p : Program} {l : Launch} {e : Env} {s : State} {m : MethodId} {args : Array Value} {below : List Frame} {meth : Method} {c : Code} {T0 : State} {locs : List Loc} {Z : State} {a0 : Array Value} {h0 : Heap} {n0 : Nat} {cz : Int32} {dg : Addr} {fm : Value} {xs xb : Addr} {ks : ClassId} {dS : Nat} {uS : List Value} {xt tb : Addr} {kt : ClassId} {dT : Nat} {uT ua ub : List Value} {dP : Nat}
   (X0 : Stand p l e (rO 4 0 0 54) s m args below meth c T0 locs 0 0) (hx : p.tables.exec = Jvm.exec) (hZ : Z.Warmed39 s.vm) (hw : HW Z a0) (hby : c.code = method_5_code) (hml : c.maxLocals = 4) (hown : s.vm.findClass sL = some m.cls) (e0 : T0.heap = h0) (O0 : Old Z n0 h0) (P : Pins Z cz dg fm) (N0 : Fr n0 locs) (B : LitB Z h0 xs xb ks dS uS xt tb kt dT uT ua ub dP) :
   ∃ (T' : State) (locs' : List Loc), Stand p l e (rO 4 0 0 54) s m args below meth c T' locs' 0 0 ∧ T'.heap = h0 ∧ Fr n0 locs' ∧ ∀ target, SG p e below T' m 310 #[lR xs, lI ((oN dP)), lR xt, lI ((oN dT))] [] target → SG p e below T0 m 285 #[lR xs, lI ((oN dP)), lR xt, lI ((oN dT))] [] target := by
 obtain ⟨Es, Vs, Cs, As, Et, Vt, Ct, At, hE, hP, hT, hd2, hd0, hd1, hch⟩ := B
 by_cases q : 11 < dT
 · obtain ⟨ch_, hc_, hh_⟩ := own_ce (k := 11) hch (by omega)
   obtain ⟨cq1, kq1, q1a, q1b, q1c⟩ := isOf hZ e0 Es
   obtain ⟨_, _, ⟨T1, L1, k1, n1⟩, -, X1, ⟨Lc1, hQ1, l1, y1, z1⟩, st1⟩ := X0.virtualBack hx (y := M44) (z := M44) hown (mvT hZ (wd hw 212 rfl)) (mvT hZ (wd hw 213 rfl)) (notFace_of_selects (args := #[]) (mvT hZ (wd hw 215 rfl))) (mvT hZ (wd hw 215 rfl)) (mvT hZ (wd hw 214 rfl)) (by decide) (backOf (W := 0) (rm36_64 l Z a0 hw [] cz dg fm xs (dP + 11) xb ks dS uS ch_ h0 n0 O0 P Es Cs Vs As (by omega) (by omega) (by omega) (by omega) (own_el (P := dP) (k := 11) hE hP hc_) hh_) hZ (wd hw 216 rfl) (wd hw 28 rfl) (by decide) (by decide)) q1a q1c (g := (mkF m 296 #[lR xs, lI ((oN dP)), lR xt, lI ((oN dT))] [(.int (oN (dP + 11))), (.ref xs)])) rfl (by rw [hml]; rfl) (Steps.refl _) (argsL := [(.int (oN (dP + 11)))]) (rest := []) (lenOf pd_26 rfl) rfl (lz rfl) (hb hby d41_296) (fun _ _ => ⟨rfl, e0, (by decide : 0 + 0 ≤ _), (by decide : 0 + 0 ≤ _)⟩)
   dsimp only [Pt.U, Pt.locs, Pt.cells, Pt.slots] at X1 l1 y1 z1 st1 hQ1
   subst y1 z1
   obtain ⟨rfl, N1q, e1⟩ := hQ1
   have N1 : Fr n0 L1 := by rw [l1]; exact Fr.app N0 N1q
   obtain ⟨cq2, kq2, q2a, q2b, q2c⟩ := isOf hZ e1 Et
   obtain ⟨_, _, ⟨T2, L2, k2, n2⟩, -, X2, ⟨Lc2, hQ2, l2, y2, z2⟩, st2⟩ := X1.virtualBack hx (y := M44) (z := M44) hown (mvT hZ (wd hw 212 rfl)) (mvT hZ (wd hw 213 rfl)) (notFace_of_selects (args := #[]) (mvT hZ (wd hw 215 rfl))) (mvT hZ (wd hw 215 rfl)) (mvT hZ (wd hw 214 rfl)) (by decide) (backOf (W := 1) (rm36_64 l Z a0 hw [] cz dg fm xt 11 tb kt dT uT ch_ h0 n0 O0 P Et Ct Vt At (by decide) (by decide) (by omega) (by omega) hc_ hh_) hZ (wd hw 216 rfl) (wd hw 28 rfl) (by decide) (by decide)) q2a q2c (g := (mkF m 302 #[lR xs, lI ((oN dP)), lR xt, lI ((oN dT))] [(vI 11), (.ref xt), (.int ch_)])) rfl (by rw [hml]; rfl) (Steps.refl _) (argsL := [(vI 11)]) (rest := [(.int ch_)]) (lenOf pd_26 rfl) rfl (lz rfl) (hb hby d41_302) (fun _ _ => ⟨rfl, e1, (by decide : 0 + 0 ≤ _), (by decide : 0 + 0 ≤ _)⟩)
   dsimp only [Pt.U, Pt.locs, Pt.cells, Pt.slots] at X2 l2 y2 z2 st2 hQ2
   subst y2 z2
   obtain ⟨rfl, N2q, e2⟩ := hQ2
   have N2 : Fr n0 L2 := by rw [l2]; exact Fr.app N1 N2q
   refine ⟨T2, _, X2, e2, N2, fun target kt => ?_⟩
   show SH T0 285 #[lR xs, lI ((oN dP)), lR xt, lI ((oN dT))] []
   refine XS.iloadN X0.here hx rfl (hb hby d41_285) rfl ?_
   show SH T0 286 #[lR xs, lI ((oN dP)), lR xt, lI ((oN dT))] [(.int (oN dT))]
   refine XS.bipush X0.here hx rfl (hb hby d41_286) ?_
   show SH T0 288 #[lR xs, lI ((oN dP)), lR xt, lI ((oN dT))] [(vI 11), (.int (oN dT))]
   refine XS.icmpNo X0.here hx rfl (hb hby d41_288) rfl (tlt (show (11 : Int32) < (oN dT) from own_ltI (A := 11) (B := dT) (by omega) (by omega))).2.2.2 ?_
   show SH T0 291 #[lR xs, lI ((oN dP)), lR xt, lI ((oN dT))] []
   refine XS.aloadN X0.here hx rfl (hb hby d41_291) rfl rfl ?_
   show SH T0 292 #[lR xs, lI ((oN dP)), lR xt, lI ((oN dT))] [(.ref xs)]
   refine XS.iloadN X0.here hx rfl (hb hby d41_292) rfl ?_
   show SH T0 293 #[lR xs, lI ((oN dP)), lR xt, lI ((oN dT))] [(.int (oN dP)), (.ref xs)]
   refine XS.bipush X0.here hx rfl (hb hby d41_293) ?_
   show SH T0 295 #[lR xs, lI ((oN dP)), lR xt, lI ((oN dT))] [(vI 11), (.int (oN dP)), (.ref xs)]
   refine XS.iadd X0.here hx rfl (hb hby d41_295) rfl ?_
   show SH T0 296 #[lR xs, lI ((oN dP)), lR xt, lI ((oN dT))] [(.int ((oN dP) + (11 : Int32))), (.ref xs)]
   rw [show ((oN dP) + (11 : Int32)) = (oN (dP + 11)) from own_addI dP 11]
   refine st1.trans ?_
   show SH T1 299 #[lR xs, lI ((oN dP)), lR xt, lI ((oN dT))] [(.int ch_)]
   refine XS.aloadN X1.here hx rfl (hb hby d41_299) rfl rfl ?_
   show SH T1 300 #[lR xs, lI ((oN dP)), lR xt, lI ((oN dT))] [(.ref xt), (.int ch_)]
   refine XS.bipush X1.here hx rfl (hb hby d41_300) ?_
   show SH T1 302 #[lR xs, lI ((oN dP)), lR xt, lI ((oN dT))] [(vI 11), (.ref xt), (.int ch_)]
   refine st2.trans ?_
   show SH T2 305 #[lR xs, lI ((oN dP)), lR xt, lI ((oN dT))] [(.int ch_), (.int ch_)]
   refine XS.icmpYes X2.here hx rfl (pc0 := 305) (pc' := 310) rfl (hb hby d41_305) rfl (teq (rfl : ch_ = ch_)).1 (by decide) (by decide) ?_
   exact kt
 · refine ⟨T0, _, X0, e0, N0, fun target kt => ?_⟩
   show SH T0 285 #[lR xs, lI ((oN dP)), lR xt, lI ((oN dT))] []
   refine XS.iloadN X0.here hx rfl (hb hby d41_285) rfl ?_
   show SH T0 286 #[lR xs, lI ((oN dP)), lR xt, lI ((oN dT))] [(.int (oN dT))]
   refine XS.bipush X0.here hx rfl (hb hby d41_286) ?_
   show SH T0 288 #[lR xs, lI ((oN dP)), lR xt, lI ((oN dT))] [(vI 11), (.int (oN dT))]
   refine XS.icmpYes X0.here hx rfl (pc0 := 288) (pc' := 310) rfl (hb hby d41_288) rfl (flt (show ¬ ((11 : Int32) < (oN dT)) from own_leI (A := 11) (B := dT) (by omega) (by decide))).2.2.2 (by decide) (by decide) ?_
   exact kt
theorem sl_12 {p : Program} {l : Launch} {e : Env} {s : State} {m : MethodId} {args : Array Value} {below : List Frame} {meth : Method} {c : Code} {T0 : State} {locs : List Loc} {Z : State} {a0 : Array Value} {h0 : Heap} {n0 : Nat} {cz : Int32} {dg : Addr} {fm : Value} {xs xb : Addr} {ks : ClassId} {dS : Nat} {uS : List Value} {xt tb : Addr} {kt : ClassId} {dT : Nat} {uT ua ub : List Value} {dP : Nat}
   (X0 : Stand p l e (rO 4 0 0 54) s m args below meth c T0 locs 0 0) (hx : p.tables.exec = Jvm.exec) (hZ : Z.Warmed39 s.vm) (hw : HW Z a0) (hby : c.code = method_5_code) (hml : c.maxLocals = 4) (hown : s.vm.findClass sL = some m.cls) (e0 : T0.heap = h0) (O0 : Old Z n0 h0) (P : Pins Z cz dg fm) (N0 : Fr n0 locs) (B : LitB Z h0 xs xb ks dS uS xt tb kt dT uT ua ub dP) :
   ∃ (T' : State) (locs' : List Loc), Stand p l e (rO 4 0 0 54) s m args below meth c T' locs' 0 0 ∧ T'.heap = h0 ∧ Fr n0 locs' ∧ ∀ target, SG p e below T' m 335 #[lR xs, lI ((oN dP)), lR xt, lI ((oN dT))] [] target → SG p e below T0 m 310 #[lR xs, lI ((oN dP)), lR xt, lI ((oN dT))] [] target := by
 obtain ⟨Es, Vs, Cs, As, Et, Vt, Ct, At, hE, hP, hT, hd2, hd0, hd1, hch⟩ := B
 by_cases q : 12 < dT
 · obtain ⟨ch_, hc_, hh_⟩ := own_ce (k := 12) hch (by omega)
   obtain ⟨cq1, kq1, q1a, q1b, q1c⟩ := isOf hZ e0 Es
   obtain ⟨_, _, ⟨T1, L1, k1, n1⟩, -, X1, ⟨Lc1, hQ1, l1, y1, z1⟩, st1⟩ := X0.virtualBack hx (y := M44) (z := M44) hown (mvT hZ (wd hw 212 rfl)) (mvT hZ (wd hw 213 rfl)) (notFace_of_selects (args := #[]) (mvT hZ (wd hw 215 rfl))) (mvT hZ (wd hw 215 rfl)) (mvT hZ (wd hw 214 rfl)) (by decide) (backOf (W := 0) (rm36_64 l Z a0 hw [] cz dg fm xs (dP + 12) xb ks dS uS ch_ h0 n0 O0 P Es Cs Vs As (by omega) (by omega) (by omega) (by omega) (own_el (P := dP) (k := 12) hE hP hc_) hh_) hZ (wd hw 216 rfl) (wd hw 28 rfl) (by decide) (by decide)) q1a q1c (g := (mkF m 321 #[lR xs, lI ((oN dP)), lR xt, lI ((oN dT))] [(.int (oN (dP + 12))), (.ref xs)])) rfl (by rw [hml]; rfl) (Steps.refl _) (argsL := [(.int (oN (dP + 12)))]) (rest := []) (lenOf pd_26 rfl) rfl (lz rfl) (hb hby d41_321) (fun _ _ => ⟨rfl, e0, (by decide : 0 + 0 ≤ _), (by decide : 0 + 0 ≤ _)⟩)
   dsimp only [Pt.U, Pt.locs, Pt.cells, Pt.slots] at X1 l1 y1 z1 st1 hQ1
   subst y1 z1
   obtain ⟨rfl, N1q, e1⟩ := hQ1
   have N1 : Fr n0 L1 := by rw [l1]; exact Fr.app N0 N1q
   obtain ⟨cq2, kq2, q2a, q2b, q2c⟩ := isOf hZ e1 Et
   obtain ⟨_, _, ⟨T2, L2, k2, n2⟩, -, X2, ⟨Lc2, hQ2, l2, y2, z2⟩, st2⟩ := X1.virtualBack hx (y := M44) (z := M44) hown (mvT hZ (wd hw 212 rfl)) (mvT hZ (wd hw 213 rfl)) (notFace_of_selects (args := #[]) (mvT hZ (wd hw 215 rfl))) (mvT hZ (wd hw 215 rfl)) (mvT hZ (wd hw 214 rfl)) (by decide) (backOf (W := 1) (rm36_64 l Z a0 hw [] cz dg fm xt 12 tb kt dT uT ch_ h0 n0 O0 P Et Ct Vt At (by decide) (by decide) (by omega) (by omega) hc_ hh_) hZ (wd hw 216 rfl) (wd hw 28 rfl) (by decide) (by decide)) q2a q2c (g := (mkF m 327 #[lR xs, lI ((oN dP)), lR xt, lI ((oN dT))] [(vI 12), (.ref xt), (.int ch_)])) rfl (by rw [hml]; rfl) (Steps.refl _) (argsL := [(vI 12)]) (rest := [(.int ch_)]) (lenOf pd_26 rfl) rfl (lz rfl) (hb hby d41_327) (fun _ _ => ⟨rfl, e1, (by decide : 0 + 0 ≤ _), (by decide : 0 + 0 ≤ _)⟩)
   dsimp only [Pt.U, Pt.locs, Pt.cells, Pt.slots] at X2 l2 y2 z2 st2 hQ2
   subst y2 z2
   obtain ⟨rfl, N2q, e2⟩ := hQ2
   have N2 : Fr n0 L2 := by rw [l2]; exact Fr.app N1 N2q
   refine ⟨T2, _, X2, e2, N2, fun target kt => ?_⟩
   show SH T0 310 #[lR xs, lI ((oN dP)), lR xt, lI ((oN dT))] []
   refine XS.iloadN X0.here hx rfl (hb hby d41_310) rfl ?_
   show SH T0 311 #[lR xs, lI ((oN dP)), lR xt, lI ((oN dT))] [(.int (oN dT))]
   refine XS.bipush X0.here hx rfl (hb hby d41_311) ?_
   show SH T0 313 #[lR xs, lI ((oN dP)), lR xt, lI ((oN dT))] [(vI 12), (.int (oN dT))]
   refine XS.icmpNo X0.here hx rfl (hb hby d41_313) rfl (tlt (show (12 : Int32) < (oN dT) from own_ltI (A := 12) (B := dT) (by omega) (by omega))).2.2.2 ?_
   show SH T0 316 #[lR xs, lI ((oN dP)), lR xt, lI ((oN dT))] []
   refine XS.aloadN X0.here hx rfl (hb hby d41_316) rfl rfl ?_
   show SH T0 317 #[lR xs, lI ((oN dP)), lR xt, lI ((oN dT))] [(.ref xs)]
   refine XS.iloadN X0.here hx rfl (hb hby d41_317) rfl ?_
   show SH T0 318 #[lR xs, lI ((oN dP)), lR xt, lI ((oN dT))] [(.int (oN dP)), (.ref xs)]
   refine XS.bipush X0.here hx rfl (hb hby d41_318) ?_
   show SH T0 320 #[lR xs, lI ((oN dP)), lR xt, lI ((oN dT))] [(vI 12), (.int (oN dP)), (.ref xs)]
   refine XS.iadd X0.here hx rfl (hb hby d41_320) rfl ?_
   show SH T0 321 #[lR xs, lI ((oN dP)), lR xt, lI ((oN dT))] [(.int ((oN dP) + (12 : Int32))), (.ref xs)]
   rw [show ((oN dP) + (12 : Int32)) = (oN (dP + 12)) from own_addI dP 12]
   refine st1.trans ?_
   show SH T1 324 #[lR xs, lI ((oN dP)), lR xt, lI ((oN dT))] [(.int ch_)]
   refine XS.aloadN X1.here hx rfl (hb hby d41_324) rfl rfl ?_
   show SH T1 325 #[lR xs, lI ((oN dP)), lR xt, lI ((oN dT))] [(.ref xt), (.int ch_)]
   refine XS.bipush X1.here hx rfl (hb hby d41_325) ?_
   show SH T1 327 #[lR xs, lI ((oN dP)), lR xt, lI ((oN dT))] [(vI 12), (.ref xt), (.int ch_)]
   refine st2.trans ?_
   show SH T2 330 #[lR xs, lI ((oN dP)), lR xt, lI ((oN dT))] [(.int ch_), (.int ch_)]
   refine XS.icmpYes X2.here hx rfl (pc0 := 330) (pc' := 335) rfl (hb hby d41_330) rfl (teq (rfl : ch_ = ch_)).1 (by decide) (by decide) ?_
   exact kt
 · refine ⟨T0, _, X0, e0, N0, fun target kt => ?_⟩
   show SH T0 310 #[lR xs, lI ((oN dP)), lR xt, lI ((oN dT))] []
   refine XS.iloadN X0.here hx rfl (hb hby d41_310) rfl ?_
   show SH T0 311 #[lR xs, lI ((oN dP)), lR xt, lI ((oN dT))] [(.int (oN dT))]
   refine XS.bipush X0.here hx rfl (hb hby d41_311) ?_
   show SH T0 313 #[lR xs, lI ((oN dP)), lR xt, lI ((oN dT))] [(vI 12), (.int (oN dT))]
   refine XS.icmpYes X0.here hx rfl (pc0 := 313) (pc' := 335) rfl (hb hby d41_313) rfl (flt (show ¬ ((12 : Int32) < (oN dT)) from own_leI (A := 12) (B := dT) (by omega) (by decide))).2.2.2 (by decide) (by decide) ?_
   exact kt
theorem sl_13 {p : Program} {l : Launch} {e : Env} {s : State} {m : MethodId} {args : Array Value} {below : List Frame} {meth : Method} {c : Code} {T0 : State} {locs : List Loc} {Z : State} {a0 : Array Value} {h0 : Heap} {n0 : Nat} {cz : Int32} {dg : Addr} {fm : Value} {xs xb : Addr} {ks : ClassId} {dS : Nat} {uS : List Value} {xt tb : Addr} {kt : ClassId} {dT : Nat} {uT ua ub : List Value} {dP : Nat}
   (X0 : Stand p l e (rO 4 0 0 54) s m args below meth c T0 locs 0 0) (hx : p.tables.exec = Jvm.exec) (hZ : Z.Warmed39 s.vm) (hw : HW Z a0) (hby : c.code = method_5_code) (hml : c.maxLocals = 4) (hown : s.vm.findClass sL = some m.cls) (e0 : T0.heap = h0) (O0 : Old Z n0 h0) (P : Pins Z cz dg fm) (N0 : Fr n0 locs) (B : LitB Z h0 xs xb ks dS uS xt tb kt dT uT ua ub dP) :
   ∃ (T' : State) (locs' : List Loc), Stand p l e (rO 4 0 0 54) s m args below meth c T' locs' 0 0 ∧ T'.heap = h0 ∧ Fr n0 locs' ∧ ∀ target, SG p e below T' m 360 #[lR xs, lI ((oN dP)), lR xt, lI ((oN dT))] [] target → SG p e below T0 m 335 #[lR xs, lI ((oN dP)), lR xt, lI ((oN dT))] [] target := by
 obtain ⟨Es, Vs, Cs, As, Et, Vt, Ct, At, hE, hP, hT, hd2, hd0, hd1, hch⟩ := B
 by_cases q : 13 < dT
 · obtain ⟨ch_, hc_, hh_⟩ := own_ce (k := 13) hch (by omega)
   obtain ⟨cq1, kq1, q1a, q1b, q1c⟩ := isOf hZ e0 Es
   obtain ⟨_, _, ⟨T1, L1, k1, n1⟩, -, X1, ⟨Lc1, hQ1, l1, y1, z1⟩, st1⟩ := X0.virtualBack hx (y := M44) (z := M44) hown (mvT hZ (wd hw 212 rfl)) (mvT hZ (wd hw 213 rfl)) (notFace_of_selects (args := #[]) (mvT hZ (wd hw 215 rfl))) (mvT hZ (wd hw 215 rfl)) (mvT hZ (wd hw 214 rfl)) (by decide) (backOf (W := 0) (rm36_64 l Z a0 hw [] cz dg fm xs (dP + 13) xb ks dS uS ch_ h0 n0 O0 P Es Cs Vs As (by omega) (by omega) (by omega) (by omega) (own_el (P := dP) (k := 13) hE hP hc_) hh_) hZ (wd hw 216 rfl) (wd hw 28 rfl) (by decide) (by decide)) q1a q1c (g := (mkF m 346 #[lR xs, lI ((oN dP)), lR xt, lI ((oN dT))] [(.int (oN (dP + 13))), (.ref xs)])) rfl (by rw [hml]; rfl) (Steps.refl _) (argsL := [(.int (oN (dP + 13)))]) (rest := []) (lenOf pd_26 rfl) rfl (lz rfl) (hb hby d41_346) (fun _ _ => ⟨rfl, e0, (by decide : 0 + 0 ≤ _), (by decide : 0 + 0 ≤ _)⟩)
   dsimp only [Pt.U, Pt.locs, Pt.cells, Pt.slots] at X1 l1 y1 z1 st1 hQ1
   subst y1 z1
   obtain ⟨rfl, N1q, e1⟩ := hQ1
   have N1 : Fr n0 L1 := by rw [l1]; exact Fr.app N0 N1q
   obtain ⟨cq2, kq2, q2a, q2b, q2c⟩ := isOf hZ e1 Et
   obtain ⟨_, _, ⟨T2, L2, k2, n2⟩, -, X2, ⟨Lc2, hQ2, l2, y2, z2⟩, st2⟩ := X1.virtualBack hx (y := M44) (z := M44) hown (mvT hZ (wd hw 212 rfl)) (mvT hZ (wd hw 213 rfl)) (notFace_of_selects (args := #[]) (mvT hZ (wd hw 215 rfl))) (mvT hZ (wd hw 215 rfl)) (mvT hZ (wd hw 214 rfl)) (by decide) (backOf (W := 1) (rm36_64 l Z a0 hw [] cz dg fm xt 13 tb kt dT uT ch_ h0 n0 O0 P Et Ct Vt At (by decide) (by decide) (by omega) (by omega) hc_ hh_) hZ (wd hw 216 rfl) (wd hw 28 rfl) (by decide) (by decide)) q2a q2c (g := (mkF m 352 #[lR xs, lI ((oN dP)), lR xt, lI ((oN dT))] [(vI 13), (.ref xt), (.int ch_)])) rfl (by rw [hml]; rfl) (Steps.refl _) (argsL := [(vI 13)]) (rest := [(.int ch_)]) (lenOf pd_26 rfl) rfl (lz rfl) (hb hby d41_352) (fun _ _ => ⟨rfl, e1, (by decide : 0 + 0 ≤ _), (by decide : 0 + 0 ≤ _)⟩)
   dsimp only [Pt.U, Pt.locs, Pt.cells, Pt.slots] at X2 l2 y2 z2 st2 hQ2
   subst y2 z2
   obtain ⟨rfl, N2q, e2⟩ := hQ2
   have N2 : Fr n0 L2 := by rw [l2]; exact Fr.app N1 N2q
   refine ⟨T2, _, X2, e2, N2, fun target kt => ?_⟩
   show SH T0 335 #[lR xs, lI ((oN dP)), lR xt, lI ((oN dT))] []
   refine XS.iloadN X0.here hx rfl (hb hby d41_335) rfl ?_
   show SH T0 336 #[lR xs, lI ((oN dP)), lR xt, lI ((oN dT))] [(.int (oN dT))]
   refine XS.bipush X0.here hx rfl (hb hby d41_336) ?_
   show SH T0 338 #[lR xs, lI ((oN dP)), lR xt, lI ((oN dT))] [(vI 13), (.int (oN dT))]
   refine XS.icmpNo X0.here hx rfl (hb hby d41_338) rfl (tlt (show (13 : Int32) < (oN dT) from own_ltI (A := 13) (B := dT) (by omega) (by omega))).2.2.2 ?_
   show SH T0 341 #[lR xs, lI ((oN dP)), lR xt, lI ((oN dT))] []
   refine XS.aloadN X0.here hx rfl (hb hby d41_341) rfl rfl ?_
   show SH T0 342 #[lR xs, lI ((oN dP)), lR xt, lI ((oN dT))] [(.ref xs)]
   refine XS.iloadN X0.here hx rfl (hb hby d41_342) rfl ?_
   show SH T0 343 #[lR xs, lI ((oN dP)), lR xt, lI ((oN dT))] [(.int (oN dP)), (.ref xs)]
   refine XS.bipush X0.here hx rfl (hb hby d41_343) ?_
   show SH T0 345 #[lR xs, lI ((oN dP)), lR xt, lI ((oN dT))] [(vI 13), (.int (oN dP)), (.ref xs)]
   refine XS.iadd X0.here hx rfl (hb hby d41_345) rfl ?_
   show SH T0 346 #[lR xs, lI ((oN dP)), lR xt, lI ((oN dT))] [(.int ((oN dP) + (13 : Int32))), (.ref xs)]
   rw [show ((oN dP) + (13 : Int32)) = (oN (dP + 13)) from own_addI dP 13]
   refine st1.trans ?_
   show SH T1 349 #[lR xs, lI ((oN dP)), lR xt, lI ((oN dT))] [(.int ch_)]
   refine XS.aloadN X1.here hx rfl (hb hby d41_349) rfl rfl ?_
   show SH T1 350 #[lR xs, lI ((oN dP)), lR xt, lI ((oN dT))] [(.ref xt), (.int ch_)]
   refine XS.bipush X1.here hx rfl (hb hby d41_350) ?_
   show SH T1 352 #[lR xs, lI ((oN dP)), lR xt, lI ((oN dT))] [(vI 13), (.ref xt), (.int ch_)]
   refine st2.trans ?_
   show SH T2 355 #[lR xs, lI ((oN dP)), lR xt, lI ((oN dT))] [(.int ch_), (.int ch_)]
   refine XS.icmpYes X2.here hx rfl (pc0 := 355) (pc' := 360) rfl (hb hby d41_355) rfl (teq (rfl : ch_ = ch_)).1 (by decide) (by decide) ?_
   exact kt
 · refine ⟨T0, _, X0, e0, N0, fun target kt => ?_⟩
   show SH T0 335 #[lR xs, lI ((oN dP)), lR xt, lI ((oN dT))] []
   refine XS.iloadN X0.here hx rfl (hb hby d41_335) rfl ?_
   show SH T0 336 #[lR xs, lI ((oN dP)), lR xt, lI ((oN dT))] [(.int (oN dT))]
   refine XS.bipush X0.here hx rfl (hb hby d41_336) ?_
   show SH T0 338 #[lR xs, lI ((oN dP)), lR xt, lI ((oN dT))] [(vI 13), (.int (oN dT))]
   refine XS.icmpYes X0.here hx rfl (pc0 := 338) (pc' := 360) rfl (hb hby d41_338) rfl (flt (show ¬ ((13 : Int32) < (oN dT)) from own_leI (A := 13) (B := dT) (by omega) (by decide))).2.2.2 (by decide) (by decide) ?_
   exact kt
theorem sl_14 {p : Program} {l : Launch} {e : Env} {s : State} {m : MethodId} {args : Array Value} {below : List Frame} {meth : Method} {c : Code} {T0 : State} {locs : List Loc} {Z : State} {a0 : Array Value} {h0 : Heap} {n0 : Nat} {cz : Int32} {dg : Addr} {fm : Value} {xs xb : Addr} {ks : ClassId} {dS : Nat} {uS : List Value} {xt tb : Addr} {kt : ClassId} {dT : Nat} {uT ua ub : List Value} {dP : Nat}
   (X0 : Stand p l e (rO 4 0 0 54) s m args below meth c T0 locs 0 0) (hx : p.tables.exec = Jvm.exec) (hZ : Z.Warmed39 s.vm) (hw : HW Z a0) (hby : c.code = method_5_code) (hml : c.maxLocals = 4) (hown : s.vm.findClass sL = some m.cls) (e0 : T0.heap = h0) (O0 : Old Z n0 h0) (P : Pins Z cz dg fm) (N0 : Fr n0 locs) (B : LitB Z h0 xs xb ks dS uS xt tb kt dT uT ua ub dP) :
   ∃ (T' : State) (locs' : List Loc), Stand p l e (rO 4 0 0 54) s m args below meth c T' locs' 0 0 ∧ T'.heap = h0 ∧ Fr n0 locs' ∧ ∀ target, SG p e below T' m 385 #[lR xs, lI ((oN dP)), lR xt, lI ((oN dT))] [] target → SG p e below T0 m 360 #[lR xs, lI ((oN dP)), lR xt, lI ((oN dT))] [] target := by
 obtain ⟨Es, Vs, Cs, As, Et, Vt, Ct, At, hE, hP, hT, hd2, hd0, hd1, hch⟩ := B
 by_cases q : 14 < dT
 · obtain ⟨ch_, hc_, hh_⟩ := own_ce (k := 14) hch (by omega)
   obtain ⟨cq1, kq1, q1a, q1b, q1c⟩ := isOf hZ e0 Es
   obtain ⟨_, _, ⟨T1, L1, k1, n1⟩, -, X1, ⟨Lc1, hQ1, l1, y1, z1⟩, st1⟩ := X0.virtualBack hx (y := M44) (z := M44) hown (mvT hZ (wd hw 212 rfl)) (mvT hZ (wd hw 213 rfl)) (notFace_of_selects (args := #[]) (mvT hZ (wd hw 215 rfl))) (mvT hZ (wd hw 215 rfl)) (mvT hZ (wd hw 214 rfl)) (by decide) (backOf (W := 0) (rm36_64 l Z a0 hw [] cz dg fm xs (dP + 14) xb ks dS uS ch_ h0 n0 O0 P Es Cs Vs As (by omega) (by omega) (by omega) (by omega) (own_el (P := dP) (k := 14) hE hP hc_) hh_) hZ (wd hw 216 rfl) (wd hw 28 rfl) (by decide) (by decide)) q1a q1c (g := (mkF m 371 #[lR xs, lI ((oN dP)), lR xt, lI ((oN dT))] [(.int (oN (dP + 14))), (.ref xs)])) rfl (by rw [hml]; rfl) (Steps.refl _) (argsL := [(.int (oN (dP + 14)))]) (rest := []) (lenOf pd_26 rfl) rfl (lz rfl) (hb hby d41_371) (fun _ _ => ⟨rfl, e0, (by decide : 0 + 0 ≤ _), (by decide : 0 + 0 ≤ _)⟩)
   dsimp only [Pt.U, Pt.locs, Pt.cells, Pt.slots] at X1 l1 y1 z1 st1 hQ1
   subst y1 z1
   obtain ⟨rfl, N1q, e1⟩ := hQ1
   have N1 : Fr n0 L1 := by rw [l1]; exact Fr.app N0 N1q
   obtain ⟨cq2, kq2, q2a, q2b, q2c⟩ := isOf hZ e1 Et
   obtain ⟨_, _, ⟨T2, L2, k2, n2⟩, -, X2, ⟨Lc2, hQ2, l2, y2, z2⟩, st2⟩ := X1.virtualBack hx (y := M44) (z := M44) hown (mvT hZ (wd hw 212 rfl)) (mvT hZ (wd hw 213 rfl)) (notFace_of_selects (args := #[]) (mvT hZ (wd hw 215 rfl))) (mvT hZ (wd hw 215 rfl)) (mvT hZ (wd hw 214 rfl)) (by decide) (backOf (W := 1) (rm36_64 l Z a0 hw [] cz dg fm xt 14 tb kt dT uT ch_ h0 n0 O0 P Et Ct Vt At (by decide) (by decide) (by omega) (by omega) hc_ hh_) hZ (wd hw 216 rfl) (wd hw 28 rfl) (by decide) (by decide)) q2a q2c (g := (mkF m 377 #[lR xs, lI ((oN dP)), lR xt, lI ((oN dT))] [(vI 14), (.ref xt), (.int ch_)])) rfl (by rw [hml]; rfl) (Steps.refl _) (argsL := [(vI 14)]) (rest := [(.int ch_)]) (lenOf pd_26 rfl) rfl (lz rfl) (hb hby d41_377) (fun _ _ => ⟨rfl, e1, (by decide : 0 + 0 ≤ _), (by decide : 0 + 0 ≤ _)⟩)
   dsimp only [Pt.U, Pt.locs, Pt.cells, Pt.slots] at X2 l2 y2 z2 st2 hQ2
   subst y2 z2
   obtain ⟨rfl, N2q, e2⟩ := hQ2
   have N2 : Fr n0 L2 := by rw [l2]; exact Fr.app N1 N2q
   refine ⟨T2, _, X2, e2, N2, fun target kt => ?_⟩
   show SH T0 360 #[lR xs, lI ((oN dP)), lR xt, lI ((oN dT))] []
   refine XS.iloadN X0.here hx rfl (hb hby d41_360) rfl ?_
   show SH T0 361 #[lR xs, lI ((oN dP)), lR xt, lI ((oN dT))] [(.int (oN dT))]
   refine XS.bipush X0.here hx rfl (hb hby d41_361) ?_
   show SH T0 363 #[lR xs, lI ((oN dP)), lR xt, lI ((oN dT))] [(vI 14), (.int (oN dT))]
   refine XS.icmpNo X0.here hx rfl (hb hby d41_363) rfl (tlt (show (14 : Int32) < (oN dT) from own_ltI (A := 14) (B := dT) (by omega) (by omega))).2.2.2 ?_
   show SH T0 366 #[lR xs, lI ((oN dP)), lR xt, lI ((oN dT))] []
   refine XS.aloadN X0.here hx rfl (hb hby d41_366) rfl rfl ?_
   show SH T0 367 #[lR xs, lI ((oN dP)), lR xt, lI ((oN dT))] [(.ref xs)]
   refine XS.iloadN X0.here hx rfl (hb hby d41_367) rfl ?_
   show SH T0 368 #[lR xs, lI ((oN dP)), lR xt, lI ((oN dT))] [(.int (oN dP)), (.ref xs)]
   refine XS.bipush X0.here hx rfl (hb hby d41_368) ?_
   show SH T0 370 #[lR xs, lI ((oN dP)), lR xt, lI ((oN dT))] [(vI 14), (.int (oN dP)), (.ref xs)]
   refine XS.iadd X0.here hx rfl (hb hby d41_370) rfl ?_
   show SH T0 371 #[lR xs, lI ((oN dP)), lR xt, lI ((oN dT))] [(.int ((oN dP) + (14 : Int32))), (.ref xs)]
   rw [show ((oN dP) + (14 : Int32)) = (oN (dP + 14)) from own_addI dP 14]
   refine st1.trans ?_
   show SH T1 374 #[lR xs, lI ((oN dP)), lR xt, lI ((oN dT))] [(.int ch_)]
   refine XS.aloadN X1.here hx rfl (hb hby d41_374) rfl rfl ?_
   show SH T1 375 #[lR xs, lI ((oN dP)), lR xt, lI ((oN dT))] [(.ref xt), (.int ch_)]
   refine XS.bipush X1.here hx rfl (hb hby d41_375) ?_
   show SH T1 377 #[lR xs, lI ((oN dP)), lR xt, lI ((oN dT))] [(vI 14), (.ref xt), (.int ch_)]
   refine st2.trans ?_
   show SH T2 380 #[lR xs, lI ((oN dP)), lR xt, lI ((oN dT))] [(.int ch_), (.int ch_)]
   refine XS.icmpYes X2.here hx rfl (pc0 := 380) (pc' := 385) rfl (hb hby d41_380) rfl (teq (rfl : ch_ = ch_)).1 (by decide) (by decide) ?_
   exact kt
 · refine ⟨T0, _, X0, e0, N0, fun target kt => ?_⟩
   show SH T0 360 #[lR xs, lI ((oN dP)), lR xt, lI ((oN dT))] []
   refine XS.iloadN X0.here hx rfl (hb hby d41_360) rfl ?_
   show SH T0 361 #[lR xs, lI ((oN dP)), lR xt, lI ((oN dT))] [(.int (oN dT))]
   refine XS.bipush X0.here hx rfl (hb hby d41_361) ?_
   show SH T0 363 #[lR xs, lI ((oN dP)), lR xt, lI ((oN dT))] [(vI 14), (.int (oN dT))]
   refine XS.icmpYes X0.here hx rfl (pc0 := 363) (pc' := 385) rfl (hb hby d41_363) rfl (flt (show ¬ ((14 : Int32) < (oN dT)) from own_leI (A := 14) (B := dT) (by omega) (by decide))).2.2.2 (by decide) (by decide) ?_
   exact kt
theorem sl_15 {p : Program} {l : Launch} {e : Env} {s : State} {m : MethodId} {args : Array Value} {below : List Frame} {meth : Method} {c : Code} {T0 : State} {locs : List Loc} {Z : State} {a0 : Array Value} {h0 : Heap} {n0 : Nat} {cz : Int32} {dg : Addr} {fm : Value} {xs xb : Addr} {ks : ClassId} {dS : Nat} {uS : List Value} {xt tb : Addr} {kt : ClassId} {dT : Nat} {uT ua ub : List Value} {dP : Nat}
   (X0 : Stand p l e (rO 4 0 0 54) s m args below meth c T0 locs 0 0) (hx : p.tables.exec = Jvm.exec) (hZ : Z.Warmed39 s.vm) (hw : HW Z a0) (hby : c.code = method_5_code) (hml : c.maxLocals = 4) (hown : s.vm.findClass sL = some m.cls) (e0 : T0.heap = h0) (O0 : Old Z n0 h0) (P : Pins Z cz dg fm) (N0 : Fr n0 locs) (B : LitB Z h0 xs xb ks dS uS xt tb kt dT uT ua ub dP) :
   ∃ (T' : State) (locs' : List Loc), Stand p l e (rO 4 0 0 54) s m args below meth c T' locs' 0 0 ∧ T'.heap = h0 ∧ Fr n0 locs' ∧ ∀ target, SG p e below T' m 410 #[lR xs, lI ((oN dP)), lR xt, lI ((oN dT))] [] target → SG p e below T0 m 385 #[lR xs, lI ((oN dP)), lR xt, lI ((oN dT))] [] target := by
 obtain ⟨Es, Vs, Cs, As, Et, Vt, Ct, At, hE, hP, hT, hd2, hd0, hd1, hch⟩ := B
 by_cases q : 15 < dT
 · obtain ⟨ch_, hc_, hh_⟩ := own_ce (k := 15) hch (by omega)
   obtain ⟨cq1, kq1, q1a, q1b, q1c⟩ := isOf hZ e0 Es
   obtain ⟨_, _, ⟨T1, L1, k1, n1⟩, -, X1, ⟨Lc1, hQ1, l1, y1, z1⟩, st1⟩ := X0.virtualBack hx (y := M44) (z := M44) hown (mvT hZ (wd hw 212 rfl)) (mvT hZ (wd hw 213 rfl)) (notFace_of_selects (args := #[]) (mvT hZ (wd hw 215 rfl))) (mvT hZ (wd hw 215 rfl)) (mvT hZ (wd hw 214 rfl)) (by decide) (backOf (W := 0) (rm36_64 l Z a0 hw [] cz dg fm xs (dP + 15) xb ks dS uS ch_ h0 n0 O0 P Es Cs Vs As (by omega) (by omega) (by omega) (by omega) (own_el (P := dP) (k := 15) hE hP hc_) hh_) hZ (wd hw 216 rfl) (wd hw 28 rfl) (by decide) (by decide)) q1a q1c (g := (mkF m 396 #[lR xs, lI ((oN dP)), lR xt, lI ((oN dT))] [(.int (oN (dP + 15))), (.ref xs)])) rfl (by rw [hml]; rfl) (Steps.refl _) (argsL := [(.int (oN (dP + 15)))]) (rest := []) (lenOf pd_26 rfl) rfl (lz rfl) (hb hby d41_396) (fun _ _ => ⟨rfl, e0, (by decide : 0 + 0 ≤ _), (by decide : 0 + 0 ≤ _)⟩)
   dsimp only [Pt.U, Pt.locs, Pt.cells, Pt.slots] at X1 l1 y1 z1 st1 hQ1
   subst y1 z1
   obtain ⟨rfl, N1q, e1⟩ := hQ1
   have N1 : Fr n0 L1 := by rw [l1]; exact Fr.app N0 N1q
   obtain ⟨cq2, kq2, q2a, q2b, q2c⟩ := isOf hZ e1 Et
   obtain ⟨_, _, ⟨T2, L2, k2, n2⟩, -, X2, ⟨Lc2, hQ2, l2, y2, z2⟩, st2⟩ := X1.virtualBack hx (y := M44) (z := M44) hown (mvT hZ (wd hw 212 rfl)) (mvT hZ (wd hw 213 rfl)) (notFace_of_selects (args := #[]) (mvT hZ (wd hw 215 rfl))) (mvT hZ (wd hw 215 rfl)) (mvT hZ (wd hw 214 rfl)) (by decide) (backOf (W := 1) (rm36_64 l Z a0 hw [] cz dg fm xt 15 tb kt dT uT ch_ h0 n0 O0 P Et Ct Vt At (by decide) (by decide) (by omega) (by omega) hc_ hh_) hZ (wd hw 216 rfl) (wd hw 28 rfl) (by decide) (by decide)) q2a q2c (g := (mkF m 402 #[lR xs, lI ((oN dP)), lR xt, lI ((oN dT))] [(vI 15), (.ref xt), (.int ch_)])) rfl (by rw [hml]; rfl) (Steps.refl _) (argsL := [(vI 15)]) (rest := [(.int ch_)]) (lenOf pd_26 rfl) rfl (lz rfl) (hb hby d41_402) (fun _ _ => ⟨rfl, e1, (by decide : 0 + 0 ≤ _), (by decide : 0 + 0 ≤ _)⟩)
   dsimp only [Pt.U, Pt.locs, Pt.cells, Pt.slots] at X2 l2 y2 z2 st2 hQ2
   subst y2 z2
   obtain ⟨rfl, N2q, e2⟩ := hQ2
   have N2 : Fr n0 L2 := by rw [l2]; exact Fr.app N1 N2q
   refine ⟨T2, _, X2, e2, N2, fun target kt => ?_⟩
   show SH T0 385 #[lR xs, lI ((oN dP)), lR xt, lI ((oN dT))] []
   refine XS.iloadN X0.here hx rfl (hb hby d41_385) rfl ?_
   show SH T0 386 #[lR xs, lI ((oN dP)), lR xt, lI ((oN dT))] [(.int (oN dT))]
   refine XS.bipush X0.here hx rfl (hb hby d41_386) ?_
   show SH T0 388 #[lR xs, lI ((oN dP)), lR xt, lI ((oN dT))] [(vI 15), (.int (oN dT))]
   refine XS.icmpNo X0.here hx rfl (hb hby d41_388) rfl (tlt (show (15 : Int32) < (oN dT) from own_ltI (A := 15) (B := dT) (by omega) (by omega))).2.2.2 ?_
   show SH T0 391 #[lR xs, lI ((oN dP)), lR xt, lI ((oN dT))] []
   refine XS.aloadN X0.here hx rfl (hb hby d41_391) rfl rfl ?_
   show SH T0 392 #[lR xs, lI ((oN dP)), lR xt, lI ((oN dT))] [(.ref xs)]
   refine XS.iloadN X0.here hx rfl (hb hby d41_392) rfl ?_
   show SH T0 393 #[lR xs, lI ((oN dP)), lR xt, lI ((oN dT))] [(.int (oN dP)), (.ref xs)]
   refine XS.bipush X0.here hx rfl (hb hby d41_393) ?_
   show SH T0 395 #[lR xs, lI ((oN dP)), lR xt, lI ((oN dT))] [(vI 15), (.int (oN dP)), (.ref xs)]
   refine XS.iadd X0.here hx rfl (hb hby d41_395) rfl ?_
   show SH T0 396 #[lR xs, lI ((oN dP)), lR xt, lI ((oN dT))] [(.int ((oN dP) + (15 : Int32))), (.ref xs)]
   rw [show ((oN dP) + (15 : Int32)) = (oN (dP + 15)) from own_addI dP 15]
   refine st1.trans ?_
   show SH T1 399 #[lR xs, lI ((oN dP)), lR xt, lI ((oN dT))] [(.int ch_)]
   refine XS.aloadN X1.here hx rfl (hb hby d41_399) rfl rfl ?_
   show SH T1 400 #[lR xs, lI ((oN dP)), lR xt, lI ((oN dT))] [(.ref xt), (.int ch_)]
   refine XS.bipush X1.here hx rfl (hb hby d41_400) ?_
   show SH T1 402 #[lR xs, lI ((oN dP)), lR xt, lI ((oN dT))] [(vI 15), (.ref xt), (.int ch_)]
   refine st2.trans ?_
   show SH T2 405 #[lR xs, lI ((oN dP)), lR xt, lI ((oN dT))] [(.int ch_), (.int ch_)]
   refine XS.icmpYes X2.here hx rfl (pc0 := 405) (pc' := 410) rfl (hb hby d41_405) rfl (teq (rfl : ch_ = ch_)).1 (by decide) (by decide) ?_
   exact kt
 · refine ⟨T0, _, X0, e0, N0, fun target kt => ?_⟩
   show SH T0 385 #[lR xs, lI ((oN dP)), lR xt, lI ((oN dT))] []
   refine XS.iloadN X0.here hx rfl (hb hby d41_385) rfl ?_
   show SH T0 386 #[lR xs, lI ((oN dP)), lR xt, lI ((oN dT))] [(.int (oN dT))]
   refine XS.bipush X0.here hx rfl (hb hby d41_386) ?_
   show SH T0 388 #[lR xs, lI ((oN dP)), lR xt, lI ((oN dT))] [(vI 15), (.int (oN dT))]
   refine XS.icmpYes X0.here hx rfl (pc0 := 388) (pc' := 410) rfl (hb hby d41_388) rfl (flt (show ¬ ((15 : Int32) < (oN dT)) from own_leI (A := 15) (B := dT) (by omega) (by decide))).2.2.2 (by decide) (by decide) ?_
   exact kt
theorem d41_410 : decode K41 410 = .ok (.iload_n 1, 1) := by decide +kernel
theorem d41_411 : decode K41 411 = .ok (.iload_n 3, 1) := by decide +kernel
theorem d41_412 : decode K41 412 = .ok (.iadd, 1) := by decide +kernel
theorem d41_413 : decode K41 413 = .ok (.ireturn, 1) := by decide +kernel
theorem ef_41_RIR (m : MethodId) (x0 : Addr) (x1 : Int32) (x2 : Addr) : entryFrame m #[(.ref x0), (.int x1), (.ref x2)] 4 = mkF m 0 #[.val (.ref x0), .val (.int x1), .val (.ref x2), .unset] [] := by first | (simp [entryFrame, mkF, argsToLocals, Value.category]; done) | rfl
def QrmL (Z : State) (x1 : Addr) (d2 : Nat) (x3 : Addr) (x4 : Addr) (c5 : ClassId) (d6 : Nat) (u7 : List Value) (x8 : Addr) (c9 : ClassId) (d10 : Nat) (u11 : List Value) (u12 : List Value) (u13 : List Value) (h0 : Heap) (n0 : Nat) (v : Option Value) (h : Heap) (L : List Loc) : Prop := v = some (.int (oN (d2 + d10))) ∧ Fr n0 L ∧ h = h0
theorem rmL (l : Launch) (Z : State) (a0 : Array Value) (hw : HW Z a0) (ws : List Jvm.Cond) (cz : Int32) (dg : Addr) (fm : Value) (x1 : Addr) (d2 : Nat) (x3 : Addr) (x4 : Addr) (c5 : ClassId) (d6 : Nat) (u7 : List Value) (x8 : Addr) (c9 : ClassId) (d10 : Nat) (u11 : List Value) (u12 : List Value) (u13 : List Value) (h0 : Heap) (n0 : Nat) (O0 : Old Z n0 h0) (P : Pins Z cz dg fm) (E_x1 : Exa Z h0 x1 sS) (F_x1_value : sV Z h0 x1 x4) (F_x1_coder : sC Z h0 x1) (V_x4 : bA Z h0 x4 c5 (oN d6) u7) (E_x3 : Exa Z h0 x3 sS) (F_x3_value : sV Z h0 x3 x8) (F_x3_coder : sC Z h0 x3) (V_x8 : bA Z h0 x8 c9 (oN d10) u11) (hE : u7 = u12 ++ (u11 ++ u13)) (hP : u12.length = d2) (hT : u11.length = d10) (hd2 : d10 ≤ 16) (hd0 : d2 + d10 ≤ d6) (hd1 : d6 ≤ 120) (hch : own_chs u11) :
   Ctr l M46 (Jvm.Cond.code M46 method_5_code 4 (some .int) :: ws) (rO 4 0 0 54) Z h0 #[(.ref x1), (.int (oN d2)), (.ref x3)] (QrmL Z x1 d2 x3 x4 c5 d6 u7 x8 c9 d10 u11 u12 u13 h0 n0) := by
 refine own_body (own := sL) rfl (plainFor_of_name pN0) O0 (fun m => ef_41_RIR m x1 (oN d2) x3) ?_
 intro p e s m below meth c s₁ Bd hZ hx hby hml hown X0 e0 Z0
 have N0 := Fr.nil n0
 have B : LitB Z h0 x1 x4 c5 d6 u7 x3 x8 c9 d10 u11 u12 u13 d2 := ⟨E_x1, F_x1_value, F_x1_coder, V_x4, E_x3, F_x3_value, F_x3_coder, V_x8, hE, hP, hT, hd2, hd0, hd1, hch⟩
 obtain ⟨cq1, kq1, q1a, q1b, q1c⟩ := isOf hZ e0 E_x3
 obtain ⟨_, _, ⟨T1, L1, k1, n1⟩, -, X1, ⟨Lc1, hQ1, l1, y1, z1⟩, st1⟩ := X0.virtualBack hx (y := M18) (z := M18) hown (mvT hZ (wd hw 211 rfl)) (mvT hZ (wd hw 86 rfl)) (notFace_of_selects (args := #[]) (mvT hZ (wd hw 88 rfl))) (mvT hZ (wd hw 88 rfl)) (mvT hZ (wd hw 87 rfl)) (by decide) (backOf (W := 0) (rm15_19 l Z a0 hw [] cz dg fm x3 x8 c9 d10 u11 h0 n0 O0 P F_x3_value V_x8 E_x3 F_x3_coder) hZ (wd hw 89 rfl) (wd hw 28 rfl) (by decide) (by decide)) q1a q1c (g := (mkF m 7 #[lR x1, lI ((oN d2)), lR x3, lU] [(.ref x3)])) rfl (by rw [hml]; rfl) (Steps.refl _) (argsL := []) (rest := []) (lenOf pd_8 rfl) rfl (lz rfl) (hb hby d41_7) (fun _ _ => ⟨rfl, e0, (by decide : 0 + 0 ≤ _), (by decide : 0 + 0 ≤ _)⟩)
 dsimp only [Pt.U, Pt.locs, Pt.cells, Pt.slots] at X1 l1 y1 z1 st1 hQ1
 subst y1 z1
 obtain ⟨rfl, N1q, e1⟩ := hQ1
 have N1 : Fr n0 L1 := by rw [l1]; exact Fr.app N0 N1q
 obtain ⟨cq2, kq2, q2a, q2b, q2c⟩ := isOf hZ e1 E_x1
 obtain ⟨_, _, ⟨T2, L2, k2, n2⟩, -, X2, ⟨Lc2, hQ2, l2, y2, z2⟩, st2⟩ := X1.virtualBack hx (y := M18) (z := M18) hown (mvT hZ (wd hw 211 rfl)) (mvT hZ (wd hw 86 rfl)) (notFace_of_selects (args := #[]) (mvT hZ (wd hw 88 rfl))) (mvT hZ (wd hw 88 rfl)) (mvT hZ (wd hw 87 rfl)) (by decide) (backOf (W := 1) (rm15_19 l Z a0 hw [] cz dg fm x1 x4 c5 d6 u7 h0 n0 O0 P F_x1_value V_x4 E_x1 F_x1_coder) hZ (wd hw 89 rfl) (wd hw 28 rfl) (by decide) (by decide)) q2a q2c (g := (mkF m 23 #[lR x1, lI ((oN d2)), lR x3, lI ((oN d10))] [(.ref x1), (.int (oN (d2 + d10)))])) rfl (by rw [hml]; rfl) (Steps.refl _) (argsL := []) (rest := [(.int (oN (d2 + d10)))]) (lenOf pd_8 rfl) rfl (lz rfl) (hb hby d41_23) (fun _ _ => ⟨rfl, e1, (by decide : 0 + 0 ≤ _), (by decide : 0 + 0 ≤ _)⟩)
 dsimp only [Pt.U, Pt.locs, Pt.cells, Pt.slots] at X2 l2 y2 z2 st2 hQ2
 subst y2 z2
 obtain ⟨rfl, N2q, e2⟩ := hQ2
 have N2 : Fr n0 L2 := by rw [l2]; exact Fr.app N1 N2q
 obtain ⟨T3, L3, X3, e3, N3, st3⟩ := sl_0 X2 hx hZ hw hby hml hown e2 O0 P N2 B
 obtain ⟨T4, L4, X4, e4, N4, st4⟩ := sl_1 X3 hx hZ hw hby hml hown e3 O0 P N3 B
 obtain ⟨T5, L5, X5, e5, N5, st5⟩ := sl_2 X4 hx hZ hw hby hml hown e4 O0 P N4 B
 obtain ⟨T6, L6, X6, e6, N6, st6⟩ := sl_3 X5 hx hZ hw hby hml hown e5 O0 P N5 B
 obtain ⟨T7, L7, X7, e7, N7, st7⟩ := sl_4 X6 hx hZ hw hby hml hown e6 O0 P N6 B
 obtain ⟨T8, L8, X8, e8, N8, st8⟩ := sl_5 X7 hx hZ hw hby hml hown e7 O0 P N7 B
 obtain ⟨T9, L9, X9, e9, N9, st9⟩ := sl_6 X8 hx hZ hw hby hml hown e8 O0 P N8 B
 obtain ⟨T10, L10, X10, e10, N10, st10⟩ := sl_7 X9 hx hZ hw hby hml hown e9 O0 P N9 B
 obtain ⟨T11, L11, X11, e11, N11, st11⟩ := sl_8 X10 hx hZ hw hby hml hown e10 O0 P N10 B
 obtain ⟨T12, L12, X12, e12, N12, st12⟩ := sl_9 X11 hx hZ hw hby hml hown e11 O0 P N11 B
 obtain ⟨T13, L13, X13, e13, N13, st13⟩ := sl_10 X12 hx hZ hw hby hml hown e12 O0 P N12 B
 obtain ⟨T14, L14, X14, e14, N14, st14⟩ := sl_11 X13 hx hZ hw hby hml hown e13 O0 P N13 B
 obtain ⟨T15, L15, X15, e15, N15, st15⟩ := sl_12 X14 hx hZ hw hby hml hown e14 O0 P N14 B
 obtain ⟨T16, L16, X16, e16, N16, st16⟩ := sl_13 X15 hx hZ hw hby hml hown e15 O0 P N15 B
 obtain ⟨T17, L17, X17, e17, N17, st17⟩ := sl_14 X16 hx hZ hw hby hml hown e16 O0 P N16 B
 obtain ⟨T18, L18, X18, e18, N18, st18⟩ := sl_15 X17 hx hZ hw hby hml hown e17 O0 P N17 B
 obtain ⟨fs, hr, hrun, hended, hW, hsame⟩ := X18.leave (v := some (.int (oN (d2 + d10)))) (fun h => by rw [Bd.returns] at h; cases h)
 refine ⟨_, _, ?_, hrun, hended, _, _, rfl, ?_, ⟨_, rfl⟩, hW, hsame.mono (by decide) (by decide)⟩
 · show SH s₁ 0 #[lR x1, lI ((oN d2)), lR x3, lU] []
   refine XS.iloadN X0.here hx rfl (hb hby d41_0) rfl ?_
   show SH s₁ 1 #[lR x1, lI ((oN d2)), lR x3, lU] [(.int (oN d2))]
   refine XS.ifYes X0.here hx rfl (pc0 := 1) (pc' := 6) rfl (hb hby d41_1) rfl ((if0 _ _).trans (flt (show ¬ ((oN d2) < (0 : Int32)) from own_leI (A := d2) (B := 0) (by omega) (by omega))).2.1) (by decide) (by decide) ?_
   show SH s₁ 6 #[lR x1, lI ((oN d2)), lR x3, lU] []
   refine XS.aloadN X0.here hx rfl (hb hby d41_6) rfl rfl ?_
   show SH s₁ 7 #[lR x1, lI ((oN d2)), lR x3, lU] [(.ref x3)]
   refine st1.trans ?_
   show SH T1 10 #[lR x1, lI ((oN d2)), lR x3, lU] [(.int (oN d10))]
   refine XS.istoreN X1.here hx rfl (hb hby d41_10) rfl (l' := #[lR x1, lI ((oN d2)), lR x3, lI ((oN d10))]) rfl ?_
   show SH T1 11 #[lR x1, lI ((oN d2)), lR x3, lI ((oN d10))] []
   refine XS.iloadN X1.here hx rfl (hb hby d41_11) rfl ?_
   show SH T1 12 #[lR x1, lI ((oN d2)), lR x3, lI ((oN d10))] [(.int (oN d10))]
   refine XS.bipush X1.here hx rfl (hb hby d41_12) ?_
   show SH T1 14 #[lR x1, lI ((oN d2)), lR x3, lI ((oN d10))] [(vI 16), (.int (oN d10))]
   refine XS.icmpYes X1.here hx rfl (pc0 := 14) (pc' := 19) rfl (hb hby d41_14) rfl (flt (show ¬ ((16 : Int32) < (oN d10)) from own_leI (A := 16) (B := d10) (by omega) (by decide))).2.2.2 (by decide) (by decide) ?_
   show SH T1 19 #[lR x1, lI ((oN d2)), lR x3, lI ((oN d10))] []
   refine XS.iloadN X1.here hx rfl (hb hby d41_19) rfl ?_
   show SH T1 20 #[lR x1, lI ((oN d2)), lR x3, lI ((oN d10))] [(.int (oN d2))]
   refine XS.iloadN X1.here hx rfl (hb hby d41_20) rfl ?_
   show SH T1 21 #[lR x1, lI ((oN d2)), lR x3, lI ((oN d10))] [(.int (oN d10)), (.int (oN d2))]
   refine XS.iadd X1.here hx rfl (hb hby d41_21) rfl ?_
   show SH T1 22 #[lR x1, lI ((oN d2)), lR x3, lI ((oN d10))] [(.int ((oN d2) + (oN d10)))]
   rw [show ((oN d2) + (oN d10)) = (oN (d2 + d10)) from own_addI d2 d10]
   refine XS.aloadN X1.here hx rfl (hb hby d41_22) rfl rfl ?_
   show SH T1 23 #[lR x1, lI ((oN d2)), lR x3, lI ((oN d10))] [(.ref x1), (.int (oN (d2 + d10)))]
   refine st2.trans ?_
   show SH T2 26 #[lR x1, lI ((oN d2)), lR x3, lI ((oN d10))] [(.int (oN d6)), (.int (oN (d2 + d10)))]
   refine XS.icmpYes X2.here hx rfl (pc0 := 26) (pc' := 31) rfl (hb hby d41_26) rfl (flt (show ¬ ((oN d6) < (oN (d2 + d10))) from own_leI (A := d6) (B := (d2 + d10)) (by omega) (by omega))).2.2.2 (by decide) (by decide) ?_
   show SH T2 31 #[lR x1, lI ((oN d2)), lR x3, lI ((oN d10))] []
   refine st3 _ ?_
   show SH T3 50 #[lR x1, lI ((oN d2)), lR x3, lI ((oN d10))] []
   refine st4 _ ?_
   show SH T4 72 #[lR x1, lI ((oN d2)), lR x3, lI ((oN d10))] []
   refine st5 _ ?_
   show SH T5 94 #[lR x1, lI ((oN d2)), lR x3, lI ((oN d10))] []
   refine st6 _ ?_
   show SH T6 116 #[lR x1, lI ((oN d2)), lR x3, lI ((oN d10))] []
   refine st7 _ ?_
   show SH T7 138 #[lR x1, lI ((oN d2)), lR x3, lI ((oN d10))] []
   refine st8 _ ?_
   show SH T8 160 #[lR x1, lI ((oN d2)), lR x3, lI ((oN d10))] []
   refine st9 _ ?_
   show SH T9 185 #[lR x1, lI ((oN d2)), lR x3, lI ((oN d10))] []
   refine st10 _ ?_
   show SH T10 210 #[lR x1, lI ((oN d2)), lR x3, lI ((oN d10))] []
   refine st11 _ ?_
   show SH T11 235 #[lR x1, lI ((oN d2)), lR x3, lI ((oN d10))] []
   refine st12 _ ?_
   show SH T12 260 #[lR x1, lI ((oN d2)), lR x3, lI ((oN d10))] []
   refine st13 _ ?_
   show SH T13 285 #[lR x1, lI ((oN d2)), lR x3, lI ((oN d10))] []
   refine st14 _ ?_
   show SH T14 310 #[lR x1, lI ((oN d2)), lR x3, lI ((oN d10))] []
   refine st15 _ ?_
   show SH T15 335 #[lR x1, lI ((oN d2)), lR x3, lI ((oN d10))] []
   refine st16 _ ?_
   show SH T16 360 #[lR x1, lI ((oN d2)), lR x3, lI ((oN d10))] []
   refine st17 _ ?_
   show SH T17 385 #[lR x1, lI ((oN d2)), lR x3, lI ((oN d10))] []
   refine st18 _ ?_
   show SH T18 410 #[lR x1, lI ((oN d2)), lR x3, lI ((oN d10))] []
   refine XS.iloadN X18.here hx rfl (hb hby d41_410) rfl ?_
   show SH T18 411 #[lR x1, lI ((oN d2)), lR x3, lI ((oN d10))] [(.int (oN d2))]
   refine XS.iloadN X18.here hx rfl (hb hby d41_411) rfl ?_
   show SH T18 412 #[lR x1, lI ((oN d2)), lR x3, lI ((oN d10))] [(.int (oN d10)), (.int (oN d2))]
   refine XS.iadd X18.here hx rfl (hb hby d41_412) rfl ?_
   show SH T18 413 #[lR x1, lI ((oN d2)), lR x3, lI ((oN d10))] [(.int ((oN d2) + (oN d10)))]
   rw [show ((oN d2) + (oN d10)) = (oN (d2 + d10)) from own_addI d2 d10]
   exact retI X18 hx Bd.returns (hb hby d41_413) hr
 · exact ⟨rfl, N18, e18⟩
theorem pd_28 : parseMethodDescriptor "(Ljava/lang/String;ILjava/lang/String;)I" = some ⟨[(.object sS), .int, (.object sS)], some .int⟩ := by decide +kernel
theorem d34_29 : decode K34 29 = .ok (.istore 4, 2) := by decide +kernel
theorem d34_31 : decode K34 31 = .ok (.iload_n 2, 1) := by decide +kernel
theorem d34_32 : decode K34 32 = .ok (.iconst 1, 1) := by decide +kernel
theorem d34_33 : decode K34 33 = .ok (.if_icmp .eq 13, 3) := by decide +kernel
theorem d34_36 : decode K34 36 = .ok (.aload_n 0, 1) := by decide +kernel
theorem d34_37 : decode K34 37 = .ok (.iload 4, 2) := by decide +kernel
theorem d34_39 : decode K34 39 = .ok (.bipush 115, 2) := by decide +kernel
theorem d34_41 : decode K34 41 = .ok (.invokestatic 71, 3) := by decide +kernel
theorem d34_44 : decode K34 44 = .ok (.istore 4, 2) := by decide +kernel
theorem d34_46 : decode K34 46 = .ok (.iload 4, 2) := by decide +kernel
theorem d34_48 : decode K34 48 = .ok (.ireturn, 1) := by decide +kernel
theorem ef_34_RIIR (m : MethodId) (x0 : Addr) (x1 : Int32) (x2 : Int32) (x3 : Addr) : entryFrame m #[(.ref x0), (.int x1), (.int x2), (.ref x3)] 5 = mkF m 0 #[.val (.ref x0), .val (.int x1), .val (.int x2), .val (.ref x3), .unset] [] := by first | (simp [entryFrame, mkF, argsToLocals, Value.category]; done) | rfl
def QrmK_0 (Z : State) (x1 : Addr) (d2 : Nat) (x3 : Addr) (x4 : Addr) (c5 : ClassId) (d6 : Nat) (u7 : List Value) (x8 : Addr) (c9 : ClassId) (d10 : Nat) (u11 : List Value) (u12 : List Value) (u13 : List Value) (h0 : Heap) (n0 : Nat) (v : Option Value) (h : Heap) (L : List Loc) : Prop := v = some (.int (oN ((((d2 + 1) + 1) + d10) + 1))) ∧ Fr n0 L ∧ h = h0
theorem rmK_0 (l : Launch) (Z : State) (a0 : Array Value) (hw : HW Z a0) (ws : List Jvm.Cond) (cz : Int32) (dg : Addr) (fm : Value) (x1 : Addr) (d2 : Nat) (x3 : Addr) (x4 : Addr) (c5 : ClassId) (d6 : Nat) (u7 : List Value) (x8 : Addr) (c9 : ClassId) (d10 : Nat) (u11 : List Value) (u12 : List Value) (u13 : List Value) (h0 : Heap) (n0 : Nat) (O0 : Old Z n0 h0) (P : Pins Z cz dg fm) (E_x1 : Exa Z h0 x1 sS) (F_x1_value : sV Z h0 x1 x4) (F_x1_coder : sC Z h0 x1) (V_x4 : bA Z h0 x4 c5 (oN d6) u7) (E_x3 : Exa Z h0 x3 sS) (F_x3_value : sV Z h0 x3 x8) (F_x3_coder : sC Z h0 x3) (V_x8 : bA Z h0 x8 c9 (oN d10) u11) (hE : u7 = u12 ++ ((segc (0 : Int32) u11) ++ u13)) (hP : u12.length = d2) (hT : u11.length = d10) (hd2 : d10 ≤ 15) (hd0 : d2 + (segc (0 : Int32) u11).length ≤ d6) (hd1 : d6 ≤ 120) (hch : own_chs u11) :
   Ctr l M47 (Jvm.Cond.code M47 method_3_code 5 (some .int) :: ws) (rO 5 0 0 69) Z h0 #[(.ref x1), (.int (oN d2)), (vI 0), (.ref x3)] (QrmK_0 Z x1 d2 x3 x4 c5 d6 u7 x8 c9 d10 u11 u12 u13 h0 n0) := by
 refine own_body (own := sL) rfl (plainFor_of_name pN0) O0 (fun m => ef_34_RIIR m x1 (oN d2) (0 : Int32) x3) ?_
 intro p e s m below meth c s₁ Bd hZ hx hby hml hown X0 e0 Z0
 have N0 := Fr.nil n0
 have hd3 : d2 + (d10 + 3) ≤ d6 := by have q := hd0; rw [own_sk0 (by decide), hT] at q; exact q
 obtain ⟨_, _, ⟨T1, L1, k1, n1⟩, -, X1, ⟨Lc1, hQ1, l1, y1, z1⟩, st1⟩ := Jvm.LawKit.callS X0 hx (y := M45) hown (mvT hZ (wd hw 208 rfl)) (mvT hZ (wd hw 209 rfl)) (mvT hZ (wd hw 206 rfl)) (mvT hZ (wd hw 210 rfl)) (by decide) (backOf (W := 0) (rmH l Z a0 hw [] cz dg fm x1 d2 (48 : Int32) x4 c5 d6 u7 h0 n0 O0 P E_x1 F_x1_value F_x1_coder V_x4 (own_el (P := d2) (k := 0) hE hP rfl) ⟨by decide, by decide⟩ (by omega) hd1) hZ (wd hw 210 rfl) (wd hw 206 rfl) (by decide) (by decide)) (g := (mkF m 7 #[lR x1, lI ((oN d2)), lI 0, lR x3, lU] [(vI 48), (.int (oN d2)), (.ref x1)])) rfl (by rw [hml]; rfl) (argsL := [(.ref x1), (.int (oN d2)), (vI 48)]) (rest := []) (lenOf pd_27 rfl) rfl (lz rfl) (hb hby d34_7) (fun _ _ => ⟨rfl, e0, (by decide : 0 + 0 ≤ _), (by decide : 0 + 0 ≤ _)⟩)
 dsimp only [Pt.U, Pt.locs, Pt.cells, Pt.slots] at X1 l1 y1 z1 st1 hQ1
 subst y1 z1
 obtain ⟨rfl, N1q, e1⟩ := hQ1
 have N1 : Fr n0 L1 := by rw [l1]; exact Fr.app N0 N1q
 obtain ⟨_, _, ⟨T2, L2, k2, n2⟩, -, X2, ⟨Lc2, hQ2, l2, y2, z2⟩, st2⟩ := Jvm.LawKit.callS X1 hx (y := M45) hown (mvT hZ (wd hw 208 rfl)) (mvT hZ (wd hw 209 rfl)) (mvT hZ (wd hw 206 rfl)) (mvT hZ (wd hw 210 rfl)) (by decide) (backOf (W := 0) (rmH l Z a0 hw [] cz dg fm x1 (d2 + 1) (32 : Int32) x4 c5 d6 u7 h0 n0 O0 P E_x1 F_x1_value F_x1_coder V_x4 (own_el (P := d2) (k := 1) hE hP rfl) ⟨by decide, by decide⟩ (by omega) hd1) hZ (wd hw 210 rfl) (wd hw 206 rfl) (by decide) (by decide)) (g := (mkF m 17 #[lR x1, lI ((oN d2)), lI 0, lR x3, lI ((oN (d2 + 1)))] [(vI 32), (.int (oN (d2 + 1))), (.ref x1)])) rfl (by rw [hml]; rfl) (argsL := [(.ref x1), (.int (oN (d2 + 1))), (vI 32)]) (rest := []) (lenOf pd_27 rfl) rfl (lz rfl) (hb hby d34_17) (fun _ _ => ⟨rfl, e1, (by decide : 0 + 0 ≤ _), (by decide : 0 + 0 ≤ _)⟩)
 dsimp only [Pt.U, Pt.locs, Pt.cells, Pt.slots] at X2 l2 y2 z2 st2 hQ2
 subst y2 z2
 obtain ⟨rfl, N2q, e2⟩ := hQ2
 have N2 : Fr n0 L2 := by rw [l2]; exact Fr.app N1 N2q
 obtain ⟨_, _, ⟨T3, L3, k3, n3⟩, -, X3, ⟨Lc3, hQ3, l3, y3, z3⟩, st3⟩ := Jvm.LawKit.callS X2 hx (y := M46) hown (mvT hZ (wd hw 234 rfl)) (mvT hZ (wd hw 235 rfl)) (mvT hZ (wd hw 206 rfl)) (mvT hZ (wd hw 236 rfl)) (by decide) (backOf (W := 0) (rmL l Z a0 hw [] cz dg fm x1 ((d2 + 1) + 1) x3 x4 c5 d6 u7 x8 c9 d10 u11 (u12 ++ [.int ((48 : Int32) + (0 : Int32)), .int (32 : Int32)]) ([.int (115 : Int32)] ++ u13) h0 n0 O0 P E_x1 F_x1_value F_x1_coder V_x4 E_x3 F_x3_value F_x3_coder V_x8 (own_s0 (by decide) hE) (own_p2 hP) hT (by omega) (by omega) hd1 hch) hZ (wd hw 236 rfl) (wd hw 206 rfl) (by decide) (by decide)) (g := (mkF m 26 #[lR x1, lI ((oN d2)), lI 0, lR x3, lI ((oN ((d2 + 1) + 1)))] [(.ref x3), (.int (oN ((d2 + 1) + 1))), (.ref x1)])) rfl (by rw [hml]; rfl) (argsL := [(.ref x1), (.int (oN ((d2 + 1) + 1))), (.ref x3)]) (rest := []) (lenOf pd_28 rfl) rfl (lz rfl) (hb hby d34_26) (fun _ _ => ⟨rfl, e2, (by decide : 0 + 0 ≤ _), (by decide : 0 + 0 ≤ _)⟩)
 dsimp only [Pt.U, Pt.locs, Pt.cells, Pt.slots] at X3 l3 y3 z3 st3 hQ3
 subst y3 z3
 obtain ⟨rfl, N3q, e3⟩ := hQ3
 have N3 : Fr n0 L3 := by rw [l3]; exact Fr.app N2 N3q
 obtain ⟨_, _, ⟨T4, L4, k4, n4⟩, -, X4, ⟨Lc4, hQ4, l4, y4, z4⟩, st4⟩ := Jvm.LawKit.callS X3 hx (y := M45) hown (mvT hZ (wd hw 208 rfl)) (mvT hZ (wd hw 209 rfl)) (mvT hZ (wd hw 206 rfl)) (mvT hZ (wd hw 210 rfl)) (by decide) (backOf (W := 0) (rmH l Z a0 hw [] cz dg fm x1 (((d2 + 1) + 1) + d10) (115 : Int32) x4 c5 d6 u7 h0 n0 O0 P E_x1 F_x1_value F_x1_coder V_x4 (own_sn (by decide) hE hP hT) ⟨by decide, by decide⟩ (by omega) hd1) hZ (wd hw 210 rfl) (wd hw 206 rfl) (by decide) (by decide)) (g := (mkF m 41 #[lR x1, lI ((oN d2)), lI 0, lR x3, lI ((oN (((d2 + 1) + 1) + d10)))] [(vI 115), (.int (oN (((d2 + 1) + 1) + d10))), (.ref x1)])) rfl (by rw [hml]; rfl) (argsL := [(.ref x1), (.int (oN (((d2 + 1) + 1) + d10))), (vI 115)]) (rest := []) (lenOf pd_27 rfl) rfl (lz rfl) (hb hby d34_41) (fun _ _ => ⟨rfl, e3, (by decide : 0 + 0 ≤ _), (by decide : 0 + 0 ≤ _)⟩)
 dsimp only [Pt.U, Pt.locs, Pt.cells, Pt.slots] at X4 l4 y4 z4 st4 hQ4
 subst y4 z4
 obtain ⟨rfl, N4q, e4⟩ := hQ4
 have N4 : Fr n0 L4 := by rw [l4]; exact Fr.app N3 N4q
 obtain ⟨fs, hr, hrun, hended, hW, hsame⟩ := X4.leave (v := some (.int (oN ((((d2 + 1) + 1) + d10) + 1)))) (fun h => by rw [Bd.returns] at h; cases h)
 refine ⟨_, _, ?_, hrun, hended, _, _, rfl, ?_, ⟨_, rfl⟩, hW, hsame.mono (by decide) (by decide)⟩
 · show SH s₁ 0 #[lR x1, lI ((oN d2)), lI 0, lR x3, lU] []
   refine XS.aloadN X0.here hx rfl (hb hby d34_0) rfl rfl ?_
   show SH s₁ 1 #[lR x1, lI ((oN d2)), lI 0, lR x3, lU] [(.ref x1)]
   refine XS.iloadN X0.here hx rfl (hb hby d34_1) rfl ?_
   show SH s₁ 2 #[lR x1, lI ((oN d2)), lI 0, lR x3, lU] [(.int (oN d2)), (.ref x1)]
   refine XS.bipush X0.here hx rfl (hb hby d34_2) ?_
   show SH s₁ 4 #[lR x1, lI ((oN d2)), lI 0, lR x3, lU] [(vI 48), (.int (oN d2)), (.ref x1)]
   refine XS.iloadN X0.here hx rfl (hb hby d34_4) rfl ?_
   show SH s₁ 5 #[lR x1, lI ((oN d2)), lI 0, lR x3, lU] [(vI 0), (vI 48), (.int (oN d2)), (.ref x1)]
   refine XS.iadd X0.here hx rfl (hb hby d34_5) rfl ?_
   show SH s₁ 6 #[lR x1, lI ((oN d2)), lI 0, lR x3, lU] [(.int ((48 : Int32) + (0 : Int32))), (.int (oN d2)), (.ref x1)]
   rw [show ((48 : Int32) + (0 : Int32)) = (48 : Int32) from by decide]
   refine XS.i2c X0.here hx rfl (hb hby d34_6) rfl ?_
   show SH s₁ 7 #[lR x1, lI ((oN d2)), lI 0, lR x3, lU] [(.int ((48 : Int32).toUInt32.toUInt16.toUInt32.toInt32)), (.int (oN d2)), (.ref x1)]
   rw [show ((48 : Int32).toUInt32.toUInt16.toUInt32.toInt32) = (48 : Int32) from by decide]
   refine st1 _ ?_
   show SH T1 10 #[lR x1, lI ((oN d2)), lI 0, lR x3, lU] [(.int (oN (d2 + 1)))]
   refine XS.istore X1.here hx rfl (hb hby d34_10) rfl (l' := #[lR x1, lI ((oN d2)), lI 0, lR x3, lI ((oN (d2 + 1)))]) rfl ?_
   show SH T1 12 #[lR x1, lI ((oN d2)), lI 0, lR x3, lI ((oN (d2 + 1)))] []
   refine XS.aloadN X1.here hx rfl (hb hby d34_12) rfl rfl ?_
   show SH T1 13 #[lR x1, lI ((oN d2)), lI 0, lR x3, lI ((oN (d2 + 1)))] [(.ref x1)]
   refine XS.iload X1.here hx rfl (hb hby d34_13) rfl ?_
   show SH T1 15 #[lR x1, lI ((oN d2)), lI 0, lR x3, lI ((oN (d2 + 1)))] [(.int (oN (d2 + 1))), (.ref x1)]
   refine XS.bipush X1.here hx rfl (hb hby d34_15) ?_
   show SH T1 17 #[lR x1, lI ((oN d2)), lI 0, lR x3, lI ((oN (d2 + 1)))] [(vI 32), (.int (oN (d2 + 1))), (.ref x1)]
   refine st2 _ ?_
   show SH T2 20 #[lR x1, lI ((oN d2)), lI 0, lR x3, lI ((oN (d2 + 1)))] [(.int (oN ((d2 + 1) + 1)))]
   refine XS.istore X2.here hx rfl (hb hby d34_20) rfl (l' := #[lR x1, lI ((oN d2)), lI 0, lR x3, lI ((oN ((d2 + 1) + 1)))]) rfl ?_
   show SH T2 22 #[lR x1, lI ((oN d2)), lI 0, lR x3, lI ((oN ((d2 + 1) + 1)))] []
   refine XS.aloadN X2.here hx rfl (hb hby d34_22) rfl rfl ?_
   show SH T2 23 #[lR x1, lI ((oN d2)), lI 0, lR x3, lI ((oN ((d2 + 1) + 1)))] [(.ref x1)]
   refine XS.iload X2.here hx rfl (hb hby d34_23) rfl ?_
   show SH T2 25 #[lR x1, lI ((oN d2)), lI 0, lR x3, lI ((oN ((d2 + 1) + 1)))] [(.int (oN ((d2 + 1) + 1))), (.ref x1)]
   refine XS.aloadN X2.here hx rfl (hb hby d34_25) rfl rfl ?_
   show SH T2 26 #[lR x1, lI ((oN d2)), lI 0, lR x3, lI ((oN ((d2 + 1) + 1)))] [(.ref x3), (.int (oN ((d2 + 1) + 1))), (.ref x1)]
   refine st3 _ ?_
   show SH T3 29 #[lR x1, lI ((oN d2)), lI 0, lR x3, lI ((oN ((d2 + 1) + 1)))] [(.int (oN (((d2 + 1) + 1) + d10)))]
   refine XS.istore X3.here hx rfl (hb hby d34_29) rfl (l' := #[lR x1, lI ((oN d2)), lI 0, lR x3, lI ((oN (((d2 + 1) + 1) + d10)))]) rfl ?_
   show SH T3 31 #[lR x1, lI ((oN d2)), lI 0, lR x3, lI ((oN (((d2 + 1) + 1) + d10)))] []
   refine XS.iloadN X3.here hx rfl (hb hby d34_31) rfl ?_
   show SH T3 32 #[lR x1, lI ((oN d2)), lI 0, lR x3, lI ((oN (((d2 + 1) + 1) + d10)))] [(vI 0)]
   refine XS.iconst X3.here hx rfl (hb hby d34_32) ?_
   show SH T3 33 #[lR x1, lI ((oN d2)), lI 0, lR x3, lI ((oN (((d2 + 1) + 1) + d10)))] [(vI 1), (vI 0)]
   refine XS.icmpNo X3.here hx rfl (hb hby d34_33) rfl (by decide) ?_
   show SH T3 36 #[lR x1, lI ((oN d2)), lI 0, lR x3, lI ((oN (((d2 + 1) + 1) + d10)))] []
   refine XS.aloadN X3.here hx rfl (hb hby d34_36) rfl rfl ?_
   show SH T3 37 #[lR x1, lI ((oN d2)), lI 0, lR x3, lI ((oN (((d2 + 1) + 1) + d10)))] [(.ref x1)]
   refine XS.iload X3.here hx rfl (hb hby d34_37) rfl ?_
   show SH T3 39 #[lR x1, lI ((oN d2)), lI 0, lR x3, lI ((oN (((d2 + 1) + 1) + d10)))] [(.int (oN (((d2 + 1) + 1) + d10))), (.ref x1)]
   refine XS.bipush X3.here hx rfl (hb hby d34_39) ?_
   show SH T3 41 #[lR x1, lI ((oN d2)), lI 0, lR x3, lI ((oN (((d2 + 1) + 1) + d10)))] [(vI 115), (.int (oN (((d2 + 1) + 1) + d10))), (.ref x1)]
   refine st4 _ ?_
   show SH T4 44 #[lR x1, lI ((oN d2)), lI 0, lR x3, lI ((oN (((d2 + 1) + 1) + d10)))] [(.int (oN ((((d2 + 1) + 1) + d10) + 1)))]
   refine XS.istore X4.here hx rfl (hb hby d34_44) rfl (l' := #[lR x1, lI ((oN d2)), lI 0, lR x3, lI ((oN ((((d2 + 1) + 1) + d10) + 1)))]) rfl ?_
   show SH T4 46 #[lR x1, lI ((oN d2)), lI 0, lR x3, lI ((oN ((((d2 + 1) + 1) + d10) + 1)))] []
   refine XS.iload X4.here hx rfl (hb hby d34_46) rfl ?_
   show SH T4 48 #[lR x1, lI ((oN d2)), lI 0, lR x3, lI ((oN ((((d2 + 1) + 1) + d10) + 1)))] [(.int (oN ((((d2 + 1) + 1) + d10) + 1)))]
   exact retI X4 hx Bd.returns (hb hby d34_48) hr
 · exact ⟨rfl, N4, e4⟩
def QrmK_1 (Z : State) (x1 : Addr) (d2 : Nat) (x3 : Addr) (x4 : Addr) (c5 : ClassId) (d6 : Nat) (u7 : List Value) (x8 : Addr) (c9 : ClassId) (d10 : Nat) (u11 : List Value) (u12 : List Value) (u13 : List Value) (h0 : Heap) (n0 : Nat) (v : Option Value) (h : Heap) (L : List Loc) : Prop := v = some (.int (oN (((d2 + 1) + 1) + d10))) ∧ Fr n0 L ∧ h = h0
theorem rmK_1 (l : Launch) (Z : State) (a0 : Array Value) (hw : HW Z a0) (ws : List Jvm.Cond) (cz : Int32) (dg : Addr) (fm : Value) (x1 : Addr) (d2 : Nat) (x3 : Addr) (x4 : Addr) (c5 : ClassId) (d6 : Nat) (u7 : List Value) (x8 : Addr) (c9 : ClassId) (d10 : Nat) (u11 : List Value) (u12 : List Value) (u13 : List Value) (h0 : Heap) (n0 : Nat) (O0 : Old Z n0 h0) (P : Pins Z cz dg fm) (E_x1 : Exa Z h0 x1 sS) (F_x1_value : sV Z h0 x1 x4) (F_x1_coder : sC Z h0 x1) (V_x4 : bA Z h0 x4 c5 (oN d6) u7) (E_x3 : Exa Z h0 x3 sS) (F_x3_value : sV Z h0 x3 x8) (F_x3_coder : sC Z h0 x3) (V_x8 : bA Z h0 x8 c9 (oN d10) u11) (hE : u7 = u12 ++ ((segc (1 : Int32) u11) ++ u13)) (hP : u12.length = d2) (hT : u11.length = d10) (hd2 : d10 ≤ 15) (hd0 : d2 + (segc (1 : Int32) u11).length ≤ d6) (hd1 : d6 ≤ 120) (hch : own_chs u11) :
   Ctr l M47 (Jvm.Cond.code M47 method_3_code 5 (some .int) :: ws) (rO 5 0 0 69) Z h0 #[(.ref x1), (.int (oN d2)), (vI 1), (.ref x3)] (QrmK_1 Z x1 d2 x3 x4 c5 d6 u7 x8 c9 d10 u11 u12 u13 h0 n0) := by
 refine own_body (own := sL) rfl (plainFor_of_name pN0) O0 (fun m => ef_34_RIIR m x1 (oN d2) (1 : Int32) x3) ?_
 intro p e s m below meth c s₁ Bd hZ hx hby hml hown X0 e0 Z0
 have N0 := Fr.nil n0
 have hd3 : d2 + (d10 + 2) ≤ d6 := by have q := hd0; rw [own_sk1, hT] at q; exact q
 obtain ⟨_, _, ⟨T1, L1, k1, n1⟩, -, X1, ⟨Lc1, hQ1, l1, y1, z1⟩, st1⟩ := Jvm.LawKit.callS X0 hx (y := M45) hown (mvT hZ (wd hw 208 rfl)) (mvT hZ (wd hw 209 rfl)) (mvT hZ (wd hw 206 rfl)) (mvT hZ (wd hw 210 rfl)) (by decide) (backOf (W := 0) (rmH l Z a0 hw [] cz dg fm x1 d2 (49 : Int32) x4 c5 d6 u7 h0 n0 O0 P E_x1 F_x1_value F_x1_coder V_x4 (own_el (P := d2) (k := 0) hE hP rfl) ⟨by decide, by decide⟩ (by omega) hd1) hZ (wd hw 210 rfl) (wd hw 206 rfl) (by decide) (by decide)) (g := (mkF m 7 #[lR x1, lI ((oN d2)), lI 1, lR x3, lU] [(vI 49), (.int (oN d2)), (.ref x1)])) rfl (by rw [hml]; rfl) (argsL := [(.ref x1), (.int (oN d2)), (vI 49)]) (rest := []) (lenOf pd_27 rfl) rfl (lz rfl) (hb hby d34_7) (fun _ _ => ⟨rfl, e0, (by decide : 0 + 0 ≤ _), (by decide : 0 + 0 ≤ _)⟩)
 dsimp only [Pt.U, Pt.locs, Pt.cells, Pt.slots] at X1 l1 y1 z1 st1 hQ1
 subst y1 z1
 obtain ⟨rfl, N1q, e1⟩ := hQ1
 have N1 : Fr n0 L1 := by rw [l1]; exact Fr.app N0 N1q
 obtain ⟨_, _, ⟨T2, L2, k2, n2⟩, -, X2, ⟨Lc2, hQ2, l2, y2, z2⟩, st2⟩ := Jvm.LawKit.callS X1 hx (y := M45) hown (mvT hZ (wd hw 208 rfl)) (mvT hZ (wd hw 209 rfl)) (mvT hZ (wd hw 206 rfl)) (mvT hZ (wd hw 210 rfl)) (by decide) (backOf (W := 0) (rmH l Z a0 hw [] cz dg fm x1 (d2 + 1) (32 : Int32) x4 c5 d6 u7 h0 n0 O0 P E_x1 F_x1_value F_x1_coder V_x4 (own_el (P := d2) (k := 1) hE hP rfl) ⟨by decide, by decide⟩ (by omega) hd1) hZ (wd hw 210 rfl) (wd hw 206 rfl) (by decide) (by decide)) (g := (mkF m 17 #[lR x1, lI ((oN d2)), lI 1, lR x3, lI ((oN (d2 + 1)))] [(vI 32), (.int (oN (d2 + 1))), (.ref x1)])) rfl (by rw [hml]; rfl) (argsL := [(.ref x1), (.int (oN (d2 + 1))), (vI 32)]) (rest := []) (lenOf pd_27 rfl) rfl (lz rfl) (hb hby d34_17) (fun _ _ => ⟨rfl, e1, (by decide : 0 + 0 ≤ _), (by decide : 0 + 0 ≤ _)⟩)
 dsimp only [Pt.U, Pt.locs, Pt.cells, Pt.slots] at X2 l2 y2 z2 st2 hQ2
 subst y2 z2
 obtain ⟨rfl, N2q, e2⟩ := hQ2
 have N2 : Fr n0 L2 := by rw [l2]; exact Fr.app N1 N2q
 obtain ⟨_, _, ⟨T3, L3, k3, n3⟩, -, X3, ⟨Lc3, hQ3, l3, y3, z3⟩, st3⟩ := Jvm.LawKit.callS X2 hx (y := M46) hown (mvT hZ (wd hw 234 rfl)) (mvT hZ (wd hw 235 rfl)) (mvT hZ (wd hw 206 rfl)) (mvT hZ (wd hw 236 rfl)) (by decide) (backOf (W := 0) (rmL l Z a0 hw [] cz dg fm x1 ((d2 + 1) + 1) x3 x4 c5 d6 u7 x8 c9 d10 u11 (u12 ++ [.int ((48 : Int32) + (1 : Int32)), .int (32 : Int32)]) u13 h0 n0 O0 P E_x1 F_x1_value F_x1_coder V_x4 E_x3 F_x3_value F_x3_coder V_x8 (own_s1 hE) (own_p2 hP) hT (by omega) (by omega) hd1 hch) hZ (wd hw 236 rfl) (wd hw 206 rfl) (by decide) (by decide)) (g := (mkF m 26 #[lR x1, lI ((oN d2)), lI 1, lR x3, lI ((oN ((d2 + 1) + 1)))] [(.ref x3), (.int (oN ((d2 + 1) + 1))), (.ref x1)])) rfl (by rw [hml]; rfl) (argsL := [(.ref x1), (.int (oN ((d2 + 1) + 1))), (.ref x3)]) (rest := []) (lenOf pd_28 rfl) rfl (lz rfl) (hb hby d34_26) (fun _ _ => ⟨rfl, e2, (by decide : 0 + 0 ≤ _), (by decide : 0 + 0 ≤ _)⟩)
 dsimp only [Pt.U, Pt.locs, Pt.cells, Pt.slots] at X3 l3 y3 z3 st3 hQ3
 subst y3 z3
 obtain ⟨rfl, N3q, e3⟩ := hQ3
 have N3 : Fr n0 L3 := by rw [l3]; exact Fr.app N2 N3q
 obtain ⟨fs, hr, hrun, hended, hW, hsame⟩ := X3.leave (v := some (.int (oN (((d2 + 1) + 1) + d10)))) (fun h => by rw [Bd.returns] at h; cases h)
 refine ⟨_, _, ?_, hrun, hended, _, _, rfl, ?_, ⟨_, rfl⟩, hW, hsame.mono (by decide) (by decide)⟩
 · show SH s₁ 0 #[lR x1, lI ((oN d2)), lI 1, lR x3, lU] []
   refine XS.aloadN X0.here hx rfl (hb hby d34_0) rfl rfl ?_
   show SH s₁ 1 #[lR x1, lI ((oN d2)), lI 1, lR x3, lU] [(.ref x1)]
   refine XS.iloadN X0.here hx rfl (hb hby d34_1) rfl ?_
   show SH s₁ 2 #[lR x1, lI ((oN d2)), lI 1, lR x3, lU] [(.int (oN d2)), (.ref x1)]
   refine XS.bipush X0.here hx rfl (hb hby d34_2) ?_
   show SH s₁ 4 #[lR x1, lI ((oN d2)), lI 1, lR x3, lU] [(vI 48), (.int (oN d2)), (.ref x1)]
   refine XS.iloadN X0.here hx rfl (hb hby d34_4) rfl ?_
   show SH s₁ 5 #[lR x1, lI ((oN d2)), lI 1, lR x3, lU] [(vI 1), (vI 48), (.int (oN d2)), (.ref x1)]
   refine XS.iadd X0.here hx rfl (hb hby d34_5) rfl ?_
   show SH s₁ 6 #[lR x1, lI ((oN d2)), lI 1, lR x3, lU] [(.int ((48 : Int32) + (1 : Int32))), (.int (oN d2)), (.ref x1)]
   rw [show ((48 : Int32) + (1 : Int32)) = (49 : Int32) from by decide]
   refine XS.i2c X0.here hx rfl (hb hby d34_6) rfl ?_
   show SH s₁ 7 #[lR x1, lI ((oN d2)), lI 1, lR x3, lU] [(.int ((49 : Int32).toUInt32.toUInt16.toUInt32.toInt32)), (.int (oN d2)), (.ref x1)]
   rw [show ((49 : Int32).toUInt32.toUInt16.toUInt32.toInt32) = (49 : Int32) from by decide]
   refine st1 _ ?_
   show SH T1 10 #[lR x1, lI ((oN d2)), lI 1, lR x3, lU] [(.int (oN (d2 + 1)))]
   refine XS.istore X1.here hx rfl (hb hby d34_10) rfl (l' := #[lR x1, lI ((oN d2)), lI 1, lR x3, lI ((oN (d2 + 1)))]) rfl ?_
   show SH T1 12 #[lR x1, lI ((oN d2)), lI 1, lR x3, lI ((oN (d2 + 1)))] []
   refine XS.aloadN X1.here hx rfl (hb hby d34_12) rfl rfl ?_
   show SH T1 13 #[lR x1, lI ((oN d2)), lI 1, lR x3, lI ((oN (d2 + 1)))] [(.ref x1)]
   refine XS.iload X1.here hx rfl (hb hby d34_13) rfl ?_
   show SH T1 15 #[lR x1, lI ((oN d2)), lI 1, lR x3, lI ((oN (d2 + 1)))] [(.int (oN (d2 + 1))), (.ref x1)]
   refine XS.bipush X1.here hx rfl (hb hby d34_15) ?_
   show SH T1 17 #[lR x1, lI ((oN d2)), lI 1, lR x3, lI ((oN (d2 + 1)))] [(vI 32), (.int (oN (d2 + 1))), (.ref x1)]
   refine st2 _ ?_
   show SH T2 20 #[lR x1, lI ((oN d2)), lI 1, lR x3, lI ((oN (d2 + 1)))] [(.int (oN ((d2 + 1) + 1)))]
   refine XS.istore X2.here hx rfl (hb hby d34_20) rfl (l' := #[lR x1, lI ((oN d2)), lI 1, lR x3, lI ((oN ((d2 + 1) + 1)))]) rfl ?_
   show SH T2 22 #[lR x1, lI ((oN d2)), lI 1, lR x3, lI ((oN ((d2 + 1) + 1)))] []
   refine XS.aloadN X2.here hx rfl (hb hby d34_22) rfl rfl ?_
   show SH T2 23 #[lR x1, lI ((oN d2)), lI 1, lR x3, lI ((oN ((d2 + 1) + 1)))] [(.ref x1)]
   refine XS.iload X2.here hx rfl (hb hby d34_23) rfl ?_
   show SH T2 25 #[lR x1, lI ((oN d2)), lI 1, lR x3, lI ((oN ((d2 + 1) + 1)))] [(.int (oN ((d2 + 1) + 1))), (.ref x1)]
   refine XS.aloadN X2.here hx rfl (hb hby d34_25) rfl rfl ?_
   show SH T2 26 #[lR x1, lI ((oN d2)), lI 1, lR x3, lI ((oN ((d2 + 1) + 1)))] [(.ref x3), (.int (oN ((d2 + 1) + 1))), (.ref x1)]
   refine st3 _ ?_
   show SH T3 29 #[lR x1, lI ((oN d2)), lI 1, lR x3, lI ((oN ((d2 + 1) + 1)))] [(.int (oN (((d2 + 1) + 1) + d10)))]
   refine XS.istore X3.here hx rfl (hb hby d34_29) rfl (l' := #[lR x1, lI ((oN d2)), lI 1, lR x3, lI ((oN (((d2 + 1) + 1) + d10)))]) rfl ?_
   show SH T3 31 #[lR x1, lI ((oN d2)), lI 1, lR x3, lI ((oN (((d2 + 1) + 1) + d10)))] []
   refine XS.iloadN X3.here hx rfl (hb hby d34_31) rfl ?_
   show SH T3 32 #[lR x1, lI ((oN d2)), lI 1, lR x3, lI ((oN (((d2 + 1) + 1) + d10)))] [(vI 1)]
   refine XS.iconst X3.here hx rfl (hb hby d34_32) ?_
   show SH T3 33 #[lR x1, lI ((oN d2)), lI 1, lR x3, lI ((oN (((d2 + 1) + 1) + d10)))] [(vI 1), (vI 1)]
   refine XS.icmpYes X3.here hx rfl (pc0 := 33) (pc' := 46) rfl (hb hby d34_33) rfl (by decide) (by decide) (by decide) ?_
   show SH T3 46 #[lR x1, lI ((oN d2)), lI 1, lR x3, lI ((oN (((d2 + 1) + 1) + d10)))] []
   refine XS.iload X3.here hx rfl (hb hby d34_46) rfl ?_
   show SH T3 48 #[lR x1, lI ((oN d2)), lI 1, lR x3, lI ((oN (((d2 + 1) + 1) + d10)))] [(.int (oN (((d2 + 1) + 1) + d10)))]
   exact retI X3 hx Bd.returns (hb hby d34_48) hr
 · exact ⟨rfl, N3, e3⟩
def QrmK_2 (Z : State) (x1 : Addr) (d2 : Nat) (x3 : Addr) (x4 : Addr) (c5 : ClassId) (d6 : Nat) (u7 : List Value) (x8 : Addr) (c9 : ClassId) (d10 : Nat) (u11 : List Value) (u12 : List Value) (u13 : List Value) (h0 : Heap) (n0 : Nat) (v : Option Value) (h : Heap) (L : List Loc) : Prop := v = some (.int (oN ((((d2 + 1) + 1) + d10) + 1))) ∧ Fr n0 L ∧ h = h0
theorem rmK_2 (l : Launch) (Z : State) (a0 : Array Value) (hw : HW Z a0) (ws : List Jvm.Cond) (cz : Int32) (dg : Addr) (fm : Value) (x1 : Addr) (d2 : Nat) (x3 : Addr) (x4 : Addr) (c5 : ClassId) (d6 : Nat) (u7 : List Value) (x8 : Addr) (c9 : ClassId) (d10 : Nat) (u11 : List Value) (u12 : List Value) (u13 : List Value) (h0 : Heap) (n0 : Nat) (O0 : Old Z n0 h0) (P : Pins Z cz dg fm) (E_x1 : Exa Z h0 x1 sS) (F_x1_value : sV Z h0 x1 x4) (F_x1_coder : sC Z h0 x1) (V_x4 : bA Z h0 x4 c5 (oN d6) u7) (E_x3 : Exa Z h0 x3 sS) (F_x3_value : sV Z h0 x3 x8) (F_x3_coder : sC Z h0 x3) (V_x8 : bA Z h0 x8 c9 (oN d10) u11) (hE : u7 = u12 ++ ((segc (2 : Int32) u11) ++ u13)) (hP : u12.length = d2) (hT : u11.length = d10) (hd2 : d10 ≤ 15) (hd0 : d2 + (segc (2 : Int32) u11).length ≤ d6) (hd1 : d6 ≤ 120) (hch : own_chs u11) :
   Ctr l M47 (Jvm.Cond.code M47 method_3_code 5 (some .int) :: ws) (rO 5 0 0 69) Z h0 #[(.ref x1), (.int (oN d2)), (vI 2), (.ref x3)] (QrmK_2 Z x1 d2 x3 x4 c5 d6 u7 x8 c9 d10 u11 u12 u13 h0 n0) := by
 refine own_body (own := sL) rfl (plainFor_of_name pN0) O0 (fun m => ef_34_RIIR m x1 (oN d2) (2 : Int32) x3) ?_
 intro p e s m below meth c s₁ Bd hZ hx hby hml hown X0 e0 Z0
 have N0 := Fr.nil n0
 have hd3 : d2 + (d10 + 3) ≤ d6 := by have q := hd0; rw [own_sk0 (by decide), hT] at q; exact q
 obtain ⟨_, _, ⟨T1, L1, k1, n1⟩, -, X1, ⟨Lc1, hQ1, l1, y1, z1⟩, st1⟩ := Jvm.LawKit.callS X0 hx (y := M45) hown (mvT hZ (wd hw 208 rfl)) (mvT hZ (wd hw 209 rfl)) (mvT hZ (wd hw 206 rfl)) (mvT hZ (wd hw 210 rfl)) (by decide) (backOf (W := 0) (rmH l Z a0 hw [] cz dg fm x1 d2 (50 : Int32) x4 c5 d6 u7 h0 n0 O0 P E_x1 F_x1_value F_x1_coder V_x4 (own_el (P := d2) (k := 0) hE hP rfl) ⟨by decide, by decide⟩ (by omega) hd1) hZ (wd hw 210 rfl) (wd hw 206 rfl) (by decide) (by decide)) (g := (mkF m 7 #[lR x1, lI ((oN d2)), lI 2, lR x3, lU] [(vI 50), (.int (oN d2)), (.ref x1)])) rfl (by rw [hml]; rfl) (argsL := [(.ref x1), (.int (oN d2)), (vI 50)]) (rest := []) (lenOf pd_27 rfl) rfl (lz rfl) (hb hby d34_7) (fun _ _ => ⟨rfl, e0, (by decide : 0 + 0 ≤ _), (by decide : 0 + 0 ≤ _)⟩)
 dsimp only [Pt.U, Pt.locs, Pt.cells, Pt.slots] at X1 l1 y1 z1 st1 hQ1
 subst y1 z1
 obtain ⟨rfl, N1q, e1⟩ := hQ1
 have N1 : Fr n0 L1 := by rw [l1]; exact Fr.app N0 N1q
 obtain ⟨_, _, ⟨T2, L2, k2, n2⟩, -, X2, ⟨Lc2, hQ2, l2, y2, z2⟩, st2⟩ := Jvm.LawKit.callS X1 hx (y := M45) hown (mvT hZ (wd hw 208 rfl)) (mvT hZ (wd hw 209 rfl)) (mvT hZ (wd hw 206 rfl)) (mvT hZ (wd hw 210 rfl)) (by decide) (backOf (W := 0) (rmH l Z a0 hw [] cz dg fm x1 (d2 + 1) (32 : Int32) x4 c5 d6 u7 h0 n0 O0 P E_x1 F_x1_value F_x1_coder V_x4 (own_el (P := d2) (k := 1) hE hP rfl) ⟨by decide, by decide⟩ (by omega) hd1) hZ (wd hw 210 rfl) (wd hw 206 rfl) (by decide) (by decide)) (g := (mkF m 17 #[lR x1, lI ((oN d2)), lI 2, lR x3, lI ((oN (d2 + 1)))] [(vI 32), (.int (oN (d2 + 1))), (.ref x1)])) rfl (by rw [hml]; rfl) (argsL := [(.ref x1), (.int (oN (d2 + 1))), (vI 32)]) (rest := []) (lenOf pd_27 rfl) rfl (lz rfl) (hb hby d34_17) (fun _ _ => ⟨rfl, e1, (by decide : 0 + 0 ≤ _), (by decide : 0 + 0 ≤ _)⟩)
 dsimp only [Pt.U, Pt.locs, Pt.cells, Pt.slots] at X2 l2 y2 z2 st2 hQ2
 subst y2 z2
 obtain ⟨rfl, N2q, e2⟩ := hQ2
 have N2 : Fr n0 L2 := by rw [l2]; exact Fr.app N1 N2q
 obtain ⟨_, _, ⟨T3, L3, k3, n3⟩, -, X3, ⟨Lc3, hQ3, l3, y3, z3⟩, st3⟩ := Jvm.LawKit.callS X2 hx (y := M46) hown (mvT hZ (wd hw 234 rfl)) (mvT hZ (wd hw 235 rfl)) (mvT hZ (wd hw 206 rfl)) (mvT hZ (wd hw 236 rfl)) (by decide) (backOf (W := 0) (rmL l Z a0 hw [] cz dg fm x1 ((d2 + 1) + 1) x3 x4 c5 d6 u7 x8 c9 d10 u11 (u12 ++ [.int ((48 : Int32) + (2 : Int32)), .int (32 : Int32)]) ([.int (115 : Int32)] ++ u13) h0 n0 O0 P E_x1 F_x1_value F_x1_coder V_x4 E_x3 F_x3_value F_x3_coder V_x8 (own_s0 (by decide) hE) (own_p2 hP) hT (by omega) (by omega) hd1 hch) hZ (wd hw 236 rfl) (wd hw 206 rfl) (by decide) (by decide)) (g := (mkF m 26 #[lR x1, lI ((oN d2)), lI 2, lR x3, lI ((oN ((d2 + 1) + 1)))] [(.ref x3), (.int (oN ((d2 + 1) + 1))), (.ref x1)])) rfl (by rw [hml]; rfl) (argsL := [(.ref x1), (.int (oN ((d2 + 1) + 1))), (.ref x3)]) (rest := []) (lenOf pd_28 rfl) rfl (lz rfl) (hb hby d34_26) (fun _ _ => ⟨rfl, e2, (by decide : 0 + 0 ≤ _), (by decide : 0 + 0 ≤ _)⟩)
 dsimp only [Pt.U, Pt.locs, Pt.cells, Pt.slots] at X3 l3 y3 z3 st3 hQ3
 subst y3 z3
 obtain ⟨rfl, N3q, e3⟩ := hQ3
 have N3 : Fr n0 L3 := by rw [l3]; exact Fr.app N2 N3q
 obtain ⟨_, _, ⟨T4, L4, k4, n4⟩, -, X4, ⟨Lc4, hQ4, l4, y4, z4⟩, st4⟩ := Jvm.LawKit.callS X3 hx (y := M45) hown (mvT hZ (wd hw 208 rfl)) (mvT hZ (wd hw 209 rfl)) (mvT hZ (wd hw 206 rfl)) (mvT hZ (wd hw 210 rfl)) (by decide) (backOf (W := 0) (rmH l Z a0 hw [] cz dg fm x1 (((d2 + 1) + 1) + d10) (115 : Int32) x4 c5 d6 u7 h0 n0 O0 P E_x1 F_x1_value F_x1_coder V_x4 (own_sn (by decide) hE hP hT) ⟨by decide, by decide⟩ (by omega) hd1) hZ (wd hw 210 rfl) (wd hw 206 rfl) (by decide) (by decide)) (g := (mkF m 41 #[lR x1, lI ((oN d2)), lI 2, lR x3, lI ((oN (((d2 + 1) + 1) + d10)))] [(vI 115), (.int (oN (((d2 + 1) + 1) + d10))), (.ref x1)])) rfl (by rw [hml]; rfl) (argsL := [(.ref x1), (.int (oN (((d2 + 1) + 1) + d10))), (vI 115)]) (rest := []) (lenOf pd_27 rfl) rfl (lz rfl) (hb hby d34_41) (fun _ _ => ⟨rfl, e3, (by decide : 0 + 0 ≤ _), (by decide : 0 + 0 ≤ _)⟩)
 dsimp only [Pt.U, Pt.locs, Pt.cells, Pt.slots] at X4 l4 y4 z4 st4 hQ4
 subst y4 z4
 obtain ⟨rfl, N4q, e4⟩ := hQ4
 have N4 : Fr n0 L4 := by rw [l4]; exact Fr.app N3 N4q
 obtain ⟨fs, hr, hrun, hended, hW, hsame⟩ := X4.leave (v := some (.int (oN ((((d2 + 1) + 1) + d10) + 1)))) (fun h => by rw [Bd.returns] at h; cases h)
 refine ⟨_, _, ?_, hrun, hended, _, _, rfl, ?_, ⟨_, rfl⟩, hW, hsame.mono (by decide) (by decide)⟩
 · show SH s₁ 0 #[lR x1, lI ((oN d2)), lI 2, lR x3, lU] []
   refine XS.aloadN X0.here hx rfl (hb hby d34_0) rfl rfl ?_
   show SH s₁ 1 #[lR x1, lI ((oN d2)), lI 2, lR x3, lU] [(.ref x1)]
   refine XS.iloadN X0.here hx rfl (hb hby d34_1) rfl ?_
   show SH s₁ 2 #[lR x1, lI ((oN d2)), lI 2, lR x3, lU] [(.int (oN d2)), (.ref x1)]
   refine XS.bipush X0.here hx rfl (hb hby d34_2) ?_
   show SH s₁ 4 #[lR x1, lI ((oN d2)), lI 2, lR x3, lU] [(vI 48), (.int (oN d2)), (.ref x1)]
   refine XS.iloadN X0.here hx rfl (hb hby d34_4) rfl ?_
   show SH s₁ 5 #[lR x1, lI ((oN d2)), lI 2, lR x3, lU] [(vI 2), (vI 48), (.int (oN d2)), (.ref x1)]
   refine XS.iadd X0.here hx rfl (hb hby d34_5) rfl ?_
   show SH s₁ 6 #[lR x1, lI ((oN d2)), lI 2, lR x3, lU] [(.int ((48 : Int32) + (2 : Int32))), (.int (oN d2)), (.ref x1)]
   rw [show ((48 : Int32) + (2 : Int32)) = (50 : Int32) from by decide]
   refine XS.i2c X0.here hx rfl (hb hby d34_6) rfl ?_
   show SH s₁ 7 #[lR x1, lI ((oN d2)), lI 2, lR x3, lU] [(.int ((50 : Int32).toUInt32.toUInt16.toUInt32.toInt32)), (.int (oN d2)), (.ref x1)]
   rw [show ((50 : Int32).toUInt32.toUInt16.toUInt32.toInt32) = (50 : Int32) from by decide]
   refine st1 _ ?_
   show SH T1 10 #[lR x1, lI ((oN d2)), lI 2, lR x3, lU] [(.int (oN (d2 + 1)))]
   refine XS.istore X1.here hx rfl (hb hby d34_10) rfl (l' := #[lR x1, lI ((oN d2)), lI 2, lR x3, lI ((oN (d2 + 1)))]) rfl ?_
   show SH T1 12 #[lR x1, lI ((oN d2)), lI 2, lR x3, lI ((oN (d2 + 1)))] []
   refine XS.aloadN X1.here hx rfl (hb hby d34_12) rfl rfl ?_
   show SH T1 13 #[lR x1, lI ((oN d2)), lI 2, lR x3, lI ((oN (d2 + 1)))] [(.ref x1)]
   refine XS.iload X1.here hx rfl (hb hby d34_13) rfl ?_
   show SH T1 15 #[lR x1, lI ((oN d2)), lI 2, lR x3, lI ((oN (d2 + 1)))] [(.int (oN (d2 + 1))), (.ref x1)]
   refine XS.bipush X1.here hx rfl (hb hby d34_15) ?_
   show SH T1 17 #[lR x1, lI ((oN d2)), lI 2, lR x3, lI ((oN (d2 + 1)))] [(vI 32), (.int (oN (d2 + 1))), (.ref x1)]
   refine st2 _ ?_
   show SH T2 20 #[lR x1, lI ((oN d2)), lI 2, lR x3, lI ((oN (d2 + 1)))] [(.int (oN ((d2 + 1) + 1)))]
   refine XS.istore X2.here hx rfl (hb hby d34_20) rfl (l' := #[lR x1, lI ((oN d2)), lI 2, lR x3, lI ((oN ((d2 + 1) + 1)))]) rfl ?_
   show SH T2 22 #[lR x1, lI ((oN d2)), lI 2, lR x3, lI ((oN ((d2 + 1) + 1)))] []
   refine XS.aloadN X2.here hx rfl (hb hby d34_22) rfl rfl ?_
   show SH T2 23 #[lR x1, lI ((oN d2)), lI 2, lR x3, lI ((oN ((d2 + 1) + 1)))] [(.ref x1)]
   refine XS.iload X2.here hx rfl (hb hby d34_23) rfl ?_
   show SH T2 25 #[lR x1, lI ((oN d2)), lI 2, lR x3, lI ((oN ((d2 + 1) + 1)))] [(.int (oN ((d2 + 1) + 1))), (.ref x1)]
   refine XS.aloadN X2.here hx rfl (hb hby d34_25) rfl rfl ?_
   show SH T2 26 #[lR x1, lI ((oN d2)), lI 2, lR x3, lI ((oN ((d2 + 1) + 1)))] [(.ref x3), (.int (oN ((d2 + 1) + 1))), (.ref x1)]
   refine st3 _ ?_
   show SH T3 29 #[lR x1, lI ((oN d2)), lI 2, lR x3, lI ((oN ((d2 + 1) + 1)))] [(.int (oN (((d2 + 1) + 1) + d10)))]
   refine XS.istore X3.here hx rfl (hb hby d34_29) rfl (l' := #[lR x1, lI ((oN d2)), lI 2, lR x3, lI ((oN (((d2 + 1) + 1) + d10)))]) rfl ?_
   show SH T3 31 #[lR x1, lI ((oN d2)), lI 2, lR x3, lI ((oN (((d2 + 1) + 1) + d10)))] []
   refine XS.iloadN X3.here hx rfl (hb hby d34_31) rfl ?_
   show SH T3 32 #[lR x1, lI ((oN d2)), lI 2, lR x3, lI ((oN (((d2 + 1) + 1) + d10)))] [(vI 2)]
   refine XS.iconst X3.here hx rfl (hb hby d34_32) ?_
   show SH T3 33 #[lR x1, lI ((oN d2)), lI 2, lR x3, lI ((oN (((d2 + 1) + 1) + d10)))] [(vI 1), (vI 2)]
   refine XS.icmpNo X3.here hx rfl (hb hby d34_33) rfl (by decide) ?_
   show SH T3 36 #[lR x1, lI ((oN d2)), lI 2, lR x3, lI ((oN (((d2 + 1) + 1) + d10)))] []
   refine XS.aloadN X3.here hx rfl (hb hby d34_36) rfl rfl ?_
   show SH T3 37 #[lR x1, lI ((oN d2)), lI 2, lR x3, lI ((oN (((d2 + 1) + 1) + d10)))] [(.ref x1)]
   refine XS.iload X3.here hx rfl (hb hby d34_37) rfl ?_
   show SH T3 39 #[lR x1, lI ((oN d2)), lI 2, lR x3, lI ((oN (((d2 + 1) + 1) + d10)))] [(.int (oN (((d2 + 1) + 1) + d10))), (.ref x1)]
   refine XS.bipush X3.here hx rfl (hb hby d34_39) ?_
   show SH T3 41 #[lR x1, lI ((oN d2)), lI 2, lR x3, lI ((oN (((d2 + 1) + 1) + d10)))] [(vI 115), (.int (oN (((d2 + 1) + 1) + d10))), (.ref x1)]
   refine st4 _ ?_
   show SH T4 44 #[lR x1, lI ((oN d2)), lI 2, lR x3, lI ((oN (((d2 + 1) + 1) + d10)))] [(.int (oN ((((d2 + 1) + 1) + d10) + 1)))]
   refine XS.istore X4.here hx rfl (hb hby d34_44) rfl (l' := #[lR x1, lI ((oN d2)), lI 2, lR x3, lI ((oN ((((d2 + 1) + 1) + d10) + 1)))]) rfl ?_
   show SH T4 46 #[lR x1, lI ((oN d2)), lI 2, lR x3, lI ((oN ((((d2 + 1) + 1) + d10) + 1)))] []
   refine XS.iload X4.here hx rfl (hb hby d34_46) rfl ?_
   show SH T4 48 #[lR x1, lI ((oN d2)), lI 2, lR x3, lI ((oN ((((d2 + 1) + 1) + d10) + 1)))] [(.int (oN ((((d2 + 1) + 1) + d10) + 1)))]
   exact retI X4 hx Bd.returns (hb hby d34_48) hr
 · exact ⟨rfl, N4, e4⟩
theorem rmK (l : Launch) (Z : State) (a0 : Array Value) (hw : HW Z a0) (ws : List Jvm.Cond) (cz : Int32) (dg : Addr) (fm : Value) (i0 : Int32) (r0 : Nat) (x1 : Addr) (d2 : Nat) (x3 : Addr) (x4 : Addr) (c5 : ClassId) (d6 : Nat) (u7 : List Value) (x8 : Addr) (c9 : ClassId) (d10 : Nat) (u11 : List Value) (u12 : List Value) (u13 : List Value) (h0 : Heap) (n0 : Nat) (O0 : Old Z n0 h0) (P : Pins Z cz dg fm) (hN : i0 = (0 : Int32) ∨ i0 = (1 : Int32) ∨ i0 = (2 : Int32)) (E_x1 : Exa Z h0 x1 sS) (F_x1_value : sV Z h0 x1 x4) (F_x1_coder : sC Z h0 x1) (V_x4 : bA Z h0 x4 c5 (oN d6) u7) (E_x3 : Exa Z h0 x3 sS) (F_x3_value : sV Z h0 x3 x8) (F_x3_coder : sC Z h0 x3) (V_x8 : bA Z h0 x8 c9 (oN d10) u11) (hE : u7 = u12 ++ ((segc i0 u11) ++ u13)) (hP : u12.length = d2) (hT : u11.length = d10) (hd2 : d10 ≤ 15) (hd0 : d2 + (segc i0 u11).length ≤ d6) (hd1 : d6 ≤ 120) (hch : own_chs u11) (hr : d2 + (segc i0 u11).length = r0) :
   Ctr l M47 (Jvm.Cond.code M47 method_3_code 5 (some .int) :: ws) (rO 5 0 0 69) Z h0 #[(.ref x1), (.int (oN d2)), (.int i0), (.ref x3)] (QK r0 h0 n0) := by
 rcases hN with rfl | rfl | rfl
 · refine own_qq (rmK_0 l Z a0 hw ws cz dg fm x1 d2 x3 x4 c5 d6 u7 x8 c9 d10 u11 u12 u13 h0 n0 O0 P E_x1 F_x1_value F_x1_coder V_x4 E_x3 F_x3_value F_x3_coder V_x8 hE hP hT hd2 hd0 hd1 hch) ?_
   rintro v h L ⟨e1, N, e2⟩
   have q : ((((d2 + 1) + 1) + d10) + 1) = r0 := by
     rw [own_sk0 (by decide), hT] at hr
     omega
   exact ⟨by rw [e1, q], N, e2⟩
 · refine own_qq (rmK_1 l Z a0 hw ws cz dg fm x1 d2 x3 x4 c5 d6 u7 x8 c9 d10 u11 u12 u13 h0 n0 O0 P E_x1 F_x1_value F_x1_coder V_x4 E_x3 F_x3_value F_x3_coder V_x8 hE hP hT hd2 hd0 hd1 hch) ?_
   rintro v h L ⟨e1, N, e2⟩
   have q : (((d2 + 1) + 1) + d10) = r0 := by
     rw [own_sk1, hT] at hr
     omega
   exact ⟨by rw [e1, q], N, e2⟩
 · refine own_qq (rmK_2 l Z a0 hw ws cz dg fm x1 d2 x3 x4 c5 d6 u7 x8 c9 d10 u11 u12 u13 h0 n0 O0 P E_x1 F_x1_value F_x1_coder V_x4 E_x3 F_x3_value F_x3_coder V_x8 hE hP hT hd2 hd0 hd1 hch) ?_
   rintro v h L ⟨e1, N, e2⟩
   have q : ((((d2 + 1) + 1) + d10) + 1) = r0 := by
     rw [own_sk0 (by decide), hT] at hr
     omega
   exact ⟨by rw [e1, q], N, e2⟩
theorem pd_29 : parseMethodDescriptor "(Ljava/lang/String;IILjava/lang/String;)I" = some ⟨[(.object sS), .int, .int, (.object sS)], some .int⟩ := by decide +kernel
theorem ef_0_I (m : MethodId) (x0 : Int32) : entryFrame m #[(.int x0)] maxLocals = mkF m 0 #[.val (.int x0), .unset, .unset, .unset, .unset, .unset, .unset, .unset, .unset, .unset, .unset, .unset] [] := by first | (simp [entryFrame, mkF, argsToLocals, Value.category, maxLocals]; done) | rfl
def Qrm0_0 (Z : State) (p0 : Int32) (h0 : Heap) (n0 : Nat) (v : Option Value) (h : Heap) (L : List Loc) : Prop := v = some (vI 1) ∧ Fr n0 L ∧ Keep h0 h []
theorem rm0_0 (l : Launch) (Z : State) (a0 : Array Value) (hw : HW Z a0) (ws : List Jvm.Cond) (cz : Int32) (dg : Addr) (fm : Value) (p0 : Int32) (h0 : Heap) (n0 : Nat) (O0 : Old Z n0 h0) (P : Pins Z cz dg fm) :
   MetFree l x (head1 (Jvm.Cond.code x code maxLocals ret :: ws) room_1) (fun a U => a = #[(.int p0)] ∧ Z.Warmed39 U.vm ∧ U.heap = h0 ∧ CHv Z consts_1 U.vm h0) (fun _ _ _ _ _ => True) (fun _ U o U' => ∃ v L, o = .returned v ∧ Qrm0_0 Z p0 h0 n0 v U'.heap L ∧ CHr Z consts_1 U.vm U.heap U'.vm U'.heap ∧ ReturnedEndW U o U' L room_1.cells room_1.slots) := by
 refine MetFree.of_bodySF (plainFor_of_name pN0) hisR ?_
 intro p e s m args below meth c s₁ Bd hml0 hP hK
 obtain ⟨rfl, hZ, hh, hCv⟩ := hP
 have hx := Bd.exec
 have hby := Bd.bytes
 have hml : c.maxLocals = 12 := hml0
 have hown : s.vm.findClass sL = some m.cls := findClass_of_methodNamed Bd.named
 have hnm := (name_of_methodNamed Bd.named Bd.method).1
 have X0 : Stand p l e room_1 (s.setVm s.vm) m #[(.int p0)] below meth c s₁ [] 0 0 := Stand.of_body Bd
 have e0 : s₁.heap = h0 := by rw [← hh, Bd.state]; rfl
 have N0 := Fr.nil n0
 have Z0 : n0 ≤ h0.size := O0.1 ▸ O0.2.1
 have pre0 : ∀ t, SG p e below s₁ m 0 #[lI p0, lU, lU, lU, lU, lU, lU, lU, lU, lU, lU, lU] [] t → Steps p.tables e below (s₁.setTop (entryFrame m #[(.int p0)] maxLocals)) t := fun t k => castTop (ef_0_I m p0) k
 have Kr : Keep h0 h0 [] := Keep.refl h0 _
 have hEL : EW Z a0 consts_1 := own_ew hw
 have wS : ∀ d ∈ Bundle.stringAtoms, d.before a0 Z = true := fun d hd => hw d (own_wsa d hd)
 have hS : s.Since s.vm 0 := (State.WarmedH.refl s).since 0
 have hk : 0 ≤ h0.size := Nat.zero_le _
 have C0 : CHr Z consts_1 s.vm h0 s.vm h0 := CHr.refl hCv
 obtain ⟨T1, h1, X1, e1, E1, A1, D1, -, st1⟩ := newO X0 hx hZ hown (wd hw 0 rfl) (wd hw 1 rfl) (wd hw 2 rfl) e0 (g := (mkF m 0 #[lI p0, lU, lU, lU, lU, lU, lU, lU, lU, lU, lU, lU] [])) rfl (hb hby at_0) (by decide) (by decide)
 obtain ⟨b1, g1⟩ : ∃ z, z = (h0).size := ⟨_, rfl⟩
 rw [← g1] at A1 D1 st1
 have Os2 := O0.ext E1
 have Ks2 := Kr.ext E1
 have Cs2 := C0.trans (CHr.ext E1 C0.1)
 have hk2 := Nat.le_trans hk E1.1
 have D1_groups : Fld Z h1 b1 sI "groups" "I" (vI 0) := D1 (Or.inl (wd hw 35 rfl)) (ty := .int) (by decide)
 have D1_users : Fld Z h1 b1 sI "users" "I" (vI 0) := D1 (Or.inl (wd hw 164 rfl)) (ty := .int) (by decide)
 have D1_projects : Fld Z h1 b1 sI "projects" "I" (vI 0) := D1 (Or.inl (wd hw 184 rfl)) (ty := .int) (by decide)
 have D1_projectShares : Fld Z h1 b1 sI "projectShares" "I" (vI 0) := D1 (Or.inl (wd hw 188 rfl)) (ty := .int) (by decide)
 have D1_documents : Fld Z h1 b1 sI "documents" "I" (vI 0) := D1 (Or.inl (wd hw 191 rfl)) (ty := .int) (by decide)
 have D1_documentShares : Fld Z h1 b1 sI "documentShares" "I" (vI 0) := D1 (Or.inl (wd hw 194 rfl)) (ty := .int) (by decide)
 have D1_versions : Fld Z h1 b1 sI "versions" "I" (vI 0) := D1 (Or.inl (wd hw 197 rfl)) (ty := .int) (by decide)
 have D1_comments : Fld Z h1 b1 sI "comments" "I" (vI 0) := D1 (Or.inl (wd hw 201 rfl)) (ty := .int) (by decide)
 obtain ⟨_, _, ⟨T3, L3, k3, n3⟩, -, X3, ⟨Lc3, hQ3, l3, y3, z3⟩, st3⟩ := X1.specialBack hx (y := M0) rfl hown (mvT hZ (wd hw 3 rfl)) (mvT hZ (wd hw 4 rfl)) (mvT hZ (wd hw 5 rfl)) (by decide) (backOf (W := 1) (rm1_1 l Z a0 hw [] cz dg fm b1 h1 n0 Os2 P ) hZ (wd hw 5 rfl) (wd hw 2 rfl) (by decide) (by decide)) (g := (mkF m 4 #[lI p0, lU, lU, lU, lU, lU, lU, lU, lU, lU, lU, lU] [(.ref b1), (.ref b1)])) rfl (by rw [hml]; rfl) (Steps.refl _) (a := b1) (argsL := []) (rest := [(.ref b1)]) (lenOf pd_0 rfl) rfl (lz rfl) (hb hby at_4) (fun _ _ => ⟨rfl, e1, (by decide : 1 + 0 ≤ _), (by decide : 8 + 0 ≤ _)⟩)
 dsimp only [Pt.U, Pt.locs, Pt.cells, Pt.slots] at X3 l3 y3 z3 st3 hQ3
 obtain rfl : k3 = 1 := y3
 obtain rfl : n3 = 8 := z3
 obtain ⟨rfl, N3q, e3⟩ := hQ3
 have N3 : Fr n0 L3 := by rw [l3]; exact Fr.app N0 N3q
 obtain ⟨T4, h4, Lq4, vi4, X4, e4, K4, N4, hv4, Eo4, Fo4_0, Fo4_1, Fo4_2, Fo4_3, Fo4_4, Fo4_5, Fo4_6, Fo4_7, st4⟩ := sg_8 p0 b1 (0 : Int32) (0 : Int32) (0 : Int32) (0 : Int32) (0 : Int32) (0 : Int32) (0 : Int32) (0 : Int32) X3 hx hZ hw hby hml hown e3 Os2 P N3 (Nat.le_trans Z0 (Nat.le_of_eq g1.symm)) A1 D1_groups D1_users D1_projects D1_projectShares D1_documents D1_documentShares D1_versions D1_comments
 have Ks5 := Ks2.trans K4 (allS (Or.inr (Nat.le_trans Kr.1 (Nat.le_of_eq g1.symm))) all0)
 have Os5 := Os2.keep K4 (allS (Nat.le_trans Z0 (Nat.le_of_eq g1.symm)) all0)
 have Cs5 := Cs2.trans (CHr.keep K4 (sfS (Safe.exa hZ.alike A1 (by decide) (by decide)) sf0) Cs2.1)
 have hk5 := Nat.le_trans hk2 K4.1
 obtain ⟨T6, h6, Lq6, vi6, X6, e6, K6, N6, hv6, Eo6, Fo6_0, Fo6_1, Fo6_2, Fo6_3, Fo6_4, Fo6_5, Fo6_6, Fo6_7, st6⟩ := sg_18 p0 b1 vi4 (0 : Int32) (0 : Int32) (0 : Int32) (0 : Int32) (0 : Int32) (0 : Int32) (0 : Int32) X4 hx hZ hw hby hml hown e4 Os5 P N4 (Nat.le_trans Z0 (Nat.le_of_eq g1.symm)) Eo4 Fo4_0 Fo4_1 Fo4_2 Fo4_3 Fo4_4 Fo4_5 Fo4_6 Fo4_7
 have Ks7 := Ks5.trans K6 (allS (Or.inr (Nat.le_trans Kr.1 (Nat.le_of_eq g1.symm))) all0)
 have Os7 := Os5.keep K6 (allS (Nat.le_trans Z0 (Nat.le_of_eq g1.symm)) all0)
 have Cs7 := Cs5.trans (CHr.keep K6 (sfS (Safe.exa hZ.alike Eo4 (by decide) (by decide)) sf0) Cs5.1)
 have hk7 := Nat.le_trans hk5 K6.1
 obtain ⟨T8, h8, Lq8, vi8, X8, e8, K8, N8, hv8, Eo8, Fo8_0, Fo8_1, Fo8_2, Fo8_3, Fo8_4, Fo8_5, Fo8_6, Fo8_7, st8⟩ := sg_30 p0 b1 vi6 (0 : Int32) (0 : Int32) (0 : Int32) (0 : Int32) (0 : Int32) (0 : Int32) (0 : Int32) X6 hx hZ hw hby hml hown e6 Os7 P N6 (Nat.le_trans Z0 (Nat.le_of_eq g1.symm)) Eo6 Fo6_0 Fo6_1 Fo6_2 Fo6_3 Fo6_4 Fo6_5 Fo6_6 Fo6_7
 have Ks9 := Ks7.trans K8 (allS (Or.inr (Nat.le_trans Kr.1 (Nat.le_of_eq g1.symm))) all0)
 have Os9 := Os7.keep K8 (allS (Nat.le_trans Z0 (Nat.le_of_eq g1.symm)) all0)
 have Cs9 := Cs7.trans (CHr.keep K8 (sfS (Safe.exa hZ.alike Eo6 (by decide) (by decide)) sf0) Cs7.1)
 have hk9 := Nat.le_trans hk7 K8.1
 obtain ⟨T10, h10, Lq10, vi10, X10, e10, K10, N10, hv10, Eo10, Fo10_0, Fo10_1, Fo10_2, Fo10_3, Fo10_4, Fo10_5, Fo10_6, Fo10_7, st10⟩ := sg_40 p0 b1 vi6 vi8 (0 : Int32) (0 : Int32) (0 : Int32) (0 : Int32) (0 : Int32) (0 : Int32) X8 hx hZ hw hby hml hown e8 Os9 P N8 (Nat.le_trans Z0 (Nat.le_of_eq g1.symm)) Eo8 Fo8_0 Fo8_1 Fo8_2 Fo8_3 Fo8_4 Fo8_5 Fo8_6 Fo8_7
 have Ks11 := Ks9.trans K10 (allS (Or.inr (Nat.le_trans Kr.1 (Nat.le_of_eq g1.symm))) all0)
 have Os11 := Os9.keep K10 (allS (Nat.le_trans Z0 (Nat.le_of_eq g1.symm)) all0)
 have Cs11 := Cs9.trans (CHr.keep K10 (sfS (Safe.exa hZ.alike Eo8 (by decide) (by decide)) sf0) Cs9.1)
 have hk11 := Nat.le_trans hk9 K10.1
 obtain ⟨T12, h12, Lq12, vi12, X12, e12, K12, N12, hv12, Eo12, Fo12_0, Fo12_1, Fo12_2, Fo12_3, Fo12_4, Fo12_5, Fo12_6, Fo12_7, st12⟩ := sg_50 p0 b1 vi6 vi8 vi10 (0 : Int32) (0 : Int32) (0 : Int32) (0 : Int32) (0 : Int32) X10 hx hZ hw hby hml hown e10 Os11 P N10 (Nat.le_trans Z0 (Nat.le_of_eq g1.symm)) Eo10 Fo10_0 Fo10_1 Fo10_2 Fo10_3 Fo10_4 Fo10_5 Fo10_6 Fo10_7
 have Ks13 := Ks11.trans K12 (allS (Or.inr (Nat.le_trans Kr.1 (Nat.le_of_eq g1.symm))) all0)
 have Os13 := Os11.keep K12 (allS (Nat.le_trans Z0 (Nat.le_of_eq g1.symm)) all0)
 have Cs13 := Cs11.trans (CHr.keep K12 (sfS (Safe.exa hZ.alike Eo10 (by decide) (by decide)) sf0) Cs11.1)
 have hk13 := Nat.le_trans hk11 K12.1
 obtain ⟨T14, h14, Lq14, vi14, X14, e14, K14, N14, hv14, Eo14, Fo14_0, Fo14_1, Fo14_2, Fo14_3, Fo14_4, Fo14_5, Fo14_6, Fo14_7, st14⟩ := sg_61 p0 b1 vi6 vi8 vi10 vi12 (0 : Int32) (0 : Int32) (0 : Int32) (0 : Int32) X12 hx hZ hw hby hml hown e12 Os13 P N12 (Nat.le_trans Z0 (Nat.le_of_eq g1.symm)) Eo12 Fo12_0 Fo12_1 Fo12_2 Fo12_3 Fo12_4 Fo12_5 Fo12_6 Fo12_7
 have Ks15 := Ks13.trans K14 (allS (Or.inr (Nat.le_trans Kr.1 (Nat.le_of_eq g1.symm))) all0)
 have Os15 := Os13.keep K14 (allS (Nat.le_trans Z0 (Nat.le_of_eq g1.symm)) all0)
 have Cs15 := Cs13.trans (CHr.keep K14 (sfS (Safe.exa hZ.alike Eo12 (by decide) (by decide)) sf0) Cs13.1)
 have hk15 := Nat.le_trans hk13 K14.1
 obtain ⟨T16, h16, Lq16, vi16, X16, e16, K16, N16, hv16, Eo16, Fo16_0, Fo16_1, Fo16_2, Fo16_3, Fo16_4, Fo16_5, Fo16_6, Fo16_7, st16⟩ := sg_72 p0 b1 vi6 vi8 vi10 vi12 vi14 (0 : Int32) (0 : Int32) (0 : Int32) X14 hx hZ hw hby hml hown e14 Os15 P N14 (Nat.le_trans Z0 (Nat.le_of_eq g1.symm)) Eo14 Fo14_0 Fo14_1 Fo14_2 Fo14_3 Fo14_4 Fo14_5 Fo14_6 Fo14_7
 have Ks17 := Ks15.trans K16 (allS (Or.inr (Nat.le_trans Kr.1 (Nat.le_of_eq g1.symm))) all0)
 have Os17 := Os15.keep K16 (allS (Nat.le_trans Z0 (Nat.le_of_eq g1.symm)) all0)
 have Cs17 := Cs15.trans (CHr.keep K16 (sfS (Safe.exa hZ.alike Eo14 (by decide) (by decide)) sf0) Cs15.1)
 have hk17 := Nat.le_trans hk15 K16.1
 obtain ⟨T18, h18, Lq18, vi18, X18, e18, K18, N18, hv18, Eo18, Fo18_0, Fo18_1, Fo18_2, Fo18_3, Fo18_4, Fo18_5, Fo18_6, Fo18_7, st18⟩ := sg_83 p0 b1 vi6 vi8 vi10 vi12 vi14 vi16 (0 : Int32) (0 : Int32) X16 hx hZ hw hby hml hown e16 Os17 P N16 (Nat.le_trans Z0 (Nat.le_of_eq g1.symm)) Eo16 Fo16_0 Fo16_1 Fo16_2 Fo16_3 Fo16_4 Fo16_5 Fo16_6 Fo16_7
 have Ks19 := Ks17.trans K18 (allS (Or.inr (Nat.le_trans Kr.1 (Nat.le_of_eq g1.symm))) all0)
 have Os19 := Os17.keep K18 (allS (Nat.le_trans Z0 (Nat.le_of_eq g1.symm)) all0)
 have Cs19 := Cs17.trans (CHr.keep K18 (sfS (Safe.exa hZ.alike Eo16 (by decide) (by decide)) sf0) Cs17.1)
 have hk19 := Nat.le_trans hk17 K18.1
 obtain ⟨T20, h20, Lq20, vi20, X20, e20, K20, N20, hv20, Eo20, Fo20_0, Fo20_1, Fo20_2, Fo20_3, Fo20_4, Fo20_5, Fo20_6, Fo20_7, st20⟩ := sg_94 p0 b1 vi6 vi8 vi10 vi12 vi14 vi16 vi18 (0 : Int32) X18 hx hZ hw hby hml hown e18 Os19 P N18 (Nat.le_trans Z0 (Nat.le_of_eq g1.symm)) Eo18 Fo18_0 Fo18_1 Fo18_2 Fo18_3 Fo18_4 Fo18_5 Fo18_6 Fo18_7
 have Ks21 := Ks19.trans K20 (allS (Or.inr (Nat.le_trans Kr.1 (Nat.le_of_eq g1.symm))) all0)
 have Os21 := Os19.keep K20 (allS (Nat.le_trans Z0 (Nat.le_of_eq g1.symm)) all0)
 have Cs21 := Cs19.trans (CHr.keep K20 (sfS (Safe.exa hZ.alike Eo18 (by decide) (by decide)) sf0) Cs19.1)
 have hk21 := Nat.le_trans hk19 K20.1
 have cd22 : vi6 = (0 : Int32) ∨ vi6 = (1 : Int32) ∨ vi6 = (2 : Int32) := own_i4 hv4 hv6
 have eb22 : ((p0 &&& (1 : Int32)) + ((p0 >>> ((8 : Int32) &&& 31)) &&& (1 : Int32))) = vi6 := own_eg hv4 hv6
 have cd23 : vi8 = (0 : Int32) ∨ vi8 = (1 : Int32) ∨ vi8 = (2 : Int32) := own_i3 hv8
 have eb23 : ((p0 >>> ((1 : Int32) &&& 31)) &&& (1 : Int32)) = vi8 := own_ek (k := 1) hv8 (by decide) (by decide) (by decide)
 have cd24 : vi10 = (0 : Int32) ∨ vi10 = (1 : Int32) ∨ vi10 = (2 : Int32) := own_i3 hv10
 have eb24 : ((p0 >>> ((2 : Int32) &&& 31)) &&& (1 : Int32)) = vi10 := own_ek (k := 2) hv10 (by decide) (by decide) (by decide)
 have cd25 : vi12 = (0 : Int32) ∨ vi12 = (1 : Int32) ∨ vi12 = (2 : Int32) := own_i3 hv12
 have eb25 : ((p0 >>> ((3 : Int32) &&& 31)) &&& (1 : Int32)) = vi12 := own_ek (k := 3) hv12 (by decide) (by decide) (by decide)
 have cd26 : vi14 = (0 : Int32) ∨ vi14 = (1 : Int32) ∨ vi14 = (2 : Int32) := own_i3 hv14
 have eb26 : ((p0 >>> ((4 : Int32) &&& 31)) &&& (1 : Int32)) = vi14 := own_ek (k := 4) hv14 (by decide) (by decide) (by decide)
 have cd27 : vi16 = (0 : Int32) ∨ vi16 = (1 : Int32) ∨ vi16 = (2 : Int32) := own_i3 hv16
 have eb27 : ((p0 >>> ((5 : Int32) &&& 31)) &&& (1 : Int32)) = vi16 := own_ek (k := 5) hv16 (by decide) (by decide) (by decide)
 have cd28 : vi18 = (0 : Int32) ∨ vi18 = (1 : Int32) ∨ vi18 = (2 : Int32) := own_i3 hv18
 have eb28 : ((p0 >>> ((6 : Int32) &&& 31)) &&& (1 : Int32)) = vi18 := own_ek (k := 6) hv18 (by decide) (by decide) (by decide)
 have cd29 : vi20 = (0 : Int32) ∨ vi20 = (1 : Int32) ∨ vi20 = (2 : Int32) := own_i3 hv20
 have eb29 : ((p0 >>> ((7 : Int32) &&& 31)) &&& (1 : Int32)) = vi20 := own_ek (k := 7) hv20 (by decide) (by decide) (by decide)
 obtain ⟨cq30, kq30, q30a, q30b, q30c⟩ := isOf hZ e20 Eo20
 obtain ⟨_, _, ⟨T30, L30, k30, n30⟩, -, Xq30, Sq30, gq30, ⟨Lc30, hQ30, l30, y30, z30, Cq30⟩, st30⟩ := X20.virtualBackS hx (y := M39) (z := M39) hown (mvT hZ (wd hw 9 rfl)) (mvT hZ (wd hw 10 rfl)) (notFace_of_selects (args := #[]) (mvT hZ (wd hw 12 rfl))) (mvT hZ (wd hw 12 rfl)) (mvT hZ (wd hw 11 rfl)) (by decide) (backOfSH (W := 0) (rmT l Z a0 hw [] cz dg fm b1 vi6 vi8 vi10 vi12 vi14 vi16 vi18 vi20 h20 n0 Os21 P Fo20_0 Fo20_1 Fo20_2 Fo20_3 Fo20_4 Fo20_5 Fo20_6 Fo20_7 cd22 cd23 cd24 cd25 cd26 cd27 cd28 cd29) hZ (wd hw 13 rfl) (wd hw 2 rfl) (by decide) (by decide) hEL Cs21.1) q30a q30c (g := (mkF m 168 #[lI p0, lR b1, lI vi6, lI vi8, lI vi10, lI vi12, lI vi14, lI vi16, lI vi18, lI vi20, lU, lU] [(.ref b1)])) rfl (by rw [hml]; rfl) (Steps.refl _) (argsL := []) (rest := []) (lenOf pd_20 rfl) rfl (lz rfl) (hb hby at_168) (fun _ _ => ⟨rfl, e20, (by decide : 1 + 112 ≤ _), (by decide : 8 + 4010 ≤ _)⟩)
 dsimp only [Pt.U, Pt.locs, Pt.cells, Pt.slots] at Xq30 Sq30 gq30 l30 y30 z30 st30 hQ30 Cq30
 obtain rfl : k30 = 113 := y30
 obtain rfl : n30 = 4018 := z30
 obtain ⟨X30, hS30, hZ30, hown30⟩ := rebS hS (show _ ≤ T20.heap.size by rw [e20]; exact hk21) Xq30 Sq30 gq30 hZ hown
 have hkq30 : T30.heap.size ≤ (T30.heap).size := Nat.le_refl _
 obtain ⟨b30_0, b30_1, k30_0, rfl, N30q, K30, l30_0, l30_1, q30_0, q30_1, q30_2, q30_3⟩ := hQ30
 have N30 : Fr n0 L30 := by rw [l30]; exact Fr.app N20 N30q
 have Ks31 := Ks21.trans K30 all0
 have Os31 := Os21.keep K30 all0
 have Cs31 := Cs21.trans Cq30
 obtain ⟨U, hU⟩ : ∃ z, z = tsl vi6 vi8 vi10 vi12 vi14 vi16 vi18 vi20 := ⟨_, rfl⟩
 obtain ⟨nS, hS_⟩ : ∃ z, U.length = z := ⟨_, rfl⟩
 have hq120_ : nS ≤ 120 := by rw [← hS_, hU]; exact own_tl _ _ _ _ _ _ _ _
 have VU : bA Z (T30.heap) b30_1 k30_0 (oN nS) U := by rw [← hS_, hU]; exact q30_3
 have hE0_ : U = ([] : List Value) ++ ((segc vi6 lit_0) ++ (lit_7 ++ ((segc vi8 lit_1) ++ (lit_7 ++ ((segc vi10 lit_2) ++ (lit_8 ++ ((segc vi12 lit_3) ++ (lit_7 ++ ((segc vi14 lit_4) ++ (lit_8 ++ ((segc vi16 lit_3) ++ (lit_9 ++ ((segc vi18 lit_5) ++ (lit_10 ++ ((segc vi20 lit_6) ++ ([] : List Value)))))))))))))))) := by rw [hU]; rfl
 have hP0_ : ([] : List Value).length = 0 := rfl
 obtain ⟨w32, T32, h32, kq32, wb32, kb32, X32, e32, E32, hS32, hkq32, hZ32, hown32, Ex32, Fc32, Fv32, Va32, la32, lb32, Cq32, -, hne32, st32⟩ := ldcCH X30 hx hZ30 hown30 (wd hw 203 rfl) wS rfl hS30 hkq30 hEL (mg 14 rfl) Cs31.1 (vs := [(vI 103), (vI 114), (vI 111), (vI 117), (vI 112)]) (z := (5 : Int32)) ⟨by decide, rfl⟩ (by decide) rfl (g := (mkF m 188 #[lI p0, lR b1, lI vi6, lI vi8, lI vi10, lI vi12, lI vi14, lI vi16, lI vi18, lI vi20, lR b30_0, lI 0] [(.int vi6), (vI 0), (.ref b30_0)])) rfl (hb hby at_188) (n := 20) (by decide) (by decide) (by decide) (by decide)
 have Os33 := Os31.ext E32
 have Ks33 := Ks31.ext E32
 have Cs33 := Cs31.trans Cq32
 have Vl32 : bA Z h32 wb32 kb32 5 lit_0 := Va32
 obtain ⟨pr34, hpr34⟩ : ∃ z, z = ([] : List Value) ++ (segc vi6 lit_0) := ⟨_, rfl⟩
 have hE34 : U = pr34 ++ (lit_7 ++ ((segc vi8 lit_1) ++ (lit_7 ++ ((segc vi10 lit_2) ++ (lit_8 ++ ((segc vi12 lit_3) ++ (lit_7 ++ ((segc vi14 lit_4) ++ (lit_8 ++ ((segc vi16 lit_3) ++ (lit_9 ++ ((segc vi18 lit_5) ++ (lit_10 ++ ((segc vi20 lit_6) ++ ([] : List Value))))))))))))))) := by rw [hpr34, List.append_assoc]; exact hE0_
 obtain ⟨r34, hr34⟩ : ∃ z, 0 + (segc vi6 lit_0).length = z := ⟨_, rfl⟩
 have hP34 : pr34.length = r34 := by rw [hpr34, List.length_append, hP0_]; exact hr34
 have hB34 : r34 ≤ nS := own_le hE34 hP34 hS_
 have f35 := (q30_0.ext E32)
 have f36 := (q30_2.ext E32)
 have f37 := (q30_1.ext E32)
 have f38 := (VU.ext E32)
 obtain ⟨_, _, ⟨T39, L39, k39, n39⟩, -, X39, ⟨Lc39, hQ39, l39, y39, z39⟩, st39⟩ := Jvm.LawKit.callS X32 hx (y := M47) hown32 (mvT hZ32 (wd hw 204 rfl)) (mvT hZ32 (wd hw 205 rfl)) (mvT hZ32 (wd hw 206 rfl)) (mvT hZ32 (wd hw 207 rfl)) (by decide) (backOf (W := 0) (rmK l Z a0 hw [] cz dg fm vi6 r34 b30_0 0 w32 b30_1 k30_0 nS U wb32 kb32 5 lit_0 ([] : List Value) (lit_7 ++ ((segc vi8 lit_1) ++ (lit_7 ++ ((segc vi10 lit_2) ++ (lit_8 ++ ((segc vi12 lit_3) ++ (lit_7 ++ ((segc vi14 lit_4) ++ (lit_8 ++ ((segc vi16 lit_3) ++ (lit_9 ++ ((segc vi18 lit_5) ++ (lit_10 ++ ((segc vi20 lit_6) ++ ([] : List Value))))))))))))))) h32 n0 Os33 P cd22 f35 f36 f37 f38 Ex32 Fv32 Fc32 Vl32 hE0_ hP0_ len_0 (by decide) (Nat.le_trans (Nat.le_of_eq hr34) hB34) hq120_ chs_0 hr34) hZ32 (wd hw 207 rfl) (wd hw 206 rfl) (by decide) (by decide)) (g := (mkF m 190 #[lI p0, lR b1, lI vi6, lI vi8, lI vi10, lI vi12, lI vi14, lI vi16, lI vi18, lI vi20, lR b30_0, lI 0] [(.ref w32), (.int vi6), (vI 0), (.ref b30_0)])) rfl (by rw [hml]; rfl) (argsL := [(.ref b30_0), (vI 0), (.int vi6), (.ref w32)]) (rest := []) (lenOf pd_29 rfl) rfl (lz rfl) (hb hby at_190) (fun _ _ => ⟨rfl, e32, (by decide : 115 + 0 ≤ _), (by decide : 4042 + 0 ≤ _)⟩)
 dsimp only [Pt.U, Pt.locs, Pt.cells, Pt.slots] at X39 l39 y39 z39 st39 hQ39
 obtain rfl : k39 = 115 := y39
 obtain rfl : n39 = 4042 := z39
 obtain ⟨rfl, N39q, e39⟩ := hQ39
 have N39 : Fr n0 L39 := by rw [l39]; exact Fr.app N30 N39q
 obtain ⟨w40, T40, h40, kq40, wb40, kb40, X40, e40, E40, hS40, hkq40, hZ40, hown40, Ex40, Fc40, Fv40, Va40, la40, lb40, Cq40, -, hne40, st40⟩ := ldcCH X39 hx hZ32 hown32 (wd hw 237 rfl) wS e39 hS32 hkq32 hEL (mg 15 rfl) Cs33.1 (vs := [(vI 44), (vI 32)]) (z := (2 : Int32)) ⟨by decide, rfl⟩ (by decide) rfl (g := (mkF m 199 #[lI p0, lR b1, lI vi6, lI vi8, lI vi10, lI vi12, lI vi14, lI vi16, lI vi18, lI vi20, lR b30_0, lI ((oN r34))] [(.int (oN r34)), (.ref b30_0)])) rfl (hb hby at_199) (n := 8) (by decide) (by decide) (by decide) (by decide)
 have Os41 := Os33.ext E40
 have Ks41 := Ks33.ext E40
 have Cs41 := Cs33.trans Cq40
 have Vl40 : bA Z h40 wb40 kb40 2 lit_7 := Va40
 obtain ⟨pr42, hpr42⟩ : ∃ z, z = pr34 ++ lit_7 := ⟨_, rfl⟩
 have hE42 : U = pr42 ++ ((segc vi8 lit_1) ++ (lit_7 ++ ((segc vi10 lit_2) ++ (lit_8 ++ ((segc vi12 lit_3) ++ (lit_7 ++ ((segc vi14 lit_4) ++ (lit_8 ++ ((segc vi16 lit_3) ++ (lit_9 ++ ((segc vi18 lit_5) ++ (lit_10 ++ ((segc vi20 lit_6) ++ ([] : List Value)))))))))))))) := by rw [hpr42, List.append_assoc]; exact hE34
 have hP42 : pr42.length = (r34 + 2) := by rw [hpr42, List.length_append, hP34, len_7]
 have hB42 : (r34 + 2) ≤ nS := own_le hE42 hP42 hS_
 have f43 := (f35.ext E40)
 have f44 := (f36.ext E40)
 have f45 := (f37.ext E40)
 have f46 := (f38.ext E40)
 obtain ⟨_, _, ⟨T47, L47, k47, n47⟩, -, X47, ⟨Lc47, hQ47, l47, y47, z47⟩, st47⟩ := Jvm.LawKit.callS X40 hx (y := M46) hown40 (mvT hZ40 (wd hw 234 rfl)) (mvT hZ40 (wd hw 235 rfl)) (mvT hZ40 (wd hw 206 rfl)) (mvT hZ40 (wd hw 236 rfl)) (by decide) (backOf (W := 0) (rmL l Z a0 hw [] cz dg fm b30_0 r34 w40 b30_1 k30_0 nS U wb40 kb40 2 lit_7 pr34 ((segc vi8 lit_1) ++ (lit_7 ++ ((segc vi10 lit_2) ++ (lit_8 ++ ((segc vi12 lit_3) ++ (lit_7 ++ ((segc vi14 lit_4) ++ (lit_8 ++ ((segc vi16 lit_3) ++ (lit_9 ++ ((segc vi18 lit_5) ++ (lit_10 ++ ((segc vi20 lit_6) ++ ([] : List Value)))))))))))))) h40 n0 Os41 P f43 f44 f45 f46 Ex40 Fv40 Fc40 Vl40 hE34 hP34 len_7 (by decide) hB42 hq120_ chs_7) hZ40 (wd hw 236 rfl) (wd hw 206 rfl) (by decide) (by decide)) (g := (mkF m 201 #[lI p0, lR b1, lI vi6, lI vi8, lI vi10, lI vi12, lI vi14, lI vi16, lI vi18, lI vi20, lR b30_0, lI ((oN r34))] [(.ref w40), (.int (oN r34)), (.ref b30_0)])) rfl (by rw [hml]; rfl) (argsL := [(.ref b30_0), (.int (oN r34)), (.ref w40)]) (rest := []) (lenOf pd_28 rfl) rfl (lz rfl) (hb hby at_201) (fun _ _ => ⟨rfl, e40, (by decide : 117 + 0 ≤ _), (by decide : 4054 + 0 ≤ _)⟩)
 dsimp only [Pt.U, Pt.locs, Pt.cells, Pt.slots] at X47 l47 y47 z47 st47 hQ47
 obtain rfl : k47 = 117 := y47
 obtain rfl : n47 = 4054 := z47
 obtain ⟨rfl, N47q, e47⟩ := hQ47
 have N47 : Fr n0 L47 := by rw [l47]; exact Fr.app N39 N47q
 obtain ⟨w48, T48, h48, kq48, wb48, kb48, X48, e48, E48, hS48, hkq48, hZ48, hown48, Ex48, Fc48, Fv48, Va48, la48, lb48, Cq48, -, hne48, st48⟩ := ldcCH X47 hx hZ40 hown40 (wd hw 238 rfl) wS e47 hS40 hkq40 hEL (mg 16 rfl) Cs41.1 (vs := [(vI 117), (vI 115), (vI 101), (vI 114)]) (z := (4 : Int32)) ⟨by decide, rfl⟩ (by decide) rfl (g := (mkF m 211 #[lI p0, lR b1, lI vi6, lI vi8, lI vi10, lI vi12, lI vi14, lI vi16, lI vi18, lI vi20, lR b30_0, lI ((oN (r34 + 2)))] [(.int vi8), (.int (oN (r34 + 2))), (.ref b30_0)])) rfl (hb hby at_211) (n := 16) (by decide) (by decide) (by decide) (by decide)
 have Os49 := Os41.ext E48
 have Ks49 := Ks41.ext E48
 have Cs49 := Cs41.trans Cq48
 have Vl48 : bA Z h48 wb48 kb48 4 lit_1 := Va48
 obtain ⟨pr50, hpr50⟩ : ∃ z, z = pr42 ++ (segc vi8 lit_1) := ⟨_, rfl⟩
 have hE50 : U = pr50 ++ (lit_7 ++ ((segc vi10 lit_2) ++ (lit_8 ++ ((segc vi12 lit_3) ++ (lit_7 ++ ((segc vi14 lit_4) ++ (lit_8 ++ ((segc vi16 lit_3) ++ (lit_9 ++ ((segc vi18 lit_5) ++ (lit_10 ++ ((segc vi20 lit_6) ++ ([] : List Value))))))))))))) := by rw [hpr50, List.append_assoc]; exact hE42
 obtain ⟨r50, hr50⟩ : ∃ z, (r34 + 2) + (segc vi8 lit_1).length = z := ⟨_, rfl⟩
 have hP50 : pr50.length = r50 := by rw [hpr50, List.length_append, hP42]; exact hr50
 have hB50 : r50 ≤ nS := own_le hE50 hP50 hS_
 have f51 := (f43.ext E48)
 have f52 := (f44.ext E48)
 have f53 := (f45.ext E48)
 have f54 := (f46.ext E48)
 obtain ⟨_, _, ⟨T55, L55, k55, n55⟩, -, X55, ⟨Lc55, hQ55, l55, y55, z55⟩, st55⟩ := Jvm.LawKit.callS X48 hx (y := M47) hown48 (mvT hZ48 (wd hw 204 rfl)) (mvT hZ48 (wd hw 205 rfl)) (mvT hZ48 (wd hw 206 rfl)) (mvT hZ48 (wd hw 207 rfl)) (by decide) (backOf (W := 0) (rmK l Z a0 hw [] cz dg fm vi8 r50 b30_0 (r34 + 2) w48 b30_1 k30_0 nS U wb48 kb48 4 lit_1 pr42 (lit_7 ++ ((segc vi10 lit_2) ++ (lit_8 ++ ((segc vi12 lit_3) ++ (lit_7 ++ ((segc vi14 lit_4) ++ (lit_8 ++ ((segc vi16 lit_3) ++ (lit_9 ++ ((segc vi18 lit_5) ++ (lit_10 ++ ((segc vi20 lit_6) ++ ([] : List Value))))))))))))) h48 n0 Os49 P cd23 f51 f52 f53 f54 Ex48 Fv48 Fc48 Vl48 hE42 hP42 len_1 (by decide) (Nat.le_trans (Nat.le_of_eq hr50) hB50) hq120_ chs_1 hr50) hZ48 (wd hw 207 rfl) (wd hw 206 rfl) (by decide) (by decide)) (g := (mkF m 213 #[lI p0, lR b1, lI vi6, lI vi8, lI vi10, lI vi12, lI vi14, lI vi16, lI vi18, lI vi20, lR b30_0, lI ((oN (r34 + 2)))] [(.ref w48), (.int vi8), (.int (oN (r34 + 2))), (.ref b30_0)])) rfl (by rw [hml]; rfl) (argsL := [(.ref b30_0), (.int (oN (r34 + 2))), (.int vi8), (.ref w48)]) (rest := []) (lenOf pd_29 rfl) rfl (lz rfl) (hb hby at_213) (fun _ _ => ⟨rfl, e48, (by decide : 119 + 0 ≤ _), (by decide : 4074 + 0 ≤ _)⟩)
 dsimp only [Pt.U, Pt.locs, Pt.cells, Pt.slots] at X55 l55 y55 z55 st55 hQ55
 obtain rfl : k55 = 119 := y55
 obtain rfl : n55 = 4074 := z55
 obtain ⟨rfl, N55q, e55⟩ := hQ55
 have N55 : Fr n0 L55 := by rw [l55]; exact Fr.app N47 N55q
 obtain ⟨w56, T56, h56, kq56, wb56, kb56, X56, e56, E56, hS56, hkq56, hZ56, hown56, Ex56, Fc56, Fv56, Va56, la56, lb56, Cq56, -, hne56, st56⟩ := ldcCH X55 hx hZ48 hown48 (wd hw 237 rfl) wS e55 hS48 hkq48 hEL (mg 15 rfl) Cs49.1 (vs := [(vI 44), (vI 32)]) (z := (2 : Int32)) ⟨by decide, rfl⟩ (by decide) rfl (g := (mkF m 222 #[lI p0, lR b1, lI vi6, lI vi8, lI vi10, lI vi12, lI vi14, lI vi16, lI vi18, lI vi20, lR b30_0, lI ((oN r50))] [(.int (oN r50)), (.ref b30_0)])) rfl (hb hby at_222) (n := 8) (by decide) (by decide) (by decide) (by decide)
 have Os57 := Os49.ext E56
 have Ks57 := Ks49.ext E56
 have Cs57 := Cs49.trans Cq56
 have Vl56 : bA Z h56 wb56 kb56 2 lit_7 := Va56
 obtain ⟨pr58, hpr58⟩ : ∃ z, z = pr50 ++ lit_7 := ⟨_, rfl⟩
 have hE58 : U = pr58 ++ ((segc vi10 lit_2) ++ (lit_8 ++ ((segc vi12 lit_3) ++ (lit_7 ++ ((segc vi14 lit_4) ++ (lit_8 ++ ((segc vi16 lit_3) ++ (lit_9 ++ ((segc vi18 lit_5) ++ (lit_10 ++ ((segc vi20 lit_6) ++ ([] : List Value)))))))))))) := by rw [hpr58, List.append_assoc]; exact hE50
 have hP58 : pr58.length = (r50 + 2) := by rw [hpr58, List.length_append, hP50, len_7]
 have hB58 : (r50 + 2) ≤ nS := own_le hE58 hP58 hS_
 have f59 := (f51.ext E56)
 have f60 := (f52.ext E56)
 have f61 := (f53.ext E56)
 have f62 := (f54.ext E56)
 obtain ⟨_, _, ⟨T63, L63, k63, n63⟩, -, X63, ⟨Lc63, hQ63, l63, y63, z63⟩, st63⟩ := Jvm.LawKit.callS X56 hx (y := M46) hown56 (mvT hZ56 (wd hw 234 rfl)) (mvT hZ56 (wd hw 235 rfl)) (mvT hZ56 (wd hw 206 rfl)) (mvT hZ56 (wd hw 236 rfl)) (by decide) (backOf (W := 0) (rmL l Z a0 hw [] cz dg fm b30_0 r50 w56 b30_1 k30_0 nS U wb56 kb56 2 lit_7 pr50 ((segc vi10 lit_2) ++ (lit_8 ++ ((segc vi12 lit_3) ++ (lit_7 ++ ((segc vi14 lit_4) ++ (lit_8 ++ ((segc vi16 lit_3) ++ (lit_9 ++ ((segc vi18 lit_5) ++ (lit_10 ++ ((segc vi20 lit_6) ++ ([] : List Value)))))))))))) h56 n0 Os57 P f59 f60 f61 f62 Ex56 Fv56 Fc56 Vl56 hE50 hP50 len_7 (by decide) hB58 hq120_ chs_7) hZ56 (wd hw 236 rfl) (wd hw 206 rfl) (by decide) (by decide)) (g := (mkF m 224 #[lI p0, lR b1, lI vi6, lI vi8, lI vi10, lI vi12, lI vi14, lI vi16, lI vi18, lI vi20, lR b30_0, lI ((oN r50))] [(.ref w56), (.int (oN r50)), (.ref b30_0)])) rfl (by rw [hml]; rfl) (argsL := [(.ref b30_0), (.int (oN r50)), (.ref w56)]) (rest := []) (lenOf pd_28 rfl) rfl (lz rfl) (hb hby at_224) (fun _ _ => ⟨rfl, e56, (by decide : 121 + 0 ≤ _), (by decide : 4086 + 0 ≤ _)⟩)
 dsimp only [Pt.U, Pt.locs, Pt.cells, Pt.slots] at X63 l63 y63 z63 st63 hQ63
 obtain rfl : k63 = 121 := y63
 obtain rfl : n63 = 4086 := z63
 obtain ⟨rfl, N63q, e63⟩ := hQ63
 have N63 : Fr n0 L63 := by rw [l63]; exact Fr.app N55 N63q
 obtain ⟨w64, T64, h64, kq64, wb64, kb64, X64, e64, E64, hS64, hkq64, hZ64, hown64, Ex64, Fc64, Fv64, Va64, la64, lb64, Cq64, -, hne64, st64⟩ := ldcCH X63 hx hZ56 hown56 (wd hw 239 rfl) wS e63 hS56 hkq56 hEL (mg 17 rfl) Cs57.1 (vs := [(vI 112), (vI 114), (vI 111), (vI 106), (vI 101), (vI 99), (vI 116)]) (z := (7 : Int32)) ⟨by decide, rfl⟩ (by decide) rfl (g := (mkF m 235 #[lI p0, lR b1, lI vi6, lI vi8, lI vi10, lI vi12, lI vi14, lI vi16, lI vi18, lI vi20, lR b30_0, lI ((oN (r50 + 2)))] [(.int vi10), (.int (oN (r50 + 2))), (.ref b30_0)])) rfl (hb hby at_235) (n := 28) (by decide) (by decide) (by decide) (by decide)
 have Os65 := Os57.ext E64
 have Ks65 := Ks57.ext E64
 have Cs65 := Cs57.trans Cq64
 have Vl64 : bA Z h64 wb64 kb64 7 lit_2 := Va64
 obtain ⟨pr66, hpr66⟩ : ∃ z, z = pr58 ++ (segc vi10 lit_2) := ⟨_, rfl⟩
 have hE66 : U = pr66 ++ (lit_8 ++ ((segc vi12 lit_3) ++ (lit_7 ++ ((segc vi14 lit_4) ++ (lit_8 ++ ((segc vi16 lit_3) ++ (lit_9 ++ ((segc vi18 lit_5) ++ (lit_10 ++ ((segc vi20 lit_6) ++ ([] : List Value))))))))))) := by rw [hpr66, List.append_assoc]; exact hE58
 obtain ⟨r66, hr66⟩ : ∃ z, (r50 + 2) + (segc vi10 lit_2).length = z := ⟨_, rfl⟩
 have hP66 : pr66.length = r66 := by rw [hpr66, List.length_append, hP58]; exact hr66
 have hB66 : r66 ≤ nS := own_le hE66 hP66 hS_
 have f67 := (f59.ext E64)
 have f68 := (f60.ext E64)
 have f69 := (f61.ext E64)
 have f70 := (f62.ext E64)
 obtain ⟨_, _, ⟨T71, L71, k71, n71⟩, -, X71, ⟨Lc71, hQ71, l71, y71, z71⟩, st71⟩ := Jvm.LawKit.callS X64 hx (y := M47) hown64 (mvT hZ64 (wd hw 204 rfl)) (mvT hZ64 (wd hw 205 rfl)) (mvT hZ64 (wd hw 206 rfl)) (mvT hZ64 (wd hw 207 rfl)) (by decide) (backOf (W := 0) (rmK l Z a0 hw [] cz dg fm vi10 r66 b30_0 (r50 + 2) w64 b30_1 k30_0 nS U wb64 kb64 7 lit_2 pr58 (lit_8 ++ ((segc vi12 lit_3) ++ (lit_7 ++ ((segc vi14 lit_4) ++ (lit_8 ++ ((segc vi16 lit_3) ++ (lit_9 ++ ((segc vi18 lit_5) ++ (lit_10 ++ ((segc vi20 lit_6) ++ ([] : List Value))))))))))) h64 n0 Os65 P cd24 f67 f68 f69 f70 Ex64 Fv64 Fc64 Vl64 hE58 hP58 len_2 (by decide) (Nat.le_trans (Nat.le_of_eq hr66) hB66) hq120_ chs_2 hr66) hZ64 (wd hw 207 rfl) (wd hw 206 rfl) (by decide) (by decide)) (g := (mkF m 237 #[lI p0, lR b1, lI vi6, lI vi8, lI vi10, lI vi12, lI vi14, lI vi16, lI vi18, lI vi20, lR b30_0, lI ((oN (r50 + 2)))] [(.ref w64), (.int vi10), (.int (oN (r50 + 2))), (.ref b30_0)])) rfl (by rw [hml]; rfl) (argsL := [(.ref b30_0), (.int (oN (r50 + 2))), (.int vi10), (.ref w64)]) (rest := []) (lenOf pd_29 rfl) rfl (lz rfl) (hb hby at_237) (fun _ _ => ⟨rfl, e64, (by decide : 123 + 0 ≤ _), (by decide : 4118 + 0 ≤ _)⟩)
 dsimp only [Pt.U, Pt.locs, Pt.cells, Pt.slots] at X71 l71 y71 z71 st71 hQ71
 obtain rfl : k71 = 123 := y71
 obtain rfl : n71 = 4118 := z71
 obtain ⟨rfl, N71q, e71⟩ := hQ71
 have N71 : Fr n0 L71 := by rw [l71]; exact Fr.app N63 N71q
 obtain ⟨w72, T72, h72, kq72, wb72, kb72, X72, e72, E72, hS72, hkq72, hZ72, hown72, Ex72, Fc72, Fv72, Va72, la72, lb72, Cq72, -, hne72, st72⟩ := ldcCH X71 hx hZ64 hown64 (wd hw 240 rfl) wS e71 hS64 hkq64 hEL (mg 18 rfl) Cs65.1 (vs := [(vI 32), (vI 119), (vI 105), (vI 116), (vI 104), (vI 32)]) (z := (6 : Int32)) ⟨by decide, rfl⟩ (by decide) rfl (g := (mkF m 246 #[lI p0, lR b1, lI vi6, lI vi8, lI vi10, lI vi12, lI vi14, lI vi16, lI vi18, lI vi20, lR b30_0, lI ((oN r66))] [(.int (oN r66)), (.ref b30_0)])) rfl (hb hby at_246) (n := 24) (by decide) (by decide) (by decide) (by decide)
 have Os73 := Os65.ext E72
 have Ks73 := Ks65.ext E72
 have Cs73 := Cs65.trans Cq72
 have Vl72 : bA Z h72 wb72 kb72 6 lit_8 := Va72
 obtain ⟨pr74, hpr74⟩ : ∃ z, z = pr66 ++ lit_8 := ⟨_, rfl⟩
 have hE74 : U = pr74 ++ ((segc vi12 lit_3) ++ (lit_7 ++ ((segc vi14 lit_4) ++ (lit_8 ++ ((segc vi16 lit_3) ++ (lit_9 ++ ((segc vi18 lit_5) ++ (lit_10 ++ ((segc vi20 lit_6) ++ ([] : List Value)))))))))) := by rw [hpr74, List.append_assoc]; exact hE66
 have hP74 : pr74.length = (r66 + 6) := by rw [hpr74, List.length_append, hP66, len_8]
 have hB74 : (r66 + 6) ≤ nS := own_le hE74 hP74 hS_
 have f75 := (f67.ext E72)
 have f76 := (f68.ext E72)
 have f77 := (f69.ext E72)
 have f78 := (f70.ext E72)
 obtain ⟨_, _, ⟨T79, L79, k79, n79⟩, -, X79, ⟨Lc79, hQ79, l79, y79, z79⟩, st79⟩ := Jvm.LawKit.callS X72 hx (y := M46) hown72 (mvT hZ72 (wd hw 234 rfl)) (mvT hZ72 (wd hw 235 rfl)) (mvT hZ72 (wd hw 206 rfl)) (mvT hZ72 (wd hw 236 rfl)) (by decide) (backOf (W := 0) (rmL l Z a0 hw [] cz dg fm b30_0 r66 w72 b30_1 k30_0 nS U wb72 kb72 6 lit_8 pr66 ((segc vi12 lit_3) ++ (lit_7 ++ ((segc vi14 lit_4) ++ (lit_8 ++ ((segc vi16 lit_3) ++ (lit_9 ++ ((segc vi18 lit_5) ++ (lit_10 ++ ((segc vi20 lit_6) ++ ([] : List Value)))))))))) h72 n0 Os73 P f75 f76 f77 f78 Ex72 Fv72 Fc72 Vl72 hE66 hP66 len_8 (by decide) hB74 hq120_ chs_8) hZ72 (wd hw 236 rfl) (wd hw 206 rfl) (by decide) (by decide)) (g := (mkF m 248 #[lI p0, lR b1, lI vi6, lI vi8, lI vi10, lI vi12, lI vi14, lI vi16, lI vi18, lI vi20, lR b30_0, lI ((oN r66))] [(.ref w72), (.int (oN r66)), (.ref b30_0)])) rfl (by rw [hml]; rfl) (argsL := [(.ref b30_0), (.int (oN r66)), (.ref w72)]) (rest := []) (lenOf pd_28 rfl) rfl (lz rfl) (hb hby at_248) (fun _ _ => ⟨rfl, e72, (by decide : 125 + 0 ≤ _), (by decide : 4146 + 0 ≤ _)⟩)
 dsimp only [Pt.U, Pt.locs, Pt.cells, Pt.slots] at X79 l79 y79 z79 st79 hQ79
 obtain rfl : k79 = 125 := y79
 obtain rfl : n79 = 4146 := z79
 obtain ⟨rfl, N79q, e79⟩ := hQ79
 have N79 : Fr n0 L79 := by rw [l79]; exact Fr.app N71 N79q
 obtain ⟨w80, T80, h80, kq80, wb80, kb80, X80, e80, E80, hS80, hkq80, hZ80, hown80, Ex80, Fc80, Fv80, Va80, la80, lb80, Cq80, -, hne80, st80⟩ := ldcCH X79 hx hZ72 hown72 (wd hw 241 rfl) wS e79 hS72 hkq72 hEL (mg 19 rfl) Cs73.1 (vs := [(vI 115), (vI 104), (vI 97), (vI 114), (vI 101)]) (z := (5 : Int32)) ⟨by decide, rfl⟩ (by decide) rfl (g := (mkF m 259 #[lI p0, lR b1, lI vi6, lI vi8, lI vi10, lI vi12, lI vi14, lI vi16, lI vi18, lI vi20, lR b30_0, lI ((oN (r66 + 6)))] [(.int vi12), (.int (oN (r66 + 6))), (.ref b30_0)])) rfl (hb hby at_259) (n := 20) (by decide) (by decide) (by decide) (by decide)
 have Os81 := Os73.ext E80
 have Ks81 := Ks73.ext E80
 have Cs81 := Cs73.trans Cq80
 have Vl80 : bA Z h80 wb80 kb80 5 lit_3 := Va80
 obtain ⟨pr82, hpr82⟩ : ∃ z, z = pr74 ++ (segc vi12 lit_3) := ⟨_, rfl⟩
 have hE82 : U = pr82 ++ (lit_7 ++ ((segc vi14 lit_4) ++ (lit_8 ++ ((segc vi16 lit_3) ++ (lit_9 ++ ((segc vi18 lit_5) ++ (lit_10 ++ ((segc vi20 lit_6) ++ ([] : List Value))))))))) := by rw [hpr82, List.append_assoc]; exact hE74
 obtain ⟨r82, hr82⟩ : ∃ z, (r66 + 6) + (segc vi12 lit_3).length = z := ⟨_, rfl⟩
 have hP82 : pr82.length = r82 := by rw [hpr82, List.length_append, hP74]; exact hr82
 have hB82 : r82 ≤ nS := own_le hE82 hP82 hS_
 have f83 := (f75.ext E80)
 have f84 := (f76.ext E80)
 have f85 := (f77.ext E80)
 have f86 := (f78.ext E80)
 obtain ⟨_, _, ⟨T87, L87, k87, n87⟩, -, X87, ⟨Lc87, hQ87, l87, y87, z87⟩, st87⟩ := Jvm.LawKit.callS X80 hx (y := M47) hown80 (mvT hZ80 (wd hw 204 rfl)) (mvT hZ80 (wd hw 205 rfl)) (mvT hZ80 (wd hw 206 rfl)) (mvT hZ80 (wd hw 207 rfl)) (by decide) (backOf (W := 0) (rmK l Z a0 hw [] cz dg fm vi12 r82 b30_0 (r66 + 6) w80 b30_1 k30_0 nS U wb80 kb80 5 lit_3 pr74 (lit_7 ++ ((segc vi14 lit_4) ++ (lit_8 ++ ((segc vi16 lit_3) ++ (lit_9 ++ ((segc vi18 lit_5) ++ (lit_10 ++ ((segc vi20 lit_6) ++ ([] : List Value))))))))) h80 n0 Os81 P cd25 f83 f84 f85 f86 Ex80 Fv80 Fc80 Vl80 hE74 hP74 len_3 (by decide) (Nat.le_trans (Nat.le_of_eq hr82) hB82) hq120_ chs_3 hr82) hZ80 (wd hw 207 rfl) (wd hw 206 rfl) (by decide) (by decide)) (g := (mkF m 261 #[lI p0, lR b1, lI vi6, lI vi8, lI vi10, lI vi12, lI vi14, lI vi16, lI vi18, lI vi20, lR b30_0, lI ((oN (r66 + 6)))] [(.ref w80), (.int vi12), (.int (oN (r66 + 6))), (.ref b30_0)])) rfl (by rw [hml]; rfl) (argsL := [(.ref b30_0), (.int (oN (r66 + 6))), (.int vi12), (.ref w80)]) (rest := []) (lenOf pd_29 rfl) rfl (lz rfl) (hb hby at_261) (fun _ _ => ⟨rfl, e80, (by decide : 127 + 0 ≤ _), (by decide : 4170 + 0 ≤ _)⟩)
 dsimp only [Pt.U, Pt.locs, Pt.cells, Pt.slots] at X87 l87 y87 z87 st87 hQ87
 obtain rfl : k87 = 127 := y87
 obtain rfl : n87 = 4170 := z87
 obtain ⟨rfl, N87q, e87⟩ := hQ87
 have N87 : Fr n0 L87 := by rw [l87]; exact Fr.app N79 N87q
 obtain ⟨w88, T88, h88, kq88, wb88, kb88, X88, e88, E88, hS88, hkq88, hZ88, hown88, Ex88, Fc88, Fv88, Va88, la88, lb88, Cq88, -, hne88, st88⟩ := ldcCH X87 hx hZ80 hown80 (wd hw 237 rfl) wS e87 hS80 hkq80 hEL (mg 15 rfl) Cs81.1 (vs := [(vI 44), (vI 32)]) (z := (2 : Int32)) ⟨by decide, rfl⟩ (by decide) rfl (g := (mkF m 270 #[lI p0, lR b1, lI vi6, lI vi8, lI vi10, lI vi12, lI vi14, lI vi16, lI vi18, lI vi20, lR b30_0, lI ((oN r82))] [(.int (oN r82)), (.ref b30_0)])) rfl (hb hby at_270) (n := 8) (by decide) (by decide) (by decide) (by decide)
 have Os89 := Os81.ext E88
 have Ks89 := Ks81.ext E88
 have Cs89 := Cs81.trans Cq88
 have Vl88 : bA Z h88 wb88 kb88 2 lit_7 := Va88
 obtain ⟨pr90, hpr90⟩ : ∃ z, z = pr82 ++ lit_7 := ⟨_, rfl⟩
 have hE90 : U = pr90 ++ ((segc vi14 lit_4) ++ (lit_8 ++ ((segc vi16 lit_3) ++ (lit_9 ++ ((segc vi18 lit_5) ++ (lit_10 ++ ((segc vi20 lit_6) ++ ([] : List Value)))))))) := by rw [hpr90, List.append_assoc]; exact hE82
 have hP90 : pr90.length = (r82 + 2) := by rw [hpr90, List.length_append, hP82, len_7]
 have hB90 : (r82 + 2) ≤ nS := own_le hE90 hP90 hS_
 have f91 := (f83.ext E88)
 have f92 := (f84.ext E88)
 have f93 := (f85.ext E88)
 have f94 := (f86.ext E88)
 obtain ⟨_, _, ⟨T95, L95, k95, n95⟩, -, X95, ⟨Lc95, hQ95, l95, y95, z95⟩, st95⟩ := Jvm.LawKit.callS X88 hx (y := M46) hown88 (mvT hZ88 (wd hw 234 rfl)) (mvT hZ88 (wd hw 235 rfl)) (mvT hZ88 (wd hw 206 rfl)) (mvT hZ88 (wd hw 236 rfl)) (by decide) (backOf (W := 0) (rmL l Z a0 hw [] cz dg fm b30_0 r82 w88 b30_1 k30_0 nS U wb88 kb88 2 lit_7 pr82 ((segc vi14 lit_4) ++ (lit_8 ++ ((segc vi16 lit_3) ++ (lit_9 ++ ((segc vi18 lit_5) ++ (lit_10 ++ ((segc vi20 lit_6) ++ ([] : List Value)))))))) h88 n0 Os89 P f91 f92 f93 f94 Ex88 Fv88 Fc88 Vl88 hE82 hP82 len_7 (by decide) hB90 hq120_ chs_7) hZ88 (wd hw 236 rfl) (wd hw 206 rfl) (by decide) (by decide)) (g := (mkF m 272 #[lI p0, lR b1, lI vi6, lI vi8, lI vi10, lI vi12, lI vi14, lI vi16, lI vi18, lI vi20, lR b30_0, lI ((oN r82))] [(.ref w88), (.int (oN r82)), (.ref b30_0)])) rfl (by rw [hml]; rfl) (argsL := [(.ref b30_0), (.int (oN r82)), (.ref w88)]) (rest := []) (lenOf pd_28 rfl) rfl (lz rfl) (hb hby at_272) (fun _ _ => ⟨rfl, e88, (by decide : 129 + 0 ≤ _), (by decide : 4182 + 0 ≤ _)⟩)
 dsimp only [Pt.U, Pt.locs, Pt.cells, Pt.slots] at X95 l95 y95 z95 st95 hQ95
 obtain rfl : k95 = 129 := y95
 obtain rfl : n95 = 4182 := z95
 obtain ⟨rfl, N95q, e95⟩ := hQ95
 have N95 : Fr n0 L95 := by rw [l95]; exact Fr.app N87 N95q
 obtain ⟨w96, T96, h96, kq96, wb96, kb96, X96, e96, E96, hS96, hkq96, hZ96, hown96, Ex96, Fc96, Fv96, Va96, la96, lb96, Cq96, -, hne96, st96⟩ := ldcCH X95 hx hZ88 hown88 (wd hw 242 rfl) wS e95 hS88 hkq88 hEL (mg 20 rfl) Cs89.1 (vs := [(vI 100), (vI 111), (vI 99), (vI 117), (vI 109), (vI 101), (vI 110), (vI 116)]) (z := (8 : Int32)) ⟨by decide, rfl⟩ (by decide) rfl (g := (mkF m 283 #[lI p0, lR b1, lI vi6, lI vi8, lI vi10, lI vi12, lI vi14, lI vi16, lI vi18, lI vi20, lR b30_0, lI ((oN (r82 + 2)))] [(.int vi14), (.int (oN (r82 + 2))), (.ref b30_0)])) rfl (hb hby at_283) (n := 32) (by decide) (by decide) (by decide) (by decide)
 have Os97 := Os89.ext E96
 have Ks97 := Ks89.ext E96
 have Cs97 := Cs89.trans Cq96
 have Vl96 : bA Z h96 wb96 kb96 8 lit_4 := Va96
 obtain ⟨pr98, hpr98⟩ : ∃ z, z = pr90 ++ (segc vi14 lit_4) := ⟨_, rfl⟩
 have hE98 : U = pr98 ++ (lit_8 ++ ((segc vi16 lit_3) ++ (lit_9 ++ ((segc vi18 lit_5) ++ (lit_10 ++ ((segc vi20 lit_6) ++ ([] : List Value))))))) := by rw [hpr98, List.append_assoc]; exact hE90
 obtain ⟨r98, hr98⟩ : ∃ z, (r82 + 2) + (segc vi14 lit_4).length = z := ⟨_, rfl⟩
 have hP98 : pr98.length = r98 := by rw [hpr98, List.length_append, hP90]; exact hr98
 have hB98 : r98 ≤ nS := own_le hE98 hP98 hS_
 have f99 := (f91.ext E96)
 have f100 := (f92.ext E96)
 have f101 := (f93.ext E96)
 have f102 := (f94.ext E96)
 obtain ⟨_, _, ⟨T103, L103, k103, n103⟩, -, X103, ⟨Lc103, hQ103, l103, y103, z103⟩, st103⟩ := Jvm.LawKit.callS X96 hx (y := M47) hown96 (mvT hZ96 (wd hw 204 rfl)) (mvT hZ96 (wd hw 205 rfl)) (mvT hZ96 (wd hw 206 rfl)) (mvT hZ96 (wd hw 207 rfl)) (by decide) (backOf (W := 0) (rmK l Z a0 hw [] cz dg fm vi14 r98 b30_0 (r82 + 2) w96 b30_1 k30_0 nS U wb96 kb96 8 lit_4 pr90 (lit_8 ++ ((segc vi16 lit_3) ++ (lit_9 ++ ((segc vi18 lit_5) ++ (lit_10 ++ ((segc vi20 lit_6) ++ ([] : List Value))))))) h96 n0 Os97 P cd26 f99 f100 f101 f102 Ex96 Fv96 Fc96 Vl96 hE90 hP90 len_4 (by decide) (Nat.le_trans (Nat.le_of_eq hr98) hB98) hq120_ chs_4 hr98) hZ96 (wd hw 207 rfl) (wd hw 206 rfl) (by decide) (by decide)) (g := (mkF m 285 #[lI p0, lR b1, lI vi6, lI vi8, lI vi10, lI vi12, lI vi14, lI vi16, lI vi18, lI vi20, lR b30_0, lI ((oN (r82 + 2)))] [(.ref w96), (.int vi14), (.int (oN (r82 + 2))), (.ref b30_0)])) rfl (by rw [hml]; rfl) (argsL := [(.ref b30_0), (.int (oN (r82 + 2))), (.int vi14), (.ref w96)]) (rest := []) (lenOf pd_29 rfl) rfl (lz rfl) (hb hby at_285) (fun _ _ => ⟨rfl, e96, (by decide : 131 + 0 ≤ _), (by decide : 4218 + 0 ≤ _)⟩)
 dsimp only [Pt.U, Pt.locs, Pt.cells, Pt.slots] at X103 l103 y103 z103 st103 hQ103
 obtain rfl : k103 = 131 := y103
 obtain rfl : n103 = 4218 := z103
 obtain ⟨rfl, N103q, e103⟩ := hQ103
 have N103 : Fr n0 L103 := by rw [l103]; exact Fr.app N95 N103q
 obtain ⟨w104, T104, h104, kq104, wb104, kb104, X104, e104, E104, hS104, hkq104, hZ104, hown104, Ex104, Fc104, Fv104, Va104, la104, lb104, Cq104, -, hne104, st104⟩ := ldcCH X103 hx hZ96 hown96 (wd hw 240 rfl) wS e103 hS96 hkq96 hEL (mg 18 rfl) Cs97.1 (vs := [(vI 32), (vI 119), (vI 105), (vI 116), (vI 104), (vI 32)]) (z := (6 : Int32)) ⟨by decide, rfl⟩ (by decide) rfl (g := (mkF m 294 #[lI p0, lR b1, lI vi6, lI vi8, lI vi10, lI vi12, lI vi14, lI vi16, lI vi18, lI vi20, lR b30_0, lI ((oN r98))] [(.int (oN r98)), (.ref b30_0)])) rfl (hb hby at_294) (n := 24) (by decide) (by decide) (by decide) (by decide)
 have Os105 := Os97.ext E104
 have Ks105 := Ks97.ext E104
 have Cs105 := Cs97.trans Cq104
 have Vl104 : bA Z h104 wb104 kb104 6 lit_8 := Va104
 obtain ⟨pr106, hpr106⟩ : ∃ z, z = pr98 ++ lit_8 := ⟨_, rfl⟩
 have hE106 : U = pr106 ++ ((segc vi16 lit_3) ++ (lit_9 ++ ((segc vi18 lit_5) ++ (lit_10 ++ ((segc vi20 lit_6) ++ ([] : List Value)))))) := by rw [hpr106, List.append_assoc]; exact hE98
 have hP106 : pr106.length = (r98 + 6) := by rw [hpr106, List.length_append, hP98, len_8]
 have hB106 : (r98 + 6) ≤ nS := own_le hE106 hP106 hS_
 have f107 := (f99.ext E104)
 have f108 := (f100.ext E104)
 have f109 := (f101.ext E104)
 have f110 := (f102.ext E104)
 obtain ⟨_, _, ⟨T111, L111, k111, n111⟩, -, X111, ⟨Lc111, hQ111, l111, y111, z111⟩, st111⟩ := Jvm.LawKit.callS X104 hx (y := M46) hown104 (mvT hZ104 (wd hw 234 rfl)) (mvT hZ104 (wd hw 235 rfl)) (mvT hZ104 (wd hw 206 rfl)) (mvT hZ104 (wd hw 236 rfl)) (by decide) (backOf (W := 0) (rmL l Z a0 hw [] cz dg fm b30_0 r98 w104 b30_1 k30_0 nS U wb104 kb104 6 lit_8 pr98 ((segc vi16 lit_3) ++ (lit_9 ++ ((segc vi18 lit_5) ++ (lit_10 ++ ((segc vi20 lit_6) ++ ([] : List Value)))))) h104 n0 Os105 P f107 f108 f109 f110 Ex104 Fv104 Fc104 Vl104 hE98 hP98 len_8 (by decide) hB106 hq120_ chs_8) hZ104 (wd hw 236 rfl) (wd hw 206 rfl) (by decide) (by decide)) (g := (mkF m 296 #[lI p0, lR b1, lI vi6, lI vi8, lI vi10, lI vi12, lI vi14, lI vi16, lI vi18, lI vi20, lR b30_0, lI ((oN r98))] [(.ref w104), (.int (oN r98)), (.ref b30_0)])) rfl (by rw [hml]; rfl) (argsL := [(.ref b30_0), (.int (oN r98)), (.ref w104)]) (rest := []) (lenOf pd_28 rfl) rfl (lz rfl) (hb hby at_296) (fun _ _ => ⟨rfl, e104, (by decide : 133 + 0 ≤ _), (by decide : 4246 + 0 ≤ _)⟩)
 dsimp only [Pt.U, Pt.locs, Pt.cells, Pt.slots] at X111 l111 y111 z111 st111 hQ111
 obtain rfl : k111 = 133 := y111
 obtain rfl : n111 = 4246 := z111
 obtain ⟨rfl, N111q, e111⟩ := hQ111
 have N111 : Fr n0 L111 := by rw [l111]; exact Fr.app N103 N111q
 obtain ⟨w112, T112, h112, kq112, wb112, kb112, X112, e112, E112, hS112, hkq112, hZ112, hown112, Ex112, Fc112, Fv112, Va112, la112, lb112, Cq112, -, hne112, st112⟩ := ldcCH X111 hx hZ104 hown104 (wd hw 241 rfl) wS e111 hS104 hkq104 hEL (mg 19 rfl) Cs105.1 (vs := [(vI 115), (vI 104), (vI 97), (vI 114), (vI 101)]) (z := (5 : Int32)) ⟨by decide, rfl⟩ (by decide) rfl (g := (mkF m 307 #[lI p0, lR b1, lI vi6, lI vi8, lI vi10, lI vi12, lI vi14, lI vi16, lI vi18, lI vi20, lR b30_0, lI ((oN (r98 + 6)))] [(.int vi16), (.int (oN (r98 + 6))), (.ref b30_0)])) rfl (hb hby at_307) (n := 20) (by decide) (by decide) (by decide) (by decide)
 have Os113 := Os105.ext E112
 have Ks113 := Ks105.ext E112
 have Cs113 := Cs105.trans Cq112
 have Vl112 : bA Z h112 wb112 kb112 5 lit_3 := Va112
 obtain ⟨pr114, hpr114⟩ : ∃ z, z = pr106 ++ (segc vi16 lit_3) := ⟨_, rfl⟩
 have hE114 : U = pr114 ++ (lit_9 ++ ((segc vi18 lit_5) ++ (lit_10 ++ ((segc vi20 lit_6) ++ ([] : List Value))))) := by rw [hpr114, List.append_assoc]; exact hE106
 obtain ⟨r114, hr114⟩ : ∃ z, (r98 + 6) + (segc vi16 lit_3).length = z := ⟨_, rfl⟩
 have hP114 : pr114.length = r114 := by rw [hpr114, List.length_append, hP106]; exact hr114
 have hB114 : r114 ≤ nS := own_le hE114 hP114 hS_
 have f115 := (f107.ext E112)
 have f116 := (f108.ext E112)
 have f117 := (f109.ext E112)
 have f118 := (f110.ext E112)
 obtain ⟨_, _, ⟨T119, L119, k119, n119⟩, -, X119, ⟨Lc119, hQ119, l119, y119, z119⟩, st119⟩ := Jvm.LawKit.callS X112 hx (y := M47) hown112 (mvT hZ112 (wd hw 204 rfl)) (mvT hZ112 (wd hw 205 rfl)) (mvT hZ112 (wd hw 206 rfl)) (mvT hZ112 (wd hw 207 rfl)) (by decide) (backOf (W := 0) (rmK l Z a0 hw [] cz dg fm vi16 r114 b30_0 (r98 + 6) w112 b30_1 k30_0 nS U wb112 kb112 5 lit_3 pr106 (lit_9 ++ ((segc vi18 lit_5) ++ (lit_10 ++ ((segc vi20 lit_6) ++ ([] : List Value))))) h112 n0 Os113 P cd27 f115 f116 f117 f118 Ex112 Fv112 Fc112 Vl112 hE106 hP106 len_3 (by decide) (Nat.le_trans (Nat.le_of_eq hr114) hB114) hq120_ chs_3 hr114) hZ112 (wd hw 207 rfl) (wd hw 206 rfl) (by decide) (by decide)) (g := (mkF m 309 #[lI p0, lR b1, lI vi6, lI vi8, lI vi10, lI vi12, lI vi14, lI vi16, lI vi18, lI vi20, lR b30_0, lI ((oN (r98 + 6)))] [(.ref w112), (.int vi16), (.int (oN (r98 + 6))), (.ref b30_0)])) rfl (by rw [hml]; rfl) (argsL := [(.ref b30_0), (.int (oN (r98 + 6))), (.int vi16), (.ref w112)]) (rest := []) (lenOf pd_29 rfl) rfl (lz rfl) (hb hby at_309) (fun _ _ => ⟨rfl, e112, (by decide : 135 + 0 ≤ _), (by decide : 4270 + 0 ≤ _)⟩)
 dsimp only [Pt.U, Pt.locs, Pt.cells, Pt.slots] at X119 l119 y119 z119 st119 hQ119
 obtain rfl : k119 = 135 := y119
 obtain rfl : n119 = 4270 := z119
 obtain ⟨rfl, N119q, e119⟩ := hQ119
 have N119 : Fr n0 L119 := by rw [l119]; exact Fr.app N111 N119q
 obtain ⟨w120, T120, h120, kq120, wb120, kb120, X120, e120, E120, hS120, hkq120, hZ120, hown120, Ex120, Fc120, Fv120, Va120, la120, lb120, Cq120, -, hne120, st120⟩ := ldcCH X119 hx hZ112 hown112 (wd hw 243 rfl) wS e119 hS112 hkq112 hEL (mg 21 rfl) Cs113.1 (vs := [(vI 32), (vI 97), (vI 110), (vI 100), (vI 32)]) (z := (5 : Int32)) ⟨by decide, rfl⟩ (by decide) rfl (g := (mkF m 318 #[lI p0, lR b1, lI vi6, lI vi8, lI vi10, lI vi12, lI vi14, lI vi16, lI vi18, lI vi20, lR b30_0, lI ((oN r114))] [(.int (oN r114)), (.ref b30_0)])) rfl (hb hby at_318) (n := 20) (by decide) (by decide) (by decide) (by decide)
 have Os121 := Os113.ext E120
 have Ks121 := Ks113.ext E120
 have Cs121 := Cs113.trans Cq120
 have Vl120 : bA Z h120 wb120 kb120 5 lit_9 := Va120
 obtain ⟨pr122, hpr122⟩ : ∃ z, z = pr114 ++ lit_9 := ⟨_, rfl⟩
 have hE122 : U = pr122 ++ ((segc vi18 lit_5) ++ (lit_10 ++ ((segc vi20 lit_6) ++ ([] : List Value)))) := by rw [hpr122, List.append_assoc]; exact hE114
 have hP122 : pr122.length = (r114 + 5) := by rw [hpr122, List.length_append, hP114, len_9]
 have hB122 : (r114 + 5) ≤ nS := own_le hE122 hP122 hS_
 have f123 := (f115.ext E120)
 have f124 := (f116.ext E120)
 have f125 := (f117.ext E120)
 have f126 := (f118.ext E120)
 obtain ⟨_, _, ⟨T127, L127, k127, n127⟩, -, X127, ⟨Lc127, hQ127, l127, y127, z127⟩, st127⟩ := Jvm.LawKit.callS X120 hx (y := M46) hown120 (mvT hZ120 (wd hw 234 rfl)) (mvT hZ120 (wd hw 235 rfl)) (mvT hZ120 (wd hw 206 rfl)) (mvT hZ120 (wd hw 236 rfl)) (by decide) (backOf (W := 0) (rmL l Z a0 hw [] cz dg fm b30_0 r114 w120 b30_1 k30_0 nS U wb120 kb120 5 lit_9 pr114 ((segc vi18 lit_5) ++ (lit_10 ++ ((segc vi20 lit_6) ++ ([] : List Value)))) h120 n0 Os121 P f123 f124 f125 f126 Ex120 Fv120 Fc120 Vl120 hE114 hP114 len_9 (by decide) hB122 hq120_ chs_9) hZ120 (wd hw 236 rfl) (wd hw 206 rfl) (by decide) (by decide)) (g := (mkF m 320 #[lI p0, lR b1, lI vi6, lI vi8, lI vi10, lI vi12, lI vi14, lI vi16, lI vi18, lI vi20, lR b30_0, lI ((oN r114))] [(.ref w120), (.int (oN r114)), (.ref b30_0)])) rfl (by rw [hml]; rfl) (argsL := [(.ref b30_0), (.int (oN r114)), (.ref w120)]) (rest := []) (lenOf pd_28 rfl) rfl (lz rfl) (hb hby at_320) (fun _ _ => ⟨rfl, e120, (by decide : 137 + 0 ≤ _), (by decide : 4294 + 0 ≤ _)⟩)
 dsimp only [Pt.U, Pt.locs, Pt.cells, Pt.slots] at X127 l127 y127 z127 st127 hQ127
 obtain rfl : k127 = 137 := y127
 obtain rfl : n127 = 4294 := z127
 obtain ⟨rfl, N127q, e127⟩ := hQ127
 have N127 : Fr n0 L127 := by rw [l127]; exact Fr.app N119 N127q
 obtain ⟨w128, T128, h128, kq128, wb128, kb128, X128, e128, E128, hS128, hkq128, hZ128, hown128, Ex128, Fc128, Fv128, Va128, la128, lb128, Cq128, -, hne128, st128⟩ := ldcCH X127 hx hZ120 hown120 (wd hw 244 rfl) wS e127 hS120 hkq120 hEL (mg 22 rfl) Cs121.1 (vs := [(vI 101), (vI 97), (vI 114), (vI 108), (vI 105), (vI 101), (vI 114), (vI 32), (vI 118), (vI 101), (vI 114), (vI 115), (vI 105), (vI 111), (vI 110)]) (z := (15 : Int32)) ⟨by decide, rfl⟩ (by decide) rfl (g := (mkF m 331 #[lI p0, lR b1, lI vi6, lI vi8, lI vi10, lI vi12, lI vi14, lI vi16, lI vi18, lI vi20, lR b30_0, lI ((oN (r114 + 5)))] [(.int vi18), (.int (oN (r114 + 5))), (.ref b30_0)])) rfl (hb hby at_331) (n := 60) (by decide) (by decide) (by decide) (by decide)
 have Os129 := Os121.ext E128
 have Ks129 := Ks121.ext E128
 have Cs129 := Cs121.trans Cq128
 have Vl128 : bA Z h128 wb128 kb128 15 lit_5 := Va128
 obtain ⟨pr130, hpr130⟩ : ∃ z, z = pr122 ++ (segc vi18 lit_5) := ⟨_, rfl⟩
 have hE130 : U = pr130 ++ (lit_10 ++ ((segc vi20 lit_6) ++ ([] : List Value))) := by rw [hpr130, List.append_assoc]; exact hE122
 obtain ⟨r130, hr130⟩ : ∃ z, (r114 + 5) + (segc vi18 lit_5).length = z := ⟨_, rfl⟩
 have hP130 : pr130.length = r130 := by rw [hpr130, List.length_append, hP122]; exact hr130
 have hB130 : r130 ≤ nS := own_le hE130 hP130 hS_
 have f131 := (f123.ext E128)
 have f132 := (f124.ext E128)
 have f133 := (f125.ext E128)
 have f134 := (f126.ext E128)
 obtain ⟨_, _, ⟨T135, L135, k135, n135⟩, -, X135, ⟨Lc135, hQ135, l135, y135, z135⟩, st135⟩ := Jvm.LawKit.callS X128 hx (y := M47) hown128 (mvT hZ128 (wd hw 204 rfl)) (mvT hZ128 (wd hw 205 rfl)) (mvT hZ128 (wd hw 206 rfl)) (mvT hZ128 (wd hw 207 rfl)) (by decide) (backOf (W := 0) (rmK l Z a0 hw [] cz dg fm vi18 r130 b30_0 (r114 + 5) w128 b30_1 k30_0 nS U wb128 kb128 15 lit_5 pr122 (lit_10 ++ ((segc vi20 lit_6) ++ ([] : List Value))) h128 n0 Os129 P cd28 f131 f132 f133 f134 Ex128 Fv128 Fc128 Vl128 hE122 hP122 len_5 (by decide) (Nat.le_trans (Nat.le_of_eq hr130) hB130) hq120_ chs_5 hr130) hZ128 (wd hw 207 rfl) (wd hw 206 rfl) (by decide) (by decide)) (g := (mkF m 333 #[lI p0, lR b1, lI vi6, lI vi8, lI vi10, lI vi12, lI vi14, lI vi16, lI vi18, lI vi20, lR b30_0, lI ((oN (r114 + 5)))] [(.ref w128), (.int vi18), (.int (oN (r114 + 5))), (.ref b30_0)])) rfl (by rw [hml]; rfl) (argsL := [(.ref b30_0), (.int (oN (r114 + 5))), (.int vi18), (.ref w128)]) (rest := []) (lenOf pd_29 rfl) rfl (lz rfl) (hb hby at_333) (fun _ _ => ⟨rfl, e128, (by decide : 139 + 0 ≤ _), (by decide : 4358 + 0 ≤ _)⟩)
 dsimp only [Pt.U, Pt.locs, Pt.cells, Pt.slots] at X135 l135 y135 z135 st135 hQ135
 obtain rfl : k135 = 139 := y135
 obtain rfl : n135 = 4358 := z135
 obtain ⟨rfl, N135q, e135⟩ := hQ135
 have N135 : Fr n0 L135 := by rw [l135]; exact Fr.app N127 N135q
 obtain ⟨w136, T136, h136, kq136, wb136, kb136, X136, e136, E136, hS136, hkq136, hZ136, hown136, Ex136, Fc136, Fv136, Va136, la136, lb136, Cq136, -, hne136, st136⟩ := ldcCH X135 hx hZ128 hown128 (wd hw 245 rfl) wS e135 hS128 hkq128 hEL (mg 23 rfl) Cs129.1 (vs := [(vI 44), (vI 32), (vI 97), (vI 110), (vI 100), (vI 32)]) (z := (6 : Int32)) ⟨by decide, rfl⟩ (by decide) rfl (g := (mkF m 342 #[lI p0, lR b1, lI vi6, lI vi8, lI vi10, lI vi12, lI vi14, lI vi16, lI vi18, lI vi20, lR b30_0, lI ((oN r130))] [(.int (oN r130)), (.ref b30_0)])) rfl (hb hby at_342) (n := 24) (by decide) (by decide) (by decide) (by decide)
 have Os137 := Os129.ext E136
 have Ks137 := Ks129.ext E136
 have Cs137 := Cs129.trans Cq136
 have Vl136 : bA Z h136 wb136 kb136 6 lit_10 := Va136
 obtain ⟨pr138, hpr138⟩ : ∃ z, z = pr130 ++ lit_10 := ⟨_, rfl⟩
 have hE138 : U = pr138 ++ ((segc vi20 lit_6) ++ ([] : List Value)) := by rw [hpr138, List.append_assoc]; exact hE130
 have hP138 : pr138.length = (r130 + 6) := by rw [hpr138, List.length_append, hP130, len_10]
 have hB138 : (r130 + 6) ≤ nS := own_le hE138 hP138 hS_
 have f139 := (f131.ext E136)
 have f140 := (f132.ext E136)
 have f141 := (f133.ext E136)
 have f142 := (f134.ext E136)
 obtain ⟨_, _, ⟨T143, L143, k143, n143⟩, -, X143, ⟨Lc143, hQ143, l143, y143, z143⟩, st143⟩ := Jvm.LawKit.callS X136 hx (y := M46) hown136 (mvT hZ136 (wd hw 234 rfl)) (mvT hZ136 (wd hw 235 rfl)) (mvT hZ136 (wd hw 206 rfl)) (mvT hZ136 (wd hw 236 rfl)) (by decide) (backOf (W := 0) (rmL l Z a0 hw [] cz dg fm b30_0 r130 w136 b30_1 k30_0 nS U wb136 kb136 6 lit_10 pr130 ((segc vi20 lit_6) ++ ([] : List Value)) h136 n0 Os137 P f139 f140 f141 f142 Ex136 Fv136 Fc136 Vl136 hE130 hP130 len_10 (by decide) hB138 hq120_ chs_10) hZ136 (wd hw 236 rfl) (wd hw 206 rfl) (by decide) (by decide)) (g := (mkF m 344 #[lI p0, lR b1, lI vi6, lI vi8, lI vi10, lI vi12, lI vi14, lI vi16, lI vi18, lI vi20, lR b30_0, lI ((oN r130))] [(.ref w136), (.int (oN r130)), (.ref b30_0)])) rfl (by rw [hml]; rfl) (argsL := [(.ref b30_0), (.int (oN r130)), (.ref w136)]) (rest := []) (lenOf pd_28 rfl) rfl (lz rfl) (hb hby at_344) (fun _ _ => ⟨rfl, e136, (by decide : 141 + 0 ≤ _), (by decide : 4386 + 0 ≤ _)⟩)
 dsimp only [Pt.U, Pt.locs, Pt.cells, Pt.slots] at X143 l143 y143 z143 st143 hQ143
 obtain rfl : k143 = 141 := y143
 obtain rfl : n143 = 4386 := z143
 obtain ⟨rfl, N143q, e143⟩ := hQ143
 have N143 : Fr n0 L143 := by rw [l143]; exact Fr.app N135 N143q
 obtain ⟨w144, T144, h144, kq144, wb144, kb144, X144, e144, E144, hS144, hkq144, hZ144, hown144, Ex144, Fc144, Fv144, Va144, la144, lb144, Cq144, -, hne144, st144⟩ := ldcCH X143 hx hZ136 hown136 (wd hw 246 rfl) wS e143 hS136 hkq136 hEL (mg 24 rfl) Cs137.1 (vs := [(vI 99), (vI 111), (vI 109), (vI 109), (vI 101), (vI 110), (vI 116)]) (z := (7 : Int32)) ⟨by decide, rfl⟩ (by decide) rfl (g := (mkF m 355 #[lI p0, lR b1, lI vi6, lI vi8, lI vi10, lI vi12, lI vi14, lI vi16, lI vi18, lI vi20, lR b30_0, lI ((oN (r130 + 6)))] [(.int vi20), (.int (oN (r130 + 6))), (.ref b30_0)])) rfl (hb hby at_355) (n := 28) (by decide) (by decide) (by decide) (by decide)
 have Os145 := Os137.ext E144
 have Ks145 := Ks137.ext E144
 have Cs145 := Cs137.trans Cq144
 have Vl144 : bA Z h144 wb144 kb144 7 lit_6 := Va144
 obtain ⟨pr146, hpr146⟩ : ∃ z, z = pr138 ++ (segc vi20 lit_6) := ⟨_, rfl⟩
 have hE146 : U = pr146 ++ ([] : List Value) := by rw [hpr146, List.append_assoc]; exact hE138
 obtain ⟨r146, hr146⟩ : ∃ z, (r130 + 6) + (segc vi20 lit_6).length = z := ⟨_, rfl⟩
 have hP146 : pr146.length = r146 := by rw [hpr146, List.length_append, hP138]; exact hr146
 have hB146 : r146 ≤ nS := own_le hE146 hP146 hS_
 have f147 := (f139.ext E144)
 have f148 := (f140.ext E144)
 have f149 := (f141.ext E144)
 have f150 := (f142.ext E144)
 obtain ⟨_, _, ⟨T151, L151, k151, n151⟩, -, X151, ⟨Lc151, hQ151, l151, y151, z151⟩, st151⟩ := Jvm.LawKit.callS X144 hx (y := M47) hown144 (mvT hZ144 (wd hw 204 rfl)) (mvT hZ144 (wd hw 205 rfl)) (mvT hZ144 (wd hw 206 rfl)) (mvT hZ144 (wd hw 207 rfl)) (by decide) (backOf (W := 0) (rmK l Z a0 hw [] cz dg fm vi20 r146 b30_0 (r130 + 6) w144 b30_1 k30_0 nS U wb144 kb144 7 lit_6 pr138 ([] : List Value) h144 n0 Os145 P cd29 f147 f148 f149 f150 Ex144 Fv144 Fc144 Vl144 hE138 hP138 len_6 (by decide) (Nat.le_trans (Nat.le_of_eq hr146) hB146) hq120_ chs_6 hr146) hZ144 (wd hw 207 rfl) (wd hw 206 rfl) (by decide) (by decide)) (g := (mkF m 357 #[lI p0, lR b1, lI vi6, lI vi8, lI vi10, lI vi12, lI vi14, lI vi16, lI vi18, lI vi20, lR b30_0, lI ((oN (r130 + 6)))] [(.ref w144), (.int vi20), (.int (oN (r130 + 6))), (.ref b30_0)])) rfl (by rw [hml]; rfl) (argsL := [(.ref b30_0), (.int (oN (r130 + 6))), (.int vi20), (.ref w144)]) (rest := []) (lenOf pd_29 rfl) rfl (lz rfl) (hb hby at_357) (fun _ _ => ⟨rfl, e144, (by decide : 143 + 0 ≤ _), (by decide : 4418 + 0 ≤ _)⟩)
 dsimp only [Pt.U, Pt.locs, Pt.cells, Pt.slots] at X151 l151 y151 z151 st151 hQ151
 obtain rfl : k151 = 143 := y151
 obtain rfl : n151 = 4418 := z151
 obtain ⟨rfl, N151q, e151⟩ := hQ151
 have N151 : Fr n0 L151 := by rw [l151]; exact Fr.app N143 N151q
 obtain ⟨cq152, kq152, q152a, q152b, q152c⟩ := isOf hZ144 e151 f147
 obtain ⟨_, _, ⟨T152, L152, k152, n152⟩, -, X152, ⟨Lc152, hQ152, l152, y152, z152⟩, st152⟩ := X151.virtualBack hx (y := M18) (z := M18) hown144 (mvT hZ144 (wd hw 211 rfl)) (mvT hZ144 (wd hw 86 rfl)) (notFace_of_selects (args := #[]) (mvT hZ144 (wd hw 88 rfl))) (mvT hZ144 (wd hw 88 rfl)) (mvT hZ144 (wd hw 87 rfl)) (by decide) (backOf (W := 1) (rm15_19 l Z a0 hw [] cz dg fm b30_0 b30_1 k30_0 nS U h144 n0 Os145 P f148 f150 f147 f149) hZ144 (wd hw 89 rfl) (wd hw 28 rfl) (by decide) (by decide)) q152a q152c (g := (mkF m 366 #[lI p0, lR b1, lI vi6, lI vi8, lI vi10, lI vi12, lI vi14, lI vi16, lI vi18, lI vi20, lR b30_0, lI ((oN r146))] [(.ref b30_0), (.int (oN r146))])) rfl (by rw [hml]; rfl) (Steps.refl _) (argsL := []) (rest := [(.int (oN r146))]) (lenOf pd_8 rfl) rfl (lz rfl) (hb hby at_366) (fun _ _ => ⟨rfl, e151, (by decide : 143 + 0 ≤ _), (by decide : 4418 + 0 ≤ _)⟩)
 dsimp only [Pt.U, Pt.locs, Pt.cells, Pt.slots] at X152 l152 y152 z152 st152 hQ152
 obtain rfl : k152 = 143 := y152
 obtain rfl : n152 = 4418 := z152
 obtain ⟨rfl, N152q, e152⟩ := hQ152
 have N152 : Fr n0 L152 := by rw [l152]; exact Fr.app N151 N152q
 have hend : r146 = nS := by have q := hS_; rw [hE146, List.append_nil, hP146] at q; exact q
 have Cend := Cs145.trans (CHv.at X152 hZ144 hEL Cs145.1)
 obtain ⟨fs, hr, hrun, hended, hREW⟩ := X152.leaveW hS144 (show _ ≤ T152.heap.size by rw [e152]; exact hkq144) (v := some (vI 1)) (fun h => by rw [Bd.returns] at h; cases h)
 refine ⟨_, _, pre0 _ ?_, hrun, hended, _, _, rfl, ?_, ?_, own_rew hREW (by decide) (by decide)⟩
 · show SH s₁ 0 #[lI p0, lU, lU, lU, lU, lU, lU, lU, lU, lU, lU, lU] []
   refine st1 _ ?_
   show SH T1 3 #[lI p0, lU, lU, lU, lU, lU, lU, lU, lU, lU, lU, lU] [(.ref b1)]
   refine XS.dup X1.here hx rfl (hb hby at_3) rfl rfl ?_
   show SH T1 4 #[lI p0, lU, lU, lU, lU, lU, lU, lU, lU, lU, lU, lU] [(.ref b1), (.ref b1)]
   refine st3.trans ?_
   show SH T3 7 #[lI p0, lU, lU, lU, lU, lU, lU, lU, lU, lU, lU, lU] [(.ref b1)]
   refine XS.astoreN X3.here hx rfl (hb hby at_7) rfl rfl (l' := #[lI p0, lR b1, lU, lU, lU, lU, lU, lU, lU, lU, lU, lU]) rfl ?_
   show SH T3 8 #[lI p0, lR b1, lU, lU, lU, lU, lU, lU, lU, lU, lU, lU] []
   refine st4 _ ?_
   show SH T4 18 #[lI p0, lR b1, lU, lU, lU, lU, lU, lU, lU, lU, lU, lU] []
   refine st6 _ ?_
   show SH T6 30 #[lI p0, lR b1, lU, lU, lU, lU, lU, lU, lU, lU, lU, lU] []
   refine st8 _ ?_
   show SH T8 40 #[lI p0, lR b1, lU, lU, lU, lU, lU, lU, lU, lU, lU, lU] []
   refine st10 _ ?_
   show SH T10 50 #[lI p0, lR b1, lU, lU, lU, lU, lU, lU, lU, lU, lU, lU] []
   refine st12 _ ?_
   show SH T12 61 #[lI p0, lR b1, lU, lU, lU, lU, lU, lU, lU, lU, lU, lU] []
   refine st14 _ ?_
   show SH T14 72 #[lI p0, lR b1, lU, lU, lU, lU, lU, lU, lU, lU, lU, lU] []
   refine st16 _ ?_
   show SH T16 83 #[lI p0, lR b1, lU, lU, lU, lU, lU, lU, lU, lU, lU, lU] []
   refine st18 _ ?_
   show SH T18 94 #[lI p0, lR b1, lU, lU, lU, lU, lU, lU, lU, lU, lU, lU] []
   refine st20 _ ?_
   show SH T20 106 #[lI p0, lR b1, lU, lU, lU, lU, lU, lU, lU, lU, lU, lU] []
   refine XS.iloadN X20.here hx rfl (hb hby at_106) rfl ?_
   show SH T20 107 #[lI p0, lR b1, lU, lU, lU, lU, lU, lU, lU, lU, lU, lU] [(.int p0)]
   refine XS.iconst X20.here hx rfl (hb hby at_107) ?_
   show SH T20 108 #[lI p0, lR b1, lU, lU, lU, lU, lU, lU, lU, lU, lU, lU] [(vI 1), (.int p0)]
   refine XS.iand X20.here hx rfl (hb hby at_108) rfl ?_
   show SH T20 109 #[lI p0, lR b1, lU, lU, lU, lU, lU, lU, lU, lU, lU, lU] [(.int (p0 &&& (1 : Int32)))]
   refine XS.iloadN X20.here hx rfl (hb hby at_109) rfl ?_
   show SH T20 110 #[lI p0, lR b1, lU, lU, lU, lU, lU, lU, lU, lU, lU, lU] [(.int p0), (.int (p0 &&& (1 : Int32)))]
   refine XS.bipush X20.here hx rfl (hb hby at_110) ?_
   show SH T20 112 #[lI p0, lR b1, lU, lU, lU, lU, lU, lU, lU, lU, lU, lU] [(vI 8), (.int p0), (.int (p0 &&& (1 : Int32)))]
   refine XS.ishr X20.here hx rfl (hb hby at_112) rfl ?_
   show SH T20 113 #[lI p0, lR b1, lU, lU, lU, lU, lU, lU, lU, lU, lU, lU] [(.int (p0 >>> ((8 : Int32) &&& 31))), (.int (p0 &&& (1 : Int32)))]
   refine XS.iconst X20.here hx rfl (hb hby at_113) ?_
   show SH T20 114 #[lI p0, lR b1, lU, lU, lU, lU, lU, lU, lU, lU, lU, lU] [(vI 1), (.int (p0 >>> ((8 : Int32) &&& 31))), (.int (p0 &&& (1 : Int32)))]
   refine XS.iand X20.here hx rfl (hb hby at_114) rfl ?_
   show SH T20 115 #[lI p0, lR b1, lU, lU, lU, lU, lU, lU, lU, lU, lU, lU] [(.int ((p0 >>> ((8 : Int32) &&& 31)) &&& (1 : Int32))), (.int (p0 &&& (1 : Int32)))]
   refine XS.iadd X20.here hx rfl (hb hby at_115) rfl ?_
   show SH T20 116 #[lI p0, lR b1, lU, lU, lU, lU, lU, lU, lU, lU, lU, lU] [(.int ((p0 &&& (1 : Int32)) + ((p0 >>> ((8 : Int32) &&& 31)) &&& (1 : Int32))))]
   rw [eb22]
   refine XS.istoreN X20.here hx rfl (hb hby at_116) rfl (l' := #[lI p0, lR b1, lI vi6, lU, lU, lU, lU, lU, lU, lU, lU, lU]) rfl ?_
   show SH T20 117 #[lI p0, lR b1, lI vi6, lU, lU, lU, lU, lU, lU, lU, lU, lU] []
   refine XS.iloadN X20.here hx rfl (hb hby at_117) rfl ?_
   show SH T20 118 #[lI p0, lR b1, lI vi6, lU, lU, lU, lU, lU, lU, lU, lU, lU] [(.int p0)]
   refine XS.iconst X20.here hx rfl (hb hby at_118) ?_
   show SH T20 119 #[lI p0, lR b1, lI vi6, lU, lU, lU, lU, lU, lU, lU, lU, lU] [(vI 1), (.int p0)]
   refine XS.ishr X20.here hx rfl (hb hby at_119) rfl ?_
   show SH T20 120 #[lI p0, lR b1, lI vi6, lU, lU, lU, lU, lU, lU, lU, lU, lU] [(.int (p0 >>> ((1 : Int32) &&& 31)))]
   refine XS.iconst X20.here hx rfl (hb hby at_120) ?_
   show SH T20 121 #[lI p0, lR b1, lI vi6, lU, lU, lU, lU, lU, lU, lU, lU, lU] [(vI 1), (.int (p0 >>> ((1 : Int32) &&& 31)))]
   refine XS.iand X20.here hx rfl (hb hby at_121) rfl ?_
   show SH T20 122 #[lI p0, lR b1, lI vi6, lU, lU, lU, lU, lU, lU, lU, lU, lU] [(.int ((p0 >>> ((1 : Int32) &&& 31)) &&& (1 : Int32)))]
   rw [eb23]
   refine XS.istoreN X20.here hx rfl (hb hby at_122) rfl (l' := #[lI p0, lR b1, lI vi6, lI vi8, lU, lU, lU, lU, lU, lU, lU, lU]) rfl ?_
   show SH T20 123 #[lI p0, lR b1, lI vi6, lI vi8, lU, lU, lU, lU, lU, lU, lU, lU] []
   refine XS.iloadN X20.here hx rfl (hb hby at_123) rfl ?_
   show SH T20 124 #[lI p0, lR b1, lI vi6, lI vi8, lU, lU, lU, lU, lU, lU, lU, lU] [(.int p0)]
   refine XS.iconst X20.here hx rfl (hb hby at_124) ?_
   show SH T20 125 #[lI p0, lR b1, lI vi6, lI vi8, lU, lU, lU, lU, lU, lU, lU, lU] [(vI 2), (.int p0)]
   refine XS.ishr X20.here hx rfl (hb hby at_125) rfl ?_
   show SH T20 126 #[lI p0, lR b1, lI vi6, lI vi8, lU, lU, lU, lU, lU, lU, lU, lU] [(.int (p0 >>> ((2 : Int32) &&& 31)))]
   refine XS.iconst X20.here hx rfl (hb hby at_126) ?_
   show SH T20 127 #[lI p0, lR b1, lI vi6, lI vi8, lU, lU, lU, lU, lU, lU, lU, lU] [(vI 1), (.int (p0 >>> ((2 : Int32) &&& 31)))]
   refine XS.iand X20.here hx rfl (hb hby at_127) rfl ?_
   show SH T20 128 #[lI p0, lR b1, lI vi6, lI vi8, lU, lU, lU, lU, lU, lU, lU, lU] [(.int ((p0 >>> ((2 : Int32) &&& 31)) &&& (1 : Int32)))]
   rw [eb24]
   refine XS.istore X20.here hx rfl (hb hby at_128) rfl (l' := #[lI p0, lR b1, lI vi6, lI vi8, lI vi10, lU, lU, lU, lU, lU, lU, lU]) rfl ?_
   show SH T20 130 #[lI p0, lR b1, lI vi6, lI vi8, lI vi10, lU, lU, lU, lU, lU, lU, lU] []
   refine XS.iloadN X20.here hx rfl (hb hby at_130) rfl ?_
   show SH T20 131 #[lI p0, lR b1, lI vi6, lI vi8, lI vi10, lU, lU, lU, lU, lU, lU, lU] [(.int p0)]
   refine XS.iconst X20.here hx rfl (hb hby at_131) ?_
   show SH T20 132 #[lI p0, lR b1, lI vi6, lI vi8, lI vi10, lU, lU, lU, lU, lU, lU, lU] [(vI 3), (.int p0)]
   refine XS.ishr X20.here hx rfl (hb hby at_132) rfl ?_
   show SH T20 133 #[lI p0, lR b1, lI vi6, lI vi8, lI vi10, lU, lU, lU, lU, lU, lU, lU] [(.int (p0 >>> ((3 : Int32) &&& 31)))]
   refine XS.iconst X20.here hx rfl (hb hby at_133) ?_
   show SH T20 134 #[lI p0, lR b1, lI vi6, lI vi8, lI vi10, lU, lU, lU, lU, lU, lU, lU] [(vI 1), (.int (p0 >>> ((3 : Int32) &&& 31)))]
   refine XS.iand X20.here hx rfl (hb hby at_134) rfl ?_
   show SH T20 135 #[lI p0, lR b1, lI vi6, lI vi8, lI vi10, lU, lU, lU, lU, lU, lU, lU] [(.int ((p0 >>> ((3 : Int32) &&& 31)) &&& (1 : Int32)))]
   rw [eb25]
   refine XS.istore X20.here hx rfl (hb hby at_135) rfl (l' := #[lI p0, lR b1, lI vi6, lI vi8, lI vi10, lI vi12, lU, lU, lU, lU, lU, lU]) rfl ?_
   show SH T20 137 #[lI p0, lR b1, lI vi6, lI vi8, lI vi10, lI vi12, lU, lU, lU, lU, lU, lU] []
   refine XS.iloadN X20.here hx rfl (hb hby at_137) rfl ?_
   show SH T20 138 #[lI p0, lR b1, lI vi6, lI vi8, lI vi10, lI vi12, lU, lU, lU, lU, lU, lU] [(.int p0)]
   refine XS.iconst X20.here hx rfl (hb hby at_138) ?_
   show SH T20 139 #[lI p0, lR b1, lI vi6, lI vi8, lI vi10, lI vi12, lU, lU, lU, lU, lU, lU] [(vI 4), (.int p0)]
   refine XS.ishr X20.here hx rfl (hb hby at_139) rfl ?_
   show SH T20 140 #[lI p0, lR b1, lI vi6, lI vi8, lI vi10, lI vi12, lU, lU, lU, lU, lU, lU] [(.int (p0 >>> ((4 : Int32) &&& 31)))]
   refine XS.iconst X20.here hx rfl (hb hby at_140) ?_
   show SH T20 141 #[lI p0, lR b1, lI vi6, lI vi8, lI vi10, lI vi12, lU, lU, lU, lU, lU, lU] [(vI 1), (.int (p0 >>> ((4 : Int32) &&& 31)))]
   refine XS.iand X20.here hx rfl (hb hby at_141) rfl ?_
   show SH T20 142 #[lI p0, lR b1, lI vi6, lI vi8, lI vi10, lI vi12, lU, lU, lU, lU, lU, lU] [(.int ((p0 >>> ((4 : Int32) &&& 31)) &&& (1 : Int32)))]
   rw [eb26]
   refine XS.istore X20.here hx rfl (hb hby at_142) rfl (l' := #[lI p0, lR b1, lI vi6, lI vi8, lI vi10, lI vi12, lI vi14, lU, lU, lU, lU, lU]) rfl ?_
   show SH T20 144 #[lI p0, lR b1, lI vi6, lI vi8, lI vi10, lI vi12, lI vi14, lU, lU, lU, lU, lU] []
   refine XS.iloadN X20.here hx rfl (hb hby at_144) rfl ?_
   show SH T20 145 #[lI p0, lR b1, lI vi6, lI vi8, lI vi10, lI vi12, lI vi14, lU, lU, lU, lU, lU] [(.int p0)]
   refine XS.iconst X20.here hx rfl (hb hby at_145) ?_
   show SH T20 146 #[lI p0, lR b1, lI vi6, lI vi8, lI vi10, lI vi12, lI vi14, lU, lU, lU, lU, lU] [(vI 5), (.int p0)]
   refine XS.ishr X20.here hx rfl (hb hby at_146) rfl ?_
   show SH T20 147 #[lI p0, lR b1, lI vi6, lI vi8, lI vi10, lI vi12, lI vi14, lU, lU, lU, lU, lU] [(.int (p0 >>> ((5 : Int32) &&& 31)))]
   refine XS.iconst X20.here hx rfl (hb hby at_147) ?_
   show SH T20 148 #[lI p0, lR b1, lI vi6, lI vi8, lI vi10, lI vi12, lI vi14, lU, lU, lU, lU, lU] [(vI 1), (.int (p0 >>> ((5 : Int32) &&& 31)))]
   refine XS.iand X20.here hx rfl (hb hby at_148) rfl ?_
   show SH T20 149 #[lI p0, lR b1, lI vi6, lI vi8, lI vi10, lI vi12, lI vi14, lU, lU, lU, lU, lU] [(.int ((p0 >>> ((5 : Int32) &&& 31)) &&& (1 : Int32)))]
   rw [eb27]
   refine XS.istore X20.here hx rfl (hb hby at_149) rfl (l' := #[lI p0, lR b1, lI vi6, lI vi8, lI vi10, lI vi12, lI vi14, lI vi16, lU, lU, lU, lU]) rfl ?_
   show SH T20 151 #[lI p0, lR b1, lI vi6, lI vi8, lI vi10, lI vi12, lI vi14, lI vi16, lU, lU, lU, lU] []
   refine XS.iloadN X20.here hx rfl (hb hby at_151) rfl ?_
   show SH T20 152 #[lI p0, lR b1, lI vi6, lI vi8, lI vi10, lI vi12, lI vi14, lI vi16, lU, lU, lU, lU] [(.int p0)]
   refine XS.bipush X20.here hx rfl (hb hby at_152) ?_
   show SH T20 154 #[lI p0, lR b1, lI vi6, lI vi8, lI vi10, lI vi12, lI vi14, lI vi16, lU, lU, lU, lU] [(vI 6), (.int p0)]
   refine XS.ishr X20.here hx rfl (hb hby at_154) rfl ?_
   show SH T20 155 #[lI p0, lR b1, lI vi6, lI vi8, lI vi10, lI vi12, lI vi14, lI vi16, lU, lU, lU, lU] [(.int (p0 >>> ((6 : Int32) &&& 31)))]
   refine XS.iconst X20.here hx rfl (hb hby at_155) ?_
   show SH T20 156 #[lI p0, lR b1, lI vi6, lI vi8, lI vi10, lI vi12, lI vi14, lI vi16, lU, lU, lU, lU] [(vI 1), (.int (p0 >>> ((6 : Int32) &&& 31)))]
   refine XS.iand X20.here hx rfl (hb hby at_156) rfl ?_
   show SH T20 157 #[lI p0, lR b1, lI vi6, lI vi8, lI vi10, lI vi12, lI vi14, lI vi16, lU, lU, lU, lU] [(.int ((p0 >>> ((6 : Int32) &&& 31)) &&& (1 : Int32)))]
   rw [eb28]
   refine XS.istore X20.here hx rfl (hb hby at_157) rfl (l' := #[lI p0, lR b1, lI vi6, lI vi8, lI vi10, lI vi12, lI vi14, lI vi16, lI vi18, lU, lU, lU]) rfl ?_
   show SH T20 159 #[lI p0, lR b1, lI vi6, lI vi8, lI vi10, lI vi12, lI vi14, lI vi16, lI vi18, lU, lU, lU] []
   refine XS.iloadN X20.here hx rfl (hb hby at_159) rfl ?_
   show SH T20 160 #[lI p0, lR b1, lI vi6, lI vi8, lI vi10, lI vi12, lI vi14, lI vi16, lI vi18, lU, lU, lU] [(.int p0)]
   refine XS.bipush X20.here hx rfl (hb hby at_160) ?_
   show SH T20 162 #[lI p0, lR b1, lI vi6, lI vi8, lI vi10, lI vi12, lI vi14, lI vi16, lI vi18, lU, lU, lU] [(vI 7), (.int p0)]
   refine XS.ishr X20.here hx rfl (hb hby at_162) rfl ?_
   show SH T20 163 #[lI p0, lR b1, lI vi6, lI vi8, lI vi10, lI vi12, lI vi14, lI vi16, lI vi18, lU, lU, lU] [(.int (p0 >>> ((7 : Int32) &&& 31)))]
   refine XS.iconst X20.here hx rfl (hb hby at_163) ?_
   show SH T20 164 #[lI p0, lR b1, lI vi6, lI vi8, lI vi10, lI vi12, lI vi14, lI vi16, lI vi18, lU, lU, lU] [(vI 1), (.int (p0 >>> ((7 : Int32) &&& 31)))]
   refine XS.iand X20.here hx rfl (hb hby at_164) rfl ?_
   show SH T20 165 #[lI p0, lR b1, lI vi6, lI vi8, lI vi10, lI vi12, lI vi14, lI vi16, lI vi18, lU, lU, lU] [(.int ((p0 >>> ((7 : Int32) &&& 31)) &&& (1 : Int32)))]
   rw [eb29]
   refine XS.istore X20.here hx rfl (hb hby at_165) rfl (l' := #[lI p0, lR b1, lI vi6, lI vi8, lI vi10, lI vi12, lI vi14, lI vi16, lI vi18, lI vi20, lU, lU]) rfl ?_
   show SH T20 167 #[lI p0, lR b1, lI vi6, lI vi8, lI vi10, lI vi12, lI vi14, lI vi16, lI vi18, lI vi20, lU, lU] []
   refine XS.aloadN X20.here hx rfl (hb hby at_167) rfl rfl ?_
   show SH T20 168 #[lI p0, lR b1, lI vi6, lI vi8, lI vi10, lI vi12, lI vi14, lI vi16, lI vi18, lI vi20, lU, lU] [(.ref b1)]
   refine st30.trans ?_
   show SH T30 171 #[lI p0, lR b1, lI vi6, lI vi8, lI vi10, lI vi12, lI vi14, lI vi16, lI vi18, lI vi20, lU, lU] [(.ref b30_0)]
   refine XS.astore X30.here hx rfl (hb hby at_171) rfl rfl (l' := #[lI p0, lR b1, lI vi6, lI vi8, lI vi10, lI vi12, lI vi14, lI vi16, lI vi18, lI vi20, lR b30_0, lU]) rfl ?_
   show SH T30 173 #[lI p0, lR b1, lI vi6, lI vi8, lI vi10, lI vi12, lI vi14, lI vi16, lI vi18, lI vi20, lR b30_0, lU] []
   refine XS.aload X30.here hx rfl (hb hby at_173) rfl rfl ?_
   show SH T30 175 #[lI p0, lR b1, lI vi6, lI vi8, lI vi10, lI vi12, lI vi14, lI vi16, lI vi18, lI vi20, lR b30_0, lU] [(.ref b30_0)]
   refine XS.ifnonnullYes X30.here hx rfl (pc0 := 175) (pc' := 180) rfl (hb hby at_175) rfl (by decide) (by decide) ?_
   show SH T30 180 #[lI p0, lR b1, lI vi6, lI vi8, lI vi10, lI vi12, lI vi14, lI vi16, lI vi18, lI vi20, lR b30_0, lU] []
   refine XS.iconst X30.here hx rfl (hb hby at_180) ?_
   show SH T30 181 #[lI p0, lR b1, lI vi6, lI vi8, lI vi10, lI vi12, lI vi14, lI vi16, lI vi18, lI vi20, lR b30_0, lU] [(vI 0)]
   refine XS.istore X30.here hx rfl (hb hby at_181) rfl (l' := #[lI p0, lR b1, lI vi6, lI vi8, lI vi10, lI vi12, lI vi14, lI vi16, lI vi18, lI vi20, lR b30_0, lI 0]) rfl ?_
   show SH T30 183 #[lI p0, lR b1, lI vi6, lI vi8, lI vi10, lI vi12, lI vi14, lI vi16, lI vi18, lI vi20, lR b30_0, lI 0] []
   refine XS.aload X30.here hx rfl (hb hby at_183) rfl rfl ?_
   show SH T30 185 #[lI p0, lR b1, lI vi6, lI vi8, lI vi10, lI vi12, lI vi14, lI vi16, lI vi18, lI vi20, lR b30_0, lI 0] [(.ref b30_0)]
   refine XS.iload X30.here hx rfl (hb hby at_185) rfl ?_
   show SH T30 187 #[lI p0, lR b1, lI vi6, lI vi8, lI vi10, lI vi12, lI vi14, lI vi16, lI vi18, lI vi20, lR b30_0, lI 0] [(vI 0), (.ref b30_0)]
   refine XS.iloadN X30.here hx rfl (hb hby at_187) rfl ?_
   show SH T30 188 #[lI p0, lR b1, lI vi6, lI vi8, lI vi10, lI vi12, lI vi14, lI vi16, lI vi18, lI vi20, lR b30_0, lI 0] [(.int vi6), (vI 0), (.ref b30_0)]
   refine st32 _ ?_
   show SH T32 190 #[lI p0, lR b1, lI vi6, lI vi8, lI vi10, lI vi12, lI vi14, lI vi16, lI vi18, lI vi20, lR b30_0, lI 0] [(.ref w32), (.int vi6), (vI 0), (.ref b30_0)]
   refine st39 _ ?_
   show SH T39 193 #[lI p0, lR b1, lI vi6, lI vi8, lI vi10, lI vi12, lI vi14, lI vi16, lI vi18, lI vi20, lR b30_0, lI 0] [(.int (oN r34))]
   refine XS.istore X39.here hx rfl (hb hby at_193) rfl (l' := #[lI p0, lR b1, lI vi6, lI vi8, lI vi10, lI vi12, lI vi14, lI vi16, lI vi18, lI vi20, lR b30_0, lI ((oN r34))]) rfl ?_
   show SH T39 195 #[lI p0, lR b1, lI vi6, lI vi8, lI vi10, lI vi12, lI vi14, lI vi16, lI vi18, lI vi20, lR b30_0, lI ((oN r34))] []
   refine XS.aload X39.here hx rfl (hb hby at_195) rfl rfl ?_
   show SH T39 197 #[lI p0, lR b1, lI vi6, lI vi8, lI vi10, lI vi12, lI vi14, lI vi16, lI vi18, lI vi20, lR b30_0, lI ((oN r34))] [(.ref b30_0)]
   refine XS.iload X39.here hx rfl (hb hby at_197) rfl ?_
   show SH T39 199 #[lI p0, lR b1, lI vi6, lI vi8, lI vi10, lI vi12, lI vi14, lI vi16, lI vi18, lI vi20, lR b30_0, lI ((oN r34))] [(.int (oN r34)), (.ref b30_0)]
   refine st40 _ ?_
   show SH T40 201 #[lI p0, lR b1, lI vi6, lI vi8, lI vi10, lI vi12, lI vi14, lI vi16, lI vi18, lI vi20, lR b30_0, lI ((oN r34))] [(.ref w40), (.int (oN r34)), (.ref b30_0)]
   refine st47 _ ?_
   show SH T47 204 #[lI p0, lR b1, lI vi6, lI vi8, lI vi10, lI vi12, lI vi14, lI vi16, lI vi18, lI vi20, lR b30_0, lI ((oN r34))] [(.int (oN (r34 + 2)))]
   refine XS.istore X47.here hx rfl (hb hby at_204) rfl (l' := #[lI p0, lR b1, lI vi6, lI vi8, lI vi10, lI vi12, lI vi14, lI vi16, lI vi18, lI vi20, lR b30_0, lI ((oN (r34 + 2)))]) rfl ?_
   show SH T47 206 #[lI p0, lR b1, lI vi6, lI vi8, lI vi10, lI vi12, lI vi14, lI vi16, lI vi18, lI vi20, lR b30_0, lI ((oN (r34 + 2)))] []
   refine XS.aload X47.here hx rfl (hb hby at_206) rfl rfl ?_
   show SH T47 208 #[lI p0, lR b1, lI vi6, lI vi8, lI vi10, lI vi12, lI vi14, lI vi16, lI vi18, lI vi20, lR b30_0, lI ((oN (r34 + 2)))] [(.ref b30_0)]
   refine XS.iload X47.here hx rfl (hb hby at_208) rfl ?_
   show SH T47 210 #[lI p0, lR b1, lI vi6, lI vi8, lI vi10, lI vi12, lI vi14, lI vi16, lI vi18, lI vi20, lR b30_0, lI ((oN (r34 + 2)))] [(.int (oN (r34 + 2))), (.ref b30_0)]
   refine XS.iloadN X47.here hx rfl (hb hby at_210) rfl ?_
   show SH T47 211 #[lI p0, lR b1, lI vi6, lI vi8, lI vi10, lI vi12, lI vi14, lI vi16, lI vi18, lI vi20, lR b30_0, lI ((oN (r34 + 2)))] [(.int vi8), (.int (oN (r34 + 2))), (.ref b30_0)]
   refine st48 _ ?_
   show SH T48 213 #[lI p0, lR b1, lI vi6, lI vi8, lI vi10, lI vi12, lI vi14, lI vi16, lI vi18, lI vi20, lR b30_0, lI ((oN (r34 + 2)))] [(.ref w48), (.int vi8), (.int (oN (r34 + 2))), (.ref b30_0)]
   refine st55 _ ?_
   show SH T55 216 #[lI p0, lR b1, lI vi6, lI vi8, lI vi10, lI vi12, lI vi14, lI vi16, lI vi18, lI vi20, lR b30_0, lI ((oN (r34 + 2)))] [(.int (oN r50))]
   refine XS.istore X55.here hx rfl (hb hby at_216) rfl (l' := #[lI p0, lR b1, lI vi6, lI vi8, lI vi10, lI vi12, lI vi14, lI vi16, lI vi18, lI vi20, lR b30_0, lI ((oN r50))]) rfl ?_
   show SH T55 218 #[lI p0, lR b1, lI vi6, lI vi8, lI vi10, lI vi12, lI vi14, lI vi16, lI vi18, lI vi20, lR b30_0, lI ((oN r50))] []
   refine XS.aload X55.here hx rfl (hb hby at_218) rfl rfl ?_
   show SH T55 220 #[lI p0, lR b1, lI vi6, lI vi8, lI vi10, lI vi12, lI vi14, lI vi16, lI vi18, lI vi20, lR b30_0, lI ((oN r50))] [(.ref b30_0)]
   refine XS.iload X55.here hx rfl (hb hby at_220) rfl ?_
   show SH T55 222 #[lI p0, lR b1, lI vi6, lI vi8, lI vi10, lI vi12, lI vi14, lI vi16, lI vi18, lI vi20, lR b30_0, lI ((oN r50))] [(.int (oN r50)), (.ref b30_0)]
   refine st56 _ ?_
   show SH T56 224 #[lI p0, lR b1, lI vi6, lI vi8, lI vi10, lI vi12, lI vi14, lI vi16, lI vi18, lI vi20, lR b30_0, lI ((oN r50))] [(.ref w56), (.int (oN r50)), (.ref b30_0)]
   refine st63 _ ?_
   show SH T63 227 #[lI p0, lR b1, lI vi6, lI vi8, lI vi10, lI vi12, lI vi14, lI vi16, lI vi18, lI vi20, lR b30_0, lI ((oN r50))] [(.int (oN (r50 + 2)))]
   refine XS.istore X63.here hx rfl (hb hby at_227) rfl (l' := #[lI p0, lR b1, lI vi6, lI vi8, lI vi10, lI vi12, lI vi14, lI vi16, lI vi18, lI vi20, lR b30_0, lI ((oN (r50 + 2)))]) rfl ?_
   show SH T63 229 #[lI p0, lR b1, lI vi6, lI vi8, lI vi10, lI vi12, lI vi14, lI vi16, lI vi18, lI vi20, lR b30_0, lI ((oN (r50 + 2)))] []
   refine XS.aload X63.here hx rfl (hb hby at_229) rfl rfl ?_
   show SH T63 231 #[lI p0, lR b1, lI vi6, lI vi8, lI vi10, lI vi12, lI vi14, lI vi16, lI vi18, lI vi20, lR b30_0, lI ((oN (r50 + 2)))] [(.ref b30_0)]
   refine XS.iload X63.here hx rfl (hb hby at_231) rfl ?_
   show SH T63 233 #[lI p0, lR b1, lI vi6, lI vi8, lI vi10, lI vi12, lI vi14, lI vi16, lI vi18, lI vi20, lR b30_0, lI ((oN (r50 + 2)))] [(.int (oN (r50 + 2))), (.ref b30_0)]
   refine XS.iload X63.here hx rfl (hb hby at_233) rfl ?_
   show SH T63 235 #[lI p0, lR b1, lI vi6, lI vi8, lI vi10, lI vi12, lI vi14, lI vi16, lI vi18, lI vi20, lR b30_0, lI ((oN (r50 + 2)))] [(.int vi10), (.int (oN (r50 + 2))), (.ref b30_0)]
   refine st64 _ ?_
   show SH T64 237 #[lI p0, lR b1, lI vi6, lI vi8, lI vi10, lI vi12, lI vi14, lI vi16, lI vi18, lI vi20, lR b30_0, lI ((oN (r50 + 2)))] [(.ref w64), (.int vi10), (.int (oN (r50 + 2))), (.ref b30_0)]
   refine st71 _ ?_
   show SH T71 240 #[lI p0, lR b1, lI vi6, lI vi8, lI vi10, lI vi12, lI vi14, lI vi16, lI vi18, lI vi20, lR b30_0, lI ((oN (r50 + 2)))] [(.int (oN r66))]
   refine XS.istore X71.here hx rfl (hb hby at_240) rfl (l' := #[lI p0, lR b1, lI vi6, lI vi8, lI vi10, lI vi12, lI vi14, lI vi16, lI vi18, lI vi20, lR b30_0, lI ((oN r66))]) rfl ?_
   show SH T71 242 #[lI p0, lR b1, lI vi6, lI vi8, lI vi10, lI vi12, lI vi14, lI vi16, lI vi18, lI vi20, lR b30_0, lI ((oN r66))] []
   refine XS.aload X71.here hx rfl (hb hby at_242) rfl rfl ?_
   show SH T71 244 #[lI p0, lR b1, lI vi6, lI vi8, lI vi10, lI vi12, lI vi14, lI vi16, lI vi18, lI vi20, lR b30_0, lI ((oN r66))] [(.ref b30_0)]
   refine XS.iload X71.here hx rfl (hb hby at_244) rfl ?_
   show SH T71 246 #[lI p0, lR b1, lI vi6, lI vi8, lI vi10, lI vi12, lI vi14, lI vi16, lI vi18, lI vi20, lR b30_0, lI ((oN r66))] [(.int (oN r66)), (.ref b30_0)]
   refine st72 _ ?_
   show SH T72 248 #[lI p0, lR b1, lI vi6, lI vi8, lI vi10, lI vi12, lI vi14, lI vi16, lI vi18, lI vi20, lR b30_0, lI ((oN r66))] [(.ref w72), (.int (oN r66)), (.ref b30_0)]
   refine st79 _ ?_
   show SH T79 251 #[lI p0, lR b1, lI vi6, lI vi8, lI vi10, lI vi12, lI vi14, lI vi16, lI vi18, lI vi20, lR b30_0, lI ((oN r66))] [(.int (oN (r66 + 6)))]
   refine XS.istore X79.here hx rfl (hb hby at_251) rfl (l' := #[lI p0, lR b1, lI vi6, lI vi8, lI vi10, lI vi12, lI vi14, lI vi16, lI vi18, lI vi20, lR b30_0, lI ((oN (r66 + 6)))]) rfl ?_
   show SH T79 253 #[lI p0, lR b1, lI vi6, lI vi8, lI vi10, lI vi12, lI vi14, lI vi16, lI vi18, lI vi20, lR b30_0, lI ((oN (r66 + 6)))] []
   refine XS.aload X79.here hx rfl (hb hby at_253) rfl rfl ?_
   show SH T79 255 #[lI p0, lR b1, lI vi6, lI vi8, lI vi10, lI vi12, lI vi14, lI vi16, lI vi18, lI vi20, lR b30_0, lI ((oN (r66 + 6)))] [(.ref b30_0)]
   refine XS.iload X79.here hx rfl (hb hby at_255) rfl ?_
   show SH T79 257 #[lI p0, lR b1, lI vi6, lI vi8, lI vi10, lI vi12, lI vi14, lI vi16, lI vi18, lI vi20, lR b30_0, lI ((oN (r66 + 6)))] [(.int (oN (r66 + 6))), (.ref b30_0)]
   refine XS.iload X79.here hx rfl (hb hby at_257) rfl ?_
   show SH T79 259 #[lI p0, lR b1, lI vi6, lI vi8, lI vi10, lI vi12, lI vi14, lI vi16, lI vi18, lI vi20, lR b30_0, lI ((oN (r66 + 6)))] [(.int vi12), (.int (oN (r66 + 6))), (.ref b30_0)]
   refine st80 _ ?_
   show SH T80 261 #[lI p0, lR b1, lI vi6, lI vi8, lI vi10, lI vi12, lI vi14, lI vi16, lI vi18, lI vi20, lR b30_0, lI ((oN (r66 + 6)))] [(.ref w80), (.int vi12), (.int (oN (r66 + 6))), (.ref b30_0)]
   refine st87 _ ?_
   show SH T87 264 #[lI p0, lR b1, lI vi6, lI vi8, lI vi10, lI vi12, lI vi14, lI vi16, lI vi18, lI vi20, lR b30_0, lI ((oN (r66 + 6)))] [(.int (oN r82))]
   refine XS.istore X87.here hx rfl (hb hby at_264) rfl (l' := #[lI p0, lR b1, lI vi6, lI vi8, lI vi10, lI vi12, lI vi14, lI vi16, lI vi18, lI vi20, lR b30_0, lI ((oN r82))]) rfl ?_
   show SH T87 266 #[lI p0, lR b1, lI vi6, lI vi8, lI vi10, lI vi12, lI vi14, lI vi16, lI vi18, lI vi20, lR b30_0, lI ((oN r82))] []
   refine XS.aload X87.here hx rfl (hb hby at_266) rfl rfl ?_
   show SH T87 268 #[lI p0, lR b1, lI vi6, lI vi8, lI vi10, lI vi12, lI vi14, lI vi16, lI vi18, lI vi20, lR b30_0, lI ((oN r82))] [(.ref b30_0)]
   refine XS.iload X87.here hx rfl (hb hby at_268) rfl ?_
   show SH T87 270 #[lI p0, lR b1, lI vi6, lI vi8, lI vi10, lI vi12, lI vi14, lI vi16, lI vi18, lI vi20, lR b30_0, lI ((oN r82))] [(.int (oN r82)), (.ref b30_0)]
   refine st88 _ ?_
   show SH T88 272 #[lI p0, lR b1, lI vi6, lI vi8, lI vi10, lI vi12, lI vi14, lI vi16, lI vi18, lI vi20, lR b30_0, lI ((oN r82))] [(.ref w88), (.int (oN r82)), (.ref b30_0)]
   refine st95 _ ?_
   show SH T95 275 #[lI p0, lR b1, lI vi6, lI vi8, lI vi10, lI vi12, lI vi14, lI vi16, lI vi18, lI vi20, lR b30_0, lI ((oN r82))] [(.int (oN (r82 + 2)))]
   refine XS.istore X95.here hx rfl (hb hby at_275) rfl (l' := #[lI p0, lR b1, lI vi6, lI vi8, lI vi10, lI vi12, lI vi14, lI vi16, lI vi18, lI vi20, lR b30_0, lI ((oN (r82 + 2)))]) rfl ?_
   show SH T95 277 #[lI p0, lR b1, lI vi6, lI vi8, lI vi10, lI vi12, lI vi14, lI vi16, lI vi18, lI vi20, lR b30_0, lI ((oN (r82 + 2)))] []
   refine XS.aload X95.here hx rfl (hb hby at_277) rfl rfl ?_
   show SH T95 279 #[lI p0, lR b1, lI vi6, lI vi8, lI vi10, lI vi12, lI vi14, lI vi16, lI vi18, lI vi20, lR b30_0, lI ((oN (r82 + 2)))] [(.ref b30_0)]
   refine XS.iload X95.here hx rfl (hb hby at_279) rfl ?_
   show SH T95 281 #[lI p0, lR b1, lI vi6, lI vi8, lI vi10, lI vi12, lI vi14, lI vi16, lI vi18, lI vi20, lR b30_0, lI ((oN (r82 + 2)))] [(.int (oN (r82 + 2))), (.ref b30_0)]
   refine XS.iload X95.here hx rfl (hb hby at_281) rfl ?_
   show SH T95 283 #[lI p0, lR b1, lI vi6, lI vi8, lI vi10, lI vi12, lI vi14, lI vi16, lI vi18, lI vi20, lR b30_0, lI ((oN (r82 + 2)))] [(.int vi14), (.int (oN (r82 + 2))), (.ref b30_0)]
   refine st96 _ ?_
   show SH T96 285 #[lI p0, lR b1, lI vi6, lI vi8, lI vi10, lI vi12, lI vi14, lI vi16, lI vi18, lI vi20, lR b30_0, lI ((oN (r82 + 2)))] [(.ref w96), (.int vi14), (.int (oN (r82 + 2))), (.ref b30_0)]
   refine st103 _ ?_
   show SH T103 288 #[lI p0, lR b1, lI vi6, lI vi8, lI vi10, lI vi12, lI vi14, lI vi16, lI vi18, lI vi20, lR b30_0, lI ((oN (r82 + 2)))] [(.int (oN r98))]
   refine XS.istore X103.here hx rfl (hb hby at_288) rfl (l' := #[lI p0, lR b1, lI vi6, lI vi8, lI vi10, lI vi12, lI vi14, lI vi16, lI vi18, lI vi20, lR b30_0, lI ((oN r98))]) rfl ?_
   show SH T103 290 #[lI p0, lR b1, lI vi6, lI vi8, lI vi10, lI vi12, lI vi14, lI vi16, lI vi18, lI vi20, lR b30_0, lI ((oN r98))] []
   refine XS.aload X103.here hx rfl (hb hby at_290) rfl rfl ?_
   show SH T103 292 #[lI p0, lR b1, lI vi6, lI vi8, lI vi10, lI vi12, lI vi14, lI vi16, lI vi18, lI vi20, lR b30_0, lI ((oN r98))] [(.ref b30_0)]
   refine XS.iload X103.here hx rfl (hb hby at_292) rfl ?_
   show SH T103 294 #[lI p0, lR b1, lI vi6, lI vi8, lI vi10, lI vi12, lI vi14, lI vi16, lI vi18, lI vi20, lR b30_0, lI ((oN r98))] [(.int (oN r98)), (.ref b30_0)]
   refine st104 _ ?_
   show SH T104 296 #[lI p0, lR b1, lI vi6, lI vi8, lI vi10, lI vi12, lI vi14, lI vi16, lI vi18, lI vi20, lR b30_0, lI ((oN r98))] [(.ref w104), (.int (oN r98)), (.ref b30_0)]
   refine st111 _ ?_
   show SH T111 299 #[lI p0, lR b1, lI vi6, lI vi8, lI vi10, lI vi12, lI vi14, lI vi16, lI vi18, lI vi20, lR b30_0, lI ((oN r98))] [(.int (oN (r98 + 6)))]
   refine XS.istore X111.here hx rfl (hb hby at_299) rfl (l' := #[lI p0, lR b1, lI vi6, lI vi8, lI vi10, lI vi12, lI vi14, lI vi16, lI vi18, lI vi20, lR b30_0, lI ((oN (r98 + 6)))]) rfl ?_
   show SH T111 301 #[lI p0, lR b1, lI vi6, lI vi8, lI vi10, lI vi12, lI vi14, lI vi16, lI vi18, lI vi20, lR b30_0, lI ((oN (r98 + 6)))] []
   refine XS.aload X111.here hx rfl (hb hby at_301) rfl rfl ?_
   show SH T111 303 #[lI p0, lR b1, lI vi6, lI vi8, lI vi10, lI vi12, lI vi14, lI vi16, lI vi18, lI vi20, lR b30_0, lI ((oN (r98 + 6)))] [(.ref b30_0)]
   refine XS.iload X111.here hx rfl (hb hby at_303) rfl ?_
   show SH T111 305 #[lI p0, lR b1, lI vi6, lI vi8, lI vi10, lI vi12, lI vi14, lI vi16, lI vi18, lI vi20, lR b30_0, lI ((oN (r98 + 6)))] [(.int (oN (r98 + 6))), (.ref b30_0)]
   refine XS.iload X111.here hx rfl (hb hby at_305) rfl ?_
   show SH T111 307 #[lI p0, lR b1, lI vi6, lI vi8, lI vi10, lI vi12, lI vi14, lI vi16, lI vi18, lI vi20, lR b30_0, lI ((oN (r98 + 6)))] [(.int vi16), (.int (oN (r98 + 6))), (.ref b30_0)]
   refine st112 _ ?_
   show SH T112 309 #[lI p0, lR b1, lI vi6, lI vi8, lI vi10, lI vi12, lI vi14, lI vi16, lI vi18, lI vi20, lR b30_0, lI ((oN (r98 + 6)))] [(.ref w112), (.int vi16), (.int (oN (r98 + 6))), (.ref b30_0)]
   refine st119 _ ?_
   show SH T119 312 #[lI p0, lR b1, lI vi6, lI vi8, lI vi10, lI vi12, lI vi14, lI vi16, lI vi18, lI vi20, lR b30_0, lI ((oN (r98 + 6)))] [(.int (oN r114))]
   refine XS.istore X119.here hx rfl (hb hby at_312) rfl (l' := #[lI p0, lR b1, lI vi6, lI vi8, lI vi10, lI vi12, lI vi14, lI vi16, lI vi18, lI vi20, lR b30_0, lI ((oN r114))]) rfl ?_
   show SH T119 314 #[lI p0, lR b1, lI vi6, lI vi8, lI vi10, lI vi12, lI vi14, lI vi16, lI vi18, lI vi20, lR b30_0, lI ((oN r114))] []
   refine XS.aload X119.here hx rfl (hb hby at_314) rfl rfl ?_
   show SH T119 316 #[lI p0, lR b1, lI vi6, lI vi8, lI vi10, lI vi12, lI vi14, lI vi16, lI vi18, lI vi20, lR b30_0, lI ((oN r114))] [(.ref b30_0)]
   refine XS.iload X119.here hx rfl (hb hby at_316) rfl ?_
   show SH T119 318 #[lI p0, lR b1, lI vi6, lI vi8, lI vi10, lI vi12, lI vi14, lI vi16, lI vi18, lI vi20, lR b30_0, lI ((oN r114))] [(.int (oN r114)), (.ref b30_0)]
   refine st120 _ ?_
   show SH T120 320 #[lI p0, lR b1, lI vi6, lI vi8, lI vi10, lI vi12, lI vi14, lI vi16, lI vi18, lI vi20, lR b30_0, lI ((oN r114))] [(.ref w120), (.int (oN r114)), (.ref b30_0)]
   refine st127 _ ?_
   show SH T127 323 #[lI p0, lR b1, lI vi6, lI vi8, lI vi10, lI vi12, lI vi14, lI vi16, lI vi18, lI vi20, lR b30_0, lI ((oN r114))] [(.int (oN (r114 + 5)))]
   refine XS.istore X127.here hx rfl (hb hby at_323) rfl (l' := #[lI p0, lR b1, lI vi6, lI vi8, lI vi10, lI vi12, lI vi14, lI vi16, lI vi18, lI vi20, lR b30_0, lI ((oN (r114 + 5)))]) rfl ?_
   show SH T127 325 #[lI p0, lR b1, lI vi6, lI vi8, lI vi10, lI vi12, lI vi14, lI vi16, lI vi18, lI vi20, lR b30_0, lI ((oN (r114 + 5)))] []
   refine XS.aload X127.here hx rfl (hb hby at_325) rfl rfl ?_
   show SH T127 327 #[lI p0, lR b1, lI vi6, lI vi8, lI vi10, lI vi12, lI vi14, lI vi16, lI vi18, lI vi20, lR b30_0, lI ((oN (r114 + 5)))] [(.ref b30_0)]
   refine XS.iload X127.here hx rfl (hb hby at_327) rfl ?_
   show SH T127 329 #[lI p0, lR b1, lI vi6, lI vi8, lI vi10, lI vi12, lI vi14, lI vi16, lI vi18, lI vi20, lR b30_0, lI ((oN (r114 + 5)))] [(.int (oN (r114 + 5))), (.ref b30_0)]
   refine XS.iload X127.here hx rfl (hb hby at_329) rfl ?_
   show SH T127 331 #[lI p0, lR b1, lI vi6, lI vi8, lI vi10, lI vi12, lI vi14, lI vi16, lI vi18, lI vi20, lR b30_0, lI ((oN (r114 + 5)))] [(.int vi18), (.int (oN (r114 + 5))), (.ref b30_0)]
   refine st128 _ ?_
   show SH T128 333 #[lI p0, lR b1, lI vi6, lI vi8, lI vi10, lI vi12, lI vi14, lI vi16, lI vi18, lI vi20, lR b30_0, lI ((oN (r114 + 5)))] [(.ref w128), (.int vi18), (.int (oN (r114 + 5))), (.ref b30_0)]
   refine st135 _ ?_
   show SH T135 336 #[lI p0, lR b1, lI vi6, lI vi8, lI vi10, lI vi12, lI vi14, lI vi16, lI vi18, lI vi20, lR b30_0, lI ((oN (r114 + 5)))] [(.int (oN r130))]
   refine XS.istore X135.here hx rfl (hb hby at_336) rfl (l' := #[lI p0, lR b1, lI vi6, lI vi8, lI vi10, lI vi12, lI vi14, lI vi16, lI vi18, lI vi20, lR b30_0, lI ((oN r130))]) rfl ?_
   show SH T135 338 #[lI p0, lR b1, lI vi6, lI vi8, lI vi10, lI vi12, lI vi14, lI vi16, lI vi18, lI vi20, lR b30_0, lI ((oN r130))] []
   refine XS.aload X135.here hx rfl (hb hby at_338) rfl rfl ?_
   show SH T135 340 #[lI p0, lR b1, lI vi6, lI vi8, lI vi10, lI vi12, lI vi14, lI vi16, lI vi18, lI vi20, lR b30_0, lI ((oN r130))] [(.ref b30_0)]
   refine XS.iload X135.here hx rfl (hb hby at_340) rfl ?_
   show SH T135 342 #[lI p0, lR b1, lI vi6, lI vi8, lI vi10, lI vi12, lI vi14, lI vi16, lI vi18, lI vi20, lR b30_0, lI ((oN r130))] [(.int (oN r130)), (.ref b30_0)]
   refine st136 _ ?_
   show SH T136 344 #[lI p0, lR b1, lI vi6, lI vi8, lI vi10, lI vi12, lI vi14, lI vi16, lI vi18, lI vi20, lR b30_0, lI ((oN r130))] [(.ref w136), (.int (oN r130)), (.ref b30_0)]
   refine st143 _ ?_
   show SH T143 347 #[lI p0, lR b1, lI vi6, lI vi8, lI vi10, lI vi12, lI vi14, lI vi16, lI vi18, lI vi20, lR b30_0, lI ((oN r130))] [(.int (oN (r130 + 6)))]
   refine XS.istore X143.here hx rfl (hb hby at_347) rfl (l' := #[lI p0, lR b1, lI vi6, lI vi8, lI vi10, lI vi12, lI vi14, lI vi16, lI vi18, lI vi20, lR b30_0, lI ((oN (r130 + 6)))]) rfl ?_
   show SH T143 349 #[lI p0, lR b1, lI vi6, lI vi8, lI vi10, lI vi12, lI vi14, lI vi16, lI vi18, lI vi20, lR b30_0, lI ((oN (r130 + 6)))] []
   refine XS.aload X143.here hx rfl (hb hby at_349) rfl rfl ?_
   show SH T143 351 #[lI p0, lR b1, lI vi6, lI vi8, lI vi10, lI vi12, lI vi14, lI vi16, lI vi18, lI vi20, lR b30_0, lI ((oN (r130 + 6)))] [(.ref b30_0)]
   refine XS.iload X143.here hx rfl (hb hby at_351) rfl ?_
   show SH T143 353 #[lI p0, lR b1, lI vi6, lI vi8, lI vi10, lI vi12, lI vi14, lI vi16, lI vi18, lI vi20, lR b30_0, lI ((oN (r130 + 6)))] [(.int (oN (r130 + 6))), (.ref b30_0)]
   refine XS.iload X143.here hx rfl (hb hby at_353) rfl ?_
   show SH T143 355 #[lI p0, lR b1, lI vi6, lI vi8, lI vi10, lI vi12, lI vi14, lI vi16, lI vi18, lI vi20, lR b30_0, lI ((oN (r130 + 6)))] [(.int vi20), (.int (oN (r130 + 6))), (.ref b30_0)]
   refine st144 _ ?_
   show SH T144 357 #[lI p0, lR b1, lI vi6, lI vi8, lI vi10, lI vi12, lI vi14, lI vi16, lI vi18, lI vi20, lR b30_0, lI ((oN (r130 + 6)))] [(.ref w144), (.int vi20), (.int (oN (r130 + 6))), (.ref b30_0)]
   refine st151 _ ?_
   show SH T151 360 #[lI p0, lR b1, lI vi6, lI vi8, lI vi10, lI vi12, lI vi14, lI vi16, lI vi18, lI vi20, lR b30_0, lI ((oN (r130 + 6)))] [(.int (oN r146))]
   refine XS.istore X151.here hx rfl (hb hby at_360) rfl (l' := #[lI p0, lR b1, lI vi6, lI vi8, lI vi10, lI vi12, lI vi14, lI vi16, lI vi18, lI vi20, lR b30_0, lI ((oN r146))]) rfl ?_
   show SH T151 362 #[lI p0, lR b1, lI vi6, lI vi8, lI vi10, lI vi12, lI vi14, lI vi16, lI vi18, lI vi20, lR b30_0, lI ((oN r146))] []
   refine XS.iload X151.here hx rfl (hb hby at_362) rfl ?_
   show SH T151 364 #[lI p0, lR b1, lI vi6, lI vi8, lI vi10, lI vi12, lI vi14, lI vi16, lI vi18, lI vi20, lR b30_0, lI ((oN r146))] [(.int (oN r146))]
   refine XS.aload X151.here hx rfl (hb hby at_364) rfl rfl ?_
   show SH T151 366 #[lI p0, lR b1, lI vi6, lI vi8, lI vi10, lI vi12, lI vi14, lI vi16, lI vi18, lI vi20, lR b30_0, lI ((oN r146))] [(.ref b30_0), (.int (oN r146))]
   refine st152.trans ?_
   show SH T152 369 #[lI p0, lR b1, lI vi6, lI vi8, lI vi10, lI vi12, lI vi14, lI vi16, lI vi18, lI vi20, lR b30_0, lI ((oN r146))] [(.int (oN nS)), (.int (oN r146))]
   refine XS.icmpNo X152.here hx rfl (hb hby at_369) rfl (teq (show (oN r146) = (oN nS) from own_eqI (A := r146) (B := nS) hend)).2 ?_
   show SH T152 372 #[lI p0, lR b1, lI vi6, lI vi8, lI vi10, lI vi12, lI vi14, lI vi16, lI vi18, lI vi20, lR b30_0, lI ((oN r146))] []
   refine XS.iconst X152.here hx rfl (hb hby at_372) ?_
   show SH T152 373 #[lI p0, lR b1, lI vi6, lI vi8, lI vi10, lI vi12, lI vi14, lI vi16, lI vi18, lI vi20, lR b30_0, lI ((oN r146))] [(vI 1)]
   refine XS.goto X152.here hx rfl (pc0 := 373) (pc' := 377) rfl (hb hby at_373) (by decide) (by decide) ?_
   show SH T152 377 #[lI p0, lR b1, lI vi6, lI vi8, lI vi10, lI vi12, lI vi14, lI vi16, lI vi18, lI vi20, lR b30_0, lI ((oN r146))] [(vI 1)]
   exact retN X152 hx (t := .boolean) Bd.returns (by simp) (hb hby at_377) hr
 · show Qrm0_0 Z p0 h0 n0 _ T152.heap _
   rw [e152]
   exact ⟨rfl, N152, Ks145⟩
 · rw [hh]
   show CHr Z consts_1 s.vm h0 T152.vm T152.heap
   rw [e152]
   exact Cend
theorem own_len {Z : State} {args : Array Value} {t : Term} {w : Addr} {cl : Cell} {ty : FieldType} {k : Int32} {n : Nat} (ev : t.eval args Z none [] Z = some (.ref w)) (A : Arr Z Z.heap w cl ty) (h : (Jvm.Cond.eq (.length t) (.int k)).value args Z none Z [] = some true) (hk : k.toInt = n) : cl.slots.size = n := by
  have e := eqv_i (Term.int_eval k) h
  have ha := A.fin (Vm.Alike.refl Z.vm)
  by_cases hl : cl.slots.size < 2 ^ 31
  · rw [len_f ev ha hl] at e
    have h5 : cl.slots.size.toInt32 = k := Value.int.inj (Option.some.inj e)
    have h6 := len_toInt hl
    rw [h5] at h6
    omega
  · simp [Term.eval, ev, ha, hl] at e
theorem own_ab {args a1 : Array Value} {Z : State} {t : Term} {v : Value} (hx : (Jvm.Cond.exactly t "[B").value args Z none Z [] = some true) (hl : (Term.length t).eval args Z none [] Z = some v) (hc : (Jvm.Cond.arrayClass .byte).before a1 Z = true) : ∃ d cl, t.eval args Z none [] Z = some (.ref d) ∧ Arr Z Z.heap d cl .byte := by
  obtain ⟨d, ev⟩ := exa_v hx
  obtain ⟨cl, k, c1, c2, c3, c4, -⟩ := Exa.start ev hx
  obtain ⟨d2, cl2, ev2, ar, -⟩ := Term.length_spec hl
  have ed : d = d2 := Value.ref.inj (Option.some.inj (ev.symm.trans ev2))
  have sp := State.arrayAt?_spec ar
  have ec : cl = cl2 := Option.some.inj (c1.symm.trans (ed ▸ sp.1))
  obtain ⟨ib, kb, comp, n1, n2, n3⟩ := Cond.arrayClass_spec hc
  have ei : ib = cl.cls := Option.some.inj ((show Z.vm.findClass "[B" = some ib from n1).symm.trans c2)
  have ek : kb = k := Option.some.inj ((ei ▸ n2).symm.trans c3)
  exact ⟨d, cl, ev, c1, ⟨fun q z => Bool.noConfusion (c4.symm.trans (by rw [z])), k, c3, comp, ek ▸ n3⟩, ec ▸ sp.2.1⟩
theorem own_di {args : Array Value} {Z : State} {t F : Term} {d : Addr} {cl : Cell} (ev : ∀ idx, t.eval args Z none idx Z = some (.ref d)) (A : Arr Z Z.heap d cl .byte) (h : (Jvm.Cond.all t (.eq (.elem t (.index 0)) F)).value args Z none Z [] = some true) (j : Int32) (hj : ¬ j < 0) (hs : j.toNatClampNeg < cl.slots.size) {v : Int32} (hF : F.eval args Z none [j.toNatClampNeg] Z = some (.int v)) : cl.slots[j.toNatClampNeg]? = some (.int v) :=
  (elem_in (eqv_i hF (Cond.all_elim (ev []) (A.fin (Vm.Alike.refl _)) h _ hs)) (ev _) (idx_at hj) A.1).2
theorem own_dg {args a1 : Array Value} {Z : State} {t : Term} (et : ∀ idx, t.eval args Z none idx Z = t.eval args Z none [] Z) (hx : (Jvm.Cond.exactly t "[B").before args Z = true) (hl : (Jvm.Cond.eq (.length t) (.int (100 : Int32))).before args Z = true) (ha : (Jvm.Cond.all t (.eq (.elem t (.index 0)) (.add (.int (48 : Int32)) (.rem (.index 0) (.int (10 : Int32)))))).before args Z = true) (hc : (Jvm.Cond.arrayClass .byte).before a1 Z = true) :
    ∃ dg, t.eval args Z none [] Z = some (.ref dg) ∧ ∃ cl : Cell, Arr Z Z.heap dg cl .byte ∧ 3 ≤ cl.slots.size ∧ cl.slots[(0 : Int32).toNatClampNeg]? = some (.int (48 : Int32)) ∧ cl.slots[(1 : Int32).toNatClampNeg]? = some (.int (49 : Int32)) ∧ cl.slots[(2 : Int32).toNatClampNeg]? = some (.int (50 : Int32)) := by
  obtain ⟨d, cl, ev, A⟩ := own_ab (Cond.before_iff.mp hx) (eqv_i (Term.int_eval (100 : Int32)) (Cond.before_iff.mp hl)) hc
  have sz : cl.slots.size = 100 := own_len ev A (Cond.before_iff.mp hl) (by decide)
  have lt : ∀ n : Nat, n < 100 → n < cl.slots.size := fun n q => by omega
  have e := own_di (fun idx => (et idx).trans ev) A (Cond.before_iff.mp ha)
  exact ⟨d, ev, cl, A, by omega, e 0 (by decide) (lt _ (by decide)) rfl, e 1 (by decide) (lt _ (by decide)) rfl, e 2 (by decide) (lt _ (by decide)) rfl⟩
theorem own_rf {args : Array Value} {Z : State} {t : Term} (h : (Jvm.Cond.isRef t).before args Z = true) : ∃ v, t.eval args Z none [] Z = some v ∧ v.isRef = true := by
  have q := Cond.before_iff.mp h
  simp only [Cond.value] at q
  cases ht : t.eval args Z none [] Z with
  | none => simp [ht] at q
  | some v => exact ⟨v, rfl, by cases v <;> simp [ht, Value.isRef] at q ⊢⟩
set_option maxRecDepth 65536 in
set_option maxHeartbeats 40000000 in
theorem comes_1 {Post : Tables → Env → Array Value → State → Outcome → State → Prop} (hpost : ∀ tb e args s v u, (limb_1_1.after args s (.returned v) u = true ∧ limb_1_2.after args s (.returned v) u = true ∧ True) → FramedW s (.returned v) u (Jvm.fieldLocs frame_1_writes args s ++ Jvm.arrayLocs frame_1_arrays args s ++ Jvm.staticLocs frame_1_statics s) 144 27200 → Post tb e args s (.returned v) u) :
    ArmFor flags0 classFile x code maxLocals ret World_1 tables_1 room_1 Calls_1 rest_1 Pre_1 Post := by
  intro l hfl _ _ p e ha hc hk s m args below hf hA hF happ hP
  obtain ⟨hcalls, hrest, hpre⟩ := hP
  obtain ⟨-, -, -, hnamed, -, -, -, hat⟩ := (Spec.applies_iff hf).mp happ
  obtain ⟨hg, hn⟩ := and_e (Cond.before_iff.mp (show (Jvm.Cond.and given_1 narrow_1).before args s = true from hpre))
  obtain ⟨g0, gr0⟩ := and_e hg
  obtain ⟨v0, rfl⟩ : ∃ v0 : Value, args = #[v0] := by
    have hs : args.size = 1 := by simpa [Cond.value, given_1] using g0
    obtain ⟨L⟩ := args
    match L, hs with
    | [v0], _ => exact ⟨v0, rfl⟩
  have hw := fun d (hd : d ∈ tables_1) => atoms_spec (ws := Jvm.Cond.code x code maxLocals ret :: tables_1) hat d (List.mem_cons_of_mem _ hd)
  have hfit : Fit s := fun {y c} hc i hi => by
    obtain ⟨ha, rfl⟩ := Array.getElem?_eq_some_iff.mp hc
    have q := List.all_eq_true.mp ((Array.all_eq_true_iff_forall_mem.mp hF) _ (Array.getElem_mem ha)) i (List.mem_range.mpr hi)
    simpa [Array.getElem?_eq_getElem hi] using q
  obtain ⟨i0, ei0⟩ := is_v gr0
  obtain rfl : v0 = (.int i0) := Option.some.inj ei0
  obtain ⟨hsets, hown0⟩ := atoms_of _ (rest_1_c_eq ▸ (show rest_1_c.before _ s = true from hrest))
  have hs0 := hsets _ (List.mem_of_getElem? (i := 0) rfl)
  have hs1 := hsets _ (List.mem_of_getElem? (i := 1) rfl)
  have hs2 := hsets _ (List.mem_of_getElem? (i := 2) rfl)
  have hs7 := hsets _ (List.mem_of_getElem? (i := 7) rfl)
  have hs8 := hsets _ (List.mem_of_getElem? (i := 8) rfl)
  have hs11 := hsets _ (List.mem_of_getElem? (i := 11) rfl)
  have hs12 := hsets _ (List.mem_of_getElem? (i := 12) rfl)
  have hs13 := hsets _ (List.mem_of_getElem? (i := 13) rfl)
  have hs14 := hsets _ (List.mem_of_getElem? (i := 14) rfl)
  obtain ⟨cz, ev_cz⟩ := is_v (Cond.before_iff.mp hs1)
  have S_compact := Sta.start ev_cz (Or.inl hs0)
  have N_cz : ¬ cz = 0 := gotF (Cond.eq_ints ev_cz (Term.int_eval (0 : Int32))) (not_v (Cond.before_iff.mp hs2))
  obtain ⟨dg, ev_dg, A_dg⟩ := own_dg (fun _ => rfl) hs12 hs13 hs14 (hw _ (List.mem_of_getElem? (i := 29) rfl))
  have S_dg := Sta.start ev_dg (Or.inl hs11)
  obtain ⟨fm, ev_fm, R_fm⟩ := own_rf hs8
  have S_fm := Sta.start ev_fm (Or.inl hs7)
  have hCv : CHv s consts_1 s.vm s.heap := CHv.start (own_ew hw) (fun p hp => hcalls.1 p hp) hs2 (hw _ (List.mem_of_getElem? (i := 29) rfl)) (hw _ (List.mem_of_getElem? (i := 37) rfl))
  have P : Pins s cz dg fm := ⟨S_compact, N_cz, S_dg, A_dg, S_fm, R_fm⟩
  obtain ⟨n, o, h1, h2, h3, _, L, rfl, ⟨rfl, N, -⟩, -, hq⟩ := rm0_0 l s _ hw tables_1 cz dg fm i0 s.heap s.heap.size (Old.start s) P p e ha hc hk s m _ below hf ((Spec.applies_iff_loose hf).mp happ).1 ⟨rfl, State.Warmed39.refl s, rfl, hCv⟩ trivial
  refine ⟨n, _, h1, h2, h3, hpost _ _ _ _ _ _ ⟨Cond.after_iff.mpr rfl, Cond.after_iff.mpr (eq_i res_at (Term.int_eval (1)) rfl), trivial⟩ ⟨hq.1, hq.2.1, hq.2.2.1, (hq.2.2.2.sift fun y hy => Or.inr (N y hy)).mono (by decide) (by decide)⟩⟩
theorem main_1_1 : Claimed_1_1 := comes_1 fun _ _ _ _ _ _ h hF => ⟨h.1, hF⟩
theorem main_1_2 : Claimed_1_2 := comes_1 fun _ _ _ _ _ _ h hF => ⟨h.2.1, hF⟩
end Jvm.Pilot.@@N@@
namespace Jvm.Pilot.@@N@@
open Jvm Jvm.ClassFile Sem Op Lib Jvm.Free Jvm.Stand Jvm.Pilot.@@N@@.Jvm.D
/-! MADE BY PROGRAM (witnessworld.py) out of the Statement's table words and the real class files: 25 classes; the members and pool entries that the words name. The judged class is class 1, her method 1. -/
namespace start1
open Jvm.ClassFile
def u (s : String) : CpInfo := .utf8 (stringToUtf16 s)
/-- a pool by its gaps: so many unusable entries, then the entry; so many at the end -/
def gap : Nat → List CpInfo → List CpInfo
  | 0, r => r
  | n + 1, r => .unusable :: gap n r
def poolList (es : List (Nat × CpInfo)) (last : Nat) : List CpInfo := es.foldr (fun e r => gap e.1 (e.2 :: r)) (gap last [])
def pool (es : List (Nat × CpInfo)) (last : Nat) : Array CpInfo := ⟨poolList es last⟩
def fileOf (pool : Array CpInfo) (this : Nat) (attrs : Array Attribute := #[]) (ms : Array MethodInfo := #[]) (fl : Nat := 33) (sup : Nat := 0) (ifs : Array Nat := #[]) (fds : Array FieldInfo := #[]) : ClassFile where
  minorVersion := 0
  majorVersion := 65
  constantPool := pool
  accessFlags := fl
  thisClass := this
  superClass := sup
  interfaces := ifs
  fields := fds
  methods := ms
  attributes := attrs
def plain (name : String) (sup : Option ClassId) : Class where
  name := name
  kind := .ordinary
  loader := none
  accessFlags := 33
  super := sup
  interfaces := #[]
  cf := none
  fields := #[]
  methods := #[]
  instanceTypes := #[]
  staticTypes := #[]
  resolved := #[]
  callSites := []
  init := .initialized
  statics := none
  mirror := none

def pool0 : Array CpInfo := pool [(5, u "<init>"), (0, u "()V"), (1, .class_ 10), (1, u "java/lang/Object")] 113

def k0c0 : Code := { maxStack := 0, maxLocals := 1, code := object_method_1_code, exceptionTable := #[], attributes := #[] }
def k0m0 : Method := { name := "<init>", desc := "()V", sig := { parameters := [], returnType := none }, accessFlags := 1, code := some k0c0 }
/-- java/lang/Object -/
def k0 : Class := { plain "java/lang/Object" none with
  accessFlags := 33
  interfaces := #[]
  cf := some (fileOf pool0 8 #[] #[{ accessFlags := 1, nameIndex := 5, descriptorIndex := 6, attributes := #[] }] 33 0 #[] #[])
  fields := #[]
  methods := #[k0m0]
  instanceTypes := #[]
  staticTypes := #[]
  resolved := Array.replicate 124 none
  statics := none }

def pool1 : Array CpInfo := pool [(2, .class_ 4), (0, .nameAndType 5 6), (0, u "java/lang/Object"), (0, u "<init>"), (0, u "()V"), (0, .class_ 8), (0, u "com/example/doccess/doccess/transfer/ImportCounts"), (0, .methodref 7 3), (0, .methodref 7 11), (0, .nameAndType 12 6), (0, u "group"), (0, .methodref 7 14), (0, .nameAndType 15 6), (0, u "user"), (0, .methodref 7 17), (0, .nameAndType 18 6), (0, u "project"), (0, .methodref 7 20), (0, .nameAndType 21 6), (0, u "projectShare"), (0, .methodref 7 23), (0, .nameAndType 24 6), (0, u "document"), (0, .methodref 7 26), (0, .nameAndType 27 6), (0, u "documentShare"), (0, .methodref 7 29), (0, .nameAndType 30 6), (0, u "version"), (0, .methodref 7 32), (0, .nameAndType 33 6), (0, u "comment"), (0, .methodref 7 35), (0, .nameAndType 36 37), (0, u "toString"), (0, u "()Ljava/lang/String;"), (0, .string 12), (0, .methodref 40 41), (0, .class_ 42), (0, .nameAndType 43 44), (0, u "com/example/doccess/doccess/transfer/ImportCountsToStringPinLaw"), (0, u "counted"), (0, u "(Ljava/lang/String;IILjava/lang/String;)I"), (0, .string 46), (0, u ", "), (0, .methodref 40 48), (0, .nameAndType 49 50), (0, u "lit"), (0, u "(Ljava/lang/String;ILjava/lang/String;)I"), (0, .string 15), (0, .string 18), (0, .string 54), (0, u " with "), (0, .string 56), (0, u "share"), (0, .string 24), (0, .string 59), (0, u " and "), (0, .string 61), (0, u "earlier version"), (0, .string 63), (0, u ", and "), (0, .string 33), (0, .methodref 66 67), (0, .class_ 68), (0, .nameAndType 69 70), (0, u "java/lang/String"), (0, u "length"), (0, u "()I"), (0, .methodref 40 72), (0, .nameAndType 73 74), (0, u "ch"), (0, u "(Ljava/lang/String;IC)I"), (0, .methodref 66 76), (0, .nameAndType 77 78), (0, u "charAt"), (0, u "(I)C"), (2, u "law"), (0, u "(I)Z")] 3

def k1m0 : Method := { name := "<init>", desc := "()V", sig := { parameters := [], returnType := none }, accessFlags := 2, code := none }
def k1c1 : Code := { maxStack := 4, maxLocals := 12, code := code, exceptionTable := #[], attributes := #[] }
def k1m1 : Method := { name := "law", desc := "(I)Z", sig := { parameters := [.int], returnType := some .boolean }, accessFlags := 9, code := some k1c1 }
def k1c2 : Code := { maxStack := 4, maxLocals := 5, code := method_3_code, exceptionTable := #[], attributes := #[] }
def k1m2 : Method := { name := "counted", desc := "(Ljava/lang/String;IILjava/lang/String;)I", sig := { parameters := [(.object "java/lang/String"), .int, .int, (.object "java/lang/String")], returnType := some .int }, accessFlags := 10, code := some k1c2 }
def k1c3 : Code := { maxStack := 2, maxLocals := 3, code := method_4_code, exceptionTable := #[], attributes := #[] }
def k1m3 : Method := { name := "ch", desc := "(Ljava/lang/String;IC)I", sig := { parameters := [(.object "java/lang/String"), .int, .char], returnType := some .int }, accessFlags := 10, code := some k1c3 }
def k1c4 : Code := { maxStack := 3, maxLocals := 4, code := method_5_code, exceptionTable := #[], attributes := #[] }
def k1m4 : Method := { name := "lit", desc := "(Ljava/lang/String;ILjava/lang/String;)I", sig := { parameters := [(.object "java/lang/String"), .int, (.object "java/lang/String")], returnType := some .int }, accessFlags := 10, code := some k1c4 }
/-- com/example/doccess/doccess/transfer/ImportCountsToStringPinLaw -/
def k1 : Class := { plain "com/example/doccess/doccess/transfer/ImportCountsToStringPinLaw" (some 0) with
  accessFlags := 49
  interfaces := #[]
  cf := some (fileOf pool1 40 #[] #[{ accessFlags := 2, nameIndex := 5, descriptorIndex := 6, attributes := #[] }, { accessFlags := 9, nameIndex := 81, descriptorIndex := 82, attributes := #[] }, { accessFlags := 10, nameIndex := 43, descriptorIndex := 44, attributes := #[] }, { accessFlags := 10, nameIndex := 73, descriptorIndex := 74, attributes := #[] }, { accessFlags := 10, nameIndex := 49, descriptorIndex := 50, attributes := #[] }] 49 2 #[] #[])
  fields := #[]
  methods := #[k1m0, k1m1, k1m2, k1m3, k1m4]
  instanceTypes := #[]
  staticTypes := #[]
  resolved := Array.replicate 86 none
  statics := none }

def pool2 : Array CpInfo := pool [(1, .methodref 2 3), (0, .class_ 4), (0, .nameAndType 5 6), (0, u "java/lang/Object"), (0, u "<init>"), (0, u "()V"), (0, .fieldref 8 9), (0, .class_ 10), (0, .nameAndType 11 12), (0, u "com/example/doccess/doccess/transfer/ImportCounts"), (0, u "groups"), (0, u "I"), (0, .fieldref 8 14), (0, .nameAndType 15 12), (0, u "users"), (0, .fieldref 8 17), (0, .nameAndType 18 12), (0, u "projects"), (0, .fieldref 8 20), (0, .nameAndType 21 12), (0, u "projectShares"), (0, .fieldref 8 23), (0, .nameAndType 24 12), (0, u "documents"), (0, .fieldref 8 26), (0, .nameAndType 27 12), (0, u "documentShares"), (0, .fieldref 8 29), (0, .nameAndType 30 12), (0, u "versions"), (0, .fieldref 8 32), (0, .nameAndType 33 12), (0, u "comments"), (0, .class_ 35), (0, u "java/lang/StringBuilder"), (0, .methodref 34 3), (0, .string 38), (0, u "group"), (0, .methodref 8 40), (0, .nameAndType 41 42), (0, u "counted"), (0, u "(ILjava/lang/String;)Ljava/lang/String;"), (0, .methodref 34 44), (0, .nameAndType 45 46), (0, u "append"), (0, u "(Ljava/lang/String;)Ljava/lang/StringBuilder;"), (0, .string 48), (0, u ", "), (0, .string 50), (0, u "user"), (0, .string 52), (0, u "project"), (0, .string 54), (0, u " with "), (0, .string 56), (0, u "share"), (0, .string 58), (0, u "document"), (0, .string 60), (0, u " and "), (0, .string 62), (0, u "earlier version"), (0, .string 64), (0, u ", and "), (0, .string 66), (0, u "comment"), (0, .methodref 34 68), (0, .nameAndType 69 70), (0, u "toString"), (0, u "()Ljava/lang/String;"), (0, .methodref 34 72), (0, .nameAndType 45 73), (0, u "(I)Ljava/lang/StringBuilder;"), (0, .string 75), (0, u " "), (0, .string 77), (0, u ""), (0, .string 79), (0, u "s"), (2, u "projectShare"), (0, u "documentShare"), (0, u "version")] 5

def k2c0 : Code := { maxStack := 1, maxLocals := 1, code := prog_21_method_1_code, exceptionTable := #[], attributes := #[] }
def k2m0 : Method := { name := "<init>", desc := "()V", sig := { parameters := [], returnType := none }, accessFlags := 0, code := some k2c0 }
def k2c1 : Code := { maxStack := 3, maxLocals := 1, code := prog_21_method_2_code, exceptionTable := #[], attributes := #[] }
def k2m1 : Method := { name := "group", desc := "()V", sig := { parameters := [], returnType := none }, accessFlags := 0, code := some k2c1 }
def k2c2 : Code := { maxStack := 3, maxLocals := 1, code := prog_21_method_3_code, exceptionTable := #[], attributes := #[] }
def k2m2 : Method := { name := "user", desc := "()V", sig := { parameters := [], returnType := none }, accessFlags := 0, code := some k2c2 }
def k2c3 : Code := { maxStack := 3, maxLocals := 1, code := prog_21_method_4_code, exceptionTable := #[], attributes := #[] }
def k2m3 : Method := { name := "project", desc := "()V", sig := { parameters := [], returnType := none }, accessFlags := 0, code := some k2c3 }
def k2c4 : Code := { maxStack := 3, maxLocals := 1, code := prog_21_method_5_code, exceptionTable := #[], attributes := #[] }
def k2m4 : Method := { name := "projectShare", desc := "()V", sig := { parameters := [], returnType := none }, accessFlags := 0, code := some k2c4 }
def k2c5 : Code := { maxStack := 3, maxLocals := 1, code := prog_21_method_6_code, exceptionTable := #[], attributes := #[] }
def k2m5 : Method := { name := "document", desc := "()V", sig := { parameters := [], returnType := none }, accessFlags := 0, code := some k2c5 }
def k2c6 : Code := { maxStack := 3, maxLocals := 1, code := prog_21_method_7_code, exceptionTable := #[], attributes := #[] }
def k2m6 : Method := { name := "documentShare", desc := "()V", sig := { parameters := [], returnType := none }, accessFlags := 0, code := some k2c6 }
def k2c7 : Code := { maxStack := 3, maxLocals := 1, code := prog_21_method_8_code, exceptionTable := #[], attributes := #[] }
def k2m7 : Method := { name := "version", desc := "()V", sig := { parameters := [], returnType := none }, accessFlags := 0, code := some k2c7 }
def k2c8 : Code := { maxStack := 3, maxLocals := 1, code := prog_21_method_9_code, exceptionTable := #[], attributes := #[] }
def k2m8 : Method := { name := "comment", desc := "()V", sig := { parameters := [], returnType := none }, accessFlags := 0, code := some k2c8 }
def k2c9 : Code := { maxStack := 3, maxLocals := 1, code := prog_21_method_10_code, exceptionTable := #[], attributes := #[] }
def k2m9 : Method := { name := "toString", desc := "()Ljava/lang/String;", sig := { parameters := [], returnType := some (.object "java/lang/String") }, accessFlags := 1, code := some k2c9 }
def k2c10 : Code := { maxStack := 3, maxLocals := 2, code := prog_21_method_11_code, exceptionTable := #[], attributes := #[] }
def k2m10 : Method := { name := "counted", desc := "(ILjava/lang/String;)Ljava/lang/String;", sig := { parameters := [.int, (.object "java/lang/String")], returnType := some (.object "java/lang/String") }, accessFlags := 10, code := some k2c10 }
/-- com/example/doccess/doccess/transfer/ImportCounts -/
def k2 : Class := { plain "com/example/doccess/doccess/transfer/ImportCounts" (some 0) with
  accessFlags := 32
  interfaces := #[]
  cf := some (fileOf pool2 8 #[] #[{ accessFlags := 0, nameIndex := 5, descriptorIndex := 6, attributes := #[] }, { accessFlags := 0, nameIndex := 38, descriptorIndex := 6, attributes := #[] }, { accessFlags := 0, nameIndex := 50, descriptorIndex := 6, attributes := #[] }, { accessFlags := 0, nameIndex := 52, descriptorIndex := 6, attributes := #[] }, { accessFlags := 0, nameIndex := 82, descriptorIndex := 6, attributes := #[] }, { accessFlags := 0, nameIndex := 58, descriptorIndex := 6, attributes := #[] }, { accessFlags := 0, nameIndex := 83, descriptorIndex := 6, attributes := #[] }, { accessFlags := 0, nameIndex := 84, descriptorIndex := 6, attributes := #[] }, { accessFlags := 0, nameIndex := 66, descriptorIndex := 6, attributes := #[] }, { accessFlags := 1, nameIndex := 69, descriptorIndex := 70, attributes := #[] }, { accessFlags := 10, nameIndex := 41, descriptorIndex := 42, attributes := #[] }] 32 2 #[] #[{ accessFlags := 2, nameIndex := 11, descriptorIndex := 12, attributes := #[] }, { accessFlags := 2, nameIndex := 15, descriptorIndex := 12, attributes := #[] }, { accessFlags := 2, nameIndex := 18, descriptorIndex := 12, attributes := #[] }, { accessFlags := 2, nameIndex := 21, descriptorIndex := 12, attributes := #[] }, { accessFlags := 2, nameIndex := 24, descriptorIndex := 12, attributes := #[] }, { accessFlags := 2, nameIndex := 27, descriptorIndex := 12, attributes := #[] }, { accessFlags := 2, nameIndex := 30, descriptorIndex := 12, attributes := #[] }, { accessFlags := 2, nameIndex := 33, descriptorIndex := 12, attributes := #[] }])
  fields := #[{ name := "groups", type := .int, accessFlags := 2, slot := 0, constantValue := 0 }, { name := "users", type := .int, accessFlags := 2, slot := 1, constantValue := 0 }, { name := "projects", type := .int, accessFlags := 2, slot := 2, constantValue := 0 }, { name := "projectShares", type := .int, accessFlags := 2, slot := 3, constantValue := 0 }, { name := "documents", type := .int, accessFlags := 2, slot := 4, constantValue := 0 }, { name := "documentShares", type := .int, accessFlags := 2, slot := 5, constantValue := 0 }, { name := "versions", type := .int, accessFlags := 2, slot := 6, constantValue := 0 }, { name := "comments", type := .int, accessFlags := 2, slot := 7, constantValue := 0 }]
  methods := #[k2m0, k2m1, k2m2, k2m3, k2m4, k2m5, k2m6, k2m7, k2m8, k2m9, k2m10]
  instanceTypes := #[.int, .int, .int, .int, .int, .int, .int, .int]
  staticTypes := #[]
  resolved := Array.replicate 90 none
  statics := none }

def pool3 : Array CpInfo := pool [(1, .class_ 2), (0, u "java/lang/Appendable"), (0, .class_ 4), (0, u "java/lang/Object")] 9

/-- java/lang/Appendable -/
def k3 : Class := { plain "java/lang/Appendable" (some 0) with
  accessFlags := 1537
  interfaces := #[]
  cf := some (fileOf pool3 1 #[] #[] 1537 3 #[] #[])
  fields := #[]
  methods := #[]
  instanceTypes := #[]
  staticTypes := #[]
  resolved := Array.replicate 14 none
  statics := none }

def pool4 : Array CpInfo := pool [(2, .class_ 4), (1, u "java/lang/CharSequence"), (42, .class_ 48), (0, u "java/lang/CharSequence$1CodePointIterator"), (10, .class_ 60), (0, u "java/lang/CharSequence$1CharIterator"), (5, .class_ 67), (0, u "java/lang/Object")] 63

/-- java/lang/CharSequence -/
def k4 : Class := { plain "java/lang/CharSequence" (some 0) with
  accessFlags := 1537
  interfaces := #[]
  cf := some (fileOf pool4 2 #[.nestMembers #[47, 59]] #[] 1537 66 #[] #[])
  fields := #[]
  methods := #[]
  instanceTypes := #[]
  staticTypes := #[]
  resolved := Array.replicate 131 none
  statics := none }

def pool5 : Array CpInfo := pool [(1, .class_ 2), (0, u "java/lang/String"), (0, .methodref 4 5), (0, .class_ 6), (0, .nameAndType 7 8), (0, u "java/lang/Object"), (0, u "<init>"), (0, u "()V"), (1, .class_ 12), (1, u "java/lang/AbstractStringBuilder"), (0, u "EMPTYVALUE"), (0, u "[B"), (0, .fieldref 10 16), (0, .nameAndType 17 14), (0, u "value"), (0, .fieldref 1 19), (0, .nameAndType 20 21), (0, u "COMPACT_STRINGS"), (0, u "Z"), (0, .fieldref 10 23), (0, .nameAndType 24 25), (0, u "coder"), (0, u "B"), (6, .methodref 1 33), (0, .nameAndType 34 35), (0, u "length"), (0, u "()I"), (0, .class_ 37), (0, u "java/lang/Integer"), (1, .integer 2147483647), (0, .methodref 1 41), (0, .nameAndType 24 42), (0, u "()B"), (2, u "append"), (0, u "(Ljava/lang/String;)Ljava/lang/AbstractStringBuilder;"), (1, .class_ 49), (0, u "java/lang/CharSequence"), (19, u "(Ljava/lang/String;)V"), (5, u "maybeLatin1"), (3, .fieldref 10 80), (0, .nameAndType 81 82), (0, u "count"), (0, u "I"), (0, .methodref 10 84), (0, .nameAndType 85 86), (0, u "isLatin1"), (0, u "()Z"), (13, .methodref 10 101), (0, .nameAndType 102 103), (0, u "ensureCapacityInternal"), (0, u "(I)V"), (0, .methodref 10 105), (0, .nameAndType 106 107), (0, u "newCapacity"), (0, u "(I)I"), (0, .methodref 109 110), (0, .class_ 111), (0, .nameAndType 112 113), (0, u "java/util/Arrays"), (0, u "copyOf"), (0, u "([BI)[B"), (0, .methodref 115 116), (0, .class_ 117), (0, .nameAndType 118 119), (0, u "jdk/internal/util/ArraysSupport"), (0, u "newLength"), (0, u "(III)I"), (68, u "getChars"), (19, .methodref 10 209), (0, .nameAndType 210 211), (0, u "putStringAt"), (0, u "(ILjava/lang/String;)V"), (5, u "inflateIfNeededFor"), (2, .nameAndType 221 222), (0, u "getBytes"), (0, u "([BIB)V"), (22, .methodref 36 246), (0, .nameAndType 247 107), (0, u "stringSize"), (0, .methodref 36 249), (0, .nameAndType 188 250), (0, u "(II[B)I"), (146, .methodref 10 398), (0, .nameAndType 217 69), (0, .methodref 1 220), (3, u "()[B"), (40, .class_ 445), (0, u "java/lang/Appendable"), (65, u "(I)Ljava/lang/AbstractStringBuilder;"), (40, u "getValue")] 56

def k5m0 : Method := { name := "<init>", desc := "()V", sig := { parameters := [], returnType := none }, accessFlags := 0, code := none }
def k5c1 : Code := { maxStack := 2, maxLocals := 2, code := jdk_68_method_2_code, exceptionTable := #[], attributes := #[] }
def k5m1 : Method := { name := "<init>", desc := "(I)V", sig := { parameters := [.int], returnType := none }, accessFlags := 0, code := some k5c1 }
def k5c2 : Code := { maxStack := 1, maxLocals := 1, code := jdk_68_method_6_code, exceptionTable := #[], attributes := #[] }
def k5m2 : Method := { name := "length", desc := "()I", sig := { parameters := [], returnType := some .int }, accessFlags := 1, code := some k5c2 }
def k5c3 : Code := { maxStack := 4, maxLocals := 3, code := jdk_68_method_9_code, exceptionTable := #[], attributes := #[] }
def k5m3 : Method := { name := "ensureCapacityInternal", desc := "(I)V", sig := { parameters := [.int], returnType := none }, accessFlags := 2, code := some k5c3 }
def k5c4 : Code := { maxStack := 5, maxLocals := 6, code := jdk_68_method_10_code, exceptionTable := #[], attributes := #[] }
def k5m4 : Method := { name := "newCapacity", desc := "(I)I", sig := { parameters := [.int], returnType := some .int }, accessFlags := 2, code := some k5c4 }
def k5c5 : Code := { maxStack := 3, maxLocals := 3, code := jdk_68_method_22_code, exceptionTable := #[], attributes := #[] }
def k5m5 : Method := { name := "append", desc := "(Ljava/lang/String;)Ljava/lang/AbstractStringBuilder;", sig := { parameters := [(.object "java/lang/String")], returnType := some (.object "java/lang/AbstractStringBuilder") }, accessFlags := 1, code := some k5c5 }
def k5c6 : Code := { maxStack := 4, maxLocals := 4, code := jdk_68_method_32_code, exceptionTable := #[], attributes := #[] }
def k5m6 : Method := { name := "append", desc := "(I)Ljava/lang/AbstractStringBuilder;", sig := { parameters := [.int], returnType := some (.object "java/lang/AbstractStringBuilder") }, accessFlags := 1, code := some k5c6 }
def k5c7 : Code := { maxStack := 1, maxLocals := 1, code := jdk_68_method_64_code, exceptionTable := #[], attributes := #[] }
def k5m7 : Method := { name := "getValue", desc := "()[B", sig := { parameters := [], returnType := some (.array .byte) }, accessFlags := 16, code := some k5c7 }
def k5c8 : Code := { maxStack := 1, maxLocals := 1, code := jdk_68_method_68_code, exceptionTable := #[], attributes := #[] }
def k5m8 : Method := { name := "isLatin1", desc := "()Z", sig := { parameters := [], returnType := some .boolean }, accessFlags := 16, code := some k5c8 }
def k5c9 : Code := { maxStack := 2, maxLocals := 2, code := jdk_68_method_71_code, exceptionTable := #[], attributes := #[] }
def k5m9 : Method := { name := "inflateIfNeededFor", desc := "(Ljava/lang/String;)V", sig := { parameters := [(.object "java/lang/String")], returnType := none }, accessFlags := 2, code := some k5c9 }
def k5c10 : Code := { maxStack := 4, maxLocals := 3, code := jdk_68_method_73_code, exceptionTable := #[], attributes := #[] }
def k5m10 : Method := { name := "putStringAt", desc := "(ILjava/lang/String;)V", sig := { parameters := [.int, (.object "java/lang/String")], returnType := none }, accessFlags := 2, code := some k5c10 }
/-- java/lang/AbstractStringBuilder -/
def k5 : Class := { plain "java/lang/AbstractStringBuilder" (some 0) with
  accessFlags := 1056
  interfaces := #[3, 4]
  cf := some (fileOf pool5 10 #[] #[{ accessFlags := 0, nameIndex := 7, descriptorIndex := 8, attributes := #[] }, { accessFlags := 0, nameIndex := 7, descriptorIndex := 103, attributes := #[] }, { accessFlags := 1, nameIndex := 34, descriptorIndex := 35, attributes := #[] }, { accessFlags := 2, nameIndex := 102, descriptorIndex := 103, attributes := #[] }, { accessFlags := 2, nameIndex := 106, descriptorIndex := 107, attributes := #[] }, { accessFlags := 1, nameIndex := 45, descriptorIndex := 46, attributes := #[] }, { accessFlags := 1, nameIndex := 45, descriptorIndex := 511, attributes := #[] }, { accessFlags := 16, nameIndex := 552, descriptorIndex := 403, attributes := #[] }, { accessFlags := 16, nameIndex := 85, descriptorIndex := 86, attributes := #[] }, { accessFlags := 2, nameIndex := 217, descriptorIndex := 69, attributes := #[] }, { accessFlags := 2, nameIndex := 210, descriptorIndex := 211, attributes := #[] }] 1056 4 #[444, 48] #[{ accessFlags := 0, nameIndex := 17, descriptorIndex := 14, attributes := #[] }, { accessFlags := 0, nameIndex := 24, descriptorIndex := 25, attributes := #[] }, { accessFlags := 0, nameIndex := 75, descriptorIndex := 21, attributes := #[] }, { accessFlags := 0, nameIndex := 81, descriptorIndex := 82, attributes := #[] }, { accessFlags := 26, nameIndex := 13, descriptorIndex := 14, attributes := #[] }])
  fields := #[{ name := "value", type := (.array .byte), accessFlags := 0, slot := 0, constantValue := 0 }, { name := "coder", type := .byte, accessFlags := 0, slot := 1, constantValue := 0 }, { name := "maybeLatin1", type := .boolean, accessFlags := 0, slot := 2, constantValue := 0 }, { name := "count", type := .int, accessFlags := 0, slot := 3, constantValue := 0 }, { name := "EMPTYVALUE", type := (.array .byte), accessFlags := 26, slot := 0, constantValue := 0 }]
  methods := #[k5m0, k5m1, k5m2, k5m3, k5m4, k5m5, k5m6, k5m7, k5m8, k5m9, k5m10]
  instanceTypes := #[(.array .byte), .byte, .boolean, .int]
  staticTypes := #[(.array .byte)]
  resolved := Array.replicate 609 none
  statics := none }

def pool6 : Array CpInfo := pool [(1, .class_ 2), (0, u "java/io/Serializable"), (0, .class_ 4), (0, u "java/lang/Object")] 2

/-- java/io/Serializable -/
def k6 : Class := { plain "java/io/Serializable" (some 0) with
  accessFlags := 1537
  interfaces := #[]
  cf := some (fileOf pool6 1 #[] #[] 1537 3 #[] #[])
  fields := #[]
  methods := #[]
  instanceTypes := #[]
  staticTypes := #[]
  resolved := Array.replicate 7 none
  statics := none }

def pool7 : Array CpInfo := pool [(1, .class_ 2), (0, u "java/lang/Comparable"), (0, .class_ 4), (0, u "java/lang/Object")] 7

/-- java/lang/Comparable -/
def k7 : Class := { plain "java/lang/Comparable" (some 0) with
  accessFlags := 1537
  interfaces := #[]
  cf := some (fileOf pool7 1 #[] #[] 1537 3 #[] #[])
  fields := #[]
  methods := #[]
  instanceTypes := #[]
  staticTypes := #[]
  resolved := Array.replicate 12 none
  statics := none }

def pool8 : Array CpInfo := pool [(1, .methodref 2 3), (0, .class_ 4), (0, .nameAndType 5 6), (0, u "java/lang/AbstractStringBuilder"), (0, u "<init>"), (0, u "(I)V"), (11, .class_ 20), (1, u "java/lang/String"), (3, .class_ 26), (1, u "java/lang/StringBuilder"), (0, u "append"), (0, u "(Ljava/lang/String;)Ljava/lang/StringBuilder;"), (0, .methodref 2 30), (0, .nameAndType 27 31), (0, u "(Ljava/lang/String;)Ljava/lang/AbstractStringBuilder;"), (21, .methodref 2 54), (0, .nameAndType 27 55), (0, u "(I)Ljava/lang/AbstractStringBuilder;"), (81, .methodref 18 138), (0, .nameAndType 5 139), (0, u "(Ljava/lang/StringBuilder;)V"), (5, u "()V"), (10, u "()I"), (111, u "(I)Ljava/lang/StringBuilder;"), (74, .methodref 2 344), (0, .nameAndType 345 156), (0, u "length"), (3, .class_ 350), (0, u "java/lang/Appendable"), (0, .class_ 352), (0, u "java/io/Serializable"), (0, .class_ 354), (0, u "java/lang/Comparable"), (0, .class_ 356), (0, u "java/lang/CharSequence"), (0, u "serialVersionUID"), (0, u "J"), (40, u "toString"), (0, u "()Ljava/lang/String;")] 21

def k8c0 : Code := { maxStack := 2, maxLocals := 1, code := jdk_67_method_1_code, exceptionTable := #[], attributes := #[] }
def k8m0 : Method := { name := "<init>", desc := "()V", sig := { parameters := [], returnType := none }, accessFlags := 1, code := some k8c0 }
def k8c1 : Code := { maxStack := 2, maxLocals := 2, code := jdk_67_method_7_code, exceptionTable := #[], attributes := #[] }
def k8m1 : Method := { name := "append", desc := "(Ljava/lang/String;)Ljava/lang/StringBuilder;", sig := { parameters := [(.object "java/lang/String")], returnType := some (.object "java/lang/StringBuilder") }, accessFlags := 1, code := some k8c1 }
def k8c2 : Code := { maxStack := 2, maxLocals := 2, code := jdk_67_method_15_code, exceptionTable := #[], attributes := #[] }
def k8m2 : Method := { name := "append", desc := "(I)Ljava/lang/StringBuilder;", sig := { parameters := [.int], returnType := some (.object "java/lang/StringBuilder") }, accessFlags := 1, code := some k8c2 }
def k8c3 : Code := { maxStack := 3, maxLocals := 1, code := jdk_67_method_42_code, exceptionTable := #[], attributes := #[] }
def k8m3 : Method := { name := "toString", desc := "()Ljava/lang/String;", sig := { parameters := [], returnType := some (.object "java/lang/String") }, accessFlags := 1, code := some k8c3 }
def k8c4 : Code := { maxStack := 1, maxLocals := 1, code := jdk_67_method_93_code, exceptionTable := #[], attributes := #[] }
def k8m4 : Method := { name := "length", desc := "()I", sig := { parameters := [], returnType := some .int }, accessFlags := 4161, code := some k8c4 }
/-- java/lang/StringBuilder -/
def k8 : Class := { plain "java/lang/StringBuilder" (some 5) with
  accessFlags := 49
  interfaces := #[3, 6, 7, 4]
  cf := some (fileOf pool8 24 #[] #[{ accessFlags := 1, nameIndex := 5, descriptorIndex := 145, attributes := #[] }, { accessFlags := 1, nameIndex := 27, descriptorIndex := 28, attributes := #[] }, { accessFlags := 1, nameIndex := 27, descriptorIndex := 268, attributes := #[] }, { accessFlags := 1, nameIndex := 399, descriptorIndex := 400, attributes := #[] }, { accessFlags := 4161, nameIndex := 345, descriptorIndex := 156, attributes := #[] }] 49 2 #[349, 351, 353, 355] #[{ accessFlags := 24, nameIndex := 357, descriptorIndex := 358, attributes := #[] }])
  fields := #[{ name := "serialVersionUID", type := .long, accessFlags := 24, slot := 0, constantValue := 0 }]
  methods := #[k8m0, k8m1, k8m2, k8m3, k8m4]
  instanceTypes := #[(.array .byte), .byte, .boolean, .int]
  staticTypes := #[.long]
  resolved := Array.replicate 422 none
  statics := none }

def pool9 : Array CpInfo := pool [(1, .class_ 2), (0, u "java/lang/constant/Constable"), (0, .class_ 4), (0, u "java/lang/Object")] 6

/-- java/lang/constant/Constable -/
def k9 : Class := { plain "java/lang/constant/Constable" (some 0) with
  accessFlags := 1537
  interfaces := #[]
  cf := some (fileOf pool9 1 #[] #[] 1537 3 #[] #[])
  fields := #[]
  methods := #[]
  instanceTypes := #[]
  staticTypes := #[]
  resolved := Array.replicate 11 none
  statics := none }

def pool10 : Array CpInfo := pool [(1, .class_ 2), (0, u "java/lang/constant/ConstantDesc"), (0, .class_ 4), (0, u "java/lang/Object")] 32

/-- java/lang/constant/ConstantDesc -/
def k10 : Class := { plain "java/lang/constant/ConstantDesc" (some 0) with
  accessFlags := 1537
  interfaces := #[]
  cf := some (fileOf pool10 1 #[] #[] 1537 3 #[] #[])
  fields := #[]
  methods := #[]
  instanceTypes := #[]
  staticTypes := #[]
  resolved := Array.replicate 37 none
  statics := none }

def pool11 : Array CpInfo := pool [(1, .methodref 2 3), (0, .class_ 4), (0, .nameAndType 5 6), (0, u "java/lang/Object"), (0, u "<init>"), (0, u "()V"), (2, .fieldref 10 11), (0, .class_ 12), (0, .nameAndType 13 14), (0, u "java/lang/String"), (0, u "value"), (0, u "[B"), (0, .fieldref 10 16), (0, .nameAndType 17 18), (0, u "coder"), (0, u "B"), (2, u "hash"), (0, u "I"), (2, u "hashIsZero"), (0, u "Z"), (11, .fieldref 10 39), (0, .nameAndType 40 26), (0, u "COMPACT_STRINGS"), (13, .methodref 55 56), (0, .class_ 57), (0, .nameAndType 58 59), (0, u "java/util/Arrays"), (0, u "copyOfRange"), (0, u "([BII)[B"), (47, .class_ 109), (1, u "java/lang/StringLatin1"), (32, u "()Z"), (50, .class_ 195), (1, u "java/lang/System"), (16, .methodref 193 213), (0, .nameAndType 214 215), (0, u "arraycopy"), (0, u "(Ljava/lang/Object;ILjava/lang/Object;II)V"), (118, u "()I"), (0, .methodref 10 336), (0, .nameAndType 17 337), (0, u "()B"), (2, u "()[B"), (22, u "([BI)C"), (27, u "(II)V"), (35, u "(I)C"), (61, .methodref 10 490), (0, .nameAndType 5 491), (0, u "(Ljava/lang/AbstractStringBuilder;Ljava/lang/Void;)V"), (0, .methodref 10 493), (0, .nameAndType 494 142), (0, u "isLatin1"), (0, .methodref 107 496), (0, .nameAndType 497 363), (0, u "charAt"), (3, u "checkIndex"), (4, .nameAndType 507 334), (0, u "length"), (24, u "getBytes"), (16, .methodref 550 506), (0, .class_ 551), (0, u "java/lang/AbstractStringBuilder"), (0, .methodref 550 553), (0, .nameAndType 554 340), (0, u "getValue"), (20, .class_ 576), (0, u "java/lang/CharSequence"), (22, u "CASE_INSENSITIVE_ORDER"), (0, u "Ljava/util/Comparator;"), (220, u "([BIB)V"), (225, .methodref 550 493), (5, .fieldref 1054 1055), (0, .class_ 1056), (0, .nameAndType 1057 1058), (0, u "jdk/internal/util/Preconditions"), (0, u "SIOOBE_FORMATTER"), (0, u "Ljava/util/function/BiFunction;"), (0, .methodref 1054 1060), (0, .nameAndType 501 1061), (0, u "(IILjava/util/function/BiFunction;)I"), (39, u "serialPersistentFields"), (0, u "[Ljava/io/ObjectStreamField;"), (0, .class_ 1104), (0, u "java/lang/String$CaseInsensitiveComparator"), (1, .class_ 1107), (0, u "java/io/Serializable"), (0, .class_ 1109), (0, u "java/lang/Comparable"), (0, .class_ 1111), (0, u "java/lang/constant/Constable"), (0, .class_ 1113), (0, u "java/lang/constant/ConstantDesc"), (2, u "serialVersionUID"), (0, u "J"), (3, u "REPL"), (0, u "C"), (2, u "LATIN1"), (1, u "UTF16"), (105, u "(Ljava/lang/StringBuilder;)V")] 217

def k11m0 : Method := { name := "<init>", desc := "()V", sig := { parameters := [], returnType := none }, accessFlags := 1, code := none }
def k11c1 : Code := { maxStack := 3, maxLocals := 2, code := jdk_42_method_53_code, exceptionTable := #[], attributes := #[] }
def k11m1 : Method := { name := "<init>", desc := "(Ljava/lang/StringBuilder;)V", sig := { parameters := [(.object "java/lang/StringBuilder")], returnType := none }, accessFlags := 1, code := some k11c1 }
def k11c2 : Code := { maxStack := 2, maxLocals := 1, code := jdk_42_method_54_code, exceptionTable := #[], attributes := #[] }
def k11m2 : Method := { name := "length", desc := "()I", sig := { parameters := [], returnType := some .int }, accessFlags := 1, code := some k11c2 }
def k11c3 : Code := { maxStack := 2, maxLocals := 2, code := jdk_42_method_56_code, exceptionTable := #[], attributes := #[] }
def k11m3 : Method := { name := "charAt", desc := "(I)C", sig := { parameters := [.int], returnType := some .char }, accessFlags := 1, code := some k11c3 }
def k11c4 : Code := { maxStack := 5, maxLocals := 4, code := jdk_42_method_147_code, exceptionTable := #[], attributes := #[] }
def k11m4 : Method := { name := "getBytes", desc := "([BIB)V", sig := { parameters := [(.array .byte), .int, .byte], returnType := none }, accessFlags := 0, code := some k11c4 }
def k11c5 : Code := { maxStack := 5, maxLocals := 5, code := jdk_42_method_150_code, exceptionTable := #[], attributes := #[] }
def k11m5 : Method := { name := "<init>", desc := "(Ljava/lang/AbstractStringBuilder;Ljava/lang/Void;)V", sig := { parameters := [(.object "java/lang/AbstractStringBuilder"), (.object "java/lang/Void")], returnType := none }, accessFlags := 0, code := some k11c5 }
def k11c6 : Code := { maxStack := 1, maxLocals := 1, code := jdk_42_method_152_code, exceptionTable := #[], attributes := #[] }
def k11m6 : Method := { name := "coder", desc := "()B", sig := { parameters := [], returnType := some .byte }, accessFlags := 0, code := some k11c6 }
def k11c7 : Code := { maxStack := 1, maxLocals := 1, code := jdk_42_method_154_code, exceptionTable := #[], attributes := #[] }
def k11m7 : Method := { name := "isLatin1", desc := "()Z", sig := { parameters := [], returnType := some .boolean }, accessFlags := 0, code := some k11c7 }
def k11c8 : Code := { maxStack := 3, maxLocals := 2, code := jdk_42_method_155_code, exceptionTable := #[], attributes := #[] }
def k11m8 : Method := { name := "checkIndex", desc := "(II)V", sig := { parameters := [.int, .int], returnType := none }, accessFlags := 8, code := some k11c8 }
/-- java/lang/String -/
def k11 : Class := { plain "java/lang/String" (some 0) with
  accessFlags := 49
  interfaces := #[6, 7, 4, 9, 10]
  cf := some (fileOf pool11 10 #[.nestMembers #[1103]] #[{ accessFlags := 1, nameIndex := 5, descriptorIndex := 6, attributes := #[] }, { accessFlags := 1, nameIndex := 5, descriptorIndex := 1233, attributes := #[] }, { accessFlags := 1, nameIndex := 507, descriptorIndex := 334, attributes := #[] }, { accessFlags := 1, nameIndex := 497, descriptorIndex := 427, attributes := #[] }, { accessFlags := 0, nameIndex := 532, descriptorIndex := 821, attributes := #[] }, { accessFlags := 0, nameIndex := 5, descriptorIndex := 491, attributes := #[] }, { accessFlags := 0, nameIndex := 17, descriptorIndex := 337, attributes := #[] }, { accessFlags := 0, nameIndex := 494, descriptorIndex := 142, attributes := #[] }, { accessFlags := 8, nameIndex := 501, descriptorIndex := 391, attributes := #[] }] 49 2 #[1106, 1108, 575, 1110, 1112] #[{ accessFlags := 18, nameIndex := 13, descriptorIndex := 14, attributes := #[] }, { accessFlags := 18, nameIndex := 17, descriptorIndex := 18, attributes := #[] }, { accessFlags := 2, nameIndex := 21, descriptorIndex := 22, attributes := #[] }, { accessFlags := 2, nameIndex := 25, descriptorIndex := 26, attributes := #[] }, { accessFlags := 26, nameIndex := 1116, descriptorIndex := 1117, attributes := #[] }, { accessFlags := 24, nameIndex := 40, descriptorIndex := 26, attributes := #[] }, { accessFlags := 26, nameIndex := 1101, descriptorIndex := 1102, attributes := #[] }, { accessFlags := 26, nameIndex := 1121, descriptorIndex := 1122, attributes := #[] }, { accessFlags := 25, nameIndex := 599, descriptorIndex := 600, attributes := #[] }, { accessFlags := 24, nameIndex := 1125, descriptorIndex := 18, attributes := #[] }, { accessFlags := 24, nameIndex := 1127, descriptorIndex := 18, attributes := #[] }])
  fields := #[{ name := "value", type := (.array .byte), accessFlags := 18, slot := 0, constantValue := 0 }, { name := "coder", type := .byte, accessFlags := 18, slot := 1, constantValue := 0 }, { name := "hash", type := .int, accessFlags := 2, slot := 2, constantValue := 0 }, { name := "hashIsZero", type := .boolean, accessFlags := 2, slot := 3, constantValue := 0 }, { name := "serialVersionUID", type := .long, accessFlags := 26, slot := 0, constantValue := 0 }, { name := "COMPACT_STRINGS", type := .boolean, accessFlags := 24, slot := 1, constantValue := 0 }, { name := "serialPersistentFields", type := (.array (.object "java/io/ObjectStreamField")), accessFlags := 26, slot := 2, constantValue := 0 }, { name := "REPL", type := .char, accessFlags := 26, slot := 3, constantValue := 0 }, { name := "CASE_INSENSITIVE_ORDER", type := (.object "java/util/Comparator"), accessFlags := 25, slot := 4, constantValue := 0 }, { name := "LATIN1", type := .byte, accessFlags := 24, slot := 5, constantValue := 0 }, { name := "UTF16", type := .byte, accessFlags := 24, slot := 6, constantValue := 0 }]
  methods := #[k11m0, k11m1, k11m2, k11m3, k11m4, k11m5, k11m6, k11m7, k11m8]
  instanceTypes := #[(.array .byte), .byte, .int, .boolean]
  staticTypes := #[.long, .boolean, (.array (.object "java/io/ObjectStreamField")), .char, (.object "java/util/Comparator"), .byte, .byte]
  resolved := Array.replicate 1451 none
  statics := some 0 }

def pool12 : Array CpInfo := pool [(2, .class_ 4), (1, u "java/lang/Object"), (0, u "<init>"), (0, u "()V"), (1, .class_ 10), (1, u "java/lang/Number"), (2, .class_ 14), (0, u "java/io/Serializable"), (0, u "serialVersionUID"), (0, u "J")] 20

def k12m0 : Method := { name := "<init>", desc := "()V", sig := { parameters := [], returnType := none }, accessFlags := 1, code := none }
/-- java/lang/Number -/
def k12 : Class := { plain "java/lang/Number" (some 0) with
  accessFlags := 1057
  interfaces := #[6]
  cf := some (fileOf pool12 8 #[] #[{ accessFlags := 1, nameIndex := 5, descriptorIndex := 6, attributes := #[] }] 1057 2 #[13] #[{ accessFlags := 26, nameIndex := 15, descriptorIndex := 16, attributes := #[] }])
  fields := #[{ name := "serialVersionUID", type := .long, accessFlags := 26, slot := 0, constantValue := 0 }]
  methods := #[k12m0]
  instanceTypes := #[]
  staticTypes := #[.long]
  resolved := Array.replicate 37 none
  statics := none }

def pool13 : Array CpInfo := pool [(1, .class_ 2), (0, u "java/lang/Integer"), (16, u "digits"), (0, u "[C"), (33, u "(I)I"), (19, u "stringSize"), (2, u "getChars"), (0, u "(II[B)I"), (4, .fieldref 1 84), (0, .nameAndType 85 86), (0, u "DigitOnes"), (0, u "[B"), (2, u "DigitTens"), (99, .class_ 190), (0, u "java/lang/Integer$IntegerCache"), (3, u "I"), (8, .class_ 204), (0, u "java/lang/Number"), (2, u "value"), (94, u "TYPE"), (0, u "Ljava/lang/Class;"), (0, .class_ 305), (0, u "java/lang/Comparable"), (0, .class_ 307), (0, u "java/lang/constant/Constable"), (0, .class_ 309), (0, u "java/lang/constant/ConstantDesc"), (0, u "MIN_VALUE"), (1, u "MAX_VALUE"), (3, u "SIZE"), (1, u "BYTES"), (1, u "serialVersionUID"), (0, u "J")] 131

def k13c0 : Code := { maxStack := 4, maxLocals := 7, code := jdk_33_method_12_code, exceptionTable := #[], attributes := #[] }
def k13m0 : Method := { name := "getChars", desc := "(II[B)I", sig := { parameters := [.int, .int, (.array .byte)], returnType := some .int }, accessFlags := 8, code := some k13c0 }
def k13c1 : Code := { maxStack := 2, maxLocals := 4, code := jdk_33_method_13_code, exceptionTable := #[], attributes := #[] }
def k13m1 : Method := { name := "stringSize", desc := "(I)I", sig := { parameters := [.int], returnType := some .int }, accessFlags := 8, code := some k13c1 }
/-- java/lang/Integer -/
def k13 : Class := { plain "java/lang/Integer" (some 12) with
  accessFlags := 49
  interfaces := #[7, 9, 10]
  cf := some (fileOf pool13 1 #[.nestMembers #[189]] #[{ accessFlags := 8, nameIndex := 77, descriptorIndex := 78, attributes := #[] }, { accessFlags := 8, nameIndex := 74, descriptorIndex := 54, attributes := #[] }] 49 203 #[304, 306, 308] #[{ accessFlags := 25, nameIndex := 310, descriptorIndex := 194, attributes := #[] }, { accessFlags := 25, nameIndex := 312, descriptorIndex := 194, attributes := #[] }, { accessFlags := 25, nameIndex := 302, descriptorIndex := 303, attributes := #[] }, { accessFlags := 24, nameIndex := 19, descriptorIndex := 20, attributes := #[] }, { accessFlags := 24, nameIndex := 89, descriptorIndex := 86, attributes := #[] }, { accessFlags := 24, nameIndex := 85, descriptorIndex := 86, attributes := #[] }, { accessFlags := 18, nameIndex := 207, descriptorIndex := 194, attributes := #[] }, { accessFlags := 25, nameIndex := 316, descriptorIndex := 194, attributes := #[] }, { accessFlags := 25, nameIndex := 318, descriptorIndex := 194, attributes := #[] }, { accessFlags := 26, nameIndex := 320, descriptorIndex := 321, attributes := #[] }])
  fields := #[{ name := "MIN_VALUE", type := .int, accessFlags := 25, slot := 0, constantValue := 0 }, { name := "MAX_VALUE", type := .int, accessFlags := 25, slot := 1, constantValue := 0 }, { name := "TYPE", type := (.object "java/lang/Class"), accessFlags := 25, slot := 2, constantValue := 0 }, { name := "digits", type := (.array .char), accessFlags := 24, slot := 3, constantValue := 0 }, { name := "DigitTens", type := (.array .byte), accessFlags := 24, slot := 4, constantValue := 0 }, { name := "DigitOnes", type := (.array .byte), accessFlags := 24, slot := 5, constantValue := 0 }, { name := "value", type := .int, accessFlags := 18, slot := 0, constantValue := 0 }, { name := "SIZE", type := .int, accessFlags := 25, slot := 6, constantValue := 0 }, { name := "BYTES", type := .int, accessFlags := 25, slot := 7, constantValue := 0 }, { name := "serialVersionUID", type := .long, accessFlags := 26, slot := 8, constantValue := 0 }]
  methods := #[k13m0, k13m1]
  instanceTypes := #[.int]
  staticTypes := #[.int, .int, (.object "java/lang/Class"), (.array .char), (.array .byte), (.array .byte), .int, .int, .long]
  resolved := Array.replicate 453 none
  statics := some 1 }

def pool14 : Array CpInfo := pool [(2, .class_ 4), (1, u "java/lang/Object"), (0, u "<init>"), (0, u "()V"), (1, .class_ 10), (1, u "java/lang/System"), (0, u "allowSecurityManager"), (0, u "I"), (16, u "cons"), (0, u "Ljava/io/Console;"), (77, .class_ 110), (1, u "java/lang/System$CallersHolder"), (43, u "initialErrStream"), (0, u "Ljava/io/PrintStream;"), (19, u "security"), (0, u "Ljava/lang/SecurityManager;"), (31, .class_ 209), (0, u "java/lang/System$1"), (7, u "props"), (0, u "Ljava/util/Properties;"), (2, u "lineSeparator"), (0, u "Ljava/lang/String;"), (96, .class_ 321), (1, u "java/lang/System$LoggerFinder"), (5, .class_ 328), (0, u "java/lang/System$Logger"), (67, u "err"), (2, u "out"), (91, u "notSupportedJnuEncoding"), (15, u "in"), (17, u "initialIn"), (0, u "Ljava/io/InputStream;"), (35, u "bootLayer"), (0, u "Ljava/lang/ModuleLayer;"), (99, .class_ 664), (0, u "java/lang/System$2"), (9, u "NEVER"), (2, u "MAYBE"), (49, u "arraycopy"), (0, u "(Ljava/lang/Object;ILjava/lang/Object;II)V"), (72, .class_ 802), (0, u "java/lang/System$Logger$Level")] 31

def k14m0 : Method := { name := "<init>", desc := "()V", sig := { parameters := [], returnType := none }, accessFlags := 2, code := none }
def k14m1 : Method := { name := "arraycopy", desc := "(Ljava/lang/Object;ILjava/lang/Object;II)V", sig := { parameters := [(.object "java/lang/Object"), .int, (.object "java/lang/Object"), .int, .int], returnType := none }, accessFlags := 265, code := none }
/-- java/lang/System -/
def k14 : Class := { plain "java/lang/System" (some 0) with
  accessFlags := 49
  interfaces := #[]
  cf := some (fileOf pool14 8 #[.nestMembers #[319, 327, 801, 108, 663, 208]] #[{ accessFlags := 2, nameIndex := 5, descriptorIndex := 6, attributes := #[] }, { accessFlags := 265, nameIndex := 727, descriptorIndex := 728, attributes := #[] }] 49 2 #[] #[{ accessFlags := 25, nameIndex := 507, descriptorIndex := 526, attributes := #[] }, { accessFlags := 25, nameIndex := 399, descriptorIndex := 155, attributes := #[] }, { accessFlags := 25, nameIndex := 396, descriptorIndex := 155, attributes := #[] }, { accessFlags := 10, nameIndex := 525, descriptorIndex := 526, attributes := #[] }, { accessFlags := 26, nameIndex := 674, descriptorIndex := 12, attributes := #[] }, { accessFlags := 26, nameIndex := 677, descriptorIndex := 12, attributes := #[] }, { accessFlags := 10, nameIndex := 11, descriptorIndex := 12, attributes := #[] }, { accessFlags := 74, nameIndex := 175, descriptorIndex := 176, attributes := #[] }, { accessFlags := 10, nameIndex := 491, descriptorIndex := 222, attributes := #[] }, { accessFlags := 74, nameIndex := 29, descriptorIndex := 30, attributes := #[] }, { accessFlags := 74, nameIndex := 154, descriptorIndex := 155, attributes := #[] }, { accessFlags := 10, nameIndex := 217, descriptorIndex := 218, attributes := #[] }, { accessFlags := 10, nameIndex := 221, descriptorIndex := 222, attributes := #[] }, { accessFlags := 8, nameIndex := 562, descriptorIndex := 563, attributes := #[] }])
  fields := #[{ name := "in", type := (.object "java/io/InputStream"), accessFlags := 25, slot := 0, constantValue := 0 }, { name := "out", type := (.object "java/io/PrintStream"), accessFlags := 25, slot := 1, constantValue := 0 }, { name := "err", type := (.object "java/io/PrintStream"), accessFlags := 25, slot := 2, constantValue := 0 }, { name := "initialIn", type := (.object "java/io/InputStream"), accessFlags := 10, slot := 3, constantValue := 0 }, { name := "NEVER", type := .int, accessFlags := 26, slot := 4, constantValue := 0 }, { name := "MAYBE", type := .int, accessFlags := 26, slot := 5, constantValue := 0 }, { name := "allowSecurityManager", type := .int, accessFlags := 10, slot := 6, constantValue := 0 }, { name := "security", type := (.object "java/lang/SecurityManager"), accessFlags := 74, slot := 7, constantValue := 0 }, { name := "notSupportedJnuEncoding", type := (.object "java/lang/String"), accessFlags := 10, slot := 8, constantValue := 0 }, { name := "cons", type := (.object "java/io/Console"), accessFlags := 74, slot := 9, constantValue := 0 }, { name := "initialErrStream", type := (.object "java/io/PrintStream"), accessFlags := 74, slot := 10, constantValue := 0 }, { name := "props", type := (.object "java/util/Properties"), accessFlags := 10, slot := 11, constantValue := 0 }, { name := "lineSeparator", type := (.object "java/lang/String"), accessFlags := 10, slot := 12, constantValue := 0 }, { name := "bootLayer", type := (.object "java/lang/ModuleLayer"), accessFlags := 8, slot := 13, constantValue := 0 }]
  methods := #[k14m0, k14m1]
  instanceTypes := #[]
  staticTypes := #[(.object "java/io/InputStream"), (.object "java/io/PrintStream"), (.object "java/io/PrintStream"), (.object "java/io/InputStream"), .int, .int, .int, (.object "java/lang/SecurityManager"), (.object "java/lang/String"), (.object "java/io/Console"), (.object "java/io/PrintStream"), (.object "java/util/Properties"), (.object "java/lang/String"), (.object "java/lang/ModuleLayer")]
  resolved := Array.replicate 834 none
  statics := none }

def pool15 : Array CpInfo := pool [(2, .class_ 4), (1, u "java/lang/Object"), (0, u "<init>"), (0, u "()V"), (7, .class_ 16), (1, u "java/util/Arrays"), (57, .class_ 76), (1, u "java/util/Arrays$NaturalOrder"), (36, .class_ 115), (1, u "java/util/Arrays$LegacyMergeSort"), (1, u "Z"), (21, u "copyOfRange"), (10, .methodref 151 152), (0, .class_ 153), (0, .nameAndType 154 155), (0, u "java/lang/System"), (0, u "arraycopy"), (0, u "(Ljava/lang/Object;ILjava/lang/Object;II)V"), (146, u "copyOf"), (1, .methodref 305 306), (0, .class_ 307), (0, .nameAndType 308 309), (0, u "java/lang/Math"), (0, u "min"), (0, u "(II)I"), (29, .methodref 14 340), (0, .nameAndType 341 342), (0, u "copyOfRangeByte"), (0, u "([BII)[B"), (0, .methodref 14 344), (0, .nameAndType 345 346), (0, u "checkLength"), (0, u "(II)V"), (28, .class_ 376), (0, u "java/util/Arrays$ArrayList"), (68, u "$assertionsDisabled"), (269, u "MIN_ARRAY_SORT_GRAN"), (0, u "I"), (2, u "INSERTIONSORT_THRESHOLD"), (149, u "([BI)[B"), (105, .class_ 976), (0, u "java/util/Arrays$ArrayItr")] 52

def k15m0 : Method := { name := "<init>", desc := "()V", sig := { parameters := [], returnType := none }, accessFlags := 2, code := none }
def k15c1 : Code := { maxStack := 6, maxLocals := 3, code := jdk_65_method_121_code, exceptionTable := #[], attributes := #[] }
def k15m1 : Method := { name := "copyOf", desc := "([BI)[B", sig := { parameters := [(.array .byte), .int], returnType := some (.array .byte) }, accessFlags := 9, code := some k15c1 }
def k15c2 : Code := { maxStack := 4, maxLocals := 2, code := jdk_65_method_131_code, exceptionTable := #[], attributes := #[] }
def k15m2 : Method := { name := "checkLength", desc := "(II)V", sig := { parameters := [.int, .int], returnType := none }, accessFlags := 10, code := some k15c2 }
def k15c3 : Code := { maxStack := 3, maxLocals := 3, code := jdk_65_method_132_code, exceptionTable := #[], attributes := #[] }
def k15m3 : Method := { name := "copyOfRange", desc := "([BII)[B", sig := { parameters := [(.array .byte), .int, .int], returnType := some (.array .byte) }, accessFlags := 9, code := some k15c3 }
def k15c4 : Code := { maxStack := 6, maxLocals := 5, code := jdk_65_method_133_code, exceptionTable := #[], attributes := #[] }
def k15m4 : Method := { name := "copyOfRangeByte", desc := "([BII)[B", sig := { parameters := [(.array .byte), .int, .int], returnType := some (.array .byte) }, accessFlags := 10, code := some k15c4 }
/-- java/util/Arrays -/
def k15 : Class := { plain "java/util/Arrays" (some 0) with
  accessFlags := 49
  interfaces := #[]
  cf := some (fileOf pool15 14 #[.nestMembers #[975, 375, 113, 74]] #[{ accessFlags := 2, nameIndex := 5, descriptorIndex := 6, attributes := #[] }, { accessFlags := 9, nameIndex := 302, descriptorIndex := 869, attributes := #[] }, { accessFlags := 10, nameIndex := 345, descriptorIndex := 346, attributes := #[] }, { accessFlags := 9, nameIndex := 139, descriptorIndex := 342, attributes := #[] }, { accessFlags := 10, nameIndex := 341, descriptorIndex := 342, attributes := #[] }] 49 2 #[] #[{ accessFlags := 26, nameIndex := 715, descriptorIndex := 716, attributes := #[] }, { accessFlags := 26, nameIndex := 719, descriptorIndex := 716, attributes := #[] }, { accessFlags := 4120, nameIndex := 445, descriptorIndex := 117, attributes := #[] }])
  fields := #[{ name := "MIN_ARRAY_SORT_GRAN", type := .int, accessFlags := 26, slot := 0, constantValue := 0 }, { name := "INSERTIONSORT_THRESHOLD", type := .int, accessFlags := 26, slot := 1, constantValue := 0 }, { name := "$assertionsDisabled", type := .boolean, accessFlags := 4120, slot := 2, constantValue := 0 }]
  methods := #[k15m0, k15m1, k15m2, k15m3, k15m4]
  instanceTypes := #[]
  staticTypes := #[.int, .int, .boolean]
  resolved := Array.replicate 1029 none
  statics := none }

def pool16 : Array CpInfo := pool [(1, .class_ 2), (0, u "java/lang/Math"), (1, .class_ 6), (1, u "java/lang/Object"), (0, u "<init>"), (0, u "()V"), (89, .class_ 100), (1, u "java/lang/Math$RandomNumberGeneratorHolder"), (71, u "negativeZeroFloatBits"), (0, u "J"), (2, u "negativeZeroDoubleBits"), (21, u "max"), (2, u "min"), (43, u "$assertionsDisabled"), (0, u "Z"), (88, u "(II)I"), (2, u "twoToTheDoubleScaleDown"), (0, u "D"), (4, u "twoToTheDoubleScaleUp"), (9, u "E"), (3, u "PI"), (2, u "TAU"), (2, u "DEGREES_TO_RADIANS"), (0, u "RADIANS_TO_DEGREES")] 94

def k16m0 : Method := { name := "<init>", desc := "()V", sig := { parameters := [], returnType := none }, accessFlags := 2, code := none }
def k16c1 : Code := { maxStack := 2, maxLocals := 2, code := jdk_29_method_65_code, exceptionTable := #[], attributes := #[] }
def k16m1 : Method := { name := "max", desc := "(II)I", sig := { parameters := [.int, .int], returnType := some .int }, accessFlags := 9, code := some k16c1 }
def k16c2 : Code := { maxStack := 2, maxLocals := 2, code := jdk_29_method_69_code, exceptionTable := #[], attributes := #[] }
def k16m2 : Method := { name := "min", desc := "(II)I", sig := { parameters := [.int, .int], returnType := some .int }, accessFlags := 9, code := some k16c2 }
/-- java/lang/Math -/
def k16 : Class := { plain "java/lang/Math" (some 0) with
  accessFlags := 49
  interfaces := #[]
  cf := some (fileOf pool16 1 #[.nestMembers #[98]] #[{ accessFlags := 2, nameIndex := 7, descriptorIndex := 8, attributes := #[] }, { accessFlags := 9, nameIndex := 198, descriptorIndex := 335, attributes := #[] }, { accessFlags := 9, nameIndex := 201, descriptorIndex := 335, attributes := #[] }] 49 4 #[] #[{ accessFlags := 25, nameIndex := 354, descriptorIndex := 339, attributes := #[] }, { accessFlags := 25, nameIndex := 358, descriptorIndex := 339, attributes := #[] }, { accessFlags := 25, nameIndex := 361, descriptorIndex := 339, attributes := #[] }, { accessFlags := 26, nameIndex := 364, descriptorIndex := 339, attributes := #[] }, { accessFlags := 26, nameIndex := 365, descriptorIndex := 339, attributes := #[] }, { accessFlags := 26, nameIndex := 172, descriptorIndex := 173, attributes := #[] }, { accessFlags := 26, nameIndex := 176, descriptorIndex := 173, attributes := #[] }, { accessFlags := 8, nameIndex := 344, descriptorIndex := 339, attributes := #[] }, { accessFlags := 8, nameIndex := 338, descriptorIndex := 339, attributes := #[] }, { accessFlags := 4120, nameIndex := 245, descriptorIndex := 246, attributes := #[] }])
  fields := #[{ name := "E", type := .double, accessFlags := 25, slot := 0, constantValue := 0 }, { name := "PI", type := .double, accessFlags := 25, slot := 1, constantValue := 0 }, { name := "TAU", type := .double, accessFlags := 25, slot := 2, constantValue := 0 }, { name := "DEGREES_TO_RADIANS", type := .double, accessFlags := 26, slot := 3, constantValue := 0 }, { name := "RADIANS_TO_DEGREES", type := .double, accessFlags := 26, slot := 4, constantValue := 0 }, { name := "negativeZeroFloatBits", type := .long, accessFlags := 26, slot := 5, constantValue := 0 }, { name := "negativeZeroDoubleBits", type := .long, accessFlags := 26, slot := 6, constantValue := 0 }, { name := "twoToTheDoubleScaleUp", type := .double, accessFlags := 8, slot := 7, constantValue := 0 }, { name := "twoToTheDoubleScaleDown", type := .double, accessFlags := 8, slot := 8, constantValue := 0 }, { name := "$assertionsDisabled", type := .boolean, accessFlags := 4120, slot := 9, constantValue := 0 }]
  methods := #[k16m0, k16m1, k16m2]
  instanceTypes := #[]
  staticTypes := #[.double, .double, .double, .double, .double, .long, .long, .double, .double, .boolean]
  resolved := Array.replicate 460 none
  statics := none }

def pool17 : Array CpInfo := pool [(9, u "<init>"), (6, .class_ 18), (1, u "java/lang/Object"), (0, u "()V"), (1, .class_ 23), (1, u "jdk/internal/util/ArraysSupport"), (0, u "LOG2_ARRAY_LONG_INDEX_SCALE"), (0, u "I"), (2, u "U"), (0, u "Ljdk/internal/misc/Unsafe;"), (8, u "BIG_ENDIAN"), (0, u "Z"), (8, u "LOG2_BYTE_BIT_SIZE"), (4, u "LOG2_ARRAY_INT_INDEX_SCALE"), (54, u "JLA"), (0, u "Ljdk/internal/access/JavaLangAccess;"), (11, u "LOG2_ARRAY_BOOLEAN_INDEX_SCALE"), (9, u "LOG2_ARRAY_BYTE_INDEX_SCALE"), (5, u "LOG2_ARRAY_CHAR_INDEX_SCALE"), (5, u "LOG2_ARRAY_SHORT_INDEX_SCALE"), (18, u "LOG2_ARRAY_FLOAT_INDEX_SCALE"), (24, u "LOG2_ARRAY_DOUBLE_INDEX_SCALE"), (6, .methodref 195 196), (0, .class_ 197), (0, .nameAndType 198 199), (0, u "java/lang/Math"), (0, u "max"), (0, u "(II)I"), (0, .integer 2147483639), (76, u "T_BOOLEAN"), (2, u "T_CHAR"), (1, u "T_FLOAT"), (1, u "T_DOUBLE"), (1, u "T_BYTE"), (1, u "T_SHORT"), (1, u "T_INT"), (1, u "T_LONG"), (1, u "SOFT_MAX_ARRAY_LENGTH"), (56, u "newLength"), (0, u "(III)I")] 25

def k17m0 : Method := { name := "<init>", desc := "()V", sig := { parameters := [], returnType := none }, accessFlags := 2, code := none }
def k17c1 : Code := { maxStack := 3, maxLocals := 4, code := jdk_48_method_27_code, exceptionTable := #[], attributes := #[] }
def k17m1 : Method := { name := "newLength", desc := "(III)I", sig := { parameters := [.int, .int, .int], returnType := some .int }, accessFlags := 9, code := some k17c1 }
/-- jdk/internal/util/ArraysSupport -/
def k17 : Class := { plain "jdk/internal/util/ArraysSupport" (some 0) with
  accessFlags := 33
  interfaces := #[]
  cf := some (fileOf pool17 21 #[] #[{ accessFlags := 2, nameIndex := 9, descriptorIndex := 19, attributes := #[] }, { accessFlags := 9, nameIndex := 351, descriptorIndex := 352, attributes := #[] }] 33 16 #[] #[{ accessFlags := 24, nameIndex := 28, descriptorIndex := 29, attributes := #[] }, { accessFlags := 26, nameIndex := 38, descriptorIndex := 39, attributes := #[] }, { accessFlags := 25, nameIndex := 121, descriptorIndex := 25, attributes := #[] }, { accessFlags := 25, nameIndex := 131, descriptorIndex := 25, attributes := #[] }, { accessFlags := 25, nameIndex := 137, descriptorIndex := 25, attributes := #[] }, { accessFlags := 25, nameIndex := 143, descriptorIndex := 25, attributes := #[] }, { accessFlags := 25, nameIndex := 53, descriptorIndex := 25, attributes := #[] }, { accessFlags := 25, nameIndex := 24, descriptorIndex := 25, attributes := #[] }, { accessFlags := 25, nameIndex := 162, descriptorIndex := 25, attributes := #[] }, { accessFlags := 25, nameIndex := 187, descriptorIndex := 25, attributes := #[] }, { accessFlags := 26, nameIndex := 48, descriptorIndex := 25, attributes := #[] }, { accessFlags := 25, nameIndex := 277, descriptorIndex := 25, attributes := #[] }, { accessFlags := 25, nameIndex := 280, descriptorIndex := 25, attributes := #[] }, { accessFlags := 25, nameIndex := 282, descriptorIndex := 25, attributes := #[] }, { accessFlags := 25, nameIndex := 284, descriptorIndex := 25, attributes := #[] }, { accessFlags := 25, nameIndex := 286, descriptorIndex := 25, attributes := #[] }, { accessFlags := 25, nameIndex := 288, descriptorIndex := 25, attributes := #[] }, { accessFlags := 25, nameIndex := 290, descriptorIndex := 25, attributes := #[] }, { accessFlags := 25, nameIndex := 292, descriptorIndex := 25, attributes := #[] }, { accessFlags := 26, nameIndex := 108, descriptorIndex := 109, attributes := #[] }, { accessFlags := 25, nameIndex := 294, descriptorIndex := 25, attributes := #[] }])
  fields := #[{ name := "U", type := (.object "jdk/internal/misc/Unsafe"), accessFlags := 24, slot := 0, constantValue := 0 }, { name := "BIG_ENDIAN", type := .boolean, accessFlags := 26, slot := 1, constantValue := 0 }, { name := "LOG2_ARRAY_BOOLEAN_INDEX_SCALE", type := .int, accessFlags := 25, slot := 2, constantValue := 0 }, { name := "LOG2_ARRAY_BYTE_INDEX_SCALE", type := .int, accessFlags := 25, slot := 3, constantValue := 0 }, { name := "LOG2_ARRAY_CHAR_INDEX_SCALE", type := .int, accessFlags := 25, slot := 4, constantValue := 0 }, { name := "LOG2_ARRAY_SHORT_INDEX_SCALE", type := .int, accessFlags := 25, slot := 5, constantValue := 0 }, { name := "LOG2_ARRAY_INT_INDEX_SCALE", type := .int, accessFlags := 25, slot := 6, constantValue := 0 }, { name := "LOG2_ARRAY_LONG_INDEX_SCALE", type := .int, accessFlags := 25, slot := 7, constantValue := 0 }, { name := "LOG2_ARRAY_FLOAT_INDEX_SCALE", type := .int, accessFlags := 25, slot := 8, constantValue := 0 }, { name := "LOG2_ARRAY_DOUBLE_INDEX_SCALE", type := .int, accessFlags := 25, slot := 9, constantValue := 0 }, { name := "LOG2_BYTE_BIT_SIZE", type := .int, accessFlags := 26, slot := 10, constantValue := 0 }, { name := "T_BOOLEAN", type := .int, accessFlags := 25, slot := 11, constantValue := 0 }, { name := "T_CHAR", type := .int, accessFlags := 25, slot := 12, constantValue := 0 }, { name := "T_FLOAT", type := .int, accessFlags := 25, slot := 13, constantValue := 0 }, { name := "T_DOUBLE", type := .int, accessFlags := 25, slot := 14, constantValue := 0 }, { name := "T_BYTE", type := .int, accessFlags := 25, slot := 15, constantValue := 0 }, { name := "T_SHORT", type := .int, accessFlags := 25, slot := 16, constantValue := 0 }, { name := "T_INT", type := .int, accessFlags := 25, slot := 17, constantValue := 0 }, { name := "T_LONG", type := .int, accessFlags := 25, slot := 18, constantValue := 0 }, { name := "JLA", type := (.object "jdk/internal/access/JavaLangAccess"), accessFlags := 26, slot := 19, constantValue := 0 }, { name := "SOFT_MAX_ARRAY_LENGTH", type := .int, accessFlags := 25, slot := 20, constantValue := 0 }]
  methods := #[k17m0, k17m1]
  instanceTypes := #[]
  staticTypes := #[(.object "jdk/internal/misc/Unsafe"), .boolean, .int, .int, .int, .int, .int, .int, .int, .int, .int, .int, .int, .int, .int, .int, .int, .int, .int, (.object "jdk/internal/access/JavaLangAccess"), .int]
  resolved := Array.replicate 378 none
  statics := none }

def pool18 : Array CpInfo := pool [(1, .class_ 2), (0, u "java/lang/String"), (1, .class_ 6), (1, u "java/lang/Object"), (0, u "<init>"), (0, u "()V"), (0, .methodref 1 10), (0, .nameAndType 11 12), (0, u "checkIndex"), (0, u "(II)V"), (1, .class_ 16), (1, u "java/lang/StringLatin1"), (36, u "([BI)C"), (67, u "$assertionsDisabled"), (0, u "Z"), (98, .class_ 223), (1, u "java/lang/StringLatin1$LinesSpliterator"), (28, u "charAt"), (137, .class_ 391), (0, u "java/lang/StringLatin1$CharsSpliterator")] 3

def k18m0 : Method := { name := "<init>", desc := "()V", sig := { parameters := [], returnType := none }, accessFlags := 0, code := none }
def k18c1 : Code := { maxStack := 2, maxLocals := 2, code := jdk_43_method_2_code, exceptionTable := #[], attributes := #[] }
def k18m1 : Method := { name := "charAt", desc := "([BI)C", sig := { parameters := [(.array .byte), .int], returnType := some .char }, accessFlags := 9, code := some k18c1 }
/-- java/lang/StringLatin1 -/
def k18 : Class := { plain "java/lang/StringLatin1" (some 0) with
  accessFlags := 48
  interfaces := #[]
  cf := some (fileOf pool18 14 #[.nestMembers #[390, 221]] #[{ accessFlags := 0, nameIndex := 7, descriptorIndex := 8, attributes := #[] }, { accessFlags := 9, nameIndex := 252, descriptorIndex := 53, attributes := #[] }] 48 4 #[] #[{ accessFlags := 4120, nameIndex := 121, descriptorIndex := 122, attributes := #[] }])
  fields := #[{ name := "$assertionsDisabled", type := .boolean, accessFlags := 4120, slot := 0, constantValue := 0 }]
  methods := #[k18m0, k18m1]
  instanceTypes := #[]
  staticTypes := #[.boolean]
  resolved := Array.replicate 395 none
  statics := none }

def pool19 : Array CpInfo := pool [(2, .class_ 4), (1, u "java/lang/Object"), (0, u "<init>"), (0, u "()V"), (17, .class_ 26), (1, u "jdk/internal/util/Preconditions"), (6, u "checkIndex"), (21, .class_ 56), (0, u "jdk/internal/util/Preconditions$4"), (57, .class_ 115), (0, u "jdk/internal/util/Preconditions$1"), (7, u "SIOOBE_FORMATTER"), (0, u "Ljava/util/function/BiFunction;"), (0, .class_ 126), (0, u "jdk/internal/util/Preconditions$2"), (3, u "AIOOBE_FORMATTER"), (0, .class_ 132), (0, u "jdk/internal/util/Preconditions$3"), (3, u "IOOBE_FORMATTER"), (41, u "(IILjava/util/function/BiFunction;)I")] 15

def k19m0 : Method := { name := "<init>", desc := "()V", sig := { parameters := [], returnType := none }, accessFlags := 1, code := none }
def k19c1 : Code := { maxStack := 3, maxLocals := 3, code := jdk_41_method_11_code, exceptionTable := #[], attributes := #[] }
def k19m1 : Method := { name := "checkIndex", desc := "(IILjava/util/function/BiFunction;)I", sig := { parameters := [.int, .int, (.object "java/util/function/BiFunction")], returnType := some .int }, accessFlags := 9, code := some k19c1 }
/-- jdk/internal/util/Preconditions -/
def k19 : Class := { plain "jdk/internal/util/Preconditions" (some 0) with
  accessFlags := 33
  interfaces := #[]
  cf := some (fileOf pool19 24 #[.nestMembers #[55, 131, 125, 114]] #[{ accessFlags := 1, nameIndex := 5, descriptorIndex := 6, attributes := #[] }, { accessFlags := 9, nameIndex := 33, descriptorIndex := 178, attributes := #[] }] 33 2 #[] #[{ accessFlags := 25, nameIndex := 123, descriptorIndex := 124, attributes := #[] }, { accessFlags := 25, nameIndex := 130, descriptorIndex := 124, attributes := #[] }, { accessFlags := 25, nameIndex := 136, descriptorIndex := 124, attributes := #[] }])
  fields := #[{ name := "SIOOBE_FORMATTER", type := (.object "java/util/function/BiFunction"), accessFlags := 25, slot := 0, constantValue := 0 }, { name := "AIOOBE_FORMATTER", type := (.object "java/util/function/BiFunction"), accessFlags := 25, slot := 1, constantValue := 0 }, { name := "IOOBE_FORMATTER", type := (.object "java/util/function/BiFunction"), accessFlags := 25, slot := 2, constantValue := 0 }]
  methods := #[k19m0, k19m1]
  instanceTypes := #[]
  staticTypes := #[(.object "java/util/function/BiFunction"), (.object "java/util/function/BiFunction"), (.object "java/util/function/BiFunction")]
  resolved := Array.replicate 194 none
  statics := some 2 }

def pool20 : Array CpInfo := pool [(1, u "java/lang/Cloneable"), (0, .class_ 1), (0, u "java/lang/Object"), (0, .class_ 3)] 3

/-- java/lang/Cloneable -/
def k20 : Class := { plain "java/lang/Cloneable" (some 0) with
  accessFlags := 1537
  interfaces := #[]
  cf := some (fileOf pool20 2 #[] #[] 1537 4 #[] #[])
  fields := #[]
  methods := #[]
  instanceTypes := #[]
  staticTypes := #[]
  resolved := Array.replicate 8 none
  statics := none }

/-- the primitive byte -/
def k21 : Class := { plain "byte" none with kind := .primitive 'B', accessFlags := 0x411 }
/-- [B -/
def k22 : Class := { plain "[B" (some 0) with kind := .array 21 .byte, interfaces := #[20, 6], accessFlags := 1041 }

/-- the primitive int -/
def k23 : Class := { plain "int" none with kind := .primitive 'I', accessFlags := 0x411 }
/-- [I -/
def k24 : Class := { plain "[I" (some 0) with kind := .array 23 .int, interfaces := #[20, 6], accessFlags := 1041 }

def heap : Heap := #[{ cls := 11, slots := #[.long 0, .int 1, .null, .int 0, .null, .int 0, .int 0], vm := .statics 11 },
  { cls := 13, slots := #[.int 0, .int 0, .null, .null, .ref 4, .ref 3, .int 0, .int 0, .long 0], vm := .statics 13 },
  { cls := 19, slots := #[.null, .null, .null], vm := .statics 19 },
  { cls := 22, slots := #[.int 48, .int 49, .int 50, .int 51, .int 52, .int 53, .int 54, .int 55, .int 56, .int 57, .int 48, .int 49, .int 50, .int 51, .int 52, .int 53, .int 54, .int 55, .int 56, .int 57, .int 48, .int 49, .int 50, .int 51, .int 52, .int 53, .int 54, .int 55, .int 56, .int 57, .int 48, .int 49, .int 50, .int 51, .int 52, .int 53, .int 54, .int 55, .int 56, .int 57, .int 48, .int 49, .int 50, .int 51, .int 52, .int 53, .int 54, .int 55, .int 56, .int 57, .int 48, .int 49, .int 50, .int 51, .int 52, .int 53, .int 54, .int 55, .int 56, .int 57, .int 48, .int 49, .int 50, .int 51, .int 52, .int 53, .int 54, .int 55, .int 56, .int 57, .int 48, .int 49, .int 50, .int 51, .int 52, .int 53, .int 54, .int 55, .int 56, .int 57, .int 48, .int 49, .int 50, .int 51, .int 52, .int 53, .int 54, .int 55, .int 56, .int 57, .int 48, .int 49, .int 50, .int 51, .int 52, .int 53, .int 54, .int 55, .int 56, .int 57], vm := .none },
  { cls := 22, slots := #[.int 48, .int 48, .int 48, .int 48, .int 48, .int 48, .int 48, .int 48, .int 48, .int 48, .int 49, .int 49, .int 49, .int 49, .int 49, .int 49, .int 49, .int 49, .int 49, .int 49, .int 50, .int 50, .int 50, .int 50, .int 50, .int 50, .int 50, .int 50, .int 50, .int 50, .int 51, .int 51, .int 51, .int 51, .int 51, .int 51, .int 51, .int 51, .int 51, .int 51, .int 52, .int 52, .int 52, .int 52, .int 52, .int 52, .int 52, .int 52, .int 52, .int 52, .int 53, .int 53, .int 53, .int 53, .int 53, .int 53, .int 53, .int 53, .int 53, .int 53, .int 54, .int 54, .int 54, .int 54, .int 54, .int 54, .int 54, .int 54, .int 54, .int 54, .int 55, .int 55, .int 55, .int 55, .int 55, .int 55, .int 55, .int 55, .int 55, .int 55, .int 56, .int 56, .int 56, .int 56, .int 56, .int 56, .int 56, .int 56, .int 56, .int 56, .int 57, .int 57, .int 57, .int 57, .int 57, .int 57, .int 57, .int 57, .int 57, .int 57], vm := .none }]
def classes : Array Class := #[k0, k1, k2, k3, k4, k5, k6, k7, k8, k9, k10, k11, k12, k13, k14, k15, k16, k17, k18, k19, k20, k21, k22, k23, k24]
def interned : List (Array UInt16 × Addr) := []
def slotsUsed : Nat := 219
def theMethod : MethodId := ⟨1, 1⟩
def args0 : Array Value := #[.int 5]
def aboutOver (below : List Frame) : State where
  vm := { classes := classes, interned := interned.toArray }
  heap := heap
  slotsUsed := slotsUsed
  threads := #[{ frames := .invoking theMethod args0 :: below }]
def below0 : List Frame := [.native { method := ⟨0, 0⟩, args := #[] }]
def about1 : State := aboutOver below0
def p0 : Program := .bare "" "" ""
def e0 : Env := launch0.env 0 0 0
theorem w_frames : about1.frames = Frame.invoking theMethod args0 :: below0 := rfl
set_option maxRecDepth 65536 in
theorem w_args : argsFit about1.vm theMethod args0 = true := by decide +kernel
set_option maxRecDepth 65536 in
theorem w_heap : heapFits about1 = true := by decide +kernel
set_option maxRecDepth 65536 in
theorem w_runnable : about1.curStatus? = some .runnable := by decide +kernel
set_option maxRecDepth 65536 in
theorem w_alone : about1.alone = true := by decide +kernel
set_option maxRecDepth 65536 in
theorem w_named : about1.methodNamed? x = some theMethod := by decide +kernel
set_option maxRecDepth 65536 in
theorem w_hears : about1.hears theMethod below0 = true := by decide +kernel
set_option maxRecDepth 65536 in
theorem w_ripe : about1.ripe theMethod args0 below0 = true := by decide +kernel
theorem w_running : about1.status = .running := rfl
set_option maxRecDepth 65536 in
theorem w_room : about1.hasRoom e0.platform room_1 = true :=
  launch0.hasRoom_least _ room_1 (by decide +kernel) (by decide +kernel) (by decide +kernel) (by decide +kernel) (by decide +kernel) (by decide +kernel)
theorem allAtoms_all (ts : List Jvm.Cond) (a : Array Jvm.Value) (st : Jvm.State) : (allAtoms ts).before a st = ts.all (fun c => c.before a st) := by
  induction ts with
  | nil => rfl
  | cons c t ih =>
    show (Jvm.Cond.and c (allAtoms t)).before a st = _
    rw [Jvm.Cond.before_and, ih, List.all_cons]
def words1 : List Jvm.Cond := Jvm.Cond.code x code maxLocals ret :: tables_1
/-- a 'code' word, met by the world's own term for the bytes: nothing is compared byte by byte -/
theorem code_word {y : MethodName} {bytes : ByteArray} {mx : Nat} {rt : Option FieldType} {a : Array Value} {s : State} {m : MethodId} {meth : Method} {c : Code} (h1 : s.methodNamed? y = some m) (h2 : s.vm.method? m = some meth) (h3 : meth.code = some c) (h4 : c.code = bytes)
    (h5 : (c.maxLocals == mx && c.exceptionTable.isEmpty && decide (c.maxStack ≤ mostOperands) && decide (meth.sig.returnType = rt) && !meth.locks && decide (parseMethodDescriptor y.desc = some meth.sig)) = true) : (Jvm.Cond.code y bytes mx rt).before a s = true := by
  simp only [Bool.and_eq_true, beq_iff_eq, Bool.not_eq_true', decide_eq_true_eq] at h5
  obtain ⟨⟨⟨⟨⟨g1, g2⟩, g3⟩, g4⟩, g5⟩, g6⟩ := h5
  simp [Cond.before, Cond.holds, Cond.value, h1, h2, h3, h4, g1, g2, g3, g4, g5, g6]
def isCode : Jvm.Cond → Bool
  | .code _ _ _ _ => true
  | _ => false
theorem all_split {L : List Jvm.Cond} {P : Jvm.Cond → Bool} (h1 : L.all (fun c => isCode c || P c) = true) (h2 : ∀ c ∈ L.filter isCode, P c = true) : L.all P = true := by
  refine List.all_eq_true.mpr fun c hc => ?_
  have h := List.all_eq_true.mp h1 c hc
  rcases Bool.eq_false_or_eq_true (isCode c) with hi | hi
  · exact h2 c (List.mem_filter.mpr ⟨hc, hi⟩)
  · simpa [hi] using h
set_option maxRecDepth 65536 in
theorem w_c0 : (Jvm.Cond.code x code maxLocals ret).before args0 about1 = true := code_word (m := ⟨1, 1⟩) (meth := k1m1) (c := k1c1) (by decide +kernel) rfl rfl rfl (by decide +kernel)
set_option maxRecDepth 65536 in
theorem w_c1 : (Jvm.Cond.code ({ cls := "com/example/doccess/doccess/transfer/ImportCounts", name := "<init>", desc := "()V" } : Jvm.MethodName) prog_21_method_1_code (1 : Nat) (Option.none : Option Jvm.ClassFile.FieldType)).before args0 about1 = true := code_word (m := ⟨2, 0⟩) (meth := k2m0) (c := k2c0) (by decide +kernel) rfl rfl rfl (by decide +kernel)
set_option maxRecDepth 65536 in
theorem w_c2 : (Jvm.Cond.code ({ cls := "java/lang/Object", name := "<init>", desc := "()V" } : Jvm.MethodName) object_method_1_code (1 : Nat) (Option.none : Option Jvm.ClassFile.FieldType)).before args0 about1 = true := code_word (m := ⟨0, 0⟩) (meth := k0m0) (c := k0c0) (by decide +kernel) rfl rfl rfl (by decide +kernel)
set_option maxRecDepth 65536 in
theorem w_c3 : (Jvm.Cond.code ({ cls := "com/example/doccess/doccess/transfer/ImportCounts", name := "toString", desc := "()Ljava/lang/String;" } : Jvm.MethodName) prog_21_method_10_code (1 : Nat) (Option.some (Jvm.ClassFile.FieldType.object "java/lang/String"))).before args0 about1 = true := code_word (m := ⟨2, 9⟩) (meth := k2m9) (c := k2c9) (by decide +kernel) rfl rfl rfl (by decide +kernel)
set_option maxRecDepth 65536 in
theorem w_c4 : (Jvm.Cond.code ({ cls := "java/lang/StringBuilder", name := "<init>", desc := "()V" } : Jvm.MethodName) jdk_67_method_1_code (1 : Nat) (Option.none : Option Jvm.ClassFile.FieldType)).before args0 about1 = true := code_word (m := ⟨8, 0⟩) (meth := k8m0) (c := k8c0) (by decide +kernel) rfl rfl rfl (by decide +kernel)
set_option maxRecDepth 65536 in
theorem w_c5 : (Jvm.Cond.code ({ cls := "java/lang/AbstractStringBuilder", name := "<init>", desc := "(I)V" } : Jvm.MethodName) jdk_68_method_2_code (2 : Nat) (Option.none : Option Jvm.ClassFile.FieldType)).before args0 about1 = true := code_word (m := ⟨5, 1⟩) (meth := k5m1) (c := k5c1) (by decide +kernel) rfl rfl rfl (by decide +kernel)
set_option maxRecDepth 65536 in
theorem w_c6 : (Jvm.Cond.code ({ cls := "com/example/doccess/doccess/transfer/ImportCounts", name := "counted", desc := "(ILjava/lang/String;)Ljava/lang/String;" } : Jvm.MethodName) prog_21_method_11_code (2 : Nat) (Option.some (Jvm.ClassFile.FieldType.object "java/lang/String"))).before args0 about1 = true := code_word (m := ⟨2, 10⟩) (meth := k2m10) (c := k2c10) (by decide +kernel) rfl rfl rfl (by decide +kernel)
set_option maxRecDepth 65536 in
theorem w_c7 : (Jvm.Cond.code ({ cls := "java/lang/StringBuilder", name := "append", desc := "(I)Ljava/lang/StringBuilder;" } : Jvm.MethodName) jdk_67_method_15_code (2 : Nat) (Option.some (Jvm.ClassFile.FieldType.object "java/lang/StringBuilder"))).before args0 about1 = true := code_word (m := ⟨8, 2⟩) (meth := k8m2) (c := k8c2) (by decide +kernel) rfl rfl rfl (by decide +kernel)
set_option maxRecDepth 65536 in
theorem w_c8 : (Jvm.Cond.code ({ cls := "java/lang/AbstractStringBuilder", name := "append", desc := "(I)Ljava/lang/AbstractStringBuilder;" } : Jvm.MethodName) jdk_68_method_32_code (4 : Nat) (Option.some (Jvm.ClassFile.FieldType.object "java/lang/AbstractStringBuilder"))).before args0 about1 = true := code_word (m := ⟨5, 6⟩) (meth := k5m6) (c := k5c6) (by decide +kernel) rfl rfl rfl (by decide +kernel)
set_option maxRecDepth 65536 in
theorem w_c9 : (Jvm.Cond.code ({ cls := "java/lang/Integer", name := "stringSize", desc := "(I)I" } : Jvm.MethodName) jdk_33_method_13_code (4 : Nat) (Option.some Jvm.ClassFile.FieldType.int)).before args0 about1 = true := code_word (m := ⟨13, 1⟩) (meth := k13m1) (c := k13c1) (by decide +kernel) rfl rfl rfl (by decide +kernel)
set_option maxRecDepth 65536 in
theorem w_c10 : (Jvm.Cond.code ({ cls := "java/lang/AbstractStringBuilder", name := "ensureCapacityInternal", desc := "(I)V" } : Jvm.MethodName) jdk_68_method_9_code (3 : Nat) (Option.none : Option Jvm.ClassFile.FieldType)).before args0 about1 = true := code_word (m := ⟨5, 3⟩) (meth := k5m3) (c := k5c3) (by decide +kernel) rfl rfl rfl (by decide +kernel)
set_option maxRecDepth 65536 in
theorem w_c11 : (Jvm.Cond.code ({ cls := "java/lang/AbstractStringBuilder", name := "isLatin1", desc := "()Z" } : Jvm.MethodName) jdk_68_method_68_code (1 : Nat) (Option.some Jvm.ClassFile.FieldType.boolean)).before args0 about1 = true := code_word (m := ⟨5, 8⟩) (meth := k5m8) (c := k5c8) (by decide +kernel) rfl rfl rfl (by decide +kernel)
set_option maxRecDepth 65536 in
theorem w_c12 : (Jvm.Cond.code ({ cls := "java/lang/Integer", name := "getChars", desc := "(II[B)I" } : Jvm.MethodName) jdk_33_method_12_code (7 : Nat) (Option.some Jvm.ClassFile.FieldType.int)).before args0 about1 = true := code_word (m := ⟨13, 0⟩) (meth := k13m0) (c := k13c0) (by decide +kernel) rfl rfl rfl (by decide +kernel)
set_option maxRecDepth 65536 in
theorem w_c13 : (Jvm.Cond.code ({ cls := "java/lang/StringBuilder", name := "append", desc := "(Ljava/lang/String;)Ljava/lang/StringBuilder;" } : Jvm.MethodName) jdk_67_method_7_code (2 : Nat) (Option.some (Jvm.ClassFile.FieldType.object "java/lang/StringBuilder"))).before args0 about1 = true := code_word (m := ⟨8, 1⟩) (meth := k8m1) (c := k8c1) (by decide +kernel) rfl rfl rfl (by decide +kernel)
set_option maxRecDepth 65536 in
theorem w_c14 : (Jvm.Cond.code ({ cls := "java/lang/AbstractStringBuilder", name := "append", desc := "(Ljava/lang/String;)Ljava/lang/AbstractStringBuilder;" } : Jvm.MethodName) jdk_68_method_22_code (3 : Nat) (Option.some (Jvm.ClassFile.FieldType.object "java/lang/AbstractStringBuilder"))).before args0 about1 = true := code_word (m := ⟨5, 5⟩) (meth := k5m5) (c := k5c5) (by decide +kernel) rfl rfl rfl (by decide +kernel)
set_option maxRecDepth 65536 in
theorem w_c15 : (Jvm.Cond.code ({ cls := "java/lang/String", name := "length", desc := "()I" } : Jvm.MethodName) jdk_42_method_54_code (1 : Nat) (Option.some Jvm.ClassFile.FieldType.int)).before args0 about1 = true := code_word (m := ⟨11, 2⟩) (meth := k11m2) (c := k11c2) (by decide +kernel) rfl rfl rfl (by decide +kernel)
set_option maxRecDepth 65536 in
theorem w_c16 : (Jvm.Cond.code ({ cls := "java/lang/String", name := "coder", desc := "()B" } : Jvm.MethodName) jdk_42_method_152_code (1 : Nat) (Option.some Jvm.ClassFile.FieldType.byte)).before args0 about1 = true := code_word (m := ⟨11, 6⟩) (meth := k11m6) (c := k11c6) (by decide +kernel) rfl rfl rfl (by decide +kernel)
set_option maxRecDepth 65536 in
theorem w_c17 : (Jvm.Cond.code ({ cls := "java/lang/AbstractStringBuilder", name := "putStringAt", desc := "(ILjava/lang/String;)V" } : Jvm.MethodName) jdk_68_method_73_code (3 : Nat) (Option.none : Option Jvm.ClassFile.FieldType)).before args0 about1 = true := code_word (m := ⟨5, 10⟩) (meth := k5m10) (c := k5c10) (by decide +kernel) rfl rfl rfl (by decide +kernel)
set_option maxRecDepth 65536 in
theorem w_c18 : (Jvm.Cond.code ({ cls := "java/lang/AbstractStringBuilder", name := "inflateIfNeededFor", desc := "(Ljava/lang/String;)V" } : Jvm.MethodName) jdk_68_method_71_code (2 : Nat) (Option.none : Option Jvm.ClassFile.FieldType)).before args0 about1 = true := code_word (m := ⟨5, 9⟩) (meth := k5m9) (c := k5c9) (by decide +kernel) rfl rfl rfl (by decide +kernel)
set_option maxRecDepth 65536 in
theorem w_c19 : (Jvm.Cond.code ({ cls := "java/lang/String", name := "getBytes", desc := "([BIB)V" } : Jvm.MethodName) jdk_42_method_147_code (4 : Nat) (Option.none : Option Jvm.ClassFile.FieldType)).before args0 about1 = true := code_word (m := ⟨11, 4⟩) (meth := k11m4) (c := k11c4) (by decide +kernel) rfl rfl rfl (by decide +kernel)
set_option maxRecDepth 65536 in
theorem w_c20 : (Jvm.Cond.code ({ cls := "java/lang/StringBuilder", name := "toString", desc := "()Ljava/lang/String;" } : Jvm.MethodName) jdk_67_method_42_code (1 : Nat) (Option.some (Jvm.ClassFile.FieldType.object "java/lang/String"))).before args0 about1 = true := code_word (m := ⟨8, 3⟩) (meth := k8m3) (c := k8c3) (by decide +kernel) rfl rfl rfl (by decide +kernel)
set_option maxRecDepth 65536 in
theorem w_c21 : (Jvm.Cond.code ({ cls := "java/lang/String", name := "<init>", desc := "(Ljava/lang/StringBuilder;)V" } : Jvm.MethodName) jdk_42_method_53_code (2 : Nat) (Option.none : Option Jvm.ClassFile.FieldType)).before args0 about1 = true := code_word (m := ⟨11, 1⟩) (meth := k11m1) (c := k11c1) (by decide +kernel) rfl rfl rfl (by decide +kernel)
set_option maxRecDepth 65536 in
theorem w_c22 : (Jvm.Cond.code ({ cls := "java/lang/String", name := "<init>", desc := "(Ljava/lang/AbstractStringBuilder;Ljava/lang/Void;)V" } : Jvm.MethodName) jdk_42_method_150_code (5 : Nat) (Option.none : Option Jvm.ClassFile.FieldType)).before args0 about1 = true := code_word (m := ⟨11, 5⟩) (meth := k11m5) (c := k11c5) (by decide +kernel) rfl rfl rfl (by decide +kernel)
set_option maxRecDepth 65536 in
theorem w_c23 : (Jvm.Cond.code ({ cls := "java/lang/AbstractStringBuilder", name := "getValue", desc := "()[B" } : Jvm.MethodName) jdk_68_method_64_code (1 : Nat) (Option.some (Jvm.ClassFile.FieldType.array Jvm.ClassFile.FieldType.byte))).before args0 about1 = true := code_word (m := ⟨5, 7⟩) (meth := k5m7) (c := k5c7) (by decide +kernel) rfl rfl rfl (by decide +kernel)
set_option maxRecDepth 65536 in
theorem w_c24 : (Jvm.Cond.code ({ cls := "java/lang/StringBuilder", name := "length", desc := "()I" } : Jvm.MethodName) jdk_67_method_93_code (1 : Nat) (Option.some Jvm.ClassFile.FieldType.int)).before args0 about1 = true := code_word (m := ⟨8, 4⟩) (meth := k8m4) (c := k8c4) (by decide +kernel) rfl rfl rfl (by decide +kernel)
set_option maxRecDepth 65536 in
theorem w_c25 : (Jvm.Cond.code ({ cls := "java/lang/AbstractStringBuilder", name := "length", desc := "()I" } : Jvm.MethodName) jdk_68_method_6_code (1 : Nat) (Option.some Jvm.ClassFile.FieldType.int)).before args0 about1 = true := code_word (m := ⟨5, 2⟩) (meth := k5m2) (c := k5c2) (by decide +kernel) rfl rfl rfl (by decide +kernel)
set_option maxRecDepth 65536 in
theorem w_c26 : (Jvm.Cond.code ({ cls := "java/util/Arrays", name := "copyOfRange", desc := "([BII)[B" } : Jvm.MethodName) jdk_65_method_132_code (3 : Nat) (Option.some (Jvm.ClassFile.FieldType.array Jvm.ClassFile.FieldType.byte))).before args0 about1 = true := code_word (m := ⟨15, 3⟩) (meth := k15m3) (c := k15c3) (by decide +kernel) rfl rfl rfl (by decide +kernel)
set_option maxRecDepth 65536 in
theorem w_c27 : (Jvm.Cond.code ({ cls := "java/util/Arrays", name := "copyOfRangeByte", desc := "([BII)[B" } : Jvm.MethodName) jdk_65_method_133_code (5 : Nat) (Option.some (Jvm.ClassFile.FieldType.array Jvm.ClassFile.FieldType.byte))).before args0 about1 = true := code_word (m := ⟨15, 4⟩) (meth := k15m4) (c := k15c4) (by decide +kernel) rfl rfl rfl (by decide +kernel)
set_option maxRecDepth 65536 in
theorem w_c28 : (Jvm.Cond.code ({ cls := "java/util/Arrays", name := "checkLength", desc := "(II)V" } : Jvm.MethodName) jdk_65_method_131_code (2 : Nat) (Option.none : Option Jvm.ClassFile.FieldType)).before args0 about1 = true := code_word (m := ⟨15, 2⟩) (meth := k15m2) (c := k15c2) (by decide +kernel) rfl rfl rfl (by decide +kernel)
set_option maxRecDepth 65536 in
theorem w_c29 : (Jvm.Cond.code ({ cls := "java/lang/Math", name := "min", desc := "(II)I" } : Jvm.MethodName) jdk_29_method_69_code (2 : Nat) (Option.some Jvm.ClassFile.FieldType.int)).before args0 about1 = true := code_word (m := ⟨16, 2⟩) (meth := k16m2) (c := k16c2) (by decide +kernel) rfl rfl rfl (by decide +kernel)
set_option maxRecDepth 65536 in
theorem w_c30 : (Jvm.Cond.code ({ cls := "java/lang/AbstractStringBuilder", name := "newCapacity", desc := "(I)I" } : Jvm.MethodName) jdk_68_method_10_code (6 : Nat) (Option.some Jvm.ClassFile.FieldType.int)).before args0 about1 = true := code_word (m := ⟨5, 4⟩) (meth := k5m4) (c := k5c4) (by decide +kernel) rfl rfl rfl (by decide +kernel)
set_option maxRecDepth 65536 in
theorem w_c31 : (Jvm.Cond.code ({ cls := "jdk/internal/util/ArraysSupport", name := "newLength", desc := "(III)I" } : Jvm.MethodName) jdk_48_method_27_code (4 : Nat) (Option.some Jvm.ClassFile.FieldType.int)).before args0 about1 = true := code_word (m := ⟨17, 1⟩) (meth := k17m1) (c := k17c1) (by decide +kernel) rfl rfl rfl (by decide +kernel)
set_option maxRecDepth 65536 in
theorem w_c32 : (Jvm.Cond.code ({ cls := "java/lang/Math", name := "max", desc := "(II)I" } : Jvm.MethodName) jdk_29_method_65_code (2 : Nat) (Option.some Jvm.ClassFile.FieldType.int)).before args0 about1 = true := code_word (m := ⟨16, 1⟩) (meth := k16m1) (c := k16c1) (by decide +kernel) rfl rfl rfl (by decide +kernel)
set_option maxRecDepth 65536 in
theorem w_c33 : (Jvm.Cond.code ({ cls := "java/util/Arrays", name := "copyOf", desc := "([BI)[B" } : Jvm.MethodName) jdk_65_method_121_code (3 : Nat) (Option.some (Jvm.ClassFile.FieldType.array Jvm.ClassFile.FieldType.byte))).before args0 about1 = true := code_word (m := ⟨15, 1⟩) (meth := k15m1) (c := k15c1) (by decide +kernel) rfl rfl rfl (by decide +kernel)
set_option maxRecDepth 65536 in
theorem w_c34 : (Jvm.Cond.code ({ cls := "com/example/doccess/doccess/transfer/ImportCountsToStringPinLaw", name := "counted", desc := "(Ljava/lang/String;IILjava/lang/String;)I" } : Jvm.MethodName) method_3_code (5 : Nat) (Option.some Jvm.ClassFile.FieldType.int)).before args0 about1 = true := code_word (m := ⟨1, 2⟩) (meth := k1m2) (c := k1c2) (by decide +kernel) rfl rfl rfl (by decide +kernel)
set_option maxRecDepth 65536 in
theorem w_c35 : (Jvm.Cond.code ({ cls := "com/example/doccess/doccess/transfer/ImportCountsToStringPinLaw", name := "ch", desc := "(Ljava/lang/String;IC)I" } : Jvm.MethodName) method_4_code (3 : Nat) (Option.some Jvm.ClassFile.FieldType.int)).before args0 about1 = true := code_word (m := ⟨1, 3⟩) (meth := k1m3) (c := k1c3) (by decide +kernel) rfl rfl rfl (by decide +kernel)
set_option maxRecDepth 65536 in
theorem w_c36 : (Jvm.Cond.code ({ cls := "java/lang/String", name := "charAt", desc := "(I)C" } : Jvm.MethodName) jdk_42_method_56_code (2 : Nat) (Option.some Jvm.ClassFile.FieldType.char)).before args0 about1 = true := code_word (m := ⟨11, 3⟩) (meth := k11m3) (c := k11c3) (by decide +kernel) rfl rfl rfl (by decide +kernel)
set_option maxRecDepth 65536 in
theorem w_c37 : (Jvm.Cond.code ({ cls := "java/lang/String", name := "isLatin1", desc := "()Z" } : Jvm.MethodName) jdk_42_method_154_code (1 : Nat) (Option.some Jvm.ClassFile.FieldType.boolean)).before args0 about1 = true := code_word (m := ⟨11, 7⟩) (meth := k11m7) (c := k11c7) (by decide +kernel) rfl rfl rfl (by decide +kernel)
set_option maxRecDepth 65536 in
theorem w_c38 : (Jvm.Cond.code ({ cls := "java/lang/StringLatin1", name := "charAt", desc := "([BI)C" } : Jvm.MethodName) jdk_43_method_2_code (2 : Nat) (Option.some Jvm.ClassFile.FieldType.char)).before args0 about1 = true := code_word (m := ⟨18, 1⟩) (meth := k18m1) (c := k18c1) (by decide +kernel) rfl rfl rfl (by decide +kernel)
set_option maxRecDepth 65536 in
theorem w_c39 : (Jvm.Cond.code ({ cls := "java/lang/String", name := "checkIndex", desc := "(II)V" } : Jvm.MethodName) jdk_42_method_155_code (2 : Nat) (Option.none : Option Jvm.ClassFile.FieldType)).before args0 about1 = true := code_word (m := ⟨11, 8⟩) (meth := k11m8) (c := k11c8) (by decide +kernel) rfl rfl rfl (by decide +kernel)
set_option maxRecDepth 65536 in
theorem w_c40 : (Jvm.Cond.code ({ cls := "jdk/internal/util/Preconditions", name := "checkIndex", desc := "(IILjava/util/function/BiFunction;)I" } : Jvm.MethodName) jdk_41_method_11_code (3 : Nat) (Option.some Jvm.ClassFile.FieldType.int)).before args0 about1 = true := code_word (m := ⟨19, 1⟩) (meth := k19m1) (c := k19c1) (by decide +kernel) rfl rfl rfl (by decide +kernel)
set_option maxRecDepth 65536 in
theorem w_c41 : (Jvm.Cond.code ({ cls := "com/example/doccess/doccess/transfer/ImportCountsToStringPinLaw", name := "lit", desc := "(Ljava/lang/String;ILjava/lang/String;)I" } : Jvm.MethodName) method_5_code (4 : Nat) (Option.some Jvm.ClassFile.FieldType.int)).before args0 about1 = true := code_word (m := ⟨1, 4⟩) (meth := k1m4) (c := k1c4) (by decide +kernel) rfl rfl rfl (by decide +kernel)
set_option maxRecDepth 65536 in
theorem w_c42 : (Jvm.Cond.code ({ cls := "com/example/doccess/doccess/transfer/ImportCounts", name := "group", desc := "()V" } : Jvm.MethodName) prog_21_method_2_code (1 : Nat) (Option.none : Option Jvm.ClassFile.FieldType)).before args0 about1 = true := code_word (m := ⟨2, 1⟩) (meth := k2m1) (c := k2c1) (by decide +kernel) rfl rfl rfl (by decide +kernel)
set_option maxRecDepth 65536 in
theorem w_c43 : (Jvm.Cond.code ({ cls := "com/example/doccess/doccess/transfer/ImportCounts", name := "user", desc := "()V" } : Jvm.MethodName) prog_21_method_3_code (1 : Nat) (Option.none : Option Jvm.ClassFile.FieldType)).before args0 about1 = true := code_word (m := ⟨2, 2⟩) (meth := k2m2) (c := k2c2) (by decide +kernel) rfl rfl rfl (by decide +kernel)
set_option maxRecDepth 65536 in
theorem w_c44 : (Jvm.Cond.code ({ cls := "com/example/doccess/doccess/transfer/ImportCounts", name := "project", desc := "()V" } : Jvm.MethodName) prog_21_method_4_code (1 : Nat) (Option.none : Option Jvm.ClassFile.FieldType)).before args0 about1 = true := code_word (m := ⟨2, 3⟩) (meth := k2m3) (c := k2c3) (by decide +kernel) rfl rfl rfl (by decide +kernel)
set_option maxRecDepth 65536 in
theorem w_c45 : (Jvm.Cond.code ({ cls := "com/example/doccess/doccess/transfer/ImportCounts", name := "projectShare", desc := "()V" } : Jvm.MethodName) prog_21_method_5_code (1 : Nat) (Option.none : Option Jvm.ClassFile.FieldType)).before args0 about1 = true := code_word (m := ⟨2, 4⟩) (meth := k2m4) (c := k2c4) (by decide +kernel) rfl rfl rfl (by decide +kernel)
set_option maxRecDepth 65536 in
theorem w_c46 : (Jvm.Cond.code ({ cls := "com/example/doccess/doccess/transfer/ImportCounts", name := "documentShare", desc := "()V" } : Jvm.MethodName) prog_21_method_7_code (1 : Nat) (Option.none : Option Jvm.ClassFile.FieldType)).before args0 about1 = true := code_word (m := ⟨2, 6⟩) (meth := k2m6) (c := k2c6) (by decide +kernel) rfl rfl rfl (by decide +kernel)
set_option maxRecDepth 65536 in
theorem w_c47 : (Jvm.Cond.code ({ cls := "com/example/doccess/doccess/transfer/ImportCounts", name := "version", desc := "()V" } : Jvm.MethodName) prog_21_method_8_code (1 : Nat) (Option.none : Option Jvm.ClassFile.FieldType)).before args0 about1 = true := code_word (m := ⟨2, 7⟩) (meth := k2m7) (c := k2c7) (by decide +kernel) rfl rfl rfl (by decide +kernel)
set_option maxRecDepth 65536 in
theorem w_c48 : (Jvm.Cond.code ({ cls := "com/example/doccess/doccess/transfer/ImportCounts", name := "comment", desc := "()V" } : Jvm.MethodName) prog_21_method_9_code (1 : Nat) (Option.none : Option Jvm.ClassFile.FieldType)).before args0 about1 = true := code_word (m := ⟨2, 8⟩) (meth := k2m8) (c := k2c8) (by decide +kernel) rfl rfl rfl (by decide +kernel)
set_option maxRecDepth 65536 in
theorem w_c49 : (Jvm.Cond.code ({ cls := "com/example/doccess/doccess/transfer/ImportCounts", name := "document", desc := "()V" } : Jvm.MethodName) prog_21_method_6_code (1 : Nat) (Option.none : Option Jvm.ClassFile.FieldType)).before args0 about1 = true := code_word (m := ⟨2, 5⟩) (meth := k2m5) (c := k2c5) (by decide +kernel) rfl rfl rfl (by decide +kernel)
def codes1 : List Jvm.Cond := [Jvm.Cond.code x code maxLocals ret, Jvm.Cond.code ({ cls := "com/example/doccess/doccess/transfer/ImportCounts", name := "<init>", desc := "()V" } : Jvm.MethodName) prog_21_method_1_code (1 : Nat) (Option.none : Option Jvm.ClassFile.FieldType), Jvm.Cond.code ({ cls := "java/lang/Object", name := "<init>", desc := "()V" } : Jvm.MethodName) object_method_1_code (1 : Nat) (Option.none : Option Jvm.ClassFile.FieldType), Jvm.Cond.code ({ cls := "com/example/doccess/doccess/transfer/ImportCounts", name := "toString", desc := "()Ljava/lang/String;" } : Jvm.MethodName) prog_21_method_10_code (1 : Nat) (Option.some (Jvm.ClassFile.FieldType.object "java/lang/String")), Jvm.Cond.code ({ cls := "java/lang/StringBuilder", name := "<init>", desc := "()V" } : Jvm.MethodName) jdk_67_method_1_code (1 : Nat) (Option.none : Option Jvm.ClassFile.FieldType), Jvm.Cond.code ({ cls := "java/lang/AbstractStringBuilder", name := "<init>", desc := "(I)V" } : Jvm.MethodName) jdk_68_method_2_code (2 : Nat) (Option.none : Option Jvm.ClassFile.FieldType), Jvm.Cond.code ({ cls := "com/example/doccess/doccess/transfer/ImportCounts", name := "counted", desc := "(ILjava/lang/String;)Ljava/lang/String;" } : Jvm.MethodName) prog_21_method_11_code (2 : Nat) (Option.some (Jvm.ClassFile.FieldType.object "java/lang/String")), Jvm.Cond.code ({ cls := "java/lang/StringBuilder", name := "append", desc := "(I)Ljava/lang/StringBuilder;" } : Jvm.MethodName) jdk_67_method_15_code (2 : Nat) (Option.some (Jvm.ClassFile.FieldType.object "java/lang/StringBuilder")), Jvm.Cond.code ({ cls := "java/lang/AbstractStringBuilder", name := "append", desc := "(I)Ljava/lang/AbstractStringBuilder;" } : Jvm.MethodName) jdk_68_method_32_code (4 : Nat) (Option.some (Jvm.ClassFile.FieldType.object "java/lang/AbstractStringBuilder")), Jvm.Cond.code ({ cls := "java/lang/Integer", name := "stringSize", desc := "(I)I" } : Jvm.MethodName) jdk_33_method_13_code (4 : Nat) (Option.some Jvm.ClassFile.FieldType.int), Jvm.Cond.code ({ cls := "java/lang/AbstractStringBuilder", name := "ensureCapacityInternal", desc := "(I)V" } : Jvm.MethodName) jdk_68_method_9_code (3 : Nat) (Option.none : Option Jvm.ClassFile.FieldType), Jvm.Cond.code ({ cls := "java/lang/AbstractStringBuilder", name := "isLatin1", desc := "()Z" } : Jvm.MethodName) jdk_68_method_68_code (1 : Nat) (Option.some Jvm.ClassFile.FieldType.boolean), Jvm.Cond.code ({ cls := "java/lang/Integer", name := "getChars", desc := "(II[B)I" } : Jvm.MethodName) jdk_33_method_12_code (7 : Nat) (Option.some Jvm.ClassFile.FieldType.int), Jvm.Cond.code ({ cls := "java/lang/StringBuilder", name := "append", desc := "(Ljava/lang/String;)Ljava/lang/StringBuilder;" } : Jvm.MethodName) jdk_67_method_7_code (2 : Nat) (Option.some (Jvm.ClassFile.FieldType.object "java/lang/StringBuilder")), Jvm.Cond.code ({ cls := "java/lang/AbstractStringBuilder", name := "append", desc := "(Ljava/lang/String;)Ljava/lang/AbstractStringBuilder;" } : Jvm.MethodName) jdk_68_method_22_code (3 : Nat) (Option.some (Jvm.ClassFile.FieldType.object "java/lang/AbstractStringBuilder")), Jvm.Cond.code ({ cls := "java/lang/String", name := "length", desc := "()I" } : Jvm.MethodName) jdk_42_method_54_code (1 : Nat) (Option.some Jvm.ClassFile.FieldType.int), Jvm.Cond.code ({ cls := "java/lang/String", name := "coder", desc := "()B" } : Jvm.MethodName) jdk_42_method_152_code (1 : Nat) (Option.some Jvm.ClassFile.FieldType.byte), Jvm.Cond.code ({ cls := "java/lang/AbstractStringBuilder", name := "putStringAt", desc := "(ILjava/lang/String;)V" } : Jvm.MethodName) jdk_68_method_73_code (3 : Nat) (Option.none : Option Jvm.ClassFile.FieldType), Jvm.Cond.code ({ cls := "java/lang/AbstractStringBuilder", name := "inflateIfNeededFor", desc := "(Ljava/lang/String;)V" } : Jvm.MethodName) jdk_68_method_71_code (2 : Nat) (Option.none : Option Jvm.ClassFile.FieldType), Jvm.Cond.code ({ cls := "java/lang/String", name := "getBytes", desc := "([BIB)V" } : Jvm.MethodName) jdk_42_method_147_code (4 : Nat) (Option.none : Option Jvm.ClassFile.FieldType), Jvm.Cond.code ({ cls := "java/lang/StringBuilder", name := "toString", desc := "()Ljava/lang/String;" } : Jvm.MethodName) jdk_67_method_42_code (1 : Nat) (Option.some (Jvm.ClassFile.FieldType.object "java/lang/String")), Jvm.Cond.code ({ cls := "java/lang/String", name := "<init>", desc := "(Ljava/lang/StringBuilder;)V" } : Jvm.MethodName) jdk_42_method_53_code (2 : Nat) (Option.none : Option Jvm.ClassFile.FieldType), Jvm.Cond.code ({ cls := "java/lang/String", name := "<init>", desc := "(Ljava/lang/AbstractStringBuilder;Ljava/lang/Void;)V" } : Jvm.MethodName) jdk_42_method_150_code (5 : Nat) (Option.none : Option Jvm.ClassFile.FieldType), Jvm.Cond.code ({ cls := "java/lang/AbstractStringBuilder", name := "getValue", desc := "()[B" } : Jvm.MethodName) jdk_68_method_64_code (1 : Nat) (Option.some (Jvm.ClassFile.FieldType.array Jvm.ClassFile.FieldType.byte)), Jvm.Cond.code ({ cls := "java/lang/StringBuilder", name := "length", desc := "()I" } : Jvm.MethodName) jdk_67_method_93_code (1 : Nat) (Option.some Jvm.ClassFile.FieldType.int), Jvm.Cond.code ({ cls := "java/lang/AbstractStringBuilder", name := "length", desc := "()I" } : Jvm.MethodName) jdk_68_method_6_code (1 : Nat) (Option.some Jvm.ClassFile.FieldType.int), Jvm.Cond.code ({ cls := "java/util/Arrays", name := "copyOfRange", desc := "([BII)[B" } : Jvm.MethodName) jdk_65_method_132_code (3 : Nat) (Option.some (Jvm.ClassFile.FieldType.array Jvm.ClassFile.FieldType.byte)), Jvm.Cond.code ({ cls := "java/util/Arrays", name := "copyOfRangeByte", desc := "([BII)[B" } : Jvm.MethodName) jdk_65_method_133_code (5 : Nat) (Option.some (Jvm.ClassFile.FieldType.array Jvm.ClassFile.FieldType.byte)), Jvm.Cond.code ({ cls := "java/util/Arrays", name := "checkLength", desc := "(II)V" } : Jvm.MethodName) jdk_65_method_131_code (2 : Nat) (Option.none : Option Jvm.ClassFile.FieldType), Jvm.Cond.code ({ cls := "java/lang/Math", name := "min", desc := "(II)I" } : Jvm.MethodName) jdk_29_method_69_code (2 : Nat) (Option.some Jvm.ClassFile.FieldType.int), Jvm.Cond.code ({ cls := "java/lang/AbstractStringBuilder", name := "newCapacity", desc := "(I)I" } : Jvm.MethodName) jdk_68_method_10_code (6 : Nat) (Option.some Jvm.ClassFile.FieldType.int), Jvm.Cond.code ({ cls := "jdk/internal/util/ArraysSupport", name := "newLength", desc := "(III)I" } : Jvm.MethodName) jdk_48_method_27_code (4 : Nat) (Option.some Jvm.ClassFile.FieldType.int), Jvm.Cond.code ({ cls := "java/lang/Math", name := "max", desc := "(II)I" } : Jvm.MethodName) jdk_29_method_65_code (2 : Nat) (Option.some Jvm.ClassFile.FieldType.int), Jvm.Cond.code ({ cls := "java/util/Arrays", name := "copyOf", desc := "([BI)[B" } : Jvm.MethodName) jdk_65_method_121_code (3 : Nat) (Option.some (Jvm.ClassFile.FieldType.array Jvm.ClassFile.FieldType.byte)), Jvm.Cond.code ({ cls := "com/example/doccess/doccess/transfer/ImportCountsToStringPinLaw", name := "counted", desc := "(Ljava/lang/String;IILjava/lang/String;)I" } : Jvm.MethodName) method_3_code (5 : Nat) (Option.some Jvm.ClassFile.FieldType.int), Jvm.Cond.code ({ cls := "com/example/doccess/doccess/transfer/ImportCountsToStringPinLaw", name := "ch", desc := "(Ljava/lang/String;IC)I" } : Jvm.MethodName) method_4_code (3 : Nat) (Option.some Jvm.ClassFile.FieldType.int), Jvm.Cond.code ({ cls := "java/lang/String", name := "charAt", desc := "(I)C" } : Jvm.MethodName) jdk_42_method_56_code (2 : Nat) (Option.some Jvm.ClassFile.FieldType.char), Jvm.Cond.code ({ cls := "java/lang/String", name := "isLatin1", desc := "()Z" } : Jvm.MethodName) jdk_42_method_154_code (1 : Nat) (Option.some Jvm.ClassFile.FieldType.boolean), Jvm.Cond.code ({ cls := "java/lang/StringLatin1", name := "charAt", desc := "([BI)C" } : Jvm.MethodName) jdk_43_method_2_code (2 : Nat) (Option.some Jvm.ClassFile.FieldType.char), Jvm.Cond.code ({ cls := "java/lang/String", name := "checkIndex", desc := "(II)V" } : Jvm.MethodName) jdk_42_method_155_code (2 : Nat) (Option.none : Option Jvm.ClassFile.FieldType), Jvm.Cond.code ({ cls := "jdk/internal/util/Preconditions", name := "checkIndex", desc := "(IILjava/util/function/BiFunction;)I" } : Jvm.MethodName) jdk_41_method_11_code (3 : Nat) (Option.some Jvm.ClassFile.FieldType.int), Jvm.Cond.code ({ cls := "com/example/doccess/doccess/transfer/ImportCountsToStringPinLaw", name := "lit", desc := "(Ljava/lang/String;ILjava/lang/String;)I" } : Jvm.MethodName) method_5_code (4 : Nat) (Option.some Jvm.ClassFile.FieldType.int), Jvm.Cond.code ({ cls := "com/example/doccess/doccess/transfer/ImportCounts", name := "group", desc := "()V" } : Jvm.MethodName) prog_21_method_2_code (1 : Nat) (Option.none : Option Jvm.ClassFile.FieldType), Jvm.Cond.code ({ cls := "com/example/doccess/doccess/transfer/ImportCounts", name := "user", desc := "()V" } : Jvm.MethodName) prog_21_method_3_code (1 : Nat) (Option.none : Option Jvm.ClassFile.FieldType), Jvm.Cond.code ({ cls := "com/example/doccess/doccess/transfer/ImportCounts", name := "project", desc := "()V" } : Jvm.MethodName) prog_21_method_4_code (1 : Nat) (Option.none : Option Jvm.ClassFile.FieldType), Jvm.Cond.code ({ cls := "com/example/doccess/doccess/transfer/ImportCounts", name := "projectShare", desc := "()V" } : Jvm.MethodName) prog_21_method_5_code (1 : Nat) (Option.none : Option Jvm.ClassFile.FieldType), Jvm.Cond.code ({ cls := "com/example/doccess/doccess/transfer/ImportCounts", name := "documentShare", desc := "()V" } : Jvm.MethodName) prog_21_method_7_code (1 : Nat) (Option.none : Option Jvm.ClassFile.FieldType), Jvm.Cond.code ({ cls := "com/example/doccess/doccess/transfer/ImportCounts", name := "version", desc := "()V" } : Jvm.MethodName) prog_21_method_8_code (1 : Nat) (Option.none : Option Jvm.ClassFile.FieldType), Jvm.Cond.code ({ cls := "com/example/doccess/doccess/transfer/ImportCounts", name := "comment", desc := "()V" } : Jvm.MethodName) prog_21_method_9_code (1 : Nat) (Option.none : Option Jvm.ClassFile.FieldType), Jvm.Cond.code ({ cls := "com/example/doccess/doccess/transfer/ImportCounts", name := "document", desc := "()V" } : Jvm.MethodName) prog_21_method_6_code (1 : Nat) (Option.none : Option Jvm.ClassFile.FieldType)]
set_option maxRecDepth 65536 in
theorem codes_eq : words1.filter isCode = codes1 := rfl
theorem w_codes : ∀ c ∈ words1.filter isCode, c.before args0 about1 = true := by
  rw [codes_eq]
  intro c hc
  simp only [codes1, List.mem_cons, List.not_mem_nil, or_false] at hc
  rcases hc with rfl | rfl | rfl | rfl | rfl | rfl | rfl | rfl | rfl | rfl | rfl | rfl | rfl | rfl | rfl | rfl | rfl | rfl | rfl | rfl | rfl | rfl | rfl | rfl | rfl | rfl | rfl | rfl | rfl | rfl | rfl | rfl | rfl | rfl | rfl | rfl | rfl | rfl | rfl | rfl | rfl | rfl | rfl | rfl | rfl | rfl | rfl | rfl | rfl | rfl
  · exact w_c0
  · exact w_c1
  · exact w_c2
  · exact w_c3
  · exact w_c4
  · exact w_c5
  · exact w_c6
  · exact w_c7
  · exact w_c8
  · exact w_c9
  · exact w_c10
  · exact w_c11
  · exact w_c12
  · exact w_c13
  · exact w_c14
  · exact w_c15
  · exact w_c16
  · exact w_c17
  · exact w_c18
  · exact w_c19
  · exact w_c20
  · exact w_c21
  · exact w_c22
  · exact w_c23
  · exact w_c24
  · exact w_c25
  · exact w_c26
  · exact w_c27
  · exact w_c28
  · exact w_c29
  · exact w_c30
  · exact w_c31
  · exact w_c32
  · exact w_c33
  · exact w_c34
  · exact w_c35
  · exact w_c36
  · exact w_c37
  · exact w_c38
  · exact w_c39
  · exact w_c40
  · exact w_c41
  · exact w_c42
  · exact w_c43
  · exact w_c44
  · exact w_c45
  · exact w_c46
  · exact w_c47
  · exact w_c48
  · exact w_c49
set_option maxRecDepth 65536 in
theorem w_t1 : (words1.take 24).all (fun c => isCode c || c.before args0 about1) = true := by decide +kernel
set_option maxRecDepth 65536 in
theorem w_t2 : ((words1.drop 24).take 24).all (fun c => isCode c || c.before args0 about1) = true := by decide +kernel
set_option maxRecDepth 65536 in
theorem w_t3 : (((words1.drop 24).drop 24).take 24).all (fun c => isCode c || c.before args0 about1) = true := by decide +kernel
set_option maxRecDepth 65536 in
theorem w_t4 : ((((words1.drop 24).drop 24).drop 24).take 24).all (fun c => isCode c || c.before args0 about1) = true := by decide +kernel
set_option maxRecDepth 65536 in
theorem w_t5 : (((((words1.drop 24).drop 24).drop 24).drop 24).take 24).all (fun c => isCode c || c.before args0 about1) = true := by decide +kernel
set_option maxRecDepth 65536 in
theorem w_t6 : ((((((words1.drop 24).drop 24).drop 24).drop 24).drop 24).take 24).all (fun c => isCode c || c.before args0 about1) = true := by decide +kernel
set_option maxRecDepth 65536 in
theorem w_t7 : (((((((words1.drop 24).drop 24).drop 24).drop 24).drop 24).drop 24).take 24).all (fun c => isCode c || c.before args0 about1) = true := by decide +kernel
set_option maxRecDepth 65536 in
theorem w_t8 : ((((((((words1.drop 24).drop 24).drop 24).drop 24).drop 24).drop 24).drop 24).take 24).all (fun c => isCode c || c.before args0 about1) = true := by decide +kernel
set_option maxRecDepth 65536 in
theorem w_t9 : (((((((((words1.drop 24).drop 24).drop 24).drop 24).drop 24).drop 24).drop 24).drop 24).take 24).all (fun c => isCode c || c.before args0 about1) = true := by decide +kernel
set_option maxRecDepth 65536 in
theorem w_t10 : ((((((((((words1.drop 24).drop 24).drop 24).drop 24).drop 24).drop 24).drop 24).drop 24).drop 24).take 24).all (fun c => isCode c || c.before args0 about1) = true := by decide +kernel
set_option maxRecDepth 65536 in
theorem w_t11 : (((((((((((words1.drop 24).drop 24).drop 24).drop 24).drop 24).drop 24).drop 24).drop 24).drop 24).drop 24).take 24).all (fun c => isCode c || c.before args0 about1) = true := by decide +kernel
set_option maxRecDepth 65536 in
theorem w_t12 : ((((((((((((words1.drop 24).drop 24).drop 24).drop 24).drop 24).drop 24).drop 24).drop 24).drop 24).drop 24).drop 24).take 24).all (fun c => isCode c || c.before args0 about1) = true := by decide +kernel
set_option maxRecDepth 65536 in
theorem w_t13 : ((((((((((((words1.drop 24).drop 24).drop 24).drop 24).drop 24).drop 24).drop 24).drop 24).drop 24).drop 24).drop 24).drop 24).all (fun c => isCode c || c.before args0 about1) = true := by decide +kernel
theorem w_tables : (allAtoms (Jvm.Cond.code x code maxLocals ret :: tables_1)).before args0 about1 = true := by
  rw [allAtoms_all]
  show words1.all (fun c => c.before args0 about1) = true
  refine all_split ?_ w_codes
  rw [← List.take_append_drop 24 words1, List.all_append, w_t1, ← List.take_append_drop 24 (words1.drop 24), List.all_append, w_t2, ← List.take_append_drop 24 ((words1.drop 24).drop 24), List.all_append, w_t3, ← List.take_append_drop 24 (((words1.drop 24).drop 24).drop 24), List.all_append, w_t4, ← List.take_append_drop 24 ((((words1.drop 24).drop 24).drop 24).drop 24), List.all_append, w_t5, ← List.take_append_drop 24 (((((words1.drop 24).drop 24).drop 24).drop 24).drop 24), List.all_append, w_t6, ← List.take_append_drop 24 ((((((words1.drop 24).drop 24).drop 24).drop 24).drop 24).drop 24), List.all_append, w_t7, ← List.take_append_drop 24 (((((((words1.drop 24).drop 24).drop 24).drop 24).drop 24).drop 24).drop 24), List.all_append, w_t8, ← List.take_append_drop 24 ((((((((words1.drop 24).drop 24).drop 24).drop 24).drop 24).drop 24).drop 24).drop 24), List.all_append, w_t9, ← List.take_append_drop 24 (((((((((words1.drop 24).drop 24).drop 24).drop 24).drop 24).drop 24).drop 24).drop 24).drop 24), List.all_append, w_t10, ← List.take_append_drop 24 ((((((((((words1.drop 24).drop 24).drop 24).drop 24).drop 24).drop 24).drop 24).drop 24).drop 24).drop 24), List.all_append, w_t11, ← List.take_append_drop 24 (((((((((((words1.drop 24).drop 24).drop 24).drop 24).drop 24).drop 24).drop 24).drop 24).drop 24).drop 24).drop 24), List.all_append, w_t12, w_t13]
  rfl
set_option maxRecDepth 65536 in
theorem w_rest : rest_1_c.before args0 about1 = true := by decide +kernel
set_option maxRecDepth 65536 in
theorem w_case : (Jvm.Cond.and given_1 narrow_1).before args0 about1 = true := by decide +kernel
set_option maxRecDepth 65536 in
theorem w_consts : constsHeld consts_1 about1 := Jvm.Lit.constsHeldB_iff.mp (by decide +kernel)
theorem w_applies : (headSpec (Jvm.Cond.code x code maxLocals ret :: tables_1) room_1).applies x e0.platform about1 = true :=
  (Spec.applies_iff w_frames).mpr ⟨w_running, w_runnable, w_alone, w_named, w_hears, w_ripe, w_room, w_tables⟩
theorem atStart : AtStart classFile x code maxLocals ret World_1 tables_1 room_1 Calls_1 rest_1 Pre_1 launch0 p0 e0 about1 theMethod args0 below0 :=
  ⟨lists_1, trivial, launch0.admits_env _ _ _, launch0.least_env, fairChoices_fair.cas, fairChoices_fair.clock, w_frames, w_args, w_heap, w_applies, ⟨w_consts, trivial⟩, w_rest, w_case⟩
end start1
theorem witness_1 : WitnessClaimed_1 := ⟨start1.p0, start1.e0, start1.about1, start1.theMethod, start1.args0, start1.below0, start1.atStart⟩
end Jvm.Pilot.@@N@@
