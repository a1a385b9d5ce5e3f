import JvmDerived
import JvmDerived.Pilot.@@N@@Statement
import JvmDerived.Pilot.@@N@@Code
set_option linter.unusedVariables false
set_option linter.unusedSimpArgs false
namespace Jvm.RoadKit
open Sem ClassFile Op Lib Jvm.Stand Jvm.Free Jvm.LawKit
section New
variable {p : Program} {l : Launch} {e : Env} {R : Room} {s : State} {m : MethodId} {args : Array Value} {below : List Frame} {meth : Method} {c : Code} {T : State} {locs : List Loc} {cells slots : Nat}
theorem retI (X : Stand p l e R s m args below meth c T locs cells slots) (hx : p.tables.exec = Jvm.exec) {pc : Nat} {Ls : Array Slot} {z : Int32} {rest : List Value} (hret : meth.sig.returnType = some .int) (hd : decode c.code pc = .ok (.ireturn, 1)) {fs : List Frame}
    (hl : ∀ (f : JFrame) (acts : List Action), f.method = m → f.locked = none → f.entered = [] → (doReturn e (T.setTop f) acts (some (.int z))).1 = T.setFrames fs) : Steps p.tables e below (T.setTop (mkF m pc Ls (.int z :: rest))) (T.setFrames fs) := by
  have hm' : T.vm.method? m = some meth := X.method'
  have hn : narrow .int (.int z) = .int z := rfl
  show Steps p.tables e below (T.setTop { method := m, pc := pc, locals := Ls, stack := _ :: rest, locked := none }) _
  jvm_step X.here [X.here.top, hx, hd, hm', hret, hn]
  first | (intro acts; rw [hl _ acts rfl rfl rfl]) | rw [hl _ _ rfl rfl rfl]
  exact Steps.refl _
end New
end Jvm.RoadKit
/- laws to paste: Road.backV (cut by pick.py; bodies as the Statement names them) -/
namespace Jvm.Pilot.@@N@@
namespace StrChars
open Jvm Sem ClassFile Op Lib Jvm.Stand Jvm.Free.XT Jvm.Free.ALB Jvm.Free.JM Jvm.Free
open Jvm.Lib.Cold (StaticIs)
/-- a char array whose places are chars -/
def Ch (a : Addr) (A : Cell) (U : State) : Prop := Arr .char a A U ∧ Typed .char A
theorem Ch.mv {a : Addr} {A : Cell} {U U' : State} (h : Ch a A U) (hal : U.vm.Alike U'.vm) (hh : U'.heap = U.heap) : Ch a A U' := ⟨h.1.mv hal hh, h.2⟩
theorem Ch.keep {a : Addr} {A : Cell} {U U' : State} (h : Ch a A U) (hal : U.vm.Alike U'.vm) (hk : U'.heap[a]? = some A) : Ch a A U' := ⟨h.1.keep hal hk, h.2⟩
/-- what place i of a char[]'s cell holds -/
def cv (A : Cell) (i : Nat) : Int32 := match A.slots[i]? with | some (.int x) => x | _ => 0
theorem Ch.get {a : Addr} {A : Cell} {U : State} (h : Ch a A U) {i : Nat} (hi : i < A.slots.size) : A.slots[i]? = some (.int (cv A i)) := by
  have e := Array.getElem?_eq_getElem hi
  have f := h.2 i _ e
  unfold cv; rw [e]
  generalize A.slots[i] = v at f
  cases v <;> simp [fits] at f ⊢
/-- the byte that i2b leaves of a char -/
def lo8 (x : Int32) : Int32 := x.toInt8.toInt32
theorem fits_lo8 (y : Int32) : fits .byte (.int (lo8 y)) = true := by
  have h1 := y.toInt8.le_toInt
  have h2 := y.toInt8.toInt_lt
  simp only [lo8, fits, Bool.and_eq_true, decide_eq_true_eq, Int32.le_iff_toInt_le, Int8.toInt_toInt32, show (-128 : Int32).toInt = -128 from by decide, show (127 : Int32).toInt = 127 from by decide]
  omega
/-- A' is A but that each place j of lo .. hi - 1 holds f j -/
def Laid (A A' : Cell) (lo hi : Nat) (f : Nat → Value) : Prop := A'.cls = A.cls ∧ A'.vm = A.vm ∧ A'.slots.size = A.slots.size ∧ ∀ i, A'.slots[i]? = if lo ≤ i ∧ i < hi then some (f i) else A.slots[i]?
theorem Laid.zero (A : Cell) (lo : Nat) (f : Nat → Value) : Laid A A lo (lo + 0) f := ⟨rfl, rfl, rfl, fun i => by rw [if_neg (by omega)]⟩
theorem Laid.step {A Ak : Cell} {lo k : Nat} {f : Nat → Value} {v : Value} (h : Laid A Ak lo k f) (hlo : lo ≤ k) (hk : k < Ak.slots.size) (hv : v = f k) : Laid A (Ak.setSlot k v) lo (k + 1) f := by
  refine ⟨h.1, h.2.1, by simpa [Cell.setSlot] using h.2.2.1, fun i => ?_⟩
  by_cases e : k = i
  · subst e; rw [Cell.slots_setSlot_self v hk, if_pos (by omega), hv]
  · rw [Cell.slots_setSlot_ne v e, h.2.2.2 i]
    by_cases q : lo ≤ i ∧ i < k
    · rw [if_pos q, if_pos (by omega)]
    · rw [if_neg q, if_neg (by omega)]
def U16 : String := "java/lang/StringUTF16"
namespace Cmp5
def yN : MethodName := ⟨"java/lang/StringUTF16", "compress", "([CI[BII)I"⟩
abbrev yB : ByteArray := jdk_52_method_21_code
theorem d0 : decode yB 0 = .ok (.iconst 0, 1) := by decide +kernel
theorem d1 : decode yB 1 = .ok (.istore 5, 2) := by decide +kernel
theorem d3 : decode yB 3 = .ok (.iload 5, 2) := by decide +kernel
theorem d5 : decode yB 5 = .ok (.iload 4, 2) := by decide +kernel
theorem d7 : decode yB 7 = .ok (.if_icmp (.ge) 37, 3) := by decide +kernel
theorem d10 : decode yB 10 = .ok (.aload_n 0, 1) := by decide +kernel
theorem d11 : decode yB 11 = .ok (.iload_n 1, 1) := by decide +kernel
theorem d12 : decode yB 12 = .ok (.caload, 1) := by decide +kernel
theorem d13 : decode yB 13 = .ok (.istore 6, 2) := by decide +kernel
theorem d15 : decode yB 15 = .ok (.iload 6, 2) := by decide +kernel
theorem d17 : decode yB 17 = .ok (.sipush 255, 3) := by decide +kernel
theorem d20 : decode yB 20 = .ok (.if_icmp (.le) 6, 3) := by decide +kernel
theorem d26 : decode yB 26 = .ok (.aload_n 2, 1) := by decide +kernel
theorem d27 : decode yB 27 = .ok (.iload_n 3, 1) := by decide +kernel
theorem d28 : decode yB 28 = .ok (.iload 6, 2) := by decide +kernel
theorem d30 : decode yB 30 = .ok (.i2b, 1) := by decide +kernel
theorem d31 : decode yB 31 = .ok (.bastore, 1) := by decide +kernel
theorem d32 : decode yB 32 = .ok (.iinc 1 1, 3) := by decide +kernel
theorem d35 : decode yB 35 = .ok (.iinc 3 1, 3) := by decide +kernel
theorem d38 : decode yB 38 = .ok (.iinc 5 1, 3) := by decide +kernel
theorem d41 : decode yB 41 = .ok (.goto (-38), 3) := by decide +kernel
theorem d44 : decode yB 44 = .ok (.iload 4, 2) := by decide +kernel
theorem d46 : decode yB 46 = .ok (.ireturn, 1) := by decide +kernel
def site : List Cond := []
def tab : Cond := tabOf yN yB 7 (some .int) site
def P (b : Addr) (A : Cell) (d : Addr) (B : Cell) (o q len : Nat) (args : Array Value) (s : State) : Prop := args = #[.ref b, .int (Int32.ofNat o), .ref d, .int (Int32.ofNat q), .int (Int32.ofNat len)] ∧ Ch b A s ∧ Arr .byte d B s ∧ b ≠ d ∧ o + len ≤ A.slots.size ∧ q + len ≤ B.slots.size ∧ ∀ i, i < len → ¬ 255 < cv A (o + i)
def E (b : Addr) (A : Cell) (d : Addr) (B : Cell) (o q len : Nat) (r : Option Value) (s u : State) : Prop := r = some (.int (Int32.ofNat len)) ∧ ∃ B', Put d B' s u ∧ Laid B B' q (q + len) (fun j => Value.int (lo8 (cv A (o + (j - q)))))
/-- no char of the range above 255: len; the places written hold each char's low byte -/
theorem law (l : Launch) (b : Addr) (A : Cell) (d : Addr) (B : Cell) (o q len : Nat) : Law l yN 5 5 0 0 yB 7 (some .int) site (P b A d B o q len) (E b A d B o q len) (copyLocs d q len) 0 0 := by
  refine Law.of_walk (plainFor_of_name (by decide +kernel)) (by decide +kernel) (by decide +kernel) (by decide) (fun _ _ h => by rw [h.1]; rfl) (fun _ U U' hal hh h => ⟨h.1, h.2.1.mv hal hh, h.2.2.1.mv hal hh, h.2.2.2⟩) (fun r U U' V V' h1 hal h2 h => ⟨h.1, h.2.elim fun B' q => ⟨B', q.1.mv h1 h2, q.2⟩⟩) ?_
  intro p e s m args below meth c s₁ X0 hexec hbytes hml hret hlk hnm hown hh0 W hP
  obtain ⟨rfl, hA, hB, hne, l1, l2, hp⟩ := hP
  have c1 : Steps p.tables e below (s₁.setTop (entryFrame m #[.ref b, .int (Int32.ofNat o), .ref d, .int (Int32.ofNat q), .int (Int32.ofNat len)] 7)) (s₁.setTop (mkF m 0 #[.val (.ref b), .val (.int (Int32.ofNat o)), .val (.ref d), .val (.int (Int32.ofNat q)), .val (.int (Int32.ofNat len)), .unset, .unset] [])) := entry rfl
  have hA0 := hA.1.mv X0.warmed.alike hh0
  have hB0 := hB.mv X0.warmed.alike hh0
  have a31 := hA.1.2.2.2
  have c2 : Steps p.tables e below (s₁.setTop (entryFrame m #[.ref b, .int (Int32.ofNat o), .ref d, .int (Int32.ofNat q), .int (Int32.ofNat len)] 7)) (s₁.setTop (mkF m 3 #[.val (.ref b), .val (.int (Int32.ofNat o)), .val (.ref d), .val (.int (Int32.ofNat q)), .val (.int (Int32.ofNat len)), .val (.int 0), .unset] [])) := c1.trans (by
    refine iconstV X0.here hexec rfl 0 (hb hbytes d0) (by decide) ?_
    refine XS.istore X0.here hexec rfl (hb hbytes d1) rfl rfl ?_
    exact Steps.refl _)
  have loop : ∀ (r i : Nat), i + r = len → ∀ (z : Slot), (z = .unset ∨ ∃ w, z = .val w ∧ w.category = 1) → ∀ (Tl : State) (Bk : Cell), Stand p l e { frames := 0, locals := 0, cells := 0, slots := 0 } s m #[.ref b, .int (Int32.ofNat o), .ref d, .int (Int32.ofNat q), .int (Int32.ofNat len)] below meth c Tl ([] ++ copyLocs d q i) 0 0 → Put d Bk s₁ Tl → Laid B Bk q (q + i) (fun j => Value.int (lo8 (cv A (o + (j - q))))) →
      Steps p.tables e below (s₁.setTop (entryFrame m #[.ref b, .int (Int32.ofNat o), .ref d, .int (Int32.ofNat q), .int (Int32.ofNat len)] 7)) (Tl.setTop (mkF m 3 #[.val (.ref b), .val (.int (Int32.ofNat (o + i))), .val (.ref d), .val (.int (Int32.ofNat (q + i))), .val (.int (Int32.ofNat len)), .val (.int (Int32.ofNat i)), z] [])) → ∃ (T' : State) (B' : Cell) (z' : Slot), Stand p l e { frames := 0, locals := 0, cells := 0, slots := 0 } s m #[.ref b, .int (Int32.ofNat o), .ref d, .int (Int32.ofNat q), .int (Int32.ofNat len)] below meth c T' ([] ++ copyLocs d q len) 0 0 ∧ Put d B' s₁ T' ∧ Laid B B' q (q + len) (fun j => Value.int (lo8 (cv A (o + (j - q))))) ∧
      Steps p.tables e below (s₁.setTop (entryFrame m #[.ref b, .int (Int32.ofNat o), .ref d, .int (Int32.ofNat q), .int (Int32.ofNat len)] 7)) (T'.setTop (mkF m 3 #[.val (.ref b), .val (.int (Int32.ofNat (o + len))), .val (.ref d), .val (.int (Int32.ofNat (q + len))), .val (.int (Int32.ofNat len)), .val (.int (Int32.ofNat len)), z'] [])) := by
    intro r
    induction r with
    | zero =>
      intro i hi z hz Tl Bk Xl pl fl cl
      have hil : i = len := by omega
      rw [hil] at Xl fl cl
      exact ⟨Tl, Bk, z, Xl, pl, fl, cl⟩
    | succ r ih =>
      intro i hi z hz Tl Bk Xl pl fl cl
      have all := X0.warmed.alike.symm.trans Xl.warmed.alike
      have hAl := hA0.keep all (pl.other hne hA0.1)
      have hBk := hB0.like all pl.1 fl.1 fl.2.1 fl.2.2.1
      have hlt : q + i < Bk.slots.size := by rw [fl.2.2.1]; omega
      have c3 : Steps p.tables e below (s₁.setTop (entryFrame m #[.ref b, .int (Int32.ofNat o), .ref d, .int (Int32.ofNat q), .int (Int32.ofNat len)] 7)) (Tl.setTop (mkF m 12 #[.val (.ref b), .val (.int (Int32.ofNat (o + i))), .val (.ref d), .val (.int (Int32.ofNat (q + i))), .val (.int (Int32.ofNat len)), .val (.int (Int32.ofNat i)), z] [.int (Int32.ofNat (o + i)), .ref b])) := cl.trans (by
        refine XS.iload Xl.here hexec rfl (hb hbytes d3) rfl ?_
        refine XS.iload Xl.here hexec rfl (hb hbytes d5) rfl ?_
        refine XS.icmpNo Xl.here hexec rfl (hb hbytes d7) rfl (ii_ge_f (lt32 (by omega) (by omega))) ?_
        refine XS.aloadN Xl.here hexec rfl (hb hbytes d10) rfl rfl ?_
        refine XS.iloadN Xl.here hexec rfl (hb hbytes d11) rfl ?_
        exact Steps.refl _)
      have c4 : Steps p.tables e below (s₁.setTop (entryFrame m #[.ref b, .int (Int32.ofNat o), .ref d, .int (Int32.ofNat q), .int (Int32.ofNat len)] 7)) (Tl.setTop (mkF m 13 #[.val (.ref b), .val (.int (Int32.ofNat (o + i))), .val (.ref d), .val (.int (Int32.ofNat (q + i))), .val (.int (Int32.ofNat len)), .val (.int (Int32.ofNat i)), z] [.int (cv A (o + i))])) := c3.trans (by
        refine Xl.aget hexec hAl rfl (hA.get (i := o + i) (by omega)) rfl rfl (hb hbytes d12) ?_
        exact Steps.refl _)
      have c5 : Steps p.tables e below (s₁.setTop (entryFrame m #[.ref b, .int (Int32.ofNat o), .ref d, .int (Int32.ofNat q), .int (Int32.ofNat len)] 7)) (Tl.setTop (mkF m 15 #[.val (.ref b), .val (.int (Int32.ofNat (o + i))), .val (.ref d), .val (.int (Int32.ofNat (q + i))), .val (.int (Int32.ofNat len)), .val (.int (Int32.ofNat i)), .val (.int (cv A (o + i)))] [])) := c4.trans (by
        refine XS.istoreS Xl.here hexec rfl (hb hbytes d13) rfl rfl hz ?_
        exact Steps.refl _)
      have c6 : Steps p.tables e below (s₁.setTop (entryFrame m #[.ref b, .int (Int32.ofNat o), .ref d, .int (Int32.ofNat q), .int (Int32.ofNat len)] 7)) (Tl.setTop (mkF m 31 #[.val (.ref b), .val (.int (Int32.ofNat (o + i))), .val (.ref d), .val (.int (Int32.ofNat (q + i))), .val (.int (Int32.ofNat len)), .val (.int (Int32.ofNat i)), .val (.int (cv A (o + i)))] [.int (lo8 (cv A (o + i))), .int (Int32.ofNat (q + i)), .ref d])) := c5.trans (by
        refine XS.iload Xl.here hexec rfl (hb hbytes d15) rfl ?_
        refine sipushV Xl.here hexec rfl 255 (hb hbytes d17) (by decide) ?_
        refine XS.icmpYes Xl.here hexec rfl (pc0 := 20) rfl (hb hbytes d20) rfl (ii_le_t (hp i (by omega))) (by decide) rfl ?_
        refine XS.aloadN Xl.here hexec rfl (hb hbytes d26) rfl rfl ?_
        refine XS.iloadN Xl.here hexec rfl (hb hbytes d27) rfl ?_
        refine XS.iload Xl.here hexec rfl (hb hbytes d28) rfl ?_
        refine i2b Xl.here hexec rfl (hb hbytes d30) rfl ?_
        exact Steps.refl _)
      obtain ⟨T7, X7, p7, st7⟩ := Xl.aput hexec hBk rfl hlt rfl (fits_lo8 (cv A (o + i))) (g := (mkF m 31 #[.val (.ref b), .val (.int (Int32.ofNat (o + i))), .val (.ref d), .val (.int (Int32.ofNat (q + i))), .val (.int (Int32.ofNat len)), .val (.int (Int32.ofNat i)), .val (.int (cv A (o + i)))] [.int (lo8 (cv A (o + i))), .int (Int32.ofNat (q + i)), .ref d])) rfl (rest := []) rfl (hb hbytes d31)
      have c8 : Steps p.tables e below (s₁.setTop (entryFrame m #[.ref b, .int (Int32.ofNat o), .ref d, .int (Int32.ofNat q), .int (Int32.ofNat len)] 7)) (T7.setTop (mkF m 32 #[.val (.ref b), .val (.int (Int32.ofNat (o + i))), .val (.ref d), .val (.int (Int32.ofNat (q + i))), .val (.int (Int32.ofNat len)), .val (.int (Int32.ofNat i)), .val (.int (cv A (o + i)))] [])) := c6.trans (st7 _ (Steps.refl _))
      have c9 : Steps p.tables e below (s₁.setTop (entryFrame m #[.ref b, .int (Int32.ofNat o), .ref d, .int (Int32.ofNat q), .int (Int32.ofNat len)] 7)) (T7.setTop (mkF m 3 #[.val (.ref b), .val (.int (Int32.ofNat (o + i) + 1)), .val (.ref d), .val (.int (Int32.ofNat (q + i) + 1)), .val (.int (Int32.ofNat len)), .val (.int (Int32.ofNat i + 1)), .val (.int (cv A (o + i)))] [])) := c8.trans (by
        refine iincV X7.here hexec rfl 1 (hb hbytes d32) (by decide) rfl rfl ?_
        refine iincV X7.here hexec rfl 1 (hb hbytes d35) (by decide) rfl rfl ?_
        refine iincV X7.here hexec rfl 1 (hb hbytes d38) (by decide) rfl rfl ?_
        refine XS.goto X7.here hexec rfl (pc0 := 41) rfl (hb hbytes d41) (by decide) rfl ?_
        exact Steps.refl _)
      have c10 : Steps p.tables e below (s₁.setTop (entryFrame m #[.ref b, .int (Int32.ofNat o), .ref d, .int (Int32.ofNat q), .int (Int32.ofNat len)] 7)) (T7.setTop (mkF m 3 #[.val (.ref b), .val (.int (Int32.ofNat (o + (i + 1)))), .val (.ref d), .val (.int (Int32.ofNat (q + (i + 1)))), .val (.int (Int32.ofNat len)), .val (.int (Int32.ofNat (i + 1))), .val (.int (cv A (o + i)))] [])) := by
        have := c9
        rw [succ32, succ32, succ32] at this
        exact this
      exact ih (i + 1) (by omega) _ (Or.inr ⟨_, rfl, rfl⟩) T7 _ (by rw [copyLocs_step, ← List.append_assoc]; exact X7) (pl.trans p7) (fl.step (by omega) hlt (by simp)) c10
  obtain ⟨T9, B9, z9, X9, p9, f9, g9⟩ := loop len 0 (by omega) .unset (Or.inl rfl) s₁ B (by simpa [copyLocs] using X0) ⟨hB0.1, fun _ _ => rfl, rfl⟩ (Laid.zero _ _ _) c2
  have c11 : Steps p.tables e below (s₁.setTop (entryFrame m #[.ref b, .int (Int32.ofNat o), .ref d, .int (Int32.ofNat q), .int (Int32.ofNat len)] 7)) (T9.setTop (mkF m 46 #[.val (.ref b), .val (.int (Int32.ofNat (o + len))), .val (.ref d), .val (.int (Int32.ofNat (q + len))), .val (.int (Int32.ofNat len)), .val (.int (Int32.ofNat len)), z9] [.int (Int32.ofNat len)])) := g9.trans (by
    refine XS.iload X9.here hexec rfl (hb hbytes d3) rfl ?_
    refine XS.iload X9.here hexec rfl (hb hbytes d5) rfl ?_
    refine XS.icmpYes X9.here hexec rfl (pc0 := 7) rfl (hb hbytes d7) rfl (ii_ge_t (nlt32 (by omega) (Nat.le_refl _))) (by decide) rfl ?_
    refine XS.iload X9.here hexec rfl (hb hbytes d44) rfl ?_
    exact Steps.refl _)
  exact ⟨T9, some (.int (Int32.ofNat len)), _, _, _, X9, by simp, rfl, rfl, (fun h => by cases h), ⟨rfl, B9, p9.from hh0, f9⟩, fun fs hl => c11.trans (X9.ireturnOut hexec hret rfl (Or.inl rfl) (hb hbytes d46) hl)⟩
end Cmp5
namespace Cmp3
def yN : MethodName := ⟨"java/lang/StringUTF16", "compress", "([CII)[B"⟩
abbrev yB : ByteArray := jdk_52_method_16_code
theorem d0 : decode yB 0 = .ok (.iload_n 2, 1) := by decide +kernel
theorem d1 : decode yB 1 = .ok (.newarray .byte, 2) := by decide +kernel
theorem d3 : decode yB 3 = .ok (.astore_n 3, 1) := by decide +kernel
theorem d4 : decode yB 4 = .ok (.aload_n 0, 1) := by decide +kernel
theorem d5 : decode yB 5 = .ok (.iload_n 1, 1) := by decide +kernel
theorem d6 : decode yB 6 = .ok (.aload_n 3, 1) := by decide +kernel
theorem d7 : decode yB 7 = .ok (.iconst 0, 1) := by decide +kernel
theorem d8 : decode yB 8 = .ok (.iload_n 2, 1) := by decide +kernel
theorem d9 : decode yB 9 = .ok (.invokestatic 115, 3) := by decide +kernel
theorem d12 : decode yB 12 = .ok (.istore 4, 2) := by decide +kernel
theorem d14 : decode yB 14 = .ok (.iload 4, 2) := by decide +kernel
theorem d16 : decode yB 16 = .ok (.iload_n 2, 1) := by decide +kernel
theorem d17 : decode yB 17 = .ok (.if_icmp (.eq) 40, 3) := by decide +kernel
theorem d57 : decode yB 57 = .ok (.aload_n 3, 1) := by decide +kernel
theorem d58 : decode yB 58 = .ok (.areturn, 1) := by decide +kernel
def site : List Cond := [.arrayClass .byte, Cmp5.tab] ++ staticW U16 115 Cmp5.yN
def tab : Cond := tabOf yN yB 6 (some (.array .byte)) site
def P (b : Addr) (A : Cell) (o len : Nat) (args : Array Value) (s : State) : Prop := args = #[.ref b, .int (Int32.ofNat o), .int (Int32.ofNat len)] ∧ Ch b A s ∧ o + len ≤ A.slots.size ∧ len ≤ 536870912 ∧ ∀ i, i < len → ¬ 255 < cv A (o + i)
def E (b : Addr) (A : Cell) (o len : Nat) (r : Option Value) (s u : State) : Prop := NewArr .byte "[B" len (fun j => .int (lo8 (cv A (o + j)))) r s u ∧ u.heap.size = s.heap.size + 1
/-- no char of the range above 255: a new byte[] of their low bytes -/
theorem law (l : Launch) (b : Addr) (A : Cell) (o len : Nat) : Law l yN 3 3 1 18 yB 6 (some (.array .byte)) site (P b A o len) (E b A o len) [] 1 len := by
  refine Law.of_walk (plainFor_of_name (by decide +kernel)) (by decide +kernel) (by decide +kernel) (by decide) (fun _ _ h => by rw [h.1]; rfl) (fun _ U U' hal hh h => ⟨h.1, h.2.1.mv hal hh, h.2.2⟩) (fun r U U' V V' h1 hal h2 h => ⟨NewArr.mv r U U' V V' h1 hal h2 h.1, by rw [h1, h2]; exact h.2⟩) ?_
  intro p e s m args below meth c s₁ X0 hexec hbytes hml hret hlk hnm hown hh0 W hP
  obtain ⟨rfl, hA, l1, l2, hp⟩ := hP
  have a31 := hA.1.2.2.2
  have c1 : Steps p.tables e below (s₁.setTop (entryFrame m #[.ref b, .int (Int32.ofNat o), .int (Int32.ofNat len)] 6)) (s₁.setTop (mkF m 0 #[.val (.ref b), .val (.int (Int32.ofNat o)), .val (.int (Int32.ofNat len)), .unset, .unset, .unset] [])) := entry rfl
  have c2 : Steps p.tables e below (s₁.setTop (entryFrame m #[.ref b, .int (Int32.ofNat o), .int (Int32.ofNat len)] 6)) (s₁.setTop (mkF m 1 #[.val (.ref b), .val (.int (Int32.ofNat o)), .val (.int (Int32.ofNat len)), .unset, .unset, .unset] [.int (Int32.ofNat len)])) := c1.trans (by
    refine XS.iloadN X0.here hexec rfl (hb hbytes d0) rfl ?_
    exact Steps.refl _)
  obtain ⟨T3, B3, X3, ba3, bs3, bv3, bh3, bf3, st3⟩ := X0.anew hexec (atype := .byte) (wk W (.arrayClass .byte)) rfl (by show len * 1 ≤ _; omega) (by omega) (g := (mkF m 1 #[.val (.ref b), .val (.int (Int32.ofNat o)), .val (.int (Int32.ofNat len)), .unset, .unset, .unset] [.int (Int32.ofNat len)])) rfl (hb hbytes d1) (rest := []) rfl (Nat.le_refl _) (by show 0 + len ≤ len; omega)
  rw [hh0] at ba3 st3
  have kp3 : XT.Kept s T3 := (XT.Kept.of_eq hh0).push bh3
  have hA3 := hA.keep X3.warmed.alike (kp3 _ _ hA.1.1)
  have hne : b ≠ s.heap.size := hA.1.ne
  have c4 : Steps p.tables e below (s₁.setTop (entryFrame m #[.ref b, .int (Int32.ofNat o), .int (Int32.ofNat len)] 6)) (T3.setTop (mkF m 3 #[.val (.ref b), .val (.int (Int32.ofNat o)), .val (.int (Int32.ofNat len)), .unset, .unset, .unset] [.ref s.heap.size])) := c2.trans (st3 _ (Steps.refl _))
  have c5 : Steps p.tables e below (s₁.setTop (entryFrame m #[.ref b, .int (Int32.ofNat o), .int (Int32.ofNat len)] 6)) (T3.setTop (mkF m 9 #[.val (.ref b), .val (.int (Int32.ofNat o)), .val (.int (Int32.ofNat len)), .val (.ref s.heap.size), .unset, .unset] [.int (Int32.ofNat len), .int 0, .ref s.heap.size, .int (Int32.ofNat o), .ref b])) := c4.trans (by
    refine XS.astoreN X3.here hexec rfl (hb hbytes d3) rfl rfl rfl ?_
    refine XS.aloadN X3.here hexec rfl (hb hbytes d4) rfl rfl ?_
    refine XS.iloadN X3.here hexec rfl (hb hbytes d5) rfl ?_
    refine XS.aloadN X3.here hexec rfl (hb hbytes d6) rfl rfl ?_
    refine iconstV X3.here hexec rfl 0 (hb hbytes d7) (by decide) ?_
    refine XS.iloadN X3.here hexec rfl (hb hbytes d8) rfl ?_
    exact Steps.refl _)
  obtain ⟨v6, T6, X6, E6, g6⟩ := X3.callS hexec (Cmp5.law l b A s.heap.size B3 o 0 len) hown (wks W (staticW U16 115 Cmp5.yN)) (wk W Cmp5.tab) (W := 0) (Nat.le_of_ble_eq_true rfl) (Nat.le_of_ble_eq_true rfl) (Nat.le_refl _) (by show 0 + len + 0 ≤ len; omega) (g := (mkF m 9 #[.val (.ref b), .val (.int (Int32.ofNat o)), .val (.int (Int32.ofNat len)), .val (.ref s.heap.size), .unset, .unset] [.int (Int32.ofNat len), .int (Int32.ofNat 0), .ref s.heap.size, .int (Int32.ofNat o), .ref b])) rfl (by rw [hml]; rfl) c5 (argsL := [.ref b, .int (Int32.ofNat o), .ref s.heap.size, .int (Int32.ofNat 0), .int (Int32.ofNat len)]) (rest := []) rfl rfl (by show 2 * 0 + 0 ≤ _; decide) (hb hbytes d9) (⟨rfl, hA3, ba3, hne, l1, by rw [bs3]; simp, hp⟩)
  obtain ⟨rfl, B6, p6, f6⟩ := E6
  have c7 : Steps p.tables e below (s₁.setTop (entryFrame m #[.ref b, .int (Int32.ofNat o), .int (Int32.ofNat len)] 6)) (T6.setTop (mkF m 12 #[.val (.ref b), .val (.int (Int32.ofNat o)), .val (.int (Int32.ofNat len)), .val (.ref s.heap.size), .unset, .unset] [.int (Int32.ofNat len)])) := g6
  have c8 : Steps p.tables e below (s₁.setTop (entryFrame m #[.ref b, .int (Int32.ofNat o), .int (Int32.ofNat len)] 6)) (T6.setTop (mkF m 58 #[.val (.ref b), .val (.int (Int32.ofNat o)), .val (.int (Int32.ofNat len)), .val (.ref s.heap.size), .val (.int (Int32.ofNat len)), .unset] [.ref s.heap.size])) := c7.trans (by
    refine XS.istore X6.here hexec rfl (hb hbytes d12) rfl rfl ?_
    refine XS.iload X6.here hexec rfl (hb hbytes d14) rfl ?_
    refine XS.iloadN X6.here hexec rfl (hb hbytes d16) rfl ?_
    refine XS.icmpYes X6.here hexec rfl (pc0 := 17) rfl (hb hbytes d17) rfl (ii_eq_t rfl) (by decide) rfl ?_
    refine XS.aloadN X6.here hexec rfl (hb hbytes d57) rfl rfl ?_
    exact Steps.refl _)
  have X8 := X6.wide (L' := []) (cells' := 1) (slots' := len) (fun x hx hlt => by
    simp only [List.nil_append, copyLocs, List.mem_map, List.mem_range] at hx
    obtain ⟨i, -, rfl⟩ := hx
    exact absurd hlt (Nat.lt_irrefl _)) (Nat.le_refl _) (by omega)
  exact ⟨T6, some (.ref s.heap.size), _, _, _, X8, rfl, rfl, rfl, (fun h => by cases h), ⟨⟨rfl, B6, ba3.like (X3.warmed.alike.symm.trans X6.warmed.alike) p6.1 f6.1 f6.2.1 f6.2.2.1, f6.2.1.trans bv3, by rw [X6.warmed.alike.findClass, f6.1]; exact bf3, by rw [f6.2.2.1, bs3]; simp, fun j hj => by rw [f6.2.2.2 j, if_pos (by omega)]; rfl, kp3.put p6 (Nat.le_refl _)⟩, by rw [p6.2.2, bh3, hh0]; simp⟩, fun fs hl => c8.trans (X8.areturnOut hexec rfl hret rfl (hb hbytes d58) hl)⟩
end Cmp3
namespace CodL
def yN : MethodName := ⟨"java/lang/StringUTF16", "coderFromArrayLen", "([BI)B"⟩
abbrev yB : ByteArray := jdk_52_method_15_code
theorem d0 : decode yB 0 = .ok (.iload_n 1, 1) := by decide +kernel
theorem d1 : decode yB 1 = .ok (.aload_n 0, 1) := by decide +kernel
theorem d2 : decode yB 2 = .ok (.arraylength, 1) := by decide +kernel
theorem d3 : decode yB 3 = .ok (.isub, 1) := by decide +kernel
theorem d4 : decode yB 4 = .ok (.bipush 31, 2) := by decide +kernel
theorem d6 : decode yB 6 = .ok (.iushr, 1) := by decide +kernel
theorem d7 : decode yB 7 = .ok (.i2b, 1) := by decide +kernel
theorem d8 : decode yB 8 = .ok (.ireturn, 1) := by decide +kernel
def site : List Cond := []
def tab : Cond := tabOf yN yB 2 (some .byte) site
def P (d : Addr) (B : Cell) (args : Array Value) (s : State) : Prop := args = #[.ref d, .int (Int32.ofNat B.slots.size)] ∧ Arr .byte d B s
def E (r : Option Value) (s u : State) : Prop := XT.PureE (some (.int 0)) r s u
/-- an array as long as the number of chars: LATIN1 -/
theorem law (l : Launch) (d : Addr) (B : Cell) : Law l yN 2 2 0 0 yB 2 (some .byte) site (P d B) E [] 0 0 := by
  refine Law.of_walk (plainFor_of_name (by decide +kernel)) (by decide +kernel) (by decide +kernel) (by decide) (fun _ _ h => by rw [h.1]; rfl) (fun _ U U' hal hh h => ⟨h.1, h.2.mv hal hh⟩) (fun r U U' V V' h1 hal h2 h => XT.PureE.mv r U U' V V' h1 hal h2 h) ?_
  intro p e s m args below meth c s₁ X0 hexec hbytes hml hret hlk hnm hown hh0 W hP
  obtain ⟨rfl, hB⟩ := hP
  have hB0 := hB.mv X0.warmed.alike hh0
  have c1 : Steps p.tables e below (s₁.setTop (entryFrame m #[.ref d, .int (Int32.ofNat B.slots.size)] 2)) (s₁.setTop (mkF m 0 #[.val (.ref d), .val (.int (Int32.ofNat B.slots.size))] [])) := entry rfl
  have c2 : Steps p.tables e below (s₁.setTop (entryFrame m #[.ref d, .int (Int32.ofNat B.slots.size)] 2)) (s₁.setTop (mkF m 2 #[.val (.ref d), .val (.int (Int32.ofNat B.slots.size))] [.ref d, .int (Int32.ofNat B.slots.size)])) := c1.trans (by
    refine XS.iloadN X0.here hexec rfl (hb hbytes d0) rfl ?_
    refine XS.aloadN X0.here hexec rfl (hb hbytes d1) rfl rfl ?_
    exact Steps.refl _)
  have c3 : Steps p.tables e below (s₁.setTop (entryFrame m #[.ref d, .int (Int32.ofNat B.slots.size)] 2)) (s₁.setTop (mkF m 8 #[.val (.ref d), .val (.int (Int32.ofNat B.slots.size))] [.int (lo8 (ushr (Int32.ofNat B.slots.size - Int32.ofNat B.slots.size) 31))])) := c2.trans (by
    refine X0.alen hexec hB0 rfl rfl (hb hbytes d2) ?_
    refine XS.isub X0.here hexec rfl (hb hbytes d3) rfl ?_
    refine bipushV X0.here hexec rfl 31 (hb hbytes d4) (by decide) ?_
    refine iushr X0.here hexec rfl (hb hbytes d6) rfl ?_
    refine i2b X0.here hexec rfl (hb hbytes d7) rfl ?_
    exact Steps.refl _)
  have e0 : lo8 (ushr (Int32.ofNat B.slots.size - Int32.ofNat B.slots.size) 31) = 0 := by rw [Int32.sub_self]; decide
  rw [e0] at c3
  exact ⟨s₁, some (.int 0), _, _, _, X0, rfl, rfl, rfl, (fun h => by cases h), ⟨rfl, hh0⟩, fun fs hl => c3.trans (X0.ireturnOut hexec hret rfl (Or.inr (Or.inr (Or.inl rfl))) (hb hbytes d8) hl)⟩
end CodL
/-- the String at a is Latin-1 over a new byte[] (the heap's one new cell): the low bytes of the len chars of A from o on; every cell but a is kept -/
def Got (a : Addr) (D : Cell) (fV fC : Field) (A : Cell) (o len : Nat) (r : Option Value) (s u : State) : Prop := r = none ∧ ∃ D' V : Cell, Blank "java/lang/String" a D' u ∧ Same D D' [fV.slot, fC.slot] ∧ D'.slots[fV.slot]? = some (.ref s.heap.size) ∧ D'.slots[fC.slot]? = some (.int 0) ∧ Arr .byte s.heap.size V u ∧ V.vm = .none ∧ u.vm.findClass "[B" = some V.cls ∧ V.slots.size = len ∧ (∀ j, j < len → V.slots[j]? = some (.int (lo8 (cv A (o + j))))) ∧ (∀ (y : Addr) (c : Cell), y ≠ a → s.heap[y]? = some c → u.heap[y]? = some c) ∧ u.heap.size = s.heap.size + 1
theorem Got.mv {a : Addr} {D A : Cell} {fV fC : Field} {o len : Nat} : ∀ r (U U' V V' : State), U'.heap = U.heap → V.vm.Alike V'.vm → V'.heap = V.heap → Got a D fV fC A o len r U V → Got a D fV fC A o len r U' V' :=
  fun r U U' V V' h1 hal h2 ⟨e0, D', X, a1, a2, a3, a4, a5, a6, a7, a8, a9, a10, a11⟩ => ⟨e0, D', X, a1.mv hal h2, a2, by rw [h1]; exact a3, a4, by rw [h1]; exact a5.mv hal h2, a6, by rw [hal.findClass]; exact a7, a8, a9, by rw [h1, h2]; exact a10, by rw [h1, h2]; exact a11⟩
namespace New4
def yN : MethodName := ⟨"java/lang/String", "<init>", "([CIILjava/lang/Void;)V"⟩
abbrev yB : ByteArray := jdk_42_method_149_code
theorem d0 : decode yB 0 = .ok (.aload_n 0, 1) := by decide +kernel
theorem d1 : decode yB 1 = .ok (.invokespecial 1, 3) := by decide +kernel
theorem d4 : decode yB 4 = .ok (.iload_n 3, 1) := by decide +kernel
theorem d5 : decode yB 5 = .ok (.ifCond (.ne) 22, 3) := by decide +kernel
theorem d27 : decode yB 27 = .ok (.getstatic 38, 3) := by decide +kernel
theorem d30 : decode yB 30 = .ok (.ifCond (.eq) 28, 3) := by decide +kernel
theorem d33 : decode yB 33 = .ok (.aload_n 1, 1) := by decide +kernel
theorem d34 : decode yB 34 = .ok (.iload_n 2, 1) := by decide +kernel
theorem d35 : decode yB 35 = .ok (.iload_n 3, 1) := by decide +kernel
theorem d36 : decode yB 36 = .ok (.invokestatic 177, 3) := by decide +kernel
theorem d39 : decode yB 39 = .ok (.astore 5, 2) := by decide +kernel
theorem d41 : decode yB 41 = .ok (.aload_n 0, 1) := by decide +kernel
theorem d42 : decode yB 42 = .ok (.aload 5, 2) := by decide +kernel
theorem d44 : decode yB 44 = .ok (.iload_n 3, 1) := by decide +kernel
theorem d45 : decode yB 45 = .ok (.invokestatic 47, 3) := by decide +kernel
theorem d48 : decode yB 48 = .ok (.putfield 15, 3) := by decide +kernel
theorem d51 : decode yB 51 = .ok (.aload_n 0, 1) := by decide +kernel
theorem d52 : decode yB 52 = .ok (.aload 5, 2) := by decide +kernel
theorem d54 : decode yB 54 = .ok (.putfield 9, 3) := by decide +kernel
theorem d57 : decode yB 57 = .ok (.return_, 1) := by decide +kernel
def site : List Cond := [.fieldLink "java/lang/String" 38 "java/lang/String" "COMPACT_STRINGS" "Z", Cmp3.tab, CodL.tab, .laysFinal "java/lang/String" "java/lang/String" "value" "[B", .fieldLink "java/lang/String" 9 "java/lang/String" "value" "[B", .laysFinal "java/lang/String" "java/lang/String" "coder" "B", .fieldLink "java/lang/String" 15 "java/lang/String" "coder" "B"] ++ objW "java/lang/String" 1 ++ staticW "java/lang/String" 177 Cmp3.yN ++ staticW "java/lang/String" 47 CodL.yN
def tab : Cond := tabOf yN yB 6 none site
def P (a : Addr) (D : Cell) (fV fC : Field) (b : Addr) (A : Cell) (z : Int32) (o len : Nat) (args : Array Value) (s : State) : Prop := args = #[.ref a, .ref b, .int (Int32.ofNat o), .int (Int32.ofNat len), .null] ∧ Blank "java/lang/String" a D s ∧ Found "java/lang/String" "value" "[B" fV s ∧ Found "java/lang/String" "coder" "B" fC s ∧ Ch b A s ∧ StaticIs s "java/lang/String" "COMPACT_STRINGS" "Z" (.int z) ∧ ¬ z = 0 ∧ 0 < len ∧ o + len ≤ A.slots.size ∧ len ≤ 536870912 ∧ ∀ i, i < len → ¬ 255 < cv A (o + i)
def E (a : Addr) (D : Cell) (fV fC : Field) (A : Cell) (o len : Nat) (r : Option Value) (s u : State) : Prop := Got a D fV fC A o len r s u
/-- len > 0, no char of the range above 255: a Latin-1 String of their low bytes -/
theorem law (l : Launch) (a : Addr) (D : Cell) (fV fC : Field) (b : Addr) (A : Cell) (z : Int32) (o len : Nat) : Law l yN 5 4 2 35 yB 6 none site (P a D fV fC b A z o len) (E a D fV fC A o len) [⟨a, fC.slot⟩, ⟨a, fV.slot⟩] 1 len := by
  refine Law.of_walk (plainFor_of_name (by decide +kernel)) (by decide +kernel) (by decide +kernel) (by decide) (fun _ _ h => by rw [h.1]; rfl) (fun _ U U' hal hh h => ⟨h.1, h.2.1.mv hal hh, h.2.2.1.al hal, h.2.2.2.1.al hal, h.2.2.2.2.1.mv hal hh, h.2.2.2.2.2.1.there hal hh, h.2.2.2.2.2.2⟩) (fun r U U' V V' h1 hal h2 h => Got.mv r U U' V V' h1 hal h2 h) ?_
  intro p e s m args below meth c s₁ X0 hexec hbytes hml hret hlk hnm hown hh0 W hP
  obtain ⟨rfl, hB, f1, f2, hA, s1, hz, l0, l1, l2, hp⟩ := hP
  have a31 := hA.1.2.2.2
  have c1 : Steps p.tables e below (s₁.setTop (entryFrame m #[.ref a, .ref b, .int (Int32.ofNat o), .int (Int32.ofNat len), .null] 6)) (s₁.setTop (mkF m 0 #[.val (.ref a), .val (.ref b), .val (.int (Int32.ofNat o)), .val (.int (Int32.ofNat len)), .val .null, .unset] [])) := entry rfl
  have c2 : Steps p.tables e below (s₁.setTop (entryFrame m #[.ref a, .ref b, .int (Int32.ofNat o), .int (Int32.ofNat len), .null] 6)) (s₁.setTop (mkF m 1 #[.val (.ref a), .val (.ref b), .val (.int (Int32.ofNat o)), .val (.int (Int32.ofNat len)), .val .null, .unset] [.ref a])) := c1.trans (by
    refine XS.aloadN X0.here hexec rfl (hb hbytes d0) rfl rfl ?_
    exact Steps.refl _)
  obtain ⟨T3, X3, q3, st3⟩ := X0.oinit hexec hown (wks W (objW "java/lang/String" 1)) (g := (mkF m 1 #[.val (.ref a), .val (.ref b), .val (.int (Int32.ofNat o)), .val (.int (Int32.ofNat len)), .val .null, .unset] [.ref a])) rfl (by rw [hml]; rfl) (rest := []) rfl (hb hbytes d1) (W := 0) (by show 2 * 0 + 0 ≤ _; decide) (Nat.le_of_ble_eq_true rfl) (Nat.le_of_ble_eq_true rfl)
  have hh3 := q3.trans hh0
  have c4 : Steps p.tables e below (s₁.setTop (entryFrame m #[.ref a, .ref b, .int (Int32.ofNat o), .int (Int32.ofNat len), .null] 6)) (T3.setTop (mkF m 27 #[.val (.ref a), .val (.ref b), .val (.int (Int32.ofNat o)), .val (.int (Int32.ofNat len)), .val .null, .unset] [])) := (c2.trans (st3 _ (Steps.refl _))).trans (by
    refine XS.iloadN X3.here hexec rfl (hb hbytes d4) rfl ?_
    refine XS.ifYes X3.here hexec rfl (pc0 := 5) rfl (hb hbytes d5) rfl (i0_ne_t (nz32 (by omega) l0)) (by decide) rfl ?_
    exact Steps.refl _)
  obtain ⟨T5, X5, q5, st5⟩ := X3.sget hexec hown (wk W (.fieldLink "java/lang/String" 38 "java/lang/String" "COMPACT_STRINGS" "Z")) s1 (fun _ _ h => by rw [hh3]; exact h) (g := (mkF m 27 #[.val (.ref a), .val (.ref b), .val (.int (Int32.ofNat o)), .val (.int (Int32.ofNat len)), .val .null, .unset] [])) rfl (hb hbytes d27)
  have hh5 := q5.trans hh3
  have c6 : Steps p.tables e below (s₁.setTop (entryFrame m #[.ref a, .ref b, .int (Int32.ofNat o), .int (Int32.ofNat len), .null] 6)) (T5.setTop (mkF m 30 #[.val (.ref a), .val (.ref b), .val (.int (Int32.ofNat o)), .val (.int (Int32.ofNat len)), .val .null, .unset] [.int z])) := c4.trans (st5 _ (Steps.refl _))
  have c7 : Steps p.tables e below (s₁.setTop (entryFrame m #[.ref a, .ref b, .int (Int32.ofNat o), .int (Int32.ofNat len), .null] 6)) (T5.setTop (mkF m 36 #[.val (.ref a), .val (.ref b), .val (.int (Int32.ofNat o)), .val (.int (Int32.ofNat len)), .val .null, .unset] [.int (Int32.ofNat len), .int (Int32.ofNat o), .ref b])) := c6.trans (by
    refine XS.ifNo X5.here hexec rfl (hb hbytes d30) rfl (i0_eq_f hz) ?_
    refine XS.aloadN X5.here hexec rfl (hb hbytes d33) rfl rfl ?_
    refine XS.iloadN X5.here hexec rfl (hb hbytes d34) rfl ?_
    refine XS.iloadN X5.here hexec rfl (hb hbytes d35) rfl ?_
    exact Steps.refl _)
  obtain ⟨v8, T8, X8, E8, g8⟩ := X5.callS hexec (Cmp3.law l b A o len) hown (wks W (staticW "java/lang/String" 177 Cmp3.yN)) (wk W Cmp3.tab) (W := 0) (Nat.le_of_ble_eq_true rfl) (Nat.le_of_ble_eq_true rfl) (Nat.le_refl _) (by show 0 + len ≤ len; omega) (g := (mkF m 36 #[.val (.ref a), .val (.ref b), .val (.int (Int32.ofNat o)), .val (.int (Int32.ofNat len)), .val .null, .unset] [.int (Int32.ofNat len), .int (Int32.ofNat o), .ref b])) rfl (by rw [hml]; rfl) c7 (argsL := [.ref b, .int (Int32.ofNat o), .int (Int32.ofNat len)]) (rest := []) rfl rfl (by show 2 * 0 + 0 ≤ _; decide) (hb hbytes d36) (⟨rfl, hA.mv X5.warmed.alike hh5, l1, l2, hp⟩)
  obtain ⟨e8, z8⟩ := E8
  obtain ⟨rfl, N, n1, n2, n3, n4, n5, n6⟩ := NewArr.mv _ T5 s _ _ hh5.symm (Vm.Alike.refl _) rfl e8
  rw [hh5] at z8
  have hB1 := hB.keep X8.warmed.alike (n6 _ _ hB.1)
  have hne : s.heap.size ≠ a := (Nat.ne_of_lt (Array.getElem?_eq_some_iff.mp hB.1).1).symm
  have c9 : Steps p.tables e below (s₁.setTop (entryFrame m #[.ref a, .ref b, .int (Int32.ofNat o), .int (Int32.ofNat len), .null] 6)) (T8.setTop (mkF m 39 #[.val (.ref a), .val (.ref b), .val (.int (Int32.ofNat o)), .val (.int (Int32.ofNat len)), .val .null, .unset] [.ref s.heap.size])) := g8
  have c10 : Steps p.tables e below (s₁.setTop (entryFrame m #[.ref a, .ref b, .int (Int32.ofNat o), .int (Int32.ofNat len), .null] 6)) (T8.setTop (mkF m 45 #[.val (.ref a), .val (.ref b), .val (.int (Int32.ofNat o)), .val (.int (Int32.ofNat len)), .val .null, .val (.ref s.heap.size)] [.int (Int32.ofNat N.slots.size), .ref s.heap.size, .ref a])) := by
    have hc : Steps p.tables e below (s₁.setTop (entryFrame m #[.ref a, .ref b, .int (Int32.ofNat o), .int (Int32.ofNat len), .null] 6)) (T8.setTop (mkF m 45 #[.val (.ref a), .val (.ref b), .val (.int (Int32.ofNat o)), .val (.int (Int32.ofNat len)), .val .null, .val (.ref s.heap.size)] [.int (Int32.ofNat len), .ref s.heap.size, .ref a])) := c9.trans (by
      refine XS.astore X8.here hexec rfl (hb hbytes d39) rfl rfl rfl ?_
      refine XS.aloadN X8.here hexec rfl (hb hbytes d41) rfl rfl ?_
      refine XS.aload X8.here hexec rfl (hb hbytes d42) rfl rfl ?_
      refine XS.iloadN X8.here hexec rfl (hb hbytes d44) rfl ?_
      exact Steps.refl _)
    rw [n4]; exact hc
  obtain ⟨v11, T11, X11, E11, g11⟩ := X8.callS hexec (CodL.law l s.heap.size N) hown (wks W (staticW "java/lang/String" 47 CodL.yN)) (wk W CodL.tab) (W := 1) (Nat.le_of_ble_eq_true rfl) (Nat.le_of_ble_eq_true rfl) (Nat.le_refl _) (by show 0 + len + 0 ≤ len; omega) (g := (mkF m 45 #[.val (.ref a), .val (.ref b), .val (.int (Int32.ofNat o)), .val (.int (Int32.ofNat len)), .val .null, .val (.ref s.heap.size)] [.int (Int32.ofNat N.slots.size), .ref s.heap.size, .ref a])) rfl (by rw [hml]; rfl) c10 (argsL := [.ref s.heap.size, .int (Int32.ofNat N.slots.size)]) (rest := [.ref a]) rfl rfl (by show 2 * 0 + (1 + 0) ≤ _; decide) (hb hbytes d45) (⟨rfl, n1⟩)
  obtain ⟨rfl, q11⟩ := E11
  have hB11 := hB1.mv (X8.warmed.alike.symm.trans X11.warmed.alike) q11
  have c12 : Steps p.tables e below (s₁.setTop (entryFrame m #[.ref a, .ref b, .int (Int32.ofNat o), .int (Int32.ofNat len), .null] 6)) (T11.setTop (mkF m 48 #[.val (.ref a), .val (.ref b), .val (.int (Int32.ofNat o)), .val (.int (Int32.ofNat len)), .val .null, .val (.ref s.heap.size)] [.int 0, .ref a])) := g11
  obtain ⟨T13, X13, p13, bl13, sl13, st13⟩ := X11.finit hexec hown (wk W (.fieldLink "java/lang/String" 15 "java/lang/String" "coder" "B")) (Or.inr ⟨_, (wk W (.laysFinal "java/lang/String" "java/lang/String" "coder" "B"))⟩) (Or.inl ⟨rfl, hnm⟩) f2 (Or.inl rfl) hB11 (t := .byte) (by decide +kernel) rfl (g := (mkF m 48 #[.val (.ref a), .val (.ref b), .val (.int (Int32.ofNat o)), .val (.int (Int32.ofNat len)), .val .null, .val (.ref s.heap.size)] [.int 0, .ref a])) rfl (rest := []) rfl (hb hbytes d48)
  have c14 : Steps p.tables e below (s₁.setTop (entryFrame m #[.ref a, .ref b, .int (Int32.ofNat o), .int (Int32.ofNat len), .null] 6)) (T13.setTop (mkF m 54 #[.val (.ref a), .val (.ref b), .val (.int (Int32.ofNat o)), .val (.int (Int32.ofNat len)), .val .null, .val (.ref s.heap.size)] [.ref s.heap.size, .ref a])) := (c12.trans (st13 _ (Steps.refl _))).trans (by
    refine XS.aloadN X13.here hexec rfl (hb hbytes d51) rfl rfl ?_
    refine XS.aload X13.here hexec rfl (hb hbytes d52) rfl rfl ?_
    exact Steps.refl _)
  obtain ⟨T15, X15, p15, bl15, sl15, st15⟩ := X13.finit hexec hown (wk W (.fieldLink "java/lang/String" 9 "java/lang/String" "value" "[B")) (Or.inr ⟨_, (wk W (.laysFinal "java/lang/String" "java/lang/String" "value" "[B"))⟩) (Or.inl ⟨rfl, hnm⟩) f1 (Or.inl rfl) bl13 (t := (.array .byte)) (by decide +kernel) rfl (g := (mkF m 54 #[.val (.ref a), .val (.ref b), .val (.int (Int32.ofNat o)), .val (.int (Int32.ofNat len)), .val .null, .val (.ref s.heap.size)] [.ref s.heap.size, .ref a])) rfl (rest := []) rfl (hb hbytes d54)
  have c16 : Steps p.tables e below (s₁.setTop (entryFrame m #[.ref a, .ref b, .int (Int32.ofNat o), .int (Int32.ofNat len), .null] 6)) (T15.setTop (mkF m 57 #[.val (.ref a), .val (.ref b), .val (.int (Int32.ofNat o)), .val (.int (Int32.ofNat len)), .val .null, .val (.ref s.heap.size)] [])) := c14.trans (st15 _ (Steps.refl _))
  have ap := apart (Or.inr ⟨_, (wk W (.laysFinal "java/lang/String" "java/lang/String" "value" "[B"))⟩) (Or.inr ⟨_, (wk W (.laysFinal "java/lang/String" "java/lang/String" "coder" "B"))⟩) f1 f2 (t₁ := .array .byte) (t₂ := .byte) (by decide +kernel) (by decide +kernel) (by decide)
  have al := X8.warmed.alike.symm.trans X15.warmed.alike
  have n7 : T11.heap[s.heap.size]? = some N := by rw [q11]; exact n1.1
  exact ⟨T15, none, _, _, _, X15, by simp, rfl, by omega, (fun _ => rfl), ⟨rfl, _, N, bl15, ((Same.refl D _).set _ (by simp)).set _ (by simp), sl15, (Cell.slots_setSlot_ne _ ap).trans sl13, n1.keep al (p15.other hne (p13.other hne n7)), n2, by rw [al.findClass]; exact n3, n4, n5, fun y c h1 h2 => p15.other h1 (p13.other h1 (by rw [q11]; exact n6 y c h2)), by rw [p15.2.2, p13.2.2, q11]; exact z8⟩, fun fs hl => c16.trans (X15.returnOut hexec hret (hb hbytes d57) hl)⟩
end New4
namespace New1
def yN : MethodName := ⟨"java/lang/String", "<init>", "([C)V"⟩
abbrev yB : ByteArray := jdk_42_method_3_code
theorem d0 : decode yB 0 = .ok (.aload_n 0, 1) := by decide +kernel
theorem d1 : decode yB 1 = .ok (.aload_n 1, 1) := by decide +kernel
theorem d2 : decode yB 2 = .ok (.iconst 0, 1) := by decide +kernel
theorem d3 : decode yB 3 = .ok (.aload_n 1, 1) := by decide +kernel
theorem d4 : decode yB 4 = .ok (.arraylength, 1) := by decide +kernel
theorem d5 : decode yB 5 = .ok (.aconst_null, 1) := by decide +kernel
theorem d6 : decode yB 6 = .ok (.invokespecial 27, 3) := by decide +kernel
theorem d9 : decode yB 9 = .ok (.return_, 1) := by decide +kernel
def site : List Cond := [New4.tab] ++ initW "java/lang/String" 27 New4.yN
def tab : Cond := tabOf yN yB 2 none site
def P (a : Addr) (D : Cell) (fV fC : Field) (b : Addr) (A : Cell) (z : Int32) (args : Array Value) (s : State) : Prop := args = #[.ref a, .ref b] ∧ Blank "java/lang/String" a D s ∧ Found "java/lang/String" "value" "[B" fV s ∧ Found "java/lang/String" "coder" "B" fC s ∧ Ch b A s ∧ StaticIs s "java/lang/String" "COMPACT_STRINGS" "Z" (.int z) ∧ ¬ z = 0 ∧ 0 < A.slots.size ∧ A.slots.size ≤ 536870912 ∧ ∀ i, i < A.slots.size → ¬ 255 < cv A i
def E (a : Addr) (D : Cell) (fV fC : Field) (A : Cell) (r : Option Value) (s u : State) : Prop := Got a D fV fC A 0 A.slots.size r s u
/-- new String(chars), not empty, no char above 255: a Latin-1 String of their low bytes -/
theorem law (l : Launch) (a : Addr) (D : Cell) (fV fC : Field) (b : Addr) (A : Cell) (z : Int32) : Law l yN 2 1 3 52 yB 2 none site (P a D fV fC b A z) (E a D fV fC A) [⟨a, fC.slot⟩, ⟨a, fV.slot⟩] 1 A.slots.size := by
  refine Law.of_walk (plainFor_of_name (by decide +kernel)) (by decide +kernel) (by decide +kernel) (by decide) (fun _ _ h => by rw [h.1]; rfl) (fun _ U U' hal hh h => ⟨h.1, h.2.1.mv hal hh, h.2.2.1.al hal, h.2.2.2.1.al hal, h.2.2.2.2.1.mv hal hh, h.2.2.2.2.2.1.there hal hh, h.2.2.2.2.2.2⟩) (fun r U U' V V' h1 hal h2 h => Got.mv r U U' V V' h1 hal h2 h) ?_
  intro p e s m args below meth c s₁ X0 hexec hbytes hml hret hlk hnm hown hh0 W hP
  obtain ⟨rfl, hB, f1, f2, hA, s1, hz, l0, l2, hp⟩ := hP
  have c1 : Steps p.tables e below (s₁.setTop (entryFrame m #[.ref a, .ref b] 2)) (s₁.setTop (mkF m 0 #[.val (.ref a), .val (.ref b)] [])) := entry rfl
  have c2 : Steps p.tables e below (s₁.setTop (entryFrame m #[.ref a, .ref b] 2)) (s₁.setTop (mkF m 6 #[.val (.ref a), .val (.ref b)] [.null, .int (Int32.ofNat A.slots.size), .int 0, .ref b, .ref a])) := c1.trans (by
    refine XS.aloadN X0.here hexec rfl (hb hbytes d0) rfl rfl ?_
    refine XS.aloadN X0.here hexec rfl (hb hbytes d1) rfl rfl ?_
    refine iconstV X0.here hexec rfl 0 (hb hbytes d2) (by decide) ?_
    refine XS.aloadN X0.here hexec rfl (hb hbytes d3) rfl rfl ?_
    refine X0.alen hexec (hA.1.mv X0.warmed.alike hh0) rfl rfl (hb hbytes d4) ?_
    refine XS.aconstNull X0.here hexec rfl (hb hbytes d5) ?_
    exact Steps.refl _)
  obtain ⟨v3, T3, X3, E3, g3⟩ := X0.callN hexec (New4.law l a D fV fC b A z 0 A.slots.size) rfl hown (wks W (initW "java/lang/String" 27 New4.yN)) (W New4.tab (by simp only [site, List.mem_cons, List.mem_append, true_or, or_true])) (W := 0) (Nat.le_of_ble_eq_true rfl) (Nat.le_of_ble_eq_true rfl) (Nat.le_refl _) (by show 0 + A.slots.size ≤ A.slots.size; omega) (g := (mkF m 6 #[.val (.ref a), .val (.ref b)] [.null, .int (Int32.ofNat A.slots.size), .int (Int32.ofNat 0), .ref b, .ref a])) rfl (by rw [hml]; rfl) c2 (argsL := [.ref b, .int (Int32.ofNat 0), .int (Int32.ofNat A.slots.size), .null]) (rest := []) rfl rfl (by show 2 * 0 + 0 ≤ _; decide) (hb hbytes d6) (⟨rfl, hB.mv X0.warmed.alike hh0, f1.al X0.warmed.alike, f2.al X0.warmed.alike, hA.mv X0.warmed.alike hh0, s1.there X0.warmed.alike hh0, hz, l0, by omega, l2, fun i hi => by rw [Nat.zero_add]; exact hp i hi⟩)
  have e0 := Got.mv _ s₁ s _ _ hh0.symm (Vm.Alike.refl _) rfl E3
  obtain rfl := e0.1
  have c4 : Steps p.tables e below (s₁.setTop (entryFrame m #[.ref a, .ref b] 2)) (T3.setTop (mkF m 9 #[.val (.ref a), .val (.ref b)] [])) := g3
  exact ⟨T3, none, _, _, _, X3, by simp, rfl, by omega, (fun _ => rfl), e0, fun fs hl => c4.trans (X3.returnOut hexec hret (hb hbytes d9) hl)⟩
theorem pays {l : Launch} {R : Room} {p : Program} {e : Env} {below : List Frame} {s : State} {sargs : Array Value} {len W : Nat} (a : Addr) (D : Cell) (fV fC : Field) (b : Addr) (A : Cell) (z : Int32) (htab : tab.before sargs s = true) (hfr : 4 ≤ R.frames) (hlo : W + 65 ≤ R.locals) :
    Back l R p e below s sargs yN len W (fun A₁ a₁ => A₁.cells + 1 ≤ R.cells ∧ A₁.slots + A.slots.size ≤ R.slots ∧ P a D fV fC b A z a₁ A₁.U) (fun A₁ _ v₁ B₁ => E a D fV fC A v₁ A₁.U B₁.U ∧ B₁.locs = A₁.locs ++ [⟨a, fC.slot⟩, ⟨a, fV.slot⟩] ∧ B₁.cells = A₁.cells + 1 ∧ B₁.slots = A₁.slots + A.slots.size) :=
  (law l a D fV fC b A z).pays htab hfr (by omega)
end New1
end StrChars
namespace StrChars.Road
open Jvm Sem ClassFile Op Lib Jvm.Stand Jvm.Free Jvm.Free.XT
open Jvm.Lib.Cold (StaticIs)
abbrev ST : String := "java/lang/String"
/-- every table word that New1's law asks, flat -/
abbrev words : List Jvm.Cond := [.code New1.yN New1.yB 2 none, .initialized ST, .methodLink ST 27 New4.yN, .instanceMethod New4.yN,
  .code New4.yN New4.yB 6 none, .fieldLink ST 38 ST "COMPACT_STRINGS" "Z", .laysFinal ST ST "value" "[B", .fieldLink ST 9 ST "value" "[B", .laysFinal ST ST "coder" "B", .fieldLink ST 15 ST "coder" "B",
  .methodLink ST 1 Lib.objectInit, .instanceMethod Lib.objectInit, .code Lib.objectInit ⟨#[0xb1]⟩ 1 none, .methodLink ST 177 Cmp3.yN, .static Cmp3.yN, .methodLink ST 47 CodL.yN, .static CodL.yN,
  .code Cmp3.yN Cmp3.yB 6 (some (.array .byte)), .initialized U16, .arrayClass .byte, .methodLink U16 115 Cmp5.yN, .static Cmp5.yN, .code Cmp5.yN Cmp5.yB 7 (some .int), .code CodL.yN CodL.yB 2 (some .byte)]
theorem tab_of {a : Array Value} {s : State} (h : ∀ w ∈ words, w.before a s = true) : New1.tab.before a s = true := by
  have h5 : Cmp5.tab.before a s = true := unparts (wk h (.code Cmp5.yN Cmp5.yB 7 (some .int))) (wks h (.initialized Cmp5.yN.cls :: Cmp5.site))
  have hc : CodL.tab.before a s = true := unparts (wk h (.code CodL.yN CodL.yB 2 (some .byte))) (wks h (.initialized CodL.yN.cls :: CodL.site))
  have q5 : ∀ w ∈ Cmp5.tab :: words, w.before a s = true := fun w hw => (List.mem_cons.mp hw).elim (fun e => e ▸ h5) (h w)
  have h3 : Cmp3.tab.before a s = true := unparts (wk q5 (.code Cmp3.yN Cmp3.yB 6 (some (.array .byte)))) (wks q5 (.initialized Cmp3.yN.cls :: Cmp3.site))
  have q3 : ∀ w ∈ Cmp3.tab :: CodL.tab :: words, w.before a s = true := fun w hw => (List.mem_cons.mp hw).elim (fun e => e ▸ h3) fun hw => (List.mem_cons.mp hw).elim (fun e => e ▸ hc) (h w)
  have h4 : New4.tab.before a s = true := unparts (wk q3 (.code New4.yN New4.yB 6 none)) (wks q3 (.initialized New4.yN.cls :: New4.site))
  have q4 : ∀ w ∈ New4.tab :: words, w.before a s = true := fun w hw => (List.mem_cons.mp hw).elim (fun e => e ▸ h4) (h w)
  exact unparts (wk q4 (.code New1.yN New1.yB 2 none)) (wks q4 (.initialized New1.yN.cls :: New1.site))
/-- the words ride from the start Z to the walk's own state -/
theorem moved {Z s : State} {a0 args : Array Value} (hZ : Z.Warmed39 s.vm) (hw : ∀ d ∈ words, d.before a0 Z = true) : ∀ d ∈ words, d.before args s = true := fun d hd => by
  have q := hw d hd
  have t : ∀ d ∈ words, d = .arrayClass .byte ∨ (d.onTables && d.keepsFace) = true := by decide +kernel
  rcases t d hd with rfl | t
  · exact RoadKit.mvA hZ q
  · exact RoadKit.mv hZ q t
/-- WHAT COMES BACK, over the tables of the start Z: h the heap at the call, h' behind it -/
def Q (Z : State) (x : Addr) (A : Cell) (h : Heap) (v : Option Value) (h' : Heap) (L : List Loc) : Prop := v = none ∧ (∀ y ∈ L, y.base = x) ∧ RoadKit.Keep h h' [x] ∧ h'.size = h.size + 1 ∧ RoadKit.Exa Z h' x ST ∧ RoadKit.Fld Z h' x ST "value" "[B" (.ref h.size) ∧ RoadKit.Fld Z h' x ST "coder" "B" (.int 0) ∧
  (∃ V : Cell, RoadKit.Arr Z h' h.size V .byte ∧ V.vm = .none ∧ Z.vm.findClass "[B" = some V.cls ∧ V.slots.size = A.slots.size ∧ ∀ j, j < A.slots.size → V.slots[j]? = some (.int (lo8 (cv A j)))) ∧
  ∀ (O n d : String) (w : Value), RoadKit.Fld Z h x O n d w → RoadKit.slotOf Z O n d ≠ RoadKit.slotOf Z ST "value" "[B" → RoadKit.slotOf Z O n d ≠ RoadKit.slotOf Z ST "coder" "B" → RoadKit.Fld Z h' x O n d w
/-- **new String(chars) AT A CALL, IN THE ROAD'S FORM**: for specialBack behind newO: x the fresh String, b the char[] with the cell A -/
theorem back {p : Program} {l : Launch} {e : Env} {R : Room} {s : State} {args : Array Value} {below : List Frame} {len W : Nat} {Z : State} {a0 : Array Value} {h : Heap} (hZ : Z.Warmed39 s.vm) (hw : ∀ d ∈ words, d.before a0 Z = true) {kI : Nat} (wi : (Jvm.Cond.instantiable ST kI).before a0 Z = true)
    {x b : Addr} {A : Cell} {z : Int32} {v0 c0 : Value} (E : RoadKit.Exa Z h x ST) (V : RoadKit.Fld Z h x ST "value" "[B" v0) (C : RoadKit.Fld Z h x ST "coder" "B" c0) (K : RoadKit.Arr Z h b A .char) (hty : Typed .char A) (S : RoadKit.Sta Z h ST "COMPACT_STRINGS" "Z" (.int z)) (hz : ¬ z = 0)
    (l0 : 0 < A.slots.size) (l2 : A.slots.size ≤ 536870912) (hp : ∀ i, i < A.slots.size → ¬ 255 < cv A i) (hfr : 4 ≤ R.frames) (hlo : W + 65 ≤ R.locals) :
    Back l R p e below s args New1.yN len W (fun P a => a = #[.ref x, .ref b] ∧ P.U.heap = h ∧ P.cells + 1 ≤ R.cells ∧ P.slots + A.slots.size ≤ R.slots)
      (fun P _ v B => ∃ L, Q Z x A h v B.U.heap L ∧ B.locs = P.locs ++ L ∧ B.cells = P.cells + 1 ∧ B.slots = P.slots + A.slots.size) := by
  intro m meth c P g ig mk a X hg hsize hdg hW hn hp'
  obtain ⟨rfl, rfl, r1, r2⟩ := hp'
  have al : Z.vm.Alike P.U.vm := hZ.alike.trans X.warmed.alike
  obtain ⟨D, cfV, kV, iV, fV, hD, gV, stV, knV, obV, asV, slV⟩ := id V
  obtain ⟨D', cfC, kC, iC, fC, hD', gC, stC, -, -, asC, slC⟩ := id C
  cases hD.symm.trans hD'
  obtain ⟨D2, kD, e1, e2, e3, e4, e5⟩ := id E
  cases hD.symm.trans e1
  obtain ⟨c2, k2, i1, i2, i3, -⟩ := Cond.instantiable_spec wi
  cases e2.symm.trans i1
  cases e3.symm.trans i2
  obtain ⟨kU, u1, u2⟩ := al.2.2 _ _ e3
  have hB : Blank ST x D P.U := ⟨hD, ⟨knV, fun q hq => by rw [hq] at obV; cases obV⟩, by rw [al.findClass]; exact e2, kU, u1, by rw [u2]; exact i3, by rw [u2]; exact e5 i3⟩
  have F1 : Found ST "value" "[B" fV P.U := ⟨SBG.found_only al ⟨cfV, kV, iV, gV⟩, stV⟩
  have F2 : Found ST "coder" "B" fC P.U := ⟨SBG.found_only al ⟨cfC, kC, iC, gC⟩, stC⟩
  have hA : Ch b A P.U := ⟨⟨K.1, State.isArrayOf_alike al K.2.1, K.2.2, by omega⟩, hty⟩
  have hS : StaticIs P.U ST "COMPACT_STRINGS" "Z" (.int z) := by
    obtain ⟨cfS, iS, kS, fS, st, cS, t1, t2, t3, t4, t5, t6, t7⟩ := S
    exact StaticIs.there (s := { Z with heap := P.U.heap }) ⟨cfS, iS, kS, fS, st, cS, t1, t2, t3, t4, t5, (fun q => by rw [q] at t6; cases t6), t7⟩ al rfl
  obtain ⟨v, B, X', ⟨⟨hv, E', V', q1, q2, q3, q4, q5, q6, q7, q8, q9, q10, q11⟩, hl, hc, hs⟩, st⟩ := New1.pays x D fV fC b A z (tab_of (moved hZ hw)) hfr hlo m meth c P g ig mk _ X hg hsize hdg hW hn ⟨r1, r2, rfl, hB, F1, F2, hA, hS, hz, l0, l2, hp⟩
  have al' : Z.vm.Alike B.U.vm := hZ.alike.trans X'.warmed.alike
  have hsz : E'.slots.size = D.slots.size := by
    obtain ⟨-, -, -, kB, w1, w2, w3⟩ := q1
    obtain ⟨kB', y1, y2⟩ := al'.2.2 _ _ e3
    rw [q2.2.1] at w1
    cases w1.symm.trans y1
    rw [w3, e5 i3, y2]
  refine ⟨v, B, X', ⟨_, ⟨hv, ?_, ⟨by omega, fun y cy hy hn' => q10 y cy (by simpa using hn') hy, fun y cy hy => ?_⟩, q11, ⟨E', _, q1.1, by rw [q2.2.1]; exact e2, by rw [q2.2.1]; exact e3, by rw [q2.1]; exact obV, fun _ => by rw [hsz]; exact e5 i3⟩,
    ⟨E', cfV, kV, iV, fV, q1.1, gV, stV, by rw [q2.1]; exact knV, by rw [q2.1]; exact obV, by rw [q2.2.1]; exact asV, q3⟩, ⟨E', cfC, kC, iC, fC, q1.1, gC, stC, by rw [q2.1]; exact knV, by rw [q2.1]; exact obV, by rw [q2.2.1]; exact asC, q4⟩,
    ⟨V', ⟨q5.1, State.isArrayOf_alike al'.symm q5.2.1, q5.2.2.1⟩, q6, by rw [← al'.findClass]; exact q7, q8, fun j hj => by have := q9 j hj; rwa [Nat.zero_add] at this⟩, fun O n d w F n1 n2 => ?_⟩, hl, hc, hs⟩, st⟩
  · intro y hy
    simp only [List.mem_cons, List.not_mem_nil, or_false] at hy
    rcases hy with rfl | rfl <;> rfl
  · by_cases q : y = x
    · subst q
      cases hD.symm.trans hy
      exact ⟨E', q1.1, q2.2.1, q2.1, hsz⟩
    · exact ⟨cy, q10 y cy q hy, rfl, rfl, rfl⟩
  · obtain ⟨D3, cf, k, i, f, g1, g2, g3, g4, g5, g6, g7⟩ := F
    cases hD.symm.trans g1
    simp only [RoadKit.slotOf, g2, gV, gC, Option.map_some, Option.getD_some] at n1 n2
    exact ⟨E', cf, k, i, f, q1.1, g2, g3, by rw [q2.1]; exact g4, by rw [q2.1]; exact g5, by rw [q2.2.1]; exact g6, by rw [q2.2.2 f.slot (by simp [n1, n2])]; exact g7⟩
end StrChars.Road
namespace StrChars.Road
open Jvm Sem ClassFile Op Lib Jvm.Stand Jvm.Free Jvm.Free.XT
/-- WHAT COMES BACK, the byte[] as a list of values -/
def QA (Z : State) (x : Addr) (zn : Int32) (cs : List Int32) (h : Heap) (v : Option Value) (h' : Heap) (L : List Loc) : Prop := v = none ∧ (∀ y ∈ L, y.base = x) ∧ RoadKit.Keep h h' [x] ∧ h'.size = h.size + 1 ∧ RoadKit.Exa Z h' x ST ∧ RoadKit.Fld Z h' x ST "value" "[B" (.ref h.size) ∧ RoadKit.Fld Z h' x ST "coder" "B" (.int 0) ∧
  (∃ kb, Z.vm.findClass "[B" = some kb ∧ RoadKit.Arv Z h' h.size kb .byte zn (cs.map fun c => .int (lo8 c)) (.int 0)) ∧
  ∀ (O n d : String) (w : Value), RoadKit.Fld Z h x O n d w → RoadKit.slotOf Z O n d ≠ RoadKit.slotOf Z ST "value" "[B" → RoadKit.slotOf Z O n d ≠ RoadKit.slotOf Z ST "coder" "B" → RoadKit.Fld Z h' x O n d w
/-- **new String(chars) AT A CALL, THE ARRAYS AS LISTS**: the char[] at b holds cs, not empty, no char above 255 -/
theorem backArv {p : Program} {l : Launch} {e : Env} {R : Room} {s : State} {args : Array Value} {below : List Frame} {len W : Nat} {Z : State} {a0 : Array Value} {h : Heap} (hZ : Z.Warmed39 s.vm) (hw : ∀ d ∈ words, d.before a0 Z = true) {kI : Nat} (wi : (Jvm.Cond.instantiable ST kI).before a0 Z = true)
    {x b : Addr} {k : ClassId} {zn z : Int32} {cs : List Int32} {dv v0 c0 : Value} (E : RoadKit.Exa Z h x ST) (V : RoadKit.Fld Z h x ST "value" "[B" v0) (C : RoadKit.Fld Z h x ST "coder" "B" c0) (K : RoadKit.Arv Z h b k .char zn (cs.map Value.int) dv) (S : RoadKit.Sta Z h ST "COMPACT_STRINGS" "Z" (.int z)) (hz : ¬ z = 0)
    (hlen : zn.toNatClampNeg = cs.length) (h0 : 0 < cs.length) (hbig : cs.length ≤ 536870912) (hall : ∀ c ∈ cs, ¬ 255 < c) (hfr : 4 ≤ R.frames) (hlo : W + 65 ≤ R.locals) :
    Back l R p e below s args New1.yN len W (fun P a => a = #[.ref x, .ref b] ∧ P.U.heap = h ∧ P.cells + 1 ≤ R.cells ∧ P.slots + cs.length ≤ R.slots)
      (fun P _ v B => ∃ L, QA Z x zn cs h v B.U.heap L ∧ B.locs = P.locs ++ L ∧ B.cells = P.cells + 1 ∧ B.slots = P.slots + cs.length) := by
  obtain ⟨A, K1, K2, K3, K4, K5, K6⟩ := K
  have e : A.slots.size = cs.length := K3.trans hlen
  have hat : ∀ (i : Nat) (hi : i < cs.length), A.slots[i]? = some (.int cs[i]) := fun i hi => by rw [K5 i (by omega)]; simp [List.getD_eq_getElem?_getD, hi]
  have hcv : ∀ (i : Nat) (hi : i < cs.length), cv A i = cs[i] := fun i hi => by unfold cv; rw [hat i hi]
  have hty : Typed .char A := fun i v hv => by
    have hi : i < A.slots.size := (Array.getElem?_eq_some_iff.mp hv).1
    have q := K5 i hi
    rw [hv] at q
    rw [Option.some.inj q]
    exact K6 i hi
  refine Back.mono (back hZ hw wi E V C K1 hty S hz (by omega) (by omega) (fun i hi => by rw [hcv i (by omega)]; exact hall _ (List.getElem_mem _)) hfr hlo) (fun P a hp => ⟨hp.1, hp.2.1, hp.2.2.1, by rw [e]; exact hp.2.2.2⟩) (fun P a v B hp hq => ?_)
  obtain ⟨L, ⟨q1, q2, q3, q4, q5, q6, q7, ⟨V', v1, v2, v3, v4, v5⟩, q9⟩, hl, hc, hs⟩ := hq
  refine ⟨L, ⟨q1, q2, q3, q4, q5, q6, q7, ⟨V'.cls, v3, V', v1, rfl, by rw [v4, e, hlen], K4, fun i hi => ?_, fun i hi => ?_⟩, q9⟩, hl, hc, by rw [hs, e]⟩
  · have hi' : i < cs.length := by omega
    rw [v5 i (by omega), hcv i hi']; simp [List.getD_eq_getElem?_getD, hi']
  · have hi' : i < cs.length := by omega
    simp only [List.getD_eq_getElem?_getD, List.getElem?_map, List.getElem?_eq_getElem hi', Option.map_some, Option.getD_some]
    exact fits_lo8 _
end StrChars.Road
namespace StrChars.Road
open Jvm Sem ClassFile Op Lib Jvm.Stand Jvm.Free Jvm.Free.XT
/-- WHAT COMES BACK, in the writer's own shape -/
def QV (Z : State) (x : Addr) (N : Int32) (bs : List Int32) (h : Heap) (n0 : Nat) (v : Option Value) (h' : Heap) (L : List Loc) : Prop := v = none ∧ RoadKit.Fr n0 L ∧ RoadKit.Keep h h' [x] ∧ RoadKit.Exa Z h' x ST ∧ RoadKit.Fld Z h' x ST "coder" "B" (.int 0) ∧
  ∃ (t : Addr) (kb : ClassId), n0 ≤ t ∧ h.size ≤ t ∧ ¬ t = x ∧ RoadKit.Fld Z h' x ST "value" "[B" (.ref t) ∧ RoadKit.Arv Z h' t kb .byte N (bs.map Value.int) (.int 0)
/-- **new String(chars) AT A CALL, FOR THE WRITER**: a char[] of n known ints, each 0 to 255 -/
theorem backV {p : Program} {l : Launch} {e : Env} {R : Room} {s : State} {args : Array Value} {below : List Frame} {len W : Nat} {Z : State} {a0 : Array Value} {h : Heap} (hZ : Z.Warmed39 s.vm) (hw : ∀ d ∈ words, d.before a0 Z = true) {kI : Nat} (wi : (Jvm.Cond.instantiable ST kI).before a0 Z = true)
    {x b : Addr} {kC : ClassId} {cs bs : List Int32} {d v0 c0 : Value} {z N : Int32} {n n0 : Nat} (hx0 : n0 ≤ x) (hh0 : n0 ≤ h.size) (E : RoadKit.Exa Z h x ST) (V : RoadKit.Fld Z h x ST "value" "[B" v0) (C : RoadKit.Fld Z h x ST "coder" "B" c0) (K : RoadKit.Arv Z h b kC .char N (cs.map Value.int) d) (S : RoadKit.Sta Z h ST "COMPACT_STRINGS" "Z" (.int z)) (hz : ¬ z = 0)
    (hn : cs.length = n) (hN : N = Int32.ofNat n) (l0 : 0 < n) (l2 : n ≤ 4000) (hp : ∀ c ∈ cs, ¬ c < 0 ∧ ¬ (255 : Int32) < c) (hb : bs = cs.map (fun c => c.toInt8.toInt32)) (hfr : 4 ≤ R.frames) (hlo : W + 65 ≤ R.locals) :
    Back l R p e below s args (⟨"java/lang/String", "<init>", "([C)V"⟩ : MethodName) len W (fun P a => a = #[.ref x, .ref b] ∧ P.U.heap = h ∧ P.cells + 1 ≤ R.cells ∧ P.slots + n ≤ R.slots)
      (fun P _ v B => ∃ L, QV Z x N bs h n0 v B.U.heap L ∧ B.locs = P.locs ++ L ∧ B.cells = P.cells + 1 ∧ B.slots = P.slots + n) := by
  subst hn hN hb
  refine Back.mono (backArv hZ hw wi E V C K S hz (n32 (by omega)) l0 (by omega) (fun c hc => (hp c hc).2) hfr hlo) (fun P a hp => hp) (fun P a v B hp hq => ?_)
  obtain ⟨L, ⟨q1, q2, q3, q4, q5, q6, q7, ⟨kb, v1, v2⟩, q9⟩, hl, hc, hs⟩ := hq
  exact ⟨L, ⟨q1, fun y hy => by rw [q2 y hy]; exact hx0, q3, q5, q7, h.size, kb, hh0, Nat.le_refl _, Nat.ne_of_gt E.lt, q6, by rw [List.map_map]; exact v2⟩, hl, hc, hs⟩
end StrChars.Road
end Jvm.Pilot.@@N@@
namespace Jvm.Pilot.@@N@@
open Jvm Jvm.ClassFile Sem Op Lib Jvm.Free Jvm.Stand Jvm.LawKit Jvm.RoadKit Bundle Jvm.Pilot.@@N@@.Jvm.D
theorem own_nb {x : Int32} (h : x = (0 : Int32) ∨ x = (1 : Int32)) : narrow .boolean (.int x) = .int x ∧ fits .boolean (.int x) = true := by rcases h with rfl | rfl <;> decide
theorem own_nsr {Z : State} {a0 : Array Value} {O K : String} {n : Nat} (w : (Jvm.Cond.noSuperclass O).before a0 Z = true) (wk : (Jvm.Cond.instantiable K n).before a0 Z = true) (hn : O ≠ K) : NS Z O K := by
  obtain ⟨c, k, h1, h2, h3, -, -⟩ := Cond.noSuperclass_spec w
  obtain ⟨t, kt, g1, -⟩ := Cond.instantiable_spec wk
  have ne := ids_ne h1 g1 hn
  refine ⟨c, t, h1, g1, fun fuel => ?_⟩
  cases fuel with
  | zero => rfl
  | succ f => simp [Vm.isSubclassAux, ne, h2, h3]
theorem own_nsno {Z : State} {a0 : Array Value} {C S K : String} {n : Nat} (w : (Jvm.Cond.superclass C S).before a0 Z = true) (wk : (Jvm.Cond.instantiable K n).before a0 Z = true) (ns : NS Z C K) (hn : C ≠ K) : ∃ c t, Z.vm.findClass C = some c ∧ Z.vm.findClass K = some t ∧ Z.vm.assignable c t = false := by
  obtain ⟨c, t, h0, g0, n3⟩ := ns
  obtain ⟨p, k, kp, h1, h2, h3, h4, h5, -, h7⟩ := Cond.superclass_spec h0 w
  obtain ⟨t', k', g1, g2, g3, g4⟩ := Cond.instantiable_spec wk
  cases g0.symm.trans g1
  have ne := ids_ne h0 g0 hn
  refine ⟨c, t, h0, g0, ?_⟩
  show Z.vm.assignableAux (255 + 1) c t = false
  have g5 : k'.isInterface = false := by
    have := g4.1
    simp only [Bool.or_eq_false_iff] at this
    exact this.1
  simp [Vm.assignableAux, ne, h2, g2, h5, g3, g5, Vm.isSubclass, n3]
theorem own_ni : ∀ c ∈ ([] : List Int32), ¬ c < 0 ∧ ¬ (255 : Int32) < c := fun c hc => nomatch hc
theorem own_co {a : Int32} {L : List Int32} (h : ¬ a < 0 ∧ ¬ (255 : Int32) < a) (r : ∀ c ∈ L, ¬ c < 0 ∧ ¬ (255 : Int32) < c) : ∀ c ∈ a :: L, ¬ c < 0 ∧ ¬ (255 : Int32) < c := fun c hc => (List.mem_cons.mp hc).elim (fun e => e ▸ h) (r c)
theorem own_wst : ∀ d ∈ StrChars.Road.words, d ∈ tables_1 := by decide +kernel
theorem own_255 (x : Int32) : ¬ nar .char ((x &&& (255 : Int32)).toUInt32.toUInt16.toUInt32.toInt32) < 0 ∧ ¬ (255 : Int32) < nar .char ((x &&& (255 : Int32)).toUInt32.toUInt16.toUInt32.toInt32) := by
  have t : ∀ k : Fin 256, ¬ nar .char ((Int32.ofNat k.val).toUInt32.toUInt16.toUInt32.toInt32) < 0 ∧ ¬ (255 : Int32) < nar .char ((Int32.ofNat k.val).toUInt32.toUInt16.toUInt32.toInt32) := by decide +kernel
  have h : (x &&& 255).toBitVec.toNat < 256 := by
    simp only [Int32.toBitVec_and, BitVec.toNat_and]
    exact Nat.lt_succ_of_le Nat.and_le_right
  have e : (x &&& 255) = Int32.ofNat (x &&& 255).toBitVec.toNat := by
    apply Int32.toBitVec_inj.mp
    show _ = BitVec.ofNat 32 _
    rw [BitVec.ofNat_toNat]; simp
  rw [e]
  exact t ⟨_, h⟩
theorem own_cat {v : Value} (h : v.isRef = true) : v.category = 1 := by rcases ref_cases h with rfl | ⟨_, rfl⟩ <;> rfl
theorem own_nar {v : Value} {C : String} (h : v.isRef = true) : narrow (.object C) v = v := by rcases ref_cases h with rfl | ⟨_, rfl⟩ <;> rfl
theorem own_fit {v : Value} {C : String} (h : v.isRef = true) : fits (.object C) v = true := by rcases ref_cases h with rfl | ⟨_, rfl⟩ <;> rfl
theorem own_rew {s t : State} {o : Outcome} {L : List Loc} {k n k' n' : Nat} (h : ReturnedEndW s o t L k n) (hk : k ≤ k') (hn : n ≤ n') : ReturnedEndW s o t L k' n' := ⟨h.1, h.2.1, h.2.2.1, h.2.2.2.mono hk hn⟩
theorem own_wsa : ∀ d ∈ Bundle.stringAtoms, d ∈ tables_1 := by decide +kernel
theorem own_sx0 {Z : State} {EL : List (String × Nat)} {vm : Vm} {h : Heap} : ∀ x ∈ ([] : List Addr), x < h.size ∧ Safe Z EL vm h x := fun _ q => nomatch q
theorem own_sxS {Z : State} {EL : List (String × Nat)} {vm : Vm} {h : Heap} {a : Addr} {L : List Addr} (q : a < h.size) (r : Safe Z EL vm h a) (t : ∀ x ∈ L, x < h.size ∧ Safe Z EL vm h x) : ∀ x ∈ a :: L, x < h.size ∧ Safe Z EL vm h x := fun x z => (List.mem_cons.mp z).elim (fun e => e ▸ ⟨q, r⟩) (t x)
theorem own_backH {p : Program} {l : Launch} {e : Env} {R : Room} {s : State} {args : Array Value} {below : List Frame} {Z : State} {a0 : Array Value} {EL : List (String × Nat)} {h : Heap} {vm0 : Vm} {xs : List Addr} {y : MethodName} {bytes : ByteArray} {maxL : Nat} {ret : Option FieldType} {rm : Room} {len W : Nat} {as' : Array Value} {Q : Option Value → Heap → List Loc → Prop}
    (hM : MetFree l y (head1 [Jvm.Cond.code y bytes maxL ret] rm) (fun a U => a = as' ∧ Z.Warmed39 U.vm ∧ U.heap = h ∧ CHv Z EL U.vm h ∧ ∀ x ∈ xs, Safe Z EL U.vm h x) (fun _ _ _ _ _ => True) (fun _ U o U' => ∃ v L, o = .returned v ∧ Q v U'.heap L ∧ CHr Z EL U.vm U.heap U'.vm U'.heap ∧ ReturnedEndW U o U' L rm.cells rm.slots))
    (hZ : Z.Warmed39 vm0) (wc : (Jvm.Cond.code y bytes maxL ret).before a0 Z = true) (wz : (Jvm.Cond.initialized y.cls).before a0 Z = true) (hf : rm.frames + 1 ≤ R.frames) (hl : W + (maxL + 11) + rm.locals ≤ R.locals) (hEL : EW Z a0 EL) (H : CHv Z EL vm0 h) (hs : ∀ x ∈ xs, x < h.size ∧ Safe Z EL vm0 h x) :
    BackS l R p e below (s.setVm vm0) args y len W (fun A a => a = as' ∧ A.U.heap = h ∧ A.cells + rm.cells ≤ R.cells ∧ A.slots + rm.slots ≤ R.slots)
      (fun A _ v B => ∃ L, Q v B.U.heap L ∧ B.locs = A.locs ++ L ∧ B.cells = A.cells + rm.cells ∧ B.slots = A.slots + rm.slots ∧ CHr Z EL vm0 h B.U.vm B.U.heap) := by
  refine BackS.of_freeW (bytes := bytes) (maxL := maxL) (ret := ret) (E := fun _ first o t L k n => k = rm.cells ∧ n = rm.slots ∧ (∃ v, o = .returned v ∧ Q v t.heap L) ∧ CHr Z EL first.vm first.heap t.vm t.heap) hM hf hl ?_ ?_ (fun _ _ _ _ _ _ _ _ _ => trivial) ?_ ?_
  · intro m meth c A a Y hp
    have hU : Z.Warmed39 A.U.vm := wtrans (s := s.setVm vm0) hZ Y.warmed
    exact ⟨by show (Jvm.Cond.and _ .tt).before a A.U = true; rw [Cond.before_and, mv hU wc]; rfl, mv hU wc, mv hU wz, hp.2.2.1, hp.2.2.2⟩
  · intro m meth c A a g mk Y hp
    have B := CHv.at Y hZ hEL H
    exact ⟨hp.1, wtrans (s := s.setVm vm0) hZ Y.warmed, hp.2.1, B.1, fun x hx => B.safe (hs x hx).1 (hs x hx).2⟩
  · rintro _ _ _ _ ⟨v, L, h1, h2, h3, h4⟩
    exact ⟨L, _, _, h4, rfl, rfl, ⟨v, h1, h2⟩, h3⟩
  · rintro m meth c A a g mk v t L k n Y hp _ _ ⟨e1, e2, ⟨v', e3, e4⟩, e5⟩
    cases e3
    subst e1 e2
    refine ⟨L, e4, rfl, rfl, rfl, (CHv.at Y hZ hEL H).trans ?_⟩
    rw [← hp.2.1]
    exact e5
def StrN (Z : State) (h : Heap) (v : Value) : Prop := v = .null ∨ ∃ a, v = .ref a ∧ Exa Z h a "java/lang/String"
theorem own_snr {Z : State} {h : Heap} {v : Value} (S : StrN Z h v) : v.isRef = true := by rcases S with rfl | ⟨a, rfl, -⟩ <;> rfl
theorem own_snE {Z : State} {h h' : Heap} {v : Value} (E : Ext h h') (S : StrN Z h v) : StrN Z h' v := S.imp id fun ⟨a, q, x⟩ => ⟨a, q, x.ext E⟩
theorem own_snW {Z : State} {h h' : Heap} {v w : Value} {a : Addr} {sl : Nat} (W : Wr h h' a sl w) (S : StrN Z h v) : StrN Z h' v := S.imp id fun ⟨a, q, x⟩ => ⟨a, q, Exa.wr W x⟩
theorem own_snK {Z : State} {h h' : Heap} {v : Value} {ws : List Addr} (K : Keep h h' ws) (S : StrN Z h v) : StrN Z h' v := S.imp id fun ⟨a, q, x⟩ => ⟨a, q, x.keep K⟩
def own_or : Value → Value → Value
  | .null, p => p
  | x, _ => x
theorem own_snO {Z : State} {h : Heap} {f p : Value} (F : StrN Z h f) (P : StrN Z h p) : StrN Z h (own_or f p) := by
  rcases F with rfl | ⟨a, rfl, x⟩
  · exact P
  · exact Or.inr ⟨a, rfl, x⟩
theorem own_r3 (x : Int32) : ((x &&& (2147483647 : Int32)) % (3 : Int32)) = (0 : Int32) ∨ ((x &&& (2147483647 : Int32)) % (3 : Int32)) = (1 : Int32) ∨ ((x &&& (2147483647 : Int32)) % (3 : Int32)) = (2 : Int32) := by
  have h1 := c_mask x (2147483647 : Int32) 31 (by decide) (by decide)
  have h2 := (c_irem (x &&& (2147483647 : Int32)) (3 : Int32) 3 (by decide)).1 (by omega)
  generalize hz : (x &&& (2147483647 : Int32)) % (3 : Int32) = z at *
  have h3 : z.toInt = 0 ∨ z.toInt = 1 ∨ z.toInt = 2 := by omega
  rcases h3 with h | h | h
  · exact Or.inl (Int32.toInt_inj.mp h)
  · exact Or.inr (Or.inl (Int32.toInt_inj.mp h))
  · exact Or.inr (Or.inr (Int32.toInt_inj.mp h))
theorem own_ew {Z : State} {a0 : Array Value} (hw : ∀ d ∈ tables_1, d.before a0 Z = true) : EW Z a0 consts_1 := (EW.cons (hw _ (List.mem_of_getElem? (i := 39) rfl)) (by decide) (EW.cons (hw _ (List.mem_of_getElem? (i := 19) rfl)) (by decide) EW.nil))
def Pins (Z : State) (cz : Int32) : Prop :=
  (Sta Z Z.heap "java/lang/String" "COMPACT_STRINGS" "Z" (.int cz)) ∧
  (¬ cz = 0)
theorem d1_0 : decode method_2_code 0 = .ok (.iload_n 1, 1) := by decide +kernel
theorem d1_1 : decode method_2_code 1 = .ok (.ldc 7, 2) := by decide +kernel
theorem d1_3 : decode method_2_code 3 = .ok (.iand, 1) := by decide +kernel
theorem d1_4 : decode method_2_code 4 = .ok (.iconst 3, 1) := by decide +kernel
theorem d1_5 : decode method_2_code 5 = .ok (.irem, 1) := by decide +kernel
theorem d1_6 : decode method_2_code 6 = .ok (.istore_n 2, 1) := by decide +kernel
theorem d1_7 : decode method_2_code 7 = .ok (.iload_n 0, 1) := by decide +kernel
theorem d1_8 : decode method_2_code 8 = .ok (.sipush 255, 3) := by decide +kernel
theorem d1_11 : decode method_2_code 11 = .ok (.iand, 1) := by decide +kernel
theorem d1_12 : decode method_2_code 12 = .ok (.i2c, 1) := by decide +kernel
theorem d1_13 : decode method_2_code 13 = .ok (.istore_n 3, 1) := by decide +kernel
theorem d1_14 : decode method_2_code 14 = .ok (.iload_n 0, 1) := by decide +kernel
theorem d1_15 : decode method_2_code 15 = .ok (.bipush 8, 2) := by decide +kernel
theorem d1_17 : decode method_2_code 17 = .ok (.iushr, 1) := by decide +kernel
theorem d1_18 : decode method_2_code 18 = .ok (.sipush 255, 3) := by decide +kernel
theorem d1_21 : decode method_2_code 21 = .ok (.iand, 1) := by decide +kernel
theorem d1_22 : decode method_2_code 22 = .ok (.i2c, 1) := by decide +kernel
theorem d1_23 : decode method_2_code 23 = .ok (.istore 4, 2) := by decide +kernel
theorem d1_25 : decode method_2_code 25 = .ok (.iload_n 2, 1) := by decide +kernel
theorem d1_26 : decode method_2_code 26 = .ok (.ifCond .ne 18, 3) := by decide +kernel
theorem d1_29 : decode method_2_code 29 = .ok (.iconst 0, 1) := by decide +kernel
theorem d1_30 : decode method_2_code 30 = .ok (.newarray .char, 2) := by decide +kernel
theorem d1_32 : decode method_2_code 32 = .ok (.astore 5, 2) := by decide +kernel
theorem d1_34 : decode method_2_code 34 = .ok (.new 8, 3) := by decide +kernel
theorem d1_37 : decode method_2_code 37 = .ok (.dup, 1) := by decide +kernel
theorem d1_38 : decode method_2_code 38 = .ok (.aload 5, 2) := by decide +kernel
theorem d1_40 : decode method_2_code 40 = .ok (.invokespecial 10, 3) := by decide +kernel
theorem d2_0 : decode jdk_42_method_3_code 0 = .ok (.aload_n 0, 1) := by decide +kernel
theorem d2_1 : decode jdk_42_method_3_code 1 = .ok (.aload_n 1, 1) := by decide +kernel
theorem d2_2 : decode jdk_42_method_3_code 2 = .ok (.iconst 0, 1) := by decide +kernel
theorem d2_3 : decode jdk_42_method_3_code 3 = .ok (.aload_n 1, 1) := by decide +kernel
theorem d2_4 : decode jdk_42_method_3_code 4 = .ok (.arraylength, 1) := by decide +kernel
theorem d2_5 : decode jdk_42_method_3_code 5 = .ok (.aconst_null, 1) := by decide +kernel
theorem d2_6 : decode jdk_42_method_3_code 6 = .ok (.invokespecial 27, 3) := by decide +kernel
theorem d3_0 : decode jdk_42_method_149_code 0 = .ok (.aload_n 0, 1) := by decide +kernel
theorem d3_1 : decode jdk_42_method_149_code 1 = .ok (.invokespecial 1, 3) := by decide +kernel
theorem d3_4 : decode jdk_42_method_149_code 4 = .ok (.iload_n 3, 1) := by decide +kernel
theorem d3_5 : decode jdk_42_method_149_code 5 = .ok (.ifCond .ne 22, 3) := by decide +kernel
theorem d3_8 : decode jdk_42_method_149_code 8 = .ok (.aload_n 0, 1) := by decide +kernel
theorem d3_9 : decode jdk_42_method_149_code 9 = .ok (.ldc 7, 2) := by decide +kernel
theorem d3_11 : decode jdk_42_method_149_code 11 = .ok (.getfield 9, 3) := by decide +kernel
theorem d3_14 : decode jdk_42_method_149_code 14 = .ok (.putfield 9, 3) := by decide +kernel
theorem d3_17 : decode jdk_42_method_149_code 17 = .ok (.aload_n 0, 1) := by decide +kernel
theorem d3_18 : decode jdk_42_method_149_code 18 = .ok (.ldc 7, 2) := by decide +kernel
theorem d3_20 : decode jdk_42_method_149_code 20 = .ok (.getfield 15, 3) := by decide +kernel
theorem d3_23 : decode jdk_42_method_149_code 23 = .ok (.putfield 15, 3) := by decide +kernel
theorem d3_26 : decode jdk_42_method_149_code 26 = .ok (.return_, 1) := by decide +kernel
theorem ef_3_RRII0 (m : MethodId) (x0 : Addr) (x1 : Addr) (x2 : Int32) (x3 : Int32) : entryFrame m #[(.ref x0), (.ref x1), (.int x2), (.int x3), .null] 6 = mkF m 0 #[.val (.ref x0), .val (.ref x1), .val (.int x2), .val (.int x3), .val .null, .unset] [] := by first | (simp [entryFrame, mkF, argsToLocals, Value.category]; done) | rfl
theorem pn_java_lang_String : plainName "java/lang/String" = true := by first | (simp [plainName, overriddenIn]; done) | decide +kernel
def Qrm3_1 (Z : State) (cz : Int32) (x1 : Addr) (x2 : Addr) (h0 : Heap) (n0 : Nat) (v : Option Value) (h : Heap) (L : List Loc) : Prop := v = none ∧ Fr n0 L ∧ Keep h0 h [x1]
set_option maxRecDepth 65536 in
set_option maxHeartbeats 40000000 in
theorem rm3_1 (l : Launch) (Z : State) (a0 : Array Value) (hw : ∀ d ∈ tables_1, d.before a0 Z = true) (ws : List Jvm.Cond) (cz : Int32) (x1 : Addr) (x2 : Addr) (h0 : Heap) (n0 : Nat) (O0 : Old Z n0 h0) (P : Pins Z cz) (lt_x1 : x1 < h0.size) (E_x1 : Exa Z h0 x1 "java/lang/String") (F_x1_value : Fld Z h0 x1 "java/lang/String" "value" "[B" .null) (g_x1 : n0 ≤ x1) (F_x1_coder : Fld Z h0 x1 "java/lang/String" "coder" "B" (.int (0 : Int32))) :
    MetFree l (⟨"java/lang/String", "<init>", "([CIILjava/lang/Void;)V"⟩ : MethodName) (head1 (Jvm.Cond.code (⟨"java/lang/String", "<init>", "([CIILjava/lang/Void;)V"⟩ : MethodName) jdk_42_method_149_code 6 none :: ws) ({ frames := 1, cells := 4, slots := 8, locals := 12 } : Room)) (fun a U => a = #[(.ref x1), (.ref x2), (.int (0 : Int32)), (.int (0 : Int32)), .null] ∧ Z.Warmed39 U.vm ∧ U.heap = h0 ∧ CHv Z consts_1 U.vm h0 ∧ ∀ x ∈ ([x1] : List Addr), Safe Z consts_1 U.vm h0 x) (fun _ _ _ _ _ => True) (fun _ U o U' => ∃ v L, o = .returned v ∧ Qrm3_1 Z cz x1 x2 h0 n0 v U'.heap L ∧ CHr Z consts_1 U.vm U.heap U'.vm U'.heap ∧ ReturnedEndW U o U' L ({ frames := 1, cells := 4, slots := 8, locals := 12 } : Room).cells ({ frames := 1, cells := 4, slots := 8, locals := 12 } : Room).slots) := by
  refine MetFree.of_bodySF (plainFor_of_name pn_java_lang_String) hisR ?_
  intro p e s m args below meth c s₁ Bd hml0 hP hK
  obtain ⟨rfl, hZ, hh, hCv, hSf⟩ := hP
  have hx := Bd.exec
  have hby := Bd.bytes
  have hml : c.maxLocals = 6 := hml0
  have hown : s.vm.findClass "java/lang/String" = some m.cls := findClass_of_methodNamed Bd.named
  have hnm := (name_of_methodNamed Bd.named Bd.method).1
  have X0 : Stand p l e ({ frames := 1, cells := 4, slots := 8, locals := 12 } : Room) (s.setVm s.vm) m #[(.ref x1), (.ref x2), (.int (0 : Int32)), (.int (0 : Int32)), .null] below meth c s₁ [] 0 0 := Stand.of_body Bd
  have e0 : s₁.heap = h0 := by rw [← hh, Bd.state]; rfl
  have N0 := Fr.nil n0
  have Z0 : n0 ≤ h0.size := O0.1 ▸ O0.2.1
  have pre0 : ∀ t, Steps p.tables e below (s₁.setTop (mkF m 0 #[.val (.ref x1), .val (.ref x2), .val (.int (0 : Int32)), .val (.int (0 : Int32)), .val .null, .unset] [])) t → Steps p.tables e below (s₁.setTop (entryFrame m #[(.ref x1), (.ref x2), (.int (0 : Int32)), (.int (0 : Int32)), .null] 6)) t := fun t k => castTop (ef_3_RRII0 m x1 x2 (0 : Int32) (0 : Int32)) k
  have Kr : Keep h0 h0 [x1] := Keep.refl h0 _
  have hEL : EW Z a0 consts_1 := own_ew hw
  have wS : ∀ d ∈ Bundle.stringAtoms, d.before a0 Z = true := fun d hd => hw d (own_wsa d hd)
  have hS : s.Since s.vm 0 := (State.WarmedH.refl s).since 0
  have hk : 0 ≤ h0.size := Nat.zero_le _
  have C0 : CHr Z consts_1 s.vm h0 s.vm h0 := CHr.refl hCv
  have SF_x1 := hSf x1 (List.mem_of_getElem? (i := 0) rfl)
  obtain ⟨T1, X1, e1, st1⟩ := initO X0 hx hZ hown (hw _ (List.mem_of_getElem? (i := 16) rfl)) (hw _ (List.mem_of_getElem? (i := 17) rfl)) (hw _ (List.mem_of_getElem? (i := 18) rfl)) e0 (g := (mkF m 1 #[.val (.ref x1), .val (.ref x2), .val (.int (0 : Int32)), .val (.int (0 : Int32)), .val .null, .unset] [(.ref x1)])) rfl (by rw [hml]; rfl) rfl (hb hby d3_1) (by decide) (W := 0) (by show 2 * 0 + _ ≤ _; exact Nat.le_of_eq rfl) (by decide)
  obtain ⟨w2, T2, h2, kq2, wb2, kb2, X2, e2, E2, hS2, hkq2, hZ2, hown2, Ex2, Fc2, Fv2, Va2, la2, lb2, Cq2, -, hne2, st2⟩ := ldcCH X1 hx hZ hown (hw _ (List.mem_of_getElem? (i := 19) rfl)) wS e1 hS hk hEL (List.mem_of_getElem? (i := 1) rfl) C0.1 (vs := []) (z := (0 : Int32)) ⟨by decide, rfl⟩ (by decide) rfl (g := (mkF m 9 #[.val (.ref x1), .val (.ref x2), .val (.int (0 : Int32)), .val (.int (0 : Int32)), .val .null, .unset] [(.ref x1)])) rfl (hb hby d3_9) (n := 0) (by decide) (by decide) (by decide) (by decide)
  have Zs3 : n0 ≤ (h2).size := Nat.le_trans Z0 E2.1
  have Os3 : Old Z n0 (h2) := O0.ext E2
  have Ks3 : Keep h0 (h2) [x1] := Kr.ext E2
  have Cs3 : CHr Z consts_1 s.vm h0 T2.vm (h2) := C0.trans Cq2
  have sf4 := (Cq2.safe (Nat.lt_of_lt_of_le lt_x1 Kr.1) SF_x1)
  have hk3 : kq2 ≤ (h2).size := hkq2
  obtain ⟨T5, X5, e5, st5⟩ := getF X2 hx hZ2 hown2 (host := "") (Or.inl (hw _ (List.mem_of_getElem? (i := 25) rfl))) Via.refl e2 Fv2 (g := (mkF m 11 #[.val (.ref x1), .val (.ref x2), .val (.int (0 : Int32)), .val (.int (0 : Int32)), .val .null, .unset] [(.ref w2), (.ref x1)])) rfl rfl (hb hby d3_11)
  have f6 := (E_x1.ext E2)
  have f7 := (F_x1_value.ext E2)
  obtain ⟨T8, h8, X8, e8, W8, st8⟩ := putF X5 hx hZ2 hown2 (host := "") (Or.inl (hw _ (List.mem_of_getElem? (i := 25) rfl))) Via.refl e5 f7 f6 (Or.inr ⟨(hw _ (List.mem_of_getElem? (i := 21) rfl)), rfl, hnm⟩) (hw _ (List.mem_of_getElem? (i := 7) rfl)) (ty := (.array .byte)) (by decide) rfl rfl (g := (mkF m 14 #[.val (.ref x1), .val (.ref x2), .val (.int (0 : Int32)), .val (.int (0 : Int32)), .val .null, .unset] [(.ref wb2), (.ref x1)])) rfl rfl (hb hby d3_14)
  have Ks9 : Keep h0 (h8) [x1] := Ks3.wr W8 (Or.inl (List.mem_of_getElem? (i := 0) rfl))
  have Zs9 : n0 ≤ (h8).size := Nat.le_trans Zs3 (Keep.of_wr W8).1
  have Os9 : Old Z n0 (h8) := Os3.wr W8 g_x1
  have Cs9 : CHr Z consts_1 s.vm h0 T2.vm (h8) := Cs3.trans (CHr.wr W8 sf4 Cs3.1)
  have sf10 := (Safe.wr W8 sf4 Cs3.1 sf4)
  have hk9 : kq2 ≤ (h8).size := Nat.le_trans hk3 (Keep.of_wr W8).1
  have Fw8 := Fld.same W8 f7
  have N8 := Fr.snoc X8 N0 g_x1
  obtain ⟨w11, T11, h11, kq11, wb11, kb11, X11, e11, E11, hS11, hkq11, hZ11, hown11, Ex11, Fc11, Fv11, Va11, la11, lb11, Cq11, -, hne11, st11⟩ := ldcCH X8 hx hZ2 hown2 (hw _ (List.mem_of_getElem? (i := 19) rfl)) wS e8 hS2 hk9 hEL (List.mem_of_getElem? (i := 1) rfl) Cs9.1 (vs := []) (z := (0 : Int32)) ⟨by decide, rfl⟩ (by decide) rfl (g := (mkF m 18 #[.val (.ref x1), .val (.ref x2), .val (.int (0 : Int32)), .val (.int (0 : Int32)), .val .null, .unset] [(.ref x1)])) rfl (hb hby d3_18) (n := 0) (by decide) (by decide) (by decide) (by decide)
  have Zs12 : n0 ≤ (h11).size := Nat.le_trans Zs9 E11.1
  have Os12 : Old Z n0 (h11) := Os9.ext E11
  have Ks12 : Keep h0 (h11) [x1] := Ks9.ext E11
  have Cs12 : CHr Z consts_1 s.vm h0 T11.vm (h11) := Cs9.trans Cq11
  have sf13 := (Cq11.safe (Fw8).lt sf10)
  have hk12 : kq11 ≤ (h11).size := hkq11
  obtain ⟨T14, X14, e14, st14⟩ := getF X11 hx hZ11 hown11 (host := "") (Or.inl (hw _ (List.mem_of_getElem? (i := 26) rfl))) Via.refl e11 Fc11 (g := (mkF m 20 #[.val (.ref x1), .val (.ref x2), .val (.int (0 : Int32)), .val (.int (0 : Int32)), .val .null, .unset] [(.ref w11), (.ref x1)])) rfl rfl (hb hby d3_20)
  have f15 := ((Exa.wr W8 f6).ext E11)
  have f16 := ((Fld.other W8 (F_x1_coder.ext E2) (Or.inr (slot_ne (Or.inr (hw _ (List.mem_of_getElem? (i := 22) rfl))) (Or.inr (hw _ (List.mem_of_getElem? (i := 21) rfl))) (by decide) (t := .byte) (t' := (.array .byte)) (by decide) (by decide)))).ext E11)
  obtain ⟨T17, h17, X17, e17, W17, st17⟩ := putFN X14 hx hZ11 hown11 (hw _ (List.mem_of_getElem? (i := 26) rfl)) Via.refl e14 f16 f15 (Or.inr ⟨(hw _ (List.mem_of_getElem? (i := 22) rfl)), rfl, hnm⟩) (hw _ (List.mem_of_getElem? (i := 7) rfl)) (ty := .byte) (v' := (.int (0 : Int32))) (by decide) (by decide) (by decide) (g := (mkF m 23 #[.val (.ref x1), .val (.ref x2), .val (.int (0 : Int32)), .val (.int (0 : Int32)), .val .null, .unset] [(.int (0 : Int32)), (.ref x1)])) rfl rfl (hb hby d3_23)
  have Ks18 : Keep h0 (h17) [x1] := Ks12.wr W17 (Or.inl (List.mem_of_getElem? (i := 0) rfl))
  have Zs18 : n0 ≤ (h17).size := Nat.le_trans Zs12 (Keep.of_wr W17).1
  have Os18 : Old Z n0 (h17) := Os12.wr W17 g_x1
  have Cs18 : CHr Z consts_1 s.vm h0 T11.vm (h17) := Cs12.trans (CHr.wr W17 sf13 Cs12.1)
  have sf19 := (Safe.wr W17 sf13 Cs12.1 sf13)
  have hk18 : kq11 ≤ (h17).size := Nat.le_trans hk12 (Keep.of_wr W17).1
  have Fw17 := Fld.same W17 f16
  have N17 := Fr.snoc X17 N8 g_x1
  have Cend := Cs18.trans (CHv.at X17 hZ11 hEL Cs18.1)
  obtain ⟨fs, hr, hrun, hended, hREW⟩ := X17.leaveW hS11 (show _ ≤ T17.heap.size by rw [e17]; exact hk18) (v := none) (fun _ => rfl)
  refine ⟨_, _, pre0 _ ?_, hrun, hended, _, _, rfl, ?_, ?_, own_rew hREW (by decide) (by decide)⟩
  · show Steps p.tables e below (s₁.setTop (mkF m 0 #[.val (.ref x1), .val (.ref x2), .val (.int (0 : Int32)), .val (.int (0 : Int32)), .val .null, .unset] [])) _
    refine XS.aloadN X0.here hx rfl (hb hby d3_0) rfl rfl ?_
    show Steps p.tables e below (s₁.setTop (mkF m 1 #[.val (.ref x1), .val (.ref x2), .val (.int (0 : Int32)), .val (.int (0 : Int32)), .val .null, .unset] [(.ref x1)])) _
    refine st1 _ ?_
    show Steps p.tables e below (T1.setTop (mkF m 4 #[.val (.ref x1), .val (.ref x2), .val (.int (0 : Int32)), .val (.int (0 : Int32)), .val .null, .unset] [])) _
    refine XS.iloadN X1.here hx rfl (hb hby d3_4) rfl ?_
    show Steps p.tables e below (T1.setTop (mkF m 5 #[.val (.ref x1), .val (.ref x2), .val (.int (0 : Int32)), .val (.int (0 : Int32)), .val .null, .unset] [(.int (0 : Int32))])) _
    refine XS.ifNo X1.here hx rfl (hb hby d3_5) rfl (by decide) ?_
    show Steps p.tables e below (T1.setTop (mkF m 8 #[.val (.ref x1), .val (.ref x2), .val (.int (0 : Int32)), .val (.int (0 : Int32)), .val .null, .unset] [])) _
    refine XS.aloadN X1.here hx rfl (hb hby d3_8) rfl rfl ?_
    show Steps p.tables e below (T1.setTop (mkF m 9 #[.val (.ref x1), .val (.ref x2), .val (.int (0 : Int32)), .val (.int (0 : Int32)), .val .null, .unset] [(.ref x1)])) _
    refine st2 _ ?_
    show Steps p.tables e below (T2.setTop (mkF m 11 #[.val (.ref x1), .val (.ref x2), .val (.int (0 : Int32)), .val (.int (0 : Int32)), .val .null, .unset] [(.ref w2), (.ref x1)])) _
    refine st5 _ ?_
    show Steps p.tables e below (T5.setTop (mkF m 14 #[.val (.ref x1), .val (.ref x2), .val (.int (0 : Int32)), .val (.int (0 : Int32)), .val .null, .unset] [(.ref wb2), (.ref x1)])) _
    refine st8 _ ?_
    show Steps p.tables e below (T8.setTop (mkF m 17 #[.val (.ref x1), .val (.ref x2), .val (.int (0 : Int32)), .val (.int (0 : Int32)), .val .null, .unset] [])) _
    refine XS.aloadN X8.here hx rfl (hb hby d3_17) rfl rfl ?_
    show Steps p.tables e below (T8.setTop (mkF m 18 #[.val (.ref x1), .val (.ref x2), .val (.int (0 : Int32)), .val (.int (0 : Int32)), .val .null, .unset] [(.ref x1)])) _
    refine st11 _ ?_
    show Steps p.tables e below (T11.setTop (mkF m 20 #[.val (.ref x1), .val (.ref x2), .val (.int (0 : Int32)), .val (.int (0 : Int32)), .val .null, .unset] [(.ref w11), (.ref x1)])) _
    refine st14 _ ?_
    show Steps p.tables e below (T14.setTop (mkF m 23 #[.val (.ref x1), .val (.ref x2), .val (.int (0 : Int32)), .val (.int (0 : Int32)), .val .null, .unset] [(.int (0 : Int32)), (.ref x1)])) _
    refine st17 _ ?_
    show Steps p.tables e below (T17.setTop (mkF m 26 #[.val (.ref x1), .val (.ref x2), .val (.int (0 : Int32)), .val (.int (0 : Int32)), .val .null, .unset] [])) _
    exact X17.returnOut hx Bd.returns (hb hby d3_26) hr
  · show Qrm3_1 Z cz x1 x2 h0 n0 _ T17.heap _
    rw [e17]
    exact ⟨rfl, N17, Ks18⟩
  · rw [hh]
    show CHr Z consts_1 s.vm h0 T17.vm T17.heap
    rw [e17]
    exact Cend
theorem pd_0 : parseMethodDescriptor "([CIILjava/lang/Void;)V" = some ⟨[(.array .char), .int, .int, (.object "java/lang/Void")], none⟩ := by decide +kernel
theorem d2_9 : decode jdk_42_method_3_code 9 = .ok (.return_, 1) := by decide +kernel
theorem ef_2_RR (m : MethodId) (x0 : Addr) (x1 : Addr) : entryFrame m #[(.ref x0), (.ref x1)] 2 = mkF m 0 #[.val (.ref x0), .val (.ref x1)] [] := by first | (simp [entryFrame, mkF, argsToLocals, Value.category]; done) | rfl
def Qrm2_2 (Z : State) (cz : Int32) (x1 : Addr) (x2 : Addr) (c3 : ClassId) (h0 : Heap) (n0 : Nat) (v : Option Value) (h : Heap) (L : List Loc) : Prop := v = none ∧ Fr n0 L ∧ Keep h0 h [x1]
set_option maxRecDepth 65536 in
set_option maxHeartbeats 40000000 in
theorem rm2_2 (l : Launch) (Z : State) (a0 : Array Value) (hw : ∀ d ∈ tables_1, d.before a0 Z = true) (ws : List Jvm.Cond) (cz : Int32) (x1 : Addr) (x2 : Addr) (c3 : ClassId) (h0 : Heap) (n0 : Nat) (O0 : Old Z n0 h0) (P : Pins Z cz) (V_x2 : Arv Z h0 x2 c3 .char (0 : Int32) [] (.int (0 : Int32))) (lt_x1 : x1 < h0.size) (E_x1 : Exa Z h0 x1 "java/lang/String") (F_x1_value : Fld Z h0 x1 "java/lang/String" "value" "[B" .null) (g_x1 : n0 ≤ x1) (F_x1_coder : Fld Z h0 x1 "java/lang/String" "coder" "B" (.int (0 : Int32))) :
    MetFree l (⟨"java/lang/String", "<init>", "([C)V"⟩ : MethodName) (head1 (Jvm.Cond.code (⟨"java/lang/String", "<init>", "([C)V"⟩ : MethodName) jdk_42_method_3_code 2 none :: ws) ({ frames := 2, cells := 4, slots := 8, locals := 29 } : Room)) (fun a U => a = #[(.ref x1), (.ref x2)] ∧ Z.Warmed39 U.vm ∧ U.heap = h0 ∧ CHv Z consts_1 U.vm h0 ∧ ∀ x ∈ ([x1] : List Addr), Safe Z consts_1 U.vm h0 x) (fun _ _ _ _ _ => True) (fun _ U o U' => ∃ v L, o = .returned v ∧ Qrm2_2 Z cz x1 x2 c3 h0 n0 v U'.heap L ∧ CHr Z consts_1 U.vm U.heap U'.vm U'.heap ∧ ReturnedEndW U o U' L ({ frames := 2, cells := 4, slots := 8, locals := 29 } : Room).cells ({ frames := 2, cells := 4, slots := 8, locals := 29 } : Room).slots) := by
  refine MetFree.of_bodySF (plainFor_of_name pn_java_lang_String) hisR ?_
  intro p e s m args below meth c s₁ Bd hml0 hP hK
  obtain ⟨rfl, hZ, hh, hCv, hSf⟩ := hP
  have hx := Bd.exec
  have hby := Bd.bytes
  have hml : c.maxLocals = 2 := hml0
  have hown : s.vm.findClass "java/lang/String" = some m.cls := findClass_of_methodNamed Bd.named
  have hnm := (name_of_methodNamed Bd.named Bd.method).1
  have X0 : Stand p l e ({ frames := 2, cells := 4, slots := 8, locals := 29 } : Room) (s.setVm s.vm) m #[(.ref x1), (.ref x2)] below meth c s₁ [] 0 0 := Stand.of_body Bd
  have e0 : s₁.heap = h0 := by rw [← hh, Bd.state]; rfl
  have N0 := Fr.nil n0
  have Z0 : n0 ≤ h0.size := O0.1 ▸ O0.2.1
  have pre0 : ∀ t, Steps p.tables e below (s₁.setTop (mkF m 0 #[.val (.ref x1), .val (.ref x2)] [])) t → Steps p.tables e below (s₁.setTop (entryFrame m #[(.ref x1), (.ref x2)] 2)) t := fun t k => castTop (ef_2_RR m x1 x2) k
  have Kr : Keep h0 h0 [x1] := Keep.refl h0 _
  have hEL : EW Z a0 consts_1 := own_ew hw
  have wS : ∀ d ∈ Bundle.stringAtoms, d.before a0 Z = true := fun d hd => hw d (own_wsa d hd)
  have hS : s.Since s.vm 0 := (State.WarmedH.refl s).since 0
  have hk : 0 ≤ h0.size := Nat.zero_le _
  have C0 : CHr Z consts_1 s.vm h0 s.vm h0 := CHr.refl hCv
  have SF_x1 := hSf x1 (List.mem_of_getElem? (i := 0) rfl)
  obtain ⟨cl1, A1, -, S1, M1, -, -⟩ := id V_x2
  obtain ⟨_, _, ⟨T2, L2, k2, n2⟩, -, Xq2, Sq2, gq2, ⟨Lc2, hQ2, l2, y2, z2, Cq2⟩, st2⟩ := X0.specialBackS hx (y := (⟨"java/lang/String", "<init>", "([CIILjava/lang/Void;)V"⟩ : MethodName)) rfl hown (mvT hZ (hw _ (List.mem_of_getElem? (i := 12) rfl))) (mvT hZ (hw _ (List.mem_of_getElem? (i := 13) rfl))) (mvT hZ (hw _ (List.mem_of_getElem? (i := 15) rfl))) (by decide) (own_backH (xs := [x1]) (W := 0) (rm3_1 l Z a0 hw [] cz x1 x2 h0 n0 O0 P (Nat.lt_of_lt_of_le lt_x1 Kr.1) E_x1 F_x1_value g_x1 F_x1_coder) hZ (hw _ (List.mem_of_getElem? (i := 15) rfl)) (hw _ (List.mem_of_getElem? (i := 8) rfl)) (by decide) (by decide) hEL C0.1 (own_sxS (E_x1).lt SF_x1 own_sx0)) (g := (mkF m 6 #[.val (.ref x1), .val (.ref x2)] [.null, (.int (0 : Int32)), (.int (0 : Int32)), (.ref x2), (.ref x1)])) rfl (by rw [hml]; rfl) (Steps.refl _) (a := x1) (argsL := [(.ref x2), (.int (0 : Int32)), (.int (0 : Int32)), .null]) (rest := []) (lenOf pd_0 rfl) rfl (by show 2 * 0 + _ ≤ _; exact Nat.le_of_eq rfl) (hb hby d2_6) (fun _ _ => ⟨rfl, e0, (by decide : 0 + 4 ≤ _), (by decide : 0 + 8 ≤ _)⟩)
  dsimp only [Pt.U, Pt.locs, Pt.cells, Pt.slots] at Xq2 Sq2 gq2 l2 y2 z2 st2 hQ2 Cq2
  subst l2 y2 z2
  obtain ⟨X2, hS2, hZ2, hown2⟩ := rebS hS (show _ ≤ s₁.heap.size by rw [e0]; exact hk) Xq2 Sq2 gq2 hZ hown
  have hkq2 : T2.heap.size ≤ (T2.heap).size := Nat.le_refl _
  obtain ⟨rfl, N2q, K2⟩ := hQ2
  have N2 := Fr.app N0 N2q
  have Ks3 : Keep h0 (T2.heap) [x1] := Kr.trans K2 (allS (Or.inl (List.mem_of_getElem? (i := 0) rfl)) all0)
  have Zs3 : n0 ≤ (T2.heap).size := Nat.le_trans Z0 K2.1
  have Os3 : Old Z n0 (T2.heap) := O0.keep K2 (allS g_x1 all0)
  have Cs3 : CHr Z consts_1 s.vm h0 T2.vm (T2.heap) := C0.trans Cq2
  have sf4 := (Cq2.safe (E_x1).lt SF_x1)
  have hk3 : T2.heap.size ≤ (T2.heap).size := hkq2
  have Cend := Cs3.trans (CHv.at X2 hZ2 hEL Cs3.1)
  obtain ⟨fs, hr, hrun, hended, hREW⟩ := X2.leaveW hS2 hk3 (v := none) (fun _ => rfl)
  refine ⟨_, _, pre0 _ ?_, hrun, hended, _, _, rfl, ?_, ?_, own_rew hREW (by decide) (by decide)⟩
  · show Steps p.tables e below (s₁.setTop (mkF m 0 #[.val (.ref x1), .val (.ref x2)] [])) _
    refine XS.aloadN X0.here hx rfl (hb hby d2_0) rfl rfl ?_
    show Steps p.tables e below (s₁.setTop (mkF m 1 #[.val (.ref x1), .val (.ref x2)] [(.ref x1)])) _
    refine XS.aloadN X0.here hx rfl (hb hby d2_1) rfl rfl ?_
    show Steps p.tables e below (s₁.setTop (mkF m 2 #[.val (.ref x1), .val (.ref x2)] [(.ref x2), (.ref x1)])) _
    refine XS.iconst X0.here hx rfl (hb hby d2_2) ?_
    show Steps p.tables e below (s₁.setTop (mkF m 3 #[.val (.ref x1), .val (.ref x2)] [(.int (0 : Int32)), (.ref x2), (.ref x1)])) _
    refine XS.aloadN X0.here hx rfl (hb hby d2_3) rfl rfl ?_
    show Steps p.tables e below (s₁.setTop (mkF m 4 #[.val (.ref x1), .val (.ref x2)] [(.ref x2), (.int (0 : Int32)), (.ref x2), (.ref x1)])) _
    refine X0.arraylength hx (by rw [e0]; exact A1.1) (State.isArrayOf_alike hZ.alike A1.2.1) (g := (mkF m 4 #[.val (.ref x1), .val (.ref x2)] [(.ref x2), (.int (0 : Int32)), (.ref x2), (.ref x1)])) rfl rfl (hb hby d2_4) _ ?_
    rw [len_of S1 M1]
    show Steps p.tables e below (s₁.setTop (mkF m 5 #[.val (.ref x1), .val (.ref x2)] [(.int (0 : Int32)), (.int (0 : Int32)), (.ref x2), (.ref x1)])) _
    refine XS.aconstNull X0.here hx rfl (hb hby d2_5) ?_
    show Steps p.tables e below (s₁.setTop (mkF m 6 #[.val (.ref x1), .val (.ref x2)] [.null, (.int (0 : Int32)), (.int (0 : Int32)), (.ref x2), (.ref x1)])) _
    refine st2.trans ?_
    show Steps p.tables e below (T2.setTop (mkF m 9 #[.val (.ref x1), .val (.ref x2)] [])) _
    exact X2.returnOut hx Bd.returns (hb hby d2_9) hr
  · show Qrm2_2 Z cz x1 x2 c3 h0 n0 _ T2.heap _
    exact ⟨rfl, N2, Ks3⟩
  · rw [hh]
    show CHr Z consts_1 s.vm h0 T2.vm T2.heap
    exact Cend
theorem pd_1 : parseMethodDescriptor "([C)V" = some ⟨[(.array .char)], none⟩ := by decide +kernel
theorem d1_43 : decode method_2_code 43 = .ok (.areturn, 1) := by decide +kernel
theorem d1_44 : decode method_2_code 44 = .ok (.iload_n 2, 1) := by decide +kernel
theorem d1_45 : decode method_2_code 45 = .ok (.iconst 1, 1) := by decide +kernel
theorem d1_46 : decode method_2_code 46 = .ok (.if_icmp .ne 23, 3) := by decide +kernel
theorem d1_49 : decode method_2_code 49 = .ok (.iconst 1, 1) := by decide +kernel
theorem d1_50 : decode method_2_code 50 = .ok (.newarray .char, 2) := by decide +kernel
theorem d1_52 : decode method_2_code 52 = .ok (.astore 5, 2) := by decide +kernel
theorem d1_54 : decode method_2_code 54 = .ok (.aload 5, 2) := by decide +kernel
theorem d1_56 : decode method_2_code 56 = .ok (.iconst 0, 1) := by decide +kernel
theorem d1_57 : decode method_2_code 57 = .ok (.iload_n 3, 1) := by decide +kernel
theorem d1_58 : decode method_2_code 58 = .ok (.castore, 1) := by decide +kernel
theorem d1_59 : decode method_2_code 59 = .ok (.new 8, 3) := by decide +kernel
theorem d1_62 : decode method_2_code 62 = .ok (.dup, 1) := by decide +kernel
theorem d1_63 : decode method_2_code 63 = .ok (.aload 5, 2) := by decide +kernel
theorem d1_65 : decode method_2_code 65 = .ok (.invokespecial 10, 3) := by decide +kernel
theorem d1_68 : decode method_2_code 68 = .ok (.areturn, 1) := by decide +kernel
theorem d1_69 : decode method_2_code 69 = .ok (.iconst 2, 1) := by decide +kernel
theorem d1_70 : decode method_2_code 70 = .ok (.newarray .char, 2) := by decide +kernel
theorem d1_72 : decode method_2_code 72 = .ok (.astore 5, 2) := by decide +kernel
theorem d1_74 : decode method_2_code 74 = .ok (.aload 5, 2) := by decide +kernel
theorem d1_76 : decode method_2_code 76 = .ok (.iconst 0, 1) := by decide +kernel
theorem d1_77 : decode method_2_code 77 = .ok (.iload_n 3, 1) := by decide +kernel
theorem d1_78 : decode method_2_code 78 = .ok (.castore, 1) := by decide +kernel
theorem d1_79 : decode method_2_code 79 = .ok (.aload 5, 2) := by decide +kernel
theorem d1_81 : decode method_2_code 81 = .ok (.iconst 1, 1) := by decide +kernel
theorem d1_82 : decode method_2_code 82 = .ok (.iload 4, 2) := by decide +kernel
theorem d1_84 : decode method_2_code 84 = .ok (.castore, 1) := by decide +kernel
theorem d1_85 : decode method_2_code 85 = .ok (.new 8, 3) := by decide +kernel
theorem d1_88 : decode method_2_code 88 = .ok (.dup, 1) := by decide +kernel
theorem d1_89 : decode method_2_code 89 = .ok (.aload 5, 2) := by decide +kernel
theorem d1_91 : decode method_2_code 91 = .ok (.invokespecial 10, 3) := by decide +kernel
theorem d1_94 : decode method_2_code 94 = .ok (.areturn, 1) := by decide +kernel
theorem ef_1_II (m : MethodId) (x0 : Int32) (x1 : Int32) : entryFrame m #[(.int x0), (.int x1)] 6 = mkF m 0 #[.val (.int x0), .val (.int x1), .unset, .unset, .unset, .unset] [] := by first | (simp [entryFrame, mkF, argsToLocals, Value.category]; done) | rfl
theorem pn_com_example_iron_wire_ironwire_definition_QualifierDefinitionInheritedPinLaw : plainName "com/example/iron_wire/ironwire/definition/QualifierDefinitionInheritedPinLaw" = true := by first | (simp [plainName, overriddenIn]; done) | decide +kernel
def QrmS_0 (Z : State) (cz : Int32) (i1 : Int32) (i2 : Int32) (h0 : Heap) (n0 : Nat) (v : Option Value) (h : Heap) (L : List Loc) : Prop := ∃ y1 : Addr, v = some (.ref y1) ∧ Fr n0 L ∧ Keep h0 h [] ∧ h0.size ≤ y1 ∧ Exa Z h y1 "java/lang/String"
set_option maxRecDepth 65536 in
set_option maxHeartbeats 40000000 in
theorem rmS_0 (l : Launch) (Z : State) (a0 : Array Value) (hw : ∀ d ∈ tables_1, d.before a0 Z = true) (ws : List Jvm.Cond) (cz : Int32) (i1 : Int32) (i2 : Int32) (h0 : Heap) (n0 : Nat) (O0 : Old Z n0 h0) (P : Pins Z cz) (kk : ((i2 &&& (2147483647 : Int32)) % (3 : Int32)) = (0 : Int32)) :
    MetFree l (⟨"com/example/iron_wire/ironwire/definition/QualifierDefinitionInheritedPinLaw", "str", "(II)Ljava/lang/String;"⟩ : MethodName) (head1 (Jvm.Cond.code (⟨"com/example/iron_wire/ironwire/definition/QualifierDefinitionInheritedPinLaw", "str", "(II)Ljava/lang/String;"⟩ : MethodName) method_2_code 6 (some (.object "java/lang/String")) :: ws) ({ frames := 4, cells := 6, slots := 12, locals := 66 } : Room)) (fun a U => a = #[(.int i1), (.int i2)] ∧ Z.Warmed39 U.vm ∧ U.heap = h0 ∧ CHv Z consts_1 U.vm h0 ∧ ∀ x ∈ ([] : List Addr), Safe Z consts_1 U.vm h0 x) (fun _ _ _ _ _ => True) (fun _ U o U' => ∃ v L, o = .returned v ∧ QrmS_0 Z cz i1 i2 h0 n0 v U'.heap L ∧ CHr Z consts_1 U.vm U.heap U'.vm U'.heap ∧ ReturnedEndW U o U' L ({ frames := 4, cells := 6, slots := 12, locals := 66 } : Room).cells ({ frames := 4, cells := 6, slots := 12, locals := 66 } : Room).slots) := by
  refine MetFree.of_bodySF (plainFor_of_name pn_com_example_iron_wire_ironwire_definition_QualifierDefinitionInheritedPinLaw) hisR ?_
  intro p e s m args below meth c s₁ Bd hml0 hP hK
  obtain ⟨rfl, hZ, hh, hCv, hSf⟩ := hP
  have hx := Bd.exec
  have hby := Bd.bytes
  have hml : c.maxLocals = 6 := hml0
  have hown : s.vm.findClass "com/example/iron_wire/ironwire/definition/QualifierDefinitionInheritedPinLaw" = some m.cls := findClass_of_methodNamed Bd.named
  have hnm := (name_of_methodNamed Bd.named Bd.method).1
  have X0 : Stand p l e ({ frames := 4, cells := 6, slots := 12, locals := 66 } : Room) (s.setVm s.vm) m #[(.int i1), (.int i2)] below meth c s₁ [] 0 0 := Stand.of_body Bd
  have e0 : s₁.heap = h0 := by rw [← hh, Bd.state]; rfl
  have N0 := Fr.nil n0
  have Z0 : n0 ≤ h0.size := O0.1 ▸ O0.2.1
  have pre0 : ∀ t, Steps p.tables e below (s₁.setTop (mkF m 0 #[.val (.int i1), .val (.int i2), .unset, .unset, .unset, .unset] [])) t → Steps p.tables e below (s₁.setTop (entryFrame m #[(.int i1), (.int i2)] 6)) t := fun t k => castTop (ef_1_II m i1 i2) k
  have Kr : Keep h0 h0 [] := Keep.refl h0 _
  have hEL : EW Z a0 consts_1 := own_ew hw
  have wS : ∀ d ∈ Bundle.stringAtoms, d.before a0 Z = true := fun d hd => hw d (own_wsa d hd)
  have hS : s.Since s.vm 0 := (State.WarmedH.refl s).since 0
  have hk : 0 ≤ h0.size := Nat.zero_le _
  have C0 : CHr Z consts_1 s.vm h0 s.vm h0 := CHr.refl hCv
  obtain ⟨T1, h1, k1, X1, e1, E1, A1, st1⟩ := newP X0 hx hZ (hw _ (List.mem_of_getElem? (i := 5) rfl)) e0 (g := (mkF m 30 #[.val (.int i1), .val (.int i2), .val (.int (0 : Int32)), .val (.int ((i1 &&& (255 : Int32)).toUInt32.toUInt16.toUInt32.toInt32)), .val (.int ((((i1.toUInt32 >>> ((8 : Int32) &&& 31).toUInt32).toInt32) &&& (255 : Int32)).toUInt32.toUInt16.toUInt32.toInt32)), .unset] [(.int (0 : Int32))])) rfl (hb hby d1_30) rfl (by decide) (cap := 0) (by decide) (by decide) (by decide) (by decide)
  obtain ⟨b1, g1⟩ : ∃ z, z = (h0).size := ⟨_, rfl⟩
  rw [← g1] at A1 st1
  have V1 : Arv Z h1 b1 k1 .char (0 : Int32) [] (.int (0 : Int32)) := (Arv.new A1 (by decide)).pad (pad_rep [] (.int (0 : Int32)) 0)
  have Zs2 : n0 ≤ (h1).size := Nat.le_trans Z0 E1.1
  have Os2 : Old Z n0 (h1) := O0.ext E1
  have Ks2 : Keep h0 (h1) [] := Kr.ext E1
  have Cs2 : CHr Z consts_1 s.vm h0 s.vm (h1) := C0.trans (CHr.ext E1 C0.1)
  have hk2 : 0 ≤ (h1).size := Nat.le_trans hk E1.1
  obtain ⟨T3, h3, X3, e3, E3, A3, D3, -, st3⟩ := newO X1 hx hZ hown (hw _ (List.mem_of_getElem? (i := 6) rfl)) (hw _ (List.mem_of_getElem? (i := 7) rfl)) (hw _ (List.mem_of_getElem? (i := 8) rfl)) e1 (g := (mkF m 34 #[.val (.int i1), .val (.int i2), .val (.int (0 : Int32)), .val (.int ((i1 &&& (255 : Int32)).toUInt32.toUInt16.toUInt32.toInt32)), .val (.int ((((i1.toUInt32 >>> ((8 : Int32) &&& 31).toUInt32).toInt32) &&& (255 : Int32)).toUInt32.toUInt16.toUInt32.toInt32)), .val (.ref b1)] [])) rfl (hb hby d1_34) (by decide) (by decide)
  obtain ⟨b3, g3⟩ : ∃ z, z = (h1).size := ⟨_, rfl⟩
  rw [← g3] at A3 D3 st3
  have sf4 : Safe Z consts_1 s.vm (h1) b3 := Safe.new (Nat.le_of_eq g3.symm)
  have Zs5 : n0 ≤ (h3).size := Nat.le_trans Zs2 E3.1
  have Os5 : Old Z n0 (h3) := Os2.ext E3
  have Ks5 : Keep h0 (h3) [] := Ks2.ext E3
  have Cs5 : CHr Z consts_1 s.vm h0 s.vm (h3) := Cs2.trans (CHr.ext E3 Cs2.1)
  have sf6 := (Safe.ext E3 Cs2.1 sf4)
  have hk5 : 0 ≤ (h3).size := Nat.le_trans hk2 E3.1
  have D3_value : Fld Z h3 b3 "java/lang/String" "value" "[B" .null := D3 (Or.inr (hw _ (List.mem_of_getElem? (i := 21) rfl))) (ty := (.array .byte)) (by decide)
  have D3_coder : Fld Z h3 b3 "java/lang/String" "coder" "B" (.int (0 : Int32)) := D3 (Or.inr (hw _ (List.mem_of_getElem? (i := 22) rfl))) (ty := .byte) (by decide)
  have f7 := (V1.ext E3)
  obtain ⟨_, _, ⟨T8, L8, k8, n8⟩, -, Xq8, Sq8, gq8, ⟨Lc8, hQ8, l8, y8, z8, Cq8⟩, st8⟩ := X3.specialBackS hx (y := (⟨"java/lang/String", "<init>", "([C)V"⟩ : MethodName)) rfl hown (mvT hZ (hw _ (List.mem_of_getElem? (i := 9) rfl))) (mvT hZ (hw _ (List.mem_of_getElem? (i := 10) rfl))) (mvT hZ (hw _ (List.mem_of_getElem? (i := 11) rfl))) (by decide) (own_backH (xs := [b3]) (W := 1) (rm2_2 l Z a0 hw [] cz b3 b1 k1 h3 n0 Os5 P f7 (A3).lt A3 D3_value (Nat.le_trans Zs2 (Nat.le_of_eq g3.symm)) D3_coder) hZ (hw _ (List.mem_of_getElem? (i := 11) rfl)) (hw _ (List.mem_of_getElem? (i := 8) rfl)) (by decide) (by decide) hEL Cs5.1 (own_sxS (A3).lt sf6 own_sx0)) (g := (mkF m 40 #[.val (.int i1), .val (.int i2), .val (.int (0 : Int32)), .val (.int ((i1 &&& (255 : Int32)).toUInt32.toUInt16.toUInt32.toInt32)), .val (.int ((((i1.toUInt32 >>> ((8 : Int32) &&& 31).toUInt32).toInt32) &&& (255 : Int32)).toUInt32.toUInt16.toUInt32.toInt32)), .val (.ref b1)] [(.ref b1), (.ref b3), (.ref b3)])) rfl (by rw [hml]; rfl) (Steps.refl _) (a := b3) (argsL := [(.ref b1)]) (rest := [(.ref b3)]) (lenOf pd_1 rfl) rfl (by show 2 * 0 + _ ≤ _; exact Nat.le_of_eq rfl) (hb hby d1_40) (fun _ _ => ⟨rfl, e3, (by decide : 2 + 4 ≤ _), (by decide : 4 + 8 ≤ _)⟩)
  dsimp only [Pt.U, Pt.locs, Pt.cells, Pt.slots] at Xq8 Sq8 gq8 l8 y8 z8 st8 hQ8 Cq8
  subst l8 y8 z8
  obtain ⟨X8, hS8, hZ8, hown8⟩ := rebS hS (show _ ≤ T3.heap.size by rw [e3]; exact hk5) Xq8 Sq8 gq8 hZ hown
  have hkq8 : T8.heap.size ≤ (T8.heap).size := Nat.le_refl _
  obtain ⟨rfl, N8q, K8⟩ := hQ8
  have N8 := Fr.app N0 N8q
  have Ks9 : Keep h0 (T8.heap) [] := Ks5.trans K8 (allS (Or.inr (Nat.le_trans Ks2.1 (Nat.le_of_eq g3.symm))) all0)
  have Zs9 : n0 ≤ (T8.heap).size := Nat.le_trans Zs5 K8.1
  have Os9 : Old Z n0 (T8.heap) := Os5.keep K8 (allS (Nat.le_trans Zs2 (Nat.le_of_eq g3.symm)) all0)
  have Cs9 : CHr Z consts_1 s.vm h0 T8.vm (T8.heap) := Cs5.trans Cq8
  have sf10 := (Cq8.safe (A3).lt sf6)
  have hk9 : T8.heap.size ≤ (T8.heap).size := hkq8
  have f11 := (A3.keep K8)
  have Cend := Cs9.trans (CHv.at X8 hZ8 hEL Cs9.1)
  obtain ⟨fs, hr, hrun, hended, hREW⟩ := X8.leaveW hS8 hk9 (v := some (.ref b3)) (fun h => by rw [Bd.returns] at h; cases h)
  refine ⟨_, _, pre0 _ ?_, hrun, hended, _, _, rfl, ?_, ?_, own_rew hREW (by decide) (by decide)⟩
  · show Steps p.tables e below (s₁.setTop (mkF m 0 #[.val (.int i1), .val (.int i2), .unset, .unset, .unset, .unset] [])) _
    refine XS.iloadN X0.here hx rfl (hb hby d1_0) rfl ?_
    show Steps p.tables e below (s₁.setTop (mkF m 1 #[.val (.int i1), .val (.int i2), .unset, .unset, .unset, .unset] [(.int i2)])) _
    refine Jvm.Stand.ldcI X0 hx hown (mvT hZ (hw _ (List.mem_of_getElem? (i := 4) rfl))) rfl (hb hby d1_1) ?_
    show Steps p.tables e below (s₁.setTop (mkF m 3 #[.val (.int i1), .val (.int i2), .unset, .unset, .unset, .unset] [(.int (2147483647 : Int32)), (.int i2)])) _
    refine XS.iand X0.here hx rfl (hb hby d1_3) rfl ?_
    show Steps p.tables e below (s₁.setTop (mkF m 4 #[.val (.int i1), .val (.int i2), .unset, .unset, .unset, .unset] [(.int (i2 &&& (2147483647 : Int32)))])) _
    refine XS.iconst X0.here hx rfl (hb hby d1_4) ?_
    show Steps p.tables e below (s₁.setTop (mkF m 5 #[.val (.int i1), .val (.int i2), .unset, .unset, .unset, .unset] [(.int (3 : Int32)), (.int (i2 &&& (2147483647 : Int32)))])) _
    refine iremM X0 hx rfl (hb hby d1_5) rfl (by decide) ?_
    show Steps p.tables e below (s₁.setTop (mkF m 6 #[.val (.int i1), .val (.int i2), .unset, .unset, .unset, .unset] [(.int ((i2 &&& (2147483647 : Int32)) % (3 : Int32)))])) _
    rw [kk]
    show Steps p.tables e below (s₁.setTop (mkF m 6 #[.val (.int i1), .val (.int i2), .unset, .unset, .unset, .unset] [(.int (0 : Int32))])) _
    refine XS.istoreN X0.here hx rfl (hb hby d1_6) rfl (l' := #[.val (.int i1), .val (.int i2), .val (.int (0 : Int32)), .unset, .unset, .unset]) rfl ?_
    show Steps p.tables e below (s₁.setTop (mkF m 7 #[.val (.int i1), .val (.int i2), .val (.int (0 : Int32)), .unset, .unset, .unset] [])) _
    refine XS.iloadN X0.here hx rfl (hb hby d1_7) rfl ?_
    show Steps p.tables e below (s₁.setTop (mkF m 8 #[.val (.int i1), .val (.int i2), .val (.int (0 : Int32)), .unset, .unset, .unset] [(.int i1)])) _
    refine XS.sipush X0.here hx rfl (hb hby d1_8) ?_
    show Steps p.tables e below (s₁.setTop (mkF m 11 #[.val (.int i1), .val (.int i2), .val (.int (0 : Int32)), .unset, .unset, .unset] [(.int (255 : Int32)), (.int i1)])) _
    refine XS.iand X0.here hx rfl (hb hby d1_11) rfl ?_
    show Steps p.tables e below (s₁.setTop (mkF m 12 #[.val (.int i1), .val (.int i2), .val (.int (0 : Int32)), .unset, .unset, .unset] [(.int (i1 &&& (255 : Int32)))])) _
    refine XS.i2c X0.here hx rfl (hb hby d1_12) rfl ?_
    show Steps p.tables e below (s₁.setTop (mkF m 13 #[.val (.int i1), .val (.int i2), .val (.int (0 : Int32)), .unset, .unset, .unset] [(.int ((i1 &&& (255 : Int32)).toUInt32.toUInt16.toUInt32.toInt32))])) _
    refine XS.istoreN X0.here hx rfl (hb hby d1_13) rfl (l' := #[.val (.int i1), .val (.int i2), .val (.int (0 : Int32)), .val (.int ((i1 &&& (255 : Int32)).toUInt32.toUInt16.toUInt32.toInt32)), .unset, .unset]) rfl ?_
    show Steps p.tables e below (s₁.setTop (mkF m 14 #[.val (.int i1), .val (.int i2), .val (.int (0 : Int32)), .val (.int ((i1 &&& (255 : Int32)).toUInt32.toUInt16.toUInt32.toInt32)), .unset, .unset] [])) _
    refine XS.iloadN X0.here hx rfl (hb hby d1_14) rfl ?_
    show Steps p.tables e below (s₁.setTop (mkF m 15 #[.val (.int i1), .val (.int i2), .val (.int (0 : Int32)), .val (.int ((i1 &&& (255 : Int32)).toUInt32.toUInt16.toUInt32.toInt32)), .unset, .unset] [(.int i1)])) _
    refine XS.bipush X0.here hx rfl (hb hby d1_15) ?_
    show Steps p.tables e below (s₁.setTop (mkF m 17 #[.val (.int i1), .val (.int i2), .val (.int (0 : Int32)), .val (.int ((i1 &&& (255 : Int32)).toUInt32.toUInt16.toUInt32.toInt32)), .unset, .unset] [(.int (8 : Int32)), (.int i1)])) _
    refine XS.iushr X0.here hx rfl (hb hby d1_17) rfl ?_
    show Steps p.tables e below (s₁.setTop (mkF m 18 #[.val (.int i1), .val (.int i2), .val (.int (0 : Int32)), .val (.int ((i1 &&& (255 : Int32)).toUInt32.toUInt16.toUInt32.toInt32)), .unset, .unset] [(.int ((i1.toUInt32 >>> ((8 : Int32) &&& 31).toUInt32).toInt32))])) _
    refine XS.sipush X0.here hx rfl (hb hby d1_18) ?_
    show Steps p.tables e below (s₁.setTop (mkF m 21 #[.val (.int i1), .val (.int i2), .val (.int (0 : Int32)), .val (.int ((i1 &&& (255 : Int32)).toUInt32.toUInt16.toUInt32.toInt32)), .unset, .unset] [(.int (255 : Int32)), (.int ((i1.toUInt32 >>> ((8 : Int32) &&& 31).toUInt32).toInt32))])) _
    refine XS.iand X0.here hx rfl (hb hby d1_21) rfl ?_
    show Steps p.tables e below (s₁.setTop (mkF m 22 #[.val (.int i1), .val (.int i2), .val (.int (0 : Int32)), .val (.int ((i1 &&& (255 : Int32)).toUInt32.toUInt16.toUInt32.toInt32)), .unset, .unset] [(.int (((i1.toUInt32 >>> ((8 : Int32) &&& 31).toUInt32).toInt32) &&& (255 : Int32)))])) _
    refine XS.i2c X0.here hx rfl (hb hby d1_22) rfl ?_
    show Steps p.tables e below (s₁.setTop (mkF m 23 #[.val (.int i1), .val (.int i2), .val (.int (0 : Int32)), .val (.int ((i1 &&& (255 : Int32)).toUInt32.toUInt16.toUInt32.toInt32)), .unset, .unset] [(.int ((((i1.toUInt32 >>> ((8 : Int32) &&& 31).toUInt32).toInt32) &&& (255 : Int32)).toUInt32.toUInt16.toUInt32.toInt32))])) _
    refine XS.istore X0.here hx rfl (hb hby d1_23) rfl (l' := #[.val (.int i1), .val (.int i2), .val (.int (0 : Int32)), .val (.int ((i1 &&& (255 : Int32)).toUInt32.toUInt16.toUInt32.toInt32)), .val (.int ((((i1.toUInt32 >>> ((8 : Int32) &&& 31).toUInt32).toInt32) &&& (255 : Int32)).toUInt32.toUInt16.toUInt32.toInt32)), .unset]) rfl ?_
    show Steps p.tables e below (s₁.setTop (mkF m 25 #[.val (.int i1), .val (.int i2), .val (.int (0 : Int32)), .val (.int ((i1 &&& (255 : Int32)).toUInt32.toUInt16.toUInt32.toInt32)), .val (.int ((((i1.toUInt32 >>> ((8 : Int32) &&& 31).toUInt32).toInt32) &&& (255 : Int32)).toUInt32.toUInt16.toUInt32.toInt32)), .unset] [])) _
    refine XS.iloadN X0.here hx rfl (hb hby d1_25) rfl ?_
    show Steps p.tables e below (s₁.setTop (mkF m 26 #[.val (.int i1), .val (.int i2), .val (.int (0 : Int32)), .val (.int ((i1 &&& (255 : Int32)).toUInt32.toUInt16.toUInt32.toInt32)), .val (.int ((((i1.toUInt32 >>> ((8 : Int32) &&& 31).toUInt32).toInt32) &&& (255 : Int32)).toUInt32.toUInt16.toUInt32.toInt32)), .unset] [(.int (0 : Int32))])) _
    refine XS.ifNo X0.here hx rfl (hb hby d1_26) rfl (by decide) ?_
    show Steps p.tables e below (s₁.setTop (mkF m 29 #[.val (.int i1), .val (.int i2), .val (.int (0 : Int32)), .val (.int ((i1 &&& (255 : Int32)).toUInt32.toUInt16.toUInt32.toInt32)), .val (.int ((((i1.toUInt32 >>> ((8 : Int32) &&& 31).toUInt32).toInt32) &&& (255 : Int32)).toUInt32.toUInt16.toUInt32.toInt32)), .unset] [])) _
    refine XS.iconst X0.here hx rfl (hb hby d1_29) ?_
    show Steps p.tables e below (s₁.setTop (mkF m 30 #[.val (.int i1), .val (.int i2), .val (.int (0 : Int32)), .val (.int ((i1 &&& (255 : Int32)).toUInt32.toUInt16.toUInt32.toInt32)), .val (.int ((((i1.toUInt32 >>> ((8 : Int32) &&& 31).toUInt32).toInt32) &&& (255 : Int32)).toUInt32.toUInt16.toUInt32.toInt32)), .unset] [(.int (0 : Int32))])) _
    refine st1 _ ?_
    show Steps p.tables e below (T1.setTop (mkF m 32 #[.val (.int i1), .val (.int i2), .val (.int (0 : Int32)), .val (.int ((i1 &&& (255 : Int32)).toUInt32.toUInt16.toUInt32.toInt32)), .val (.int ((((i1.toUInt32 >>> ((8 : Int32) &&& 31).toUInt32).toInt32) &&& (255 : Int32)).toUInt32.toUInt16.toUInt32.toInt32)), .unset] [(.ref b1)])) _
    refine XS.astore X1.here hx rfl (hb hby d1_32) rfl rfl (l' := #[.val (.int i1), .val (.int i2), .val (.int (0 : Int32)), .val (.int ((i1 &&& (255 : Int32)).toUInt32.toUInt16.toUInt32.toInt32)), .val (.int ((((i1.toUInt32 >>> ((8 : Int32) &&& 31).toUInt32).toInt32) &&& (255 : Int32)).toUInt32.toUInt16.toUInt32.toInt32)), .val (.ref b1)]) rfl ?_
    show Steps p.tables e below (T1.setTop (mkF m 34 #[.val (.int i1), .val (.int i2), .val (.int (0 : Int32)), .val (.int ((i1 &&& (255 : Int32)).toUInt32.toUInt16.toUInt32.toInt32)), .val (.int ((((i1.toUInt32 >>> ((8 : Int32) &&& 31).toUInt32).toInt32) &&& (255 : Int32)).toUInt32.toUInt16.toUInt32.toInt32)), .val (.ref b1)] [])) _
    refine st3 _ ?_
    show Steps p.tables e below (T3.setTop (mkF m 37 #[.val (.int i1), .val (.int i2), .val (.int (0 : Int32)), .val (.int ((i1 &&& (255 : Int32)).toUInt32.toUInt16.toUInt32.toInt32)), .val (.int ((((i1.toUInt32 >>> ((8 : Int32) &&& 31).toUInt32).toInt32) &&& (255 : Int32)).toUInt32.toUInt16.toUInt32.toInt32)), .val (.ref b1)] [(.ref b3)])) _
    refine XS.dup X3.here hx rfl (hb hby d1_37) rfl rfl ?_
    show Steps p.tables e below (T3.setTop (mkF m 38 #[.val (.int i1), .val (.int i2), .val (.int (0 : Int32)), .val (.int ((i1 &&& (255 : Int32)).toUInt32.toUInt16.toUInt32.toInt32)), .val (.int ((((i1.toUInt32 >>> ((8 : Int32) &&& 31).toUInt32).toInt32) &&& (255 : Int32)).toUInt32.toUInt16.toUInt32.toInt32)), .val (.ref b1)] [(.ref b3), (.ref b3)])) _
    refine XS.aload X3.here hx rfl (hb hby d1_38) rfl rfl ?_
    show Steps p.tables e below (T3.setTop (mkF m 40 #[.val (.int i1), .val (.int i2), .val (.int (0 : Int32)), .val (.int ((i1 &&& (255 : Int32)).toUInt32.toUInt16.toUInt32.toInt32)), .val (.int ((((i1.toUInt32 >>> ((8 : Int32) &&& 31).toUInt32).toInt32) &&& (255 : Int32)).toUInt32.toUInt16.toUInt32.toInt32)), .val (.ref b1)] [(.ref b1), (.ref b3), (.ref b3)])) _
    refine st8.trans ?_
    show Steps p.tables e below (T8.setTop (mkF m 43 #[.val (.int i1), .val (.int i2), .val (.int (0 : Int32)), .val (.int ((i1 &&& (255 : Int32)).toUInt32.toUInt16.toUInt32.toInt32)), .val (.int ((((i1.toUInt32 >>> ((8 : Int32) &&& 31).toUInt32).toInt32) &&& (255 : Int32)).toUInt32.toUInt16.toUInt32.toInt32)), .val (.ref b1)] [(.ref b3)])) _
    exact retOut X8 hx Bd.returns rfl (Or.inr (Or.inr (Or.inr (Or.inr ⟨rfl, rfl, rfl⟩)))) (hb hby d1_43) hr
  · show QrmS_0 Z cz i1 i2 h0 n0 _ T8.heap _
    exact ⟨b3, rfl, N8, Ks9, (Nat.le_trans Ks2.1 (Nat.le_of_eq g3.symm)), f11⟩
  · rw [hh]
    show CHr Z consts_1 s.vm h0 T8.vm T8.heap
    exact Cend
def QrmS_1 (Z : State) (cz : Int32) (i1 : Int32) (i2 : Int32) (h0 : Heap) (n0 : Nat) (v : Option Value) (h : Heap) (L : List Loc) : Prop := ∃ y1 : Addr, v = some (.ref y1) ∧ Fr n0 L ∧ Keep h0 h [] ∧ h0.size ≤ y1 ∧ Exa Z h y1 "java/lang/String"
set_option maxRecDepth 65536 in
set_option maxHeartbeats 40000000 in
theorem rmS_1 (l : Launch) (Z : State) (a0 : Array Value) (hw : ∀ d ∈ tables_1, d.before a0 Z = true) (ws : List Jvm.Cond) (cz : Int32) (i1 : Int32) (i2 : Int32) (h0 : Heap) (n0 : Nat) (O0 : Old Z n0 h0) (P : Pins Z cz) (kk : ((i2 &&& (2147483647 : Int32)) % (3 : Int32)) = (1 : Int32)) :
    MetFree l (⟨"com/example/iron_wire/ironwire/definition/QualifierDefinitionInheritedPinLaw", "str", "(II)Ljava/lang/String;"⟩ : MethodName) (head1 (Jvm.Cond.code (⟨"com/example/iron_wire/ironwire/definition/QualifierDefinitionInheritedPinLaw", "str", "(II)Ljava/lang/String;"⟩ : MethodName) method_2_code 6 (some (.object "java/lang/String")) :: ws) ({ frames := 4, cells := 6, slots := 12, locals := 66 } : Room)) (fun a U => a = #[(.int i1), (.int i2)] ∧ Z.Warmed39 U.vm ∧ U.heap = h0 ∧ CHv Z consts_1 U.vm h0 ∧ ∀ x ∈ ([] : List Addr), Safe Z consts_1 U.vm h0 x) (fun _ _ _ _ _ => True) (fun _ U o U' => ∃ v L, o = .returned v ∧ QrmS_1 Z cz i1 i2 h0 n0 v U'.heap L ∧ CHr Z consts_1 U.vm U.heap U'.vm U'.heap ∧ ReturnedEndW U o U' L ({ frames := 4, cells := 6, slots := 12, locals := 66 } : Room).cells ({ frames := 4, cells := 6, slots := 12, locals := 66 } : Room).slots) := by
  refine MetFree.of_bodySF (plainFor_of_name pn_com_example_iron_wire_ironwire_definition_QualifierDefinitionInheritedPinLaw) hisR ?_
  intro p e s m args below meth c s₁ Bd hml0 hP hK
  obtain ⟨rfl, hZ, hh, hCv, hSf⟩ := hP
  have hx := Bd.exec
  have hby := Bd.bytes
  have hml : c.maxLocals = 6 := hml0
  have hown : s.vm.findClass "com/example/iron_wire/ironwire/definition/QualifierDefinitionInheritedPinLaw" = some m.cls := findClass_of_methodNamed Bd.named
  have hnm := (name_of_methodNamed Bd.named Bd.method).1
  have X0 : Stand p l e ({ frames := 4, cells := 6, slots := 12, locals := 66 } : Room) (s.setVm s.vm) m #[(.int i1), (.int i2)] below meth c s₁ [] 0 0 := Stand.of_body Bd
  have e0 : s₁.heap = h0 := by rw [← hh, Bd.state]; rfl
  have N0 := Fr.nil n0
  have Z0 : n0 ≤ h0.size := O0.1 ▸ O0.2.1
  have pre0 : ∀ t, Steps p.tables e below (s₁.setTop (mkF m 0 #[.val (.int i1), .val (.int i2), .unset, .unset, .unset, .unset] [])) t → Steps p.tables e below (s₁.setTop (entryFrame m #[(.int i1), (.int i2)] 6)) t := fun t k => castTop (ef_1_II m i1 i2) k
  have S_compact : Sta Z Z.heap "java/lang/String" "COMPACT_STRINGS" "Z" (.int cz) := P.1
  have N_cz : ¬ cz = 0 := P.2
  have Kr : Keep h0 h0 [] := Keep.refl h0 _
  have hEL : EW Z a0 consts_1 := own_ew hw
  have wS : ∀ d ∈ Bundle.stringAtoms, d.before a0 Z = true := fun d hd => hw d (own_wsa d hd)
  have hS : s.Since s.vm 0 := (State.WarmedH.refl s).since 0
  have hk : 0 ≤ h0.size := Nat.zero_le _
  have C0 : CHr Z consts_1 s.vm h0 s.vm h0 := CHr.refl hCv
  obtain ⟨T1, h1, k1, X1, e1, E1, A1, st1⟩ := newP X0 hx hZ (hw _ (List.mem_of_getElem? (i := 5) rfl)) e0 (g := (mkF m 50 #[.val (.int i1), .val (.int i2), .val (.int (1 : Int32)), .val (.int ((i1 &&& (255 : Int32)).toUInt32.toUInt16.toUInt32.toInt32)), .val (.int ((((i1.toUInt32 >>> ((8 : Int32) &&& 31).toUInt32).toInt32) &&& (255 : Int32)).toUInt32.toUInt16.toUInt32.toInt32)), .unset] [(.int (1 : Int32))])) rfl (hb hby d1_50) rfl (by decide) (cap := 1) (by decide) (by decide) (by decide) (by decide)
  obtain ⟨b1, g1⟩ : ∃ z, z = (h0).size := ⟨_, rfl⟩
  rw [← g1] at A1 st1
  have V1 : Arv Z h1 b1 k1 .char (1 : Int32) [(.int (0 : Int32))] (.int (0 : Int32)) := (Arv.new A1 (by decide)).pad (pad_rep [] (.int (0 : Int32)) 1)
  have Zs2 : n0 ≤ (h1).size := Nat.le_trans Z0 E1.1
  have Os2 : Old Z n0 (h1) := O0.ext E1
  have Ks2 : Keep h0 (h1) [] := Kr.ext E1
  have Cs2 : CHr Z consts_1 s.vm h0 s.vm (h1) := C0.trans (CHr.ext E1 C0.1)
  have hk2 : 0 ≤ (h1).size := Nat.le_trans hk E1.1
  obtain ⟨cl3, A3, q3, S3, M3, H3, G3⟩ := id V1
  have hin3 : ¬ ((0 : Int32) < 0 ∨ cl3.slots.size ≤ ((0 : Int32)).toNatClampNeg) := inb_of S3 ⟨by decide, by decide⟩
  obtain ⟨T4, h4, X4, e4, W4, st4⟩ := stC X1 hx hZ e1 A3 (j := (0 : Int32)) hin3 (g := (mkF m 58 #[.val (.int i1), .val (.int i2), .val (.int (1 : Int32)), .val (.int ((i1 &&& (255 : Int32)).toUInt32.toUInt16.toUInt32.toInt32)), .val (.int ((((i1.toUInt32 >>> ((8 : Int32) &&& 31).toUInt32).toInt32) &&& (255 : Int32)).toUInt32.toUInt16.toUInt32.toInt32)), .val (.ref b1)] [(.int ((i1 &&& (255 : Int32)).toUInt32.toUInt16.toUInt32.toInt32)), (.int (0 : Int32)), (.ref b1)])) rfl rfl (hb hby d1_58)
  have V4 := Arv.set A3 q3 S3 M3 H3 G3 (fits_nar_char _) W4 0 rfl (Nat.le_of_ble_eq_true rfl)
  have Ks5 : Keep h0 (h4) [] := Ks2.wr W4 (Or.inr (Nat.le_trans Kr.1 (Nat.le_of_eq g1.symm)))
  have Zs5 : n0 ≤ (h4).size := Nat.le_trans Zs2 (Keep.of_wr W4).1
  have Os5 : Old Z n0 (h4) := Os2.wr W4 (Nat.le_trans Z0 (Nat.le_of_eq g1.symm))
  have Cs5 : CHr Z consts_1 s.vm h0 s.vm (h4) := Cs2.trans (CHr.wr W4 (Safe.arv hZ.alike V1 (by decide)) Cs2.1)
  have hk5 : 0 ≤ (h4).size := Nat.le_trans hk2 (Keep.of_wr W4).1
  have N4 := Fr.snoc X4 N0 (Nat.le_trans Z0 (Nat.le_of_eq g1.symm))
  obtain ⟨T6, h6, X6, e6, E6, A6, D6, -, st6⟩ := newO X4 hx hZ hown (hw _ (List.mem_of_getElem? (i := 6) rfl)) (hw _ (List.mem_of_getElem? (i := 7) rfl)) (hw _ (List.mem_of_getElem? (i := 8) rfl)) e4 (g := (mkF m 59 #[.val (.int i1), .val (.int i2), .val (.int (1 : Int32)), .val (.int ((i1 &&& (255 : Int32)).toUInt32.toUInt16.toUInt32.toInt32)), .val (.int ((((i1.toUInt32 >>> ((8 : Int32) &&& 31).toUInt32).toInt32) &&& (255 : Int32)).toUInt32.toUInt16.toUInt32.toInt32)), .val (.ref b1)] [])) rfl (hb hby d1_59) (by decide) (by decide)
  obtain ⟨b6, g6⟩ : ∃ z, z = (h4).size := ⟨_, rfl⟩
  rw [← g6] at A6 D6 st6
  have sf7 : Safe Z consts_1 s.vm (h4) b6 := Safe.new (Nat.le_of_eq g6.symm)
  have Zs8 : n0 ≤ (h6).size := Nat.le_trans Zs5 E6.1
  have Os8 : Old Z n0 (h6) := Os5.ext E6
  have Ks8 : Keep h0 (h6) [] := Ks5.ext E6
  have Cs8 : CHr Z consts_1 s.vm h0 s.vm (h6) := Cs5.trans (CHr.ext E6 Cs5.1)
  have sf9 := (Safe.ext E6 Cs5.1 sf7)
  have hk8 : 0 ≤ (h6).size := Nat.le_trans hk5 E6.1
  have D6_value : Fld Z h6 b6 "java/lang/String" "value" "[B" .null := D6 (Or.inr (hw _ (List.mem_of_getElem? (i := 21) rfl))) (ty := (.array .byte)) (by decide)
  have D6_coder : Fld Z h6 b6 "java/lang/String" "coder" "B" (.int (0 : Int32)) := D6 (Or.inr (hw _ (List.mem_of_getElem? (i := 22) rfl))) (ty := .byte) (by decide)
  have f10 := (V4.ext E6)
  have hws : ∀ d ∈ StrChars.Road.words, d.before a0 Z = true := fun d hd => hw d (own_wst d hd)
  obtain ⟨_, _, ⟨T11, L11, k11, n11⟩, -, X11, ⟨Lc11, hQ11, l11, y11, z11⟩, st11⟩ := X6.specialBack hx (y := (⟨"java/lang/String", "<init>", "([C)V"⟩ : MethodName)) rfl hown (mvT hZ (hw _ (List.mem_of_getElem? (i := 9) rfl))) (mvT hZ (hw _ (List.mem_of_getElem? (i := 10) rfl))) (mvT hZ (hw _ (List.mem_of_getElem? (i := 11) rfl))) (by decide) (StrChars.Road.backV (W := 1) hZ hws (kI := 4) (hw _ (List.mem_of_getElem? (i := 7) rfl)) (cs := ([(nar .char ((i1 &&& (255 : Int32)).toUInt32.toUInt16.toUInt32.toInt32))] : List Int32)) (bs := (([(nar .char ((i1 &&& (255 : Int32)).toUInt32.toUInt16.toUInt32.toInt32))] : List Int32)).map (fun c => c.toInt8.toInt32)) (n := 1) (Nat.le_trans Zs5 (Nat.le_of_eq g6.symm)) Zs8 A6 D6_value D6_coder f10 (S_compact.ext Os8.2) N_cz rfl rfl (by decide) (by decide) (own_co (own_255 i1) own_ni) rfl (by decide) (by decide)) (g := (mkF m 65 #[.val (.int i1), .val (.int i2), .val (.int (1 : Int32)), .val (.int ((i1 &&& (255 : Int32)).toUInt32.toUInt16.toUInt32.toInt32)), .val (.int ((((i1.toUInt32 >>> ((8 : Int32) &&& 31).toUInt32).toInt32) &&& (255 : Int32)).toUInt32.toUInt16.toUInt32.toInt32)), .val (.ref b1)] [(.ref b1), (.ref b6), (.ref b6)])) rfl (by rw [hml]; rfl) (Steps.refl _) (a := b6) (argsL := [(.ref b1)]) (rest := [(.ref b6)]) (lenOf pd_1 rfl) rfl (by show 2 * 0 + _ ≤ _; exact Nat.le_of_eq rfl) (hb hby d1_65) (fun _ _ => ⟨rfl, e6, (by decide : 2 + 1 ≤ _), (by decide : 5 + 1 ≤ _)⟩)
  dsimp only [Pt.U, Pt.locs, Pt.cells, Pt.slots] at X11 l11 y11 z11 st11 hQ11
  subst l11 y11 z11
  obtain ⟨rfl, N11q, K11, q11_0, q11_1, b11_0, k11_0, u11, l11_0, ne11, q11_2, q11_3⟩ := hQ11
  have N11 := Fr.app N4 N11q
  have Ks12 : Keep h0 (T11.heap) [] := Ks8.trans K11 (allS (Or.inr (Nat.le_trans Ks5.1 (Nat.le_of_eq g6.symm))) all0)
  have Zs12 : n0 ≤ (T11.heap).size := Nat.le_trans Zs8 K11.1
  have Os12 : Old Z n0 (T11.heap) := Os8.keep K11 (allS (Nat.le_trans Zs5 (Nat.le_of_eq g6.symm)) all0)
  have Cs12 : CHr Z consts_1 s.vm h0 s.vm (T11.heap) := Cs8.trans (CHr.keep K11 (sfS sf9 sf0) Cs8.1)
  have sf13 := (Safe.keep K11 (sfS sf9 sf0) Cs8.1 sf9)
  have hk12 : 0 ≤ (T11.heap).size := Nat.le_trans hk8 K11.1
  have Cend := Cs12.trans (CHv.at X11 hZ hEL Cs12.1)
  obtain ⟨fs, hr, hrun, hended, hREW⟩ := X11.leaveW hS hk12 (v := some (.ref b6)) (fun h => by rw [Bd.returns] at h; cases h)
  refine ⟨_, _, pre0 _ ?_, hrun, hended, _, _, rfl, ?_, ?_, own_rew hREW (by decide) (by decide)⟩
  · show Steps p.tables e below (s₁.setTop (mkF m 0 #[.val (.int i1), .val (.int i2), .unset, .unset, .unset, .unset] [])) _
    refine XS.iloadN X0.here hx rfl (hb hby d1_0) rfl ?_
    show Steps p.tables e below (s₁.setTop (mkF m 1 #[.val (.int i1), .val (.int i2), .unset, .unset, .unset, .unset] [(.int i2)])) _
    refine Jvm.Stand.ldcI X0 hx hown (mvT hZ (hw _ (List.mem_of_getElem? (i := 4) rfl))) rfl (hb hby d1_1) ?_
    show Steps p.tables e below (s₁.setTop (mkF m 3 #[.val (.int i1), .val (.int i2), .unset, .unset, .unset, .unset] [(.int (2147483647 : Int32)), (.int i2)])) _
    refine XS.iand X0.here hx rfl (hb hby d1_3) rfl ?_
    show Steps p.tables e below (s₁.setTop (mkF m 4 #[.val (.int i1), .val (.int i2), .unset, .unset, .unset, .unset] [(.int (i2 &&& (2147483647 : Int32)))])) _
    refine XS.iconst X0.here hx rfl (hb hby d1_4) ?_
    show Steps p.tables e below (s₁.setTop (mkF m 5 #[.val (.int i1), .val (.int i2), .unset, .unset, .unset, .unset] [(.int (3 : Int32)), (.int (i2 &&& (2147483647 : Int32)))])) _
    refine iremM X0 hx rfl (hb hby d1_5) rfl (by decide) ?_
    show Steps p.tables e below (s₁.setTop (mkF m 6 #[.val (.int i1), .val (.int i2), .unset, .unset, .unset, .unset] [(.int ((i2 &&& (2147483647 : Int32)) % (3 : Int32)))])) _
    rw [kk]
    show Steps p.tables e below (s₁.setTop (mkF m 6 #[.val (.int i1), .val (.int i2), .unset, .unset, .unset, .unset] [(.int (1 : Int32))])) _
    refine XS.istoreN X0.here hx rfl (hb hby d1_6) rfl (l' := #[.val (.int i1), .val (.int i2), .val (.int (1 : Int32)), .unset, .unset, .unset]) rfl ?_
    show Steps p.tables e below (s₁.setTop (mkF m 7 #[.val (.int i1), .val (.int i2), .val (.int (1 : Int32)), .unset, .unset, .unset] [])) _
    refine XS.iloadN X0.here hx rfl (hb hby d1_7) rfl ?_
    show Steps p.tables e below (s₁.setTop (mkF m 8 #[.val (.int i1), .val (.int i2), .val (.int (1 : Int32)), .unset, .unset, .unset] [(.int i1)])) _
    refine XS.sipush X0.here hx rfl (hb hby d1_8) ?_
    show Steps p.tables e below (s₁.setTop (mkF m 11 #[.val (.int i1), .val (.int i2), .val (.int (1 : Int32)), .unset, .unset, .unset] [(.int (255 : Int32)), (.int i1)])) _
    refine XS.iand X0.here hx rfl (hb hby d1_11) rfl ?_
    show Steps p.tables e below (s₁.setTop (mkF m 12 #[.val (.int i1), .val (.int i2), .val (.int (1 : Int32)), .unset, .unset, .unset] [(.int (i1 &&& (255 : Int32)))])) _
    refine XS.i2c X0.here hx rfl (hb hby d1_12) rfl ?_
    show Steps p.tables e below (s₁.setTop (mkF m 13 #[.val (.int i1), .val (.int i2), .val (.int (1 : Int32)), .unset, .unset, .unset] [(.int ((i1 &&& (255 : Int32)).toUInt32.toUInt16.toUInt32.toInt32))])) _
    refine XS.istoreN X0.here hx rfl (hb hby d1_13) rfl (l' := #[.val (.int i1), .val (.int i2), .val (.int (1 : Int32)), .val (.int ((i1 &&& (255 : Int32)).toUInt32.toUInt16.toUInt32.toInt32)), .unset, .unset]) rfl ?_
    show Steps p.tables e below (s₁.setTop (mkF m 14 #[.val (.int i1), .val (.int i2), .val (.int (1 : Int32)), .val (.int ((i1 &&& (255 : Int32)).toUInt32.toUInt16.toUInt32.toInt32)), .unset, .unset] [])) _
    refine XS.iloadN X0.here hx rfl (hb hby d1_14) rfl ?_
    show Steps p.tables e below (s₁.setTop (mkF m 15 #[.val (.int i1), .val (.int i2), .val (.int (1 : Int32)), .val (.int ((i1 &&& (255 : Int32)).toUInt32.toUInt16.toUInt32.toInt32)), .unset, .unset] [(.int i1)])) _
    refine XS.bipush X0.here hx rfl (hb hby d1_15) ?_
    show Steps p.tables e below (s₁.setTop (mkF m 17 #[.val (.int i1), .val (.int i2), .val (.int (1 : Int32)), .val (.int ((i1 &&& (255 : Int32)).toUInt32.toUInt16.toUInt32.toInt32)), .unset, .unset] [(.int (8 : Int32)), (.int i1)])) _
    refine XS.iushr X0.here hx rfl (hb hby d1_17) rfl ?_
    show Steps p.tables e below (s₁.setTop (mkF m 18 #[.val (.int i1), .val (.int i2), .val (.int (1 : Int32)), .val (.int ((i1 &&& (255 : Int32)).toUInt32.toUInt16.toUInt32.toInt32)), .unset, .unset] [(.int ((i1.toUInt32 >>> ((8 : Int32) &&& 31).toUInt32).toInt32))])) _
    refine XS.sipush X0.here hx rfl (hb hby d1_18) ?_
    show Steps p.tables e below (s₁.setTop (mkF m 21 #[.val (.int i1), .val (.int i2), .val (.int (1 : Int32)), .val (.int ((i1 &&& (255 : Int32)).toUInt32.toUInt16.toUInt32.toInt32)), .unset, .unset] [(.int (255 : Int32)), (.int ((i1.toUInt32 >>> ((8 : Int32) &&& 31).toUInt32).toInt32))])) _
    refine XS.iand X0.here hx rfl (hb hby d1_21) rfl ?_
    show Steps p.tables e below (s₁.setTop (mkF m 22 #[.val (.int i1), .val (.int i2), .val (.int (1 : Int32)), .val (.int ((i1 &&& (255 : Int32)).toUInt32.toUInt16.toUInt32.toInt32)), .unset, .unset] [(.int (((i1.toUInt32 >>> ((8 : Int32) &&& 31).toUInt32).toInt32) &&& (255 : Int32)))])) _
    refine XS.i2c X0.here hx rfl (hb hby d1_22) rfl ?_
    show Steps p.tables e below (s₁.setTop (mkF m 23 #[.val (.int i1), .val (.int i2), .val (.int (1 : Int32)), .val (.int ((i1 &&& (255 : Int32)).toUInt32.toUInt16.toUInt32.toInt32)), .unset, .unset] [(.int ((((i1.toUInt32 >>> ((8 : Int32) &&& 31).toUInt32).toInt32) &&& (255 : Int32)).toUInt32.toUInt16.toUInt32.toInt32))])) _
    refine XS.istore X0.here hx rfl (hb hby d1_23) rfl (l' := #[.val (.int i1), .val (.int i2), .val (.int (1 : Int32)), .val (.int ((i1 &&& (255 : Int32)).toUInt32.toUInt16.toUInt32.toInt32)), .val (.int ((((i1.toUInt32 >>> ((8 : Int32) &&& 31).toUInt32).toInt32) &&& (255 : Int32)).toUInt32.toUInt16.toUInt32.toInt32)), .unset]) rfl ?_
    show Steps p.tables e below (s₁.setTop (mkF m 25 #[.val (.int i1), .val (.int i2), .val (.int (1 : Int32)), .val (.int ((i1 &&& (255 : Int32)).toUInt32.toUInt16.toUInt32.toInt32)), .val (.int ((((i1.toUInt32 >>> ((8 : Int32) &&& 31).toUInt32).toInt32) &&& (255 : Int32)).toUInt32.toUInt16.toUInt32.toInt32)), .unset] [])) _
    refine XS.iloadN X0.here hx rfl (hb hby d1_25) rfl ?_
    show Steps p.tables e below (s₁.setTop (mkF m 26 #[.val (.int i1), .val (.int i2), .val (.int (1 : Int32)), .val (.int ((i1 &&& (255 : Int32)).toUInt32.toUInt16.toUInt32.toInt32)), .val (.int ((((i1.toUInt32 >>> ((8 : Int32) &&& 31).toUInt32).toInt32) &&& (255 : Int32)).toUInt32.toUInt16.toUInt32.toInt32)), .unset] [(.int (1 : Int32))])) _
    refine XS.ifYes X0.here hx rfl (pc0 := 26) (pc' := 44) rfl (hb hby d1_26) rfl (by decide) (by decide) (by decide) ?_
    show Steps p.tables e below (s₁.setTop (mkF m 44 #[.val (.int i1), .val (.int i2), .val (.int (1 : Int32)), .val (.int ((i1 &&& (255 : Int32)).toUInt32.toUInt16.toUInt32.toInt32)), .val (.int ((((i1.toUInt32 >>> ((8 : Int32) &&& 31).toUInt32).toInt32) &&& (255 : Int32)).toUInt32.toUInt16.toUInt32.toInt32)), .unset] [])) _
    refine XS.iloadN X0.here hx rfl (hb hby d1_44) rfl ?_
    show Steps p.tables e below (s₁.setTop (mkF m 45 #[.val (.int i1), .val (.int i2), .val (.int (1 : Int32)), .val (.int ((i1 &&& (255 : Int32)).toUInt32.toUInt16.toUInt32.toInt32)), .val (.int ((((i1.toUInt32 >>> ((8 : Int32) &&& 31).toUInt32).toInt32) &&& (255 : Int32)).toUInt32.toUInt16.toUInt32.toInt32)), .unset] [(.int (1 : Int32))])) _
    refine XS.iconst X0.here hx rfl (hb hby d1_45) ?_
    show Steps p.tables e below (s₁.setTop (mkF m 46 #[.val (.int i1), .val (.int i2), .val (.int (1 : Int32)), .val (.int ((i1 &&& (255 : Int32)).toUInt32.toUInt16.toUInt32.toInt32)), .val (.int ((((i1.toUInt32 >>> ((8 : Int32) &&& 31).toUInt32).toInt32) &&& (255 : Int32)).toUInt32.toUInt16.toUInt32.toInt32)), .unset] [(.int (1 : Int32)), (.int (1 : Int32))])) _
    refine XS.icmpNo X0.here hx rfl (hb hby d1_46) rfl (by decide) ?_
    show Steps p.tables e below (s₁.setTop (mkF m 49 #[.val (.int i1), .val (.int i2), .val (.int (1 : Int32)), .val (.int ((i1 &&& (255 : Int32)).toUInt32.toUInt16.toUInt32.toInt32)), .val (.int ((((i1.toUInt32 >>> ((8 : Int32) &&& 31).toUInt32).toInt32) &&& (255 : Int32)).toUInt32.toUInt16.toUInt32.toInt32)), .unset] [])) _
    refine XS.iconst X0.here hx rfl (hb hby d1_49) ?_
    show Steps p.tables e below (s₁.setTop (mkF m 50 #[.val (.int i1), .val (.int i2), .val (.int (1 : Int32)), .val (.int ((i1 &&& (255 : Int32)).toUInt32.toUInt16.toUInt32.toInt32)), .val (.int ((((i1.toUInt32 >>> ((8 : Int32) &&& 31).toUInt32).toInt32) &&& (255 : Int32)).toUInt32.toUInt16.toUInt32.toInt32)), .unset] [(.int (1 : Int32))])) _
    refine st1 _ ?_
    show Steps p.tables e below (T1.setTop (mkF m 52 #[.val (.int i1), .val (.int i2), .val (.int (1 : Int32)), .val (.int ((i1 &&& (255 : Int32)).toUInt32.toUInt16.toUInt32.toInt32)), .val (.int ((((i1.toUInt32 >>> ((8 : Int32) &&& 31).toUInt32).toInt32) &&& (255 : Int32)).toUInt32.toUInt16.toUInt32.toInt32)), .unset] [(.ref b1)])) _
    refine XS.astore X1.here hx rfl (hb hby d1_52) rfl rfl (l' := #[.val (.int i1), .val (.int i2), .val (.int (1 : Int32)), .val (.int ((i1 &&& (255 : Int32)).toUInt32.toUInt16.toUInt32.toInt32)), .val (.int ((((i1.toUInt32 >>> ((8 : Int32) &&& 31).toUInt32).toInt32) &&& (255 : Int32)).toUInt32.toUInt16.toUInt32.toInt32)), .val (.ref b1)]) rfl ?_
    show Steps p.tables e below (T1.setTop (mkF m 54 #[.val (.int i1), .val (.int i2), .val (.int (1 : Int32)), .val (.int ((i1 &&& (255 : Int32)).toUInt32.toUInt16.toUInt32.toInt32)), .val (.int ((((i1.toUInt32 >>> ((8 : Int32) &&& 31).toUInt32).toInt32) &&& (255 : Int32)).toUInt32.toUInt16.toUInt32.toInt32)), .val (.ref b1)] [])) _
    refine XS.aload X1.here hx rfl (hb hby d1_54) rfl rfl ?_
    show Steps p.tables e below (T1.setTop (mkF m 56 #[.val (.int i1), .val (.int i2), .val (.int (1 : Int32)), .val (.int ((i1 &&& (255 : Int32)).toUInt32.toUInt16.toUInt32.toInt32)), .val (.int ((((i1.toUInt32 >>> ((8 : Int32) &&& 31).toUInt32).toInt32) &&& (255 : Int32)).toUInt32.toUInt16.toUInt32.toInt32)), .val (.ref b1)] [(.ref b1)])) _
    refine XS.iconst X1.here hx rfl (hb hby d1_56) ?_
    show Steps p.tables e below (T1.setTop (mkF m 57 #[.val (.int i1), .val (.int i2), .val (.int (1 : Int32)), .val (.int ((i1 &&& (255 : Int32)).toUInt32.toUInt16.toUInt32.toInt32)), .val (.int ((((i1.toUInt32 >>> ((8 : Int32) &&& 31).toUInt32).toInt32) &&& (255 : Int32)).toUInt32.toUInt16.toUInt32.toInt32)), .val (.ref b1)] [(.int (0 : Int32)), (.ref b1)])) _
    refine XS.iloadN X1.here hx rfl (hb hby d1_57) rfl ?_
    show Steps p.tables e below (T1.setTop (mkF m 58 #[.val (.int i1), .val (.int i2), .val (.int (1 : Int32)), .val (.int ((i1 &&& (255 : Int32)).toUInt32.toUInt16.toUInt32.toInt32)), .val (.int ((((i1.toUInt32 >>> ((8 : Int32) &&& 31).toUInt32).toInt32) &&& (255 : Int32)).toUInt32.toUInt16.toUInt32.toInt32)), .val (.ref b1)] [(.int ((i1 &&& (255 : Int32)).toUInt32.toUInt16.toUInt32.toInt32)), (.int (0 : Int32)), (.ref b1)])) _
    refine st4 _ ?_
    show Steps p.tables e below (T4.setTop (mkF m 59 #[.val (.int i1), .val (.int i2), .val (.int (1 : Int32)), .val (.int ((i1 &&& (255 : Int32)).toUInt32.toUInt16.toUInt32.toInt32)), .val (.int ((((i1.toUInt32 >>> ((8 : Int32) &&& 31).toUInt32).toInt32) &&& (255 : Int32)).toUInt32.toUInt16.toUInt32.toInt32)), .val (.ref b1)] [])) _
    refine st6 _ ?_
    show Steps p.tables e below (T6.setTop (mkF m 62 #[.val (.int i1), .val (.int i2), .val (.int (1 : Int32)), .val (.int ((i1 &&& (255 : Int32)).toUInt32.toUInt16.toUInt32.toInt32)), .val (.int ((((i1.toUInt32 >>> ((8 : Int32) &&& 31).toUInt32).toInt32) &&& (255 : Int32)).toUInt32.toUInt16.toUInt32.toInt32)), .val (.ref b1)] [(.ref b6)])) _
    refine XS.dup X6.here hx rfl (hb hby d1_62) rfl rfl ?_
    show Steps p.tables e below (T6.setTop (mkF m 63 #[.val (.int i1), .val (.int i2), .val (.int (1 : Int32)), .val (.int ((i1 &&& (255 : Int32)).toUInt32.toUInt16.toUInt32.toInt32)), .val (.int ((((i1.toUInt32 >>> ((8 : Int32) &&& 31).toUInt32).toInt32) &&& (255 : Int32)).toUInt32.toUInt16.toUInt32.toInt32)), .val (.ref b1)] [(.ref b6), (.ref b6)])) _
    refine XS.aload X6.here hx rfl (hb hby d1_63) rfl rfl ?_
    show Steps p.tables e below (T6.setTop (mkF m 65 #[.val (.int i1), .val (.int i2), .val (.int (1 : Int32)), .val (.int ((i1 &&& (255 : Int32)).toUInt32.toUInt16.toUInt32.toInt32)), .val (.int ((((i1.toUInt32 >>> ((8 : Int32) &&& 31).toUInt32).toInt32) &&& (255 : Int32)).toUInt32.toUInt16.toUInt32.toInt32)), .val (.ref b1)] [(.ref b1), (.ref b6), (.ref b6)])) _
    refine st11.trans ?_
    show Steps p.tables e below (T11.setTop (mkF m 68 #[.val (.int i1), .val (.int i2), .val (.int (1 : Int32)), .val (.int ((i1 &&& (255 : Int32)).toUInt32.toUInt16.toUInt32.toInt32)), .val (.int ((((i1.toUInt32 >>> ((8 : Int32) &&& 31).toUInt32).toInt32) &&& (255 : Int32)).toUInt32.toUInt16.toUInt32.toInt32)), .val (.ref b1)] [(.ref b6)])) _
    exact retOut X11 hx Bd.returns rfl (Or.inr (Or.inr (Or.inr (Or.inr ⟨rfl, rfl, rfl⟩)))) (hb hby d1_68) hr
  · show QrmS_1 Z cz i1 i2 h0 n0 _ T11.heap _
    exact ⟨b6, rfl, N11, Ks12, (Nat.le_trans Ks5.1 (Nat.le_of_eq g6.symm)), q11_0⟩
  · rw [hh]
    show CHr Z consts_1 s.vm h0 T11.vm T11.heap
    exact Cend
def QrmS_2 (Z : State) (cz : Int32) (i1 : Int32) (i2 : Int32) (h0 : Heap) (n0 : Nat) (v : Option Value) (h : Heap) (L : List Loc) : Prop := ∃ y1 : Addr, v = some (.ref y1) ∧ Fr n0 L ∧ Keep h0 h [] ∧ h0.size ≤ y1 ∧ Exa Z h y1 "java/lang/String"
set_option maxRecDepth 65536 in
set_option maxHeartbeats 40000000 in
theorem rmS_2 (l : Launch) (Z : State) (a0 : Array Value) (hw : ∀ d ∈ tables_1, d.before a0 Z = true) (ws : List Jvm.Cond) (cz : Int32) (i1 : Int32) (i2 : Int32) (h0 : Heap) (n0 : Nat) (O0 : Old Z n0 h0) (P : Pins Z cz) (kk : ((i2 &&& (2147483647 : Int32)) % (3 : Int32)) = (2 : Int32)) :
    MetFree l (⟨"com/example/iron_wire/ironwire/definition/QualifierDefinitionInheritedPinLaw", "str", "(II)Ljava/lang/String;"⟩ : MethodName) (head1 (Jvm.Cond.code (⟨"com/example/iron_wire/ironwire/definition/QualifierDefinitionInheritedPinLaw", "str", "(II)Ljava/lang/String;"⟩ : MethodName) method_2_code 6 (some (.object "java/lang/String")) :: ws) ({ frames := 4, cells := 6, slots := 12, locals := 66 } : Room)) (fun a U => a = #[(.int i1), (.int i2)] ∧ Z.Warmed39 U.vm ∧ U.heap = h0 ∧ CHv Z consts_1 U.vm h0 ∧ ∀ x ∈ ([] : List Addr), Safe Z consts_1 U.vm h0 x) (fun _ _ _ _ _ => True) (fun _ U o U' => ∃ v L, o = .returned v ∧ QrmS_2 Z cz i1 i2 h0 n0 v U'.heap L ∧ CHr Z consts_1 U.vm U.heap U'.vm U'.heap ∧ ReturnedEndW U o U' L ({ frames := 4, cells := 6, slots := 12, locals := 66 } : Room).cells ({ frames := 4, cells := 6, slots := 12, locals := 66 } : Room).slots) := by
  refine MetFree.of_bodySF (plainFor_of_name pn_com_example_iron_wire_ironwire_definition_QualifierDefinitionInheritedPinLaw) hisR ?_
  intro p e s m args below meth c s₁ Bd hml0 hP hK
  obtain ⟨rfl, hZ, hh, hCv, hSf⟩ := hP
  have hx := Bd.exec
  have hby := Bd.bytes
  have hml : c.maxLocals = 6 := hml0
  have hown : s.vm.findClass "com/example/iron_wire/ironwire/definition/QualifierDefinitionInheritedPinLaw" = some m.cls := findClass_of_methodNamed Bd.named
  have hnm := (name_of_methodNamed Bd.named Bd.method).1
  have X0 : Stand p l e ({ frames := 4, cells := 6, slots := 12, locals := 66 } : Room) (s.setVm s.vm) m #[(.int i1), (.int i2)] below meth c s₁ [] 0 0 := Stand.of_body Bd
  have e0 : s₁.heap = h0 := by rw [← hh, Bd.state]; rfl
  have N0 := Fr.nil n0
  have Z0 : n0 ≤ h0.size := O0.1 ▸ O0.2.1
  have pre0 : ∀ t, Steps p.tables e below (s₁.setTop (mkF m 0 #[.val (.int i1), .val (.int i2), .unset, .unset, .unset, .unset] [])) t → Steps p.tables e below (s₁.setTop (entryFrame m #[(.int i1), (.int i2)] 6)) t := fun t k => castTop (ef_1_II m i1 i2) k
  have S_compact : Sta Z Z.heap "java/lang/String" "COMPACT_STRINGS" "Z" (.int cz) := P.1
  have N_cz : ¬ cz = 0 := P.2
  have Kr : Keep h0 h0 [] := Keep.refl h0 _
  have hEL : EW Z a0 consts_1 := own_ew hw
  have wS : ∀ d ∈ Bundle.stringAtoms, d.before a0 Z = true := fun d hd => hw d (own_wsa d hd)
  have hS : s.Since s.vm 0 := (State.WarmedH.refl s).since 0
  have hk : 0 ≤ h0.size := Nat.zero_le _
  have C0 : CHr Z consts_1 s.vm h0 s.vm h0 := CHr.refl hCv
  obtain ⟨T1, h1, k1, X1, e1, E1, A1, st1⟩ := newP X0 hx hZ (hw _ (List.mem_of_getElem? (i := 5) rfl)) e0 (g := (mkF m 70 #[.val (.int i1), .val (.int i2), .val (.int (2 : Int32)), .val (.int ((i1 &&& (255 : Int32)).toUInt32.toUInt16.toUInt32.toInt32)), .val (.int ((((i1.toUInt32 >>> ((8 : Int32) &&& 31).toUInt32).toInt32) &&& (255 : Int32)).toUInt32.toUInt16.toUInt32.toInt32)), .unset] [(.int (2 : Int32))])) rfl (hb hby d1_70) rfl (by decide) (cap := 2) (by decide) (by decide) (by decide) (by decide)
  obtain ⟨b1, g1⟩ : ∃ z, z = (h0).size := ⟨_, rfl⟩
  rw [← g1] at A1 st1
  have V1 : Arv Z h1 b1 k1 .char (2 : Int32) [(.int (0 : Int32)), (.int (0 : Int32))] (.int (0 : Int32)) := (Arv.new A1 (by decide)).pad (pad_rep [] (.int (0 : Int32)) 2)
  have Zs2 : n0 ≤ (h1).size := Nat.le_trans Z0 E1.1
  have Os2 : Old Z n0 (h1) := O0.ext E1
  have Ks2 : Keep h0 (h1) [] := Kr.ext E1
  have Cs2 : CHr Z consts_1 s.vm h0 s.vm (h1) := C0.trans (CHr.ext E1 C0.1)
  have hk2 : 0 ≤ (h1).size := Nat.le_trans hk E1.1
  obtain ⟨cl3, A3, q3, S3, M3, H3, G3⟩ := id V1
  have hin3 : ¬ ((0 : Int32) < 0 ∨ cl3.slots.size ≤ ((0 : Int32)).toNatClampNeg) := inb_of S3 ⟨by decide, by decide⟩
  obtain ⟨T4, h4, X4, e4, W4, st4⟩ := stC X1 hx hZ e1 A3 (j := (0 : Int32)) hin3 (g := (mkF m 78 #[.val (.int i1), .val (.int i2), .val (.int (2 : Int32)), .val (.int ((i1 &&& (255 : Int32)).toUInt32.toUInt16.toUInt32.toInt32)), .val (.int ((((i1.toUInt32 >>> ((8 : Int32) &&& 31).toUInt32).toInt32) &&& (255 : Int32)).toUInt32.toUInt16.toUInt32.toInt32)), .val (.ref b1)] [(.int ((i1 &&& (255 : Int32)).toUInt32.toUInt16.toUInt32.toInt32)), (.int (0 : Int32)), (.ref b1)])) rfl rfl (hb hby d1_78)
  have V4 := Arv.set A3 q3 S3 M3 H3 G3 (fits_nar_char _) W4 0 rfl (Nat.le_of_ble_eq_true rfl)
  have Ks5 : Keep h0 (h4) [] := Ks2.wr W4 (Or.inr (Nat.le_trans Kr.1 (Nat.le_of_eq g1.symm)))
  have Zs5 : n0 ≤ (h4).size := Nat.le_trans Zs2 (Keep.of_wr W4).1
  have Os5 : Old Z n0 (h4) := Os2.wr W4 (Nat.le_trans Z0 (Nat.le_of_eq g1.symm))
  have Cs5 : CHr Z consts_1 s.vm h0 s.vm (h4) := Cs2.trans (CHr.wr W4 (Safe.arv hZ.alike V1 (by decide)) Cs2.1)
  have hk5 : 0 ≤ (h4).size := Nat.le_trans hk2 (Keep.of_wr W4).1
  have N4 := Fr.snoc X4 N0 (Nat.le_trans Z0 (Nat.le_of_eq g1.symm))
  obtain ⟨cl6, A6, q6, S6, M6, H6, G6⟩ := id V4
  have hin6 : ¬ ((1 : Int32) < 0 ∨ cl6.slots.size ≤ ((1 : Int32)).toNatClampNeg) := inb_of S6 ⟨by decide, by decide⟩
  obtain ⟨T7, h7, X7, e7, W7, st7⟩ := stC X4 hx hZ e4 A6 (j := (1 : Int32)) hin6 (g := (mkF m 84 #[.val (.int i1), .val (.int i2), .val (.int (2 : Int32)), .val (.int ((i1 &&& (255 : Int32)).toUInt32.toUInt16.toUInt32.toInt32)), .val (.int ((((i1.toUInt32 >>> ((8 : Int32) &&& 31).toUInt32).toInt32) &&& (255 : Int32)).toUInt32.toUInt16.toUInt32.toInt32)), .val (.ref b1)] [(.int ((((i1.toUInt32 >>> ((8 : Int32) &&& 31).toUInt32).toInt32) &&& (255 : Int32)).toUInt32.toUInt16.toUInt32.toInt32)), (.int (1 : Int32)), (.ref b1)])) rfl rfl (hb hby d1_84)
  have V7 := Arv.set A6 q6 S6 M6 H6 G6 (fits_nar_char _) W7 1 rfl (Nat.le_of_ble_eq_true rfl)
  have Ks8 : Keep h0 (h7) [] := Ks5.wr W7 (Or.inr (Nat.le_trans Kr.1 (Nat.le_of_eq g1.symm)))
  have Zs8 : n0 ≤ (h7).size := Nat.le_trans Zs5 (Keep.of_wr W7).1
  have Os8 : Old Z n0 (h7) := Os5.wr W7 (Nat.le_trans Z0 (Nat.le_of_eq g1.symm))
  have Cs8 : CHr Z consts_1 s.vm h0 s.vm (h7) := Cs5.trans (CHr.wr W7 (Safe.arv hZ.alike V4 (by decide)) Cs5.1)
  have hk8 : 0 ≤ (h7).size := Nat.le_trans hk5 (Keep.of_wr W7).1
  have N7 := Fr.snoc X7 N4 (Nat.le_trans Z0 (Nat.le_of_eq g1.symm))
  obtain ⟨T9, h9, X9, e9, E9, A9, D9, -, st9⟩ := newO X7 hx hZ hown (hw _ (List.mem_of_getElem? (i := 6) rfl)) (hw _ (List.mem_of_getElem? (i := 7) rfl)) (hw _ (List.mem_of_getElem? (i := 8) rfl)) e7 (g := (mkF m 85 #[.val (.int i1), .val (.int i2), .val (.int (2 : Int32)), .val (.int ((i1 &&& (255 : Int32)).toUInt32.toUInt16.toUInt32.toInt32)), .val (.int ((((i1.toUInt32 >>> ((8 : Int32) &&& 31).toUInt32).toInt32) &&& (255 : Int32)).toUInt32.toUInt16.toUInt32.toInt32)), .val (.ref b1)] [])) rfl (hb hby d1_85) (by decide) (by decide)
  obtain ⟨b9, g9⟩ : ∃ z, z = (h7).size := ⟨_, rfl⟩
  rw [← g9] at A9 D9 st9
  have sf10 : Safe Z consts_1 s.vm (h7) b9 := Safe.new (Nat.le_of_eq g9.symm)
  have Zs11 : n0 ≤ (h9).size := Nat.le_trans Zs8 E9.1
  have Os11 : Old Z n0 (h9) := Os8.ext E9
  have Ks11 : Keep h0 (h9) [] := Ks8.ext E9
  have Cs11 : CHr Z consts_1 s.vm h0 s.vm (h9) := Cs8.trans (CHr.ext E9 Cs8.1)
  have sf12 := (Safe.ext E9 Cs8.1 sf10)
  have hk11 : 0 ≤ (h9).size := Nat.le_trans hk8 E9.1
  have D9_value : Fld Z h9 b9 "java/lang/String" "value" "[B" .null := D9 (Or.inr (hw _ (List.mem_of_getElem? (i := 21) rfl))) (ty := (.array .byte)) (by decide)
  have D9_coder : Fld Z h9 b9 "java/lang/String" "coder" "B" (.int (0 : Int32)) := D9 (Or.inr (hw _ (List.mem_of_getElem? (i := 22) rfl))) (ty := .byte) (by decide)
  have f13 := (V7.ext E9)
  have hws : ∀ d ∈ StrChars.Road.words, d.before a0 Z = true := fun d hd => hw d (own_wst d hd)
  obtain ⟨_, _, ⟨T14, L14, k14, n14⟩, -, X14, ⟨Lc14, hQ14, l14, y14, z14⟩, st14⟩ := X9.specialBack hx (y := (⟨"java/lang/String", "<init>", "([C)V"⟩ : MethodName)) rfl hown (mvT hZ (hw _ (List.mem_of_getElem? (i := 9) rfl))) (mvT hZ (hw _ (List.mem_of_getElem? (i := 10) rfl))) (mvT hZ (hw _ (List.mem_of_getElem? (i := 11) rfl))) (by decide) (StrChars.Road.backV (W := 1) hZ hws (kI := 4) (hw _ (List.mem_of_getElem? (i := 7) rfl)) (cs := ([(nar .char ((i1 &&& (255 : Int32)).toUInt32.toUInt16.toUInt32.toInt32)), (nar .char ((((i1.toUInt32 >>> ((8 : Int32) &&& 31).toUInt32).toInt32) &&& (255 : Int32)).toUInt32.toUInt16.toUInt32.toInt32))] : List Int32)) (bs := (([(nar .char ((i1 &&& (255 : Int32)).toUInt32.toUInt16.toUInt32.toInt32)), (nar .char ((((i1.toUInt32 >>> ((8 : Int32) &&& 31).toUInt32).toInt32) &&& (255 : Int32)).toUInt32.toUInt16.toUInt32.toInt32))] : List Int32)).map (fun c => c.toInt8.toInt32)) (n := 2) (Nat.le_trans Zs8 (Nat.le_of_eq g9.symm)) Zs11 A9 D9_value D9_coder f13 (S_compact.ext Os11.2) N_cz rfl rfl (by decide) (by decide) (own_co (own_255 i1) (own_co (own_255 ((i1.toUInt32 >>> ((8 : Int32) &&& 31).toUInt32).toInt32)) own_ni)) rfl (by decide) (by decide)) (g := (mkF m 91 #[.val (.int i1), .val (.int i2), .val (.int (2 : Int32)), .val (.int ((i1 &&& (255 : Int32)).toUInt32.toUInt16.toUInt32.toInt32)), .val (.int ((((i1.toUInt32 >>> ((8 : Int32) &&& 31).toUInt32).toInt32) &&& (255 : Int32)).toUInt32.toUInt16.toUInt32.toInt32)), .val (.ref b1)] [(.ref b1), (.ref b9), (.ref b9)])) rfl (by rw [hml]; rfl) (Steps.refl _) (a := b9) (argsL := [(.ref b1)]) (rest := [(.ref b9)]) (lenOf pd_1 rfl) rfl (by show 2 * 0 + _ ≤ _; exact Nat.le_of_eq rfl) (hb hby d1_91) (fun _ _ => ⟨rfl, e9, (by decide : 2 + 1 ≤ _), (by decide : 6 + 2 ≤ _)⟩)
  dsimp only [Pt.U, Pt.locs, Pt.cells, Pt.slots] at X14 l14 y14 z14 st14 hQ14
  subst l14 y14 z14
  obtain ⟨rfl, N14q, K14, q14_0, q14_1, b14_0, k14_0, u14, l14_0, ne14, q14_2, q14_3⟩ := hQ14
  have N14 := Fr.app N7 N14q
  have Ks15 : Keep h0 (T14.heap) [] := Ks11.trans K14 (allS (Or.inr (Nat.le_trans Ks8.1 (Nat.le_of_eq g9.symm))) all0)
  have Zs15 : n0 ≤ (T14.heap).size := Nat.le_trans Zs11 K14.1
  have Os15 : Old Z n0 (T14.heap) := Os11.keep K14 (allS (Nat.le_trans Zs8 (Nat.le_of_eq g9.symm)) all0)
  have Cs15 : CHr Z consts_1 s.vm h0 s.vm (T14.heap) := Cs11.trans (CHr.keep K14 (sfS sf12 sf0) Cs11.1)
  have sf16 := (Safe.keep K14 (sfS sf12 sf0) Cs11.1 sf12)
  have hk15 : 0 ≤ (T14.heap).size := Nat.le_trans hk11 K14.1
  have Cend := Cs15.trans (CHv.at X14 hZ hEL Cs15.1)
  obtain ⟨fs, hr, hrun, hended, hREW⟩ := X14.leaveW hS hk15 (v := some (.ref b9)) (fun h => by rw [Bd.returns] at h; cases h)
  refine ⟨_, _, pre0 _ ?_, hrun, hended, _, _, rfl, ?_, ?_, own_rew hREW (by decide) (by decide)⟩
  · show Steps p.tables e below (s₁.setTop (mkF m 0 #[.val (.int i1), .val (.int i2), .unset, .unset, .unset, .unset] [])) _
    refine XS.iloadN X0.here hx rfl (hb hby d1_0) rfl ?_
    show Steps p.tables e below (s₁.setTop (mkF m 1 #[.val (.int i1), .val (.int i2), .unset, .unset, .unset, .unset] [(.int i2)])) _
    refine Jvm.Stand.ldcI X0 hx hown (mvT hZ (hw _ (List.mem_of_getElem? (i := 4) rfl))) rfl (hb hby d1_1) ?_
    show Steps p.tables e below (s₁.setTop (mkF m 3 #[.val (.int i1), .val (.int i2), .unset, .unset, .unset, .unset] [(.int (2147483647 : Int32)), (.int i2)])) _
    refine XS.iand X0.here hx rfl (hb hby d1_3) rfl ?_
    show Steps p.tables e below (s₁.setTop (mkF m 4 #[.val (.int i1), .val (.int i2), .unset, .unset, .unset, .unset] [(.int (i2 &&& (2147483647 : Int32)))])) _
    refine XS.iconst X0.here hx rfl (hb hby d1_4) ?_
    show Steps p.tables e below (s₁.setTop (mkF m 5 #[.val (.int i1), .val (.int i2), .unset, .unset, .unset, .unset] [(.int (3 : Int32)), (.int (i2 &&& (2147483647 : Int32)))])) _
    refine iremM X0 hx rfl (hb hby d1_5) rfl (by decide) ?_
    show Steps p.tables e below (s₁.setTop (mkF m 6 #[.val (.int i1), .val (.int i2), .unset, .unset, .unset, .unset] [(.int ((i2 &&& (2147483647 : Int32)) % (3 : Int32)))])) _
    rw [kk]
    show Steps p.tables e below (s₁.setTop (mkF m 6 #[.val (.int i1), .val (.int i2), .unset, .unset, .unset, .unset] [(.int (2 : Int32))])) _
    refine XS.istoreN X0.here hx rfl (hb hby d1_6) rfl (l' := #[.val (.int i1), .val (.int i2), .val (.int (2 : Int32)), .unset, .unset, .unset]) rfl ?_
    show Steps p.tables e below (s₁.setTop (mkF m 7 #[.val (.int i1), .val (.int i2), .val (.int (2 : Int32)), .unset, .unset, .unset] [])) _
    refine XS.iloadN X0.here hx rfl (hb hby d1_7) rfl ?_
    show Steps p.tables e below (s₁.setTop (mkF m 8 #[.val (.int i1), .val (.int i2), .val (.int (2 : Int32)), .unset, .unset, .unset] [(.int i1)])) _
    refine XS.sipush X0.here hx rfl (hb hby d1_8) ?_
    show Steps p.tables e below (s₁.setTop (mkF m 11 #[.val (.int i1), .val (.int i2), .val (.int (2 : Int32)), .unset, .unset, .unset] [(.int (255 : Int32)), (.int i1)])) _
    refine XS.iand X0.here hx rfl (hb hby d1_11) rfl ?_
    show Steps p.tables e below (s₁.setTop (mkF m 12 #[.val (.int i1), .val (.int i2), .val (.int (2 : Int32)), .unset, .unset, .unset] [(.int (i1 &&& (255 : Int32)))])) _
    refine XS.i2c X0.here hx rfl (hb hby d1_12) rfl ?_
    show Steps p.tables e below (s₁.setTop (mkF m 13 #[.val (.int i1), .val (.int i2), .val (.int (2 : Int32)), .unset, .unset, .unset] [(.int ((i1 &&& (255 : Int32)).toUInt32.toUInt16.toUInt32.toInt32))])) _
    refine XS.istoreN X0.here hx rfl (hb hby d1_13) rfl (l' := #[.val (.int i1), .val (.int i2), .val (.int (2 : Int32)), .val (.int ((i1 &&& (255 : Int32)).toUInt32.toUInt16.toUInt32.toInt32)), .unset, .unset]) rfl ?_
    show Steps p.tables e below (s₁.setTop (mkF m 14 #[.val (.int i1), .val (.int i2), .val (.int (2 : Int32)), .val (.int ((i1 &&& (255 : Int32)).toUInt32.toUInt16.toUInt32.toInt32)), .unset, .unset] [])) _
    refine XS.iloadN X0.here hx rfl (hb hby d1_14) rfl ?_
    show Steps p.tables e below (s₁.setTop (mkF m 15 #[.val (.int i1), .val (.int i2), .val (.int (2 : Int32)), .val (.int ((i1 &&& (255 : Int32)).toUInt32.toUInt16.toUInt32.toInt32)), .unset, .unset] [(.int i1)])) _
    refine XS.bipush X0.here hx rfl (hb hby d1_15) ?_
    show Steps p.tables e below (s₁.setTop (mkF m 17 #[.val (.int i1), .val (.int i2), .val (.int (2 : Int32)), .val (.int ((i1 &&& (255 : Int32)).toUInt32.toUInt16.toUInt32.toInt32)), .unset, .unset] [(.int (8 : Int32)), (.int i1)])) _
    refine XS.iushr X0.here hx rfl (hb hby d1_17) rfl ?_
    show Steps p.tables e below (s₁.setTop (mkF m 18 #[.val (.int i1), .val (.int i2), .val (.int (2 : Int32)), .val (.int ((i1 &&& (255 : Int32)).toUInt32.toUInt16.toUInt32.toInt32)), .unset, .unset] [(.int ((i1.toUInt32 >>> ((8 : Int32) &&& 31).toUInt32).toInt32))])) _
    refine XS.sipush X0.here hx rfl (hb hby d1_18) ?_
    show Steps p.tables e below (s₁.setTop (mkF m 21 #[.val (.int i1), .val (.int i2), .val (.int (2 : Int32)), .val (.int ((i1 &&& (255 : Int32)).toUInt32.toUInt16.toUInt32.toInt32)), .unset, .unset] [(.int (255 : Int32)), (.int ((i1.toUInt32 >>> ((8 : Int32) &&& 31).toUInt32).toInt32))])) _
    refine XS.iand X0.here hx rfl (hb hby d1_21) rfl ?_
    show Steps p.tables e below (s₁.setTop (mkF m 22 #[.val (.int i1), .val (.int i2), .val (.int (2 : Int32)), .val (.int ((i1 &&& (255 : Int32)).toUInt32.toUInt16.toUInt32.toInt32)), .unset, .unset] [(.int (((i1.toUInt32 >>> ((8 : Int32) &&& 31).toUInt32).toInt32) &&& (255 : Int32)))])) _
    refine XS.i2c X0.here hx rfl (hb hby d1_22) rfl ?_
    show Steps p.tables e below (s₁.setTop (mkF m 23 #[.val (.int i1), .val (.int i2), .val (.int (2 : Int32)), .val (.int ((i1 &&& (255 : Int32)).toUInt32.toUInt16.toUInt32.toInt32)), .unset, .unset] [(.int ((((i1.toUInt32 >>> ((8 : Int32) &&& 31).toUInt32).toInt32) &&& (255 : Int32)).toUInt32.toUInt16.toUInt32.toInt32))])) _
    refine XS.istore X0.here hx rfl (hb hby d1_23) rfl (l' := #[.val (.int i1), .val (.int i2), .val (.int (2 : Int32)), .val (.int ((i1 &&& (255 : Int32)).toUInt32.toUInt16.toUInt32.toInt32)), .val (.int ((((i1.toUInt32 >>> ((8 : Int32) &&& 31).toUInt32).toInt32) &&& (255 : Int32)).toUInt32.toUInt16.toUInt32.toInt32)), .unset]) rfl ?_
    show Steps p.tables e below (s₁.setTop (mkF m 25 #[.val (.int i1), .val (.int i2), .val (.int (2 : Int32)), .val (.int ((i1 &&& (255 : Int32)).toUInt32.toUInt16.toUInt32.toInt32)), .val (.int ((((i1.toUInt32 >>> ((8 : Int32) &&& 31).toUInt32).toInt32) &&& (255 : Int32)).toUInt32.toUInt16.toUInt32.toInt32)), .unset] [])) _
    refine XS.iloadN X0.here hx rfl (hb hby d1_25) rfl ?_
    show Steps p.tables e below (s₁.setTop (mkF m 26 #[.val (.int i1), .val (.int i2), .val (.int (2 : Int32)), .val (.int ((i1 &&& (255 : Int32)).toUInt32.toUInt16.toUInt32.toInt32)), .val (.int ((((i1.toUInt32 >>> ((8 : Int32) &&& 31).toUInt32).toInt32) &&& (255 : Int32)).toUInt32.toUInt16.toUInt32.toInt32)), .unset] [(.int (2 : Int32))])) _
    refine XS.ifYes X0.here hx rfl (pc0 := 26) (pc' := 44) rfl (hb hby d1_26) rfl (by decide) (by decide) (by decide) ?_
    show Steps p.tables e below (s₁.setTop (mkF m 44 #[.val (.int i1), .val (.int i2), .val (.int (2 : Int32)), .val (.int ((i1 &&& (255 : Int32)).toUInt32.toUInt16.toUInt32.toInt32)), .val (.int ((((i1.toUInt32 >>> ((8 : Int32) &&& 31).toUInt32).toInt32) &&& (255 : Int32)).toUInt32.toUInt16.toUInt32.toInt32)), .unset] [])) _
    refine XS.iloadN X0.here hx rfl (hb hby d1_44) rfl ?_
    show Steps p.tables e below (s₁.setTop (mkF m 45 #[.val (.int i1), .val (.int i2), .val (.int (2 : Int32)), .val (.int ((i1 &&& (255 : Int32)).toUInt32.toUInt16.toUInt32.toInt32)), .val (.int ((((i1.toUInt32 >>> ((8 : Int32) &&& 31).toUInt32).toInt32) &&& (255 : Int32)).toUInt32.toUInt16.toUInt32.toInt32)), .unset] [(.int (2 : Int32))])) _
    refine XS.iconst X0.here hx rfl (hb hby d1_45) ?_
    show Steps p.tables e below (s₁.setTop (mkF m 46 #[.val (.int i1), .val (.int i2), .val (.int (2 : Int32)), .val (.int ((i1 &&& (255 : Int32)).toUInt32.toUInt16.toUInt32.toInt32)), .val (.int ((((i1.toUInt32 >>> ((8 : Int32) &&& 31).toUInt32).toInt32) &&& (255 : Int32)).toUInt32.toUInt16.toUInt32.toInt32)), .unset] [(.int (1 : Int32)), (.int (2 : Int32))])) _
    refine XS.icmpYes X0.here hx rfl (pc0 := 46) (pc' := 69) rfl (hb hby d1_46) rfl (by decide) (by decide) (by decide) ?_
    show Steps p.tables e below (s₁.setTop (mkF m 69 #[.val (.int i1), .val (.int i2), .val (.int (2 : Int32)), .val (.int ((i1 &&& (255 : Int32)).toUInt32.toUInt16.toUInt32.toInt32)), .val (.int ((((i1.toUInt32 >>> ((8 : Int32) &&& 31).toUInt32).toInt32) &&& (255 : Int32)).toUInt32.toUInt16.toUInt32.toInt32)), .unset] [])) _
    refine XS.iconst X0.here hx rfl (hb hby d1_69) ?_
    show Steps p.tables e below (s₁.setTop (mkF m 70 #[.val (.int i1), .val (.int i2), .val (.int (2 : Int32)), .val (.int ((i1 &&& (255 : Int32)).toUInt32.toUInt16.toUInt32.toInt32)), .val (.int ((((i1.toUInt32 >>> ((8 : Int32) &&& 31).toUInt32).toInt32) &&& (255 : Int32)).toUInt32.toUInt16.toUInt32.toInt32)), .unset] [(.int (2 : Int32))])) _
    refine st1 _ ?_
    show Steps p.tables e below (T1.setTop (mkF m 72 #[.val (.int i1), .val (.int i2), .val (.int (2 : Int32)), .val (.int ((i1 &&& (255 : Int32)).toUInt32.toUInt16.toUInt32.toInt32)), .val (.int ((((i1.toUInt32 >>> ((8 : Int32) &&& 31).toUInt32).toInt32) &&& (255 : Int32)).toUInt32.toUInt16.toUInt32.toInt32)), .unset] [(.ref b1)])) _
    refine XS.astore X1.here hx rfl (hb hby d1_72) rfl rfl (l' := #[.val (.int i1), .val (.int i2), .val (.int (2 : Int32)), .val (.int ((i1 &&& (255 : Int32)).toUInt32.toUInt16.toUInt32.toInt32)), .val (.int ((((i1.toUInt32 >>> ((8 : Int32) &&& 31).toUInt32).toInt32) &&& (255 : Int32)).toUInt32.toUInt16.toUInt32.toInt32)), .val (.ref b1)]) rfl ?_
    show Steps p.tables e below (T1.setTop (mkF m 74 #[.val (.int i1), .val (.int i2), .val (.int (2 : Int32)), .val (.int ((i1 &&& (255 : Int32)).toUInt32.toUInt16.toUInt32.toInt32)), .val (.int ((((i1.toUInt32 >>> ((8 : Int32) &&& 31).toUInt32).toInt32) &&& (255 : Int32)).toUInt32.toUInt16.toUInt32.toInt32)), .val (.ref b1)] [])) _
    refine XS.aload X1.here hx rfl (hb hby d1_74) rfl rfl ?_
    show Steps p.tables e below (T1.setTop (mkF m 76 #[.val (.int i1), .val (.int i2), .val (.int (2 : Int32)), .val (.int ((i1 &&& (255 : Int32)).toUInt32.toUInt16.toUInt32.toInt32)), .val (.int ((((i1.toUInt32 >>> ((8 : Int32) &&& 31).toUInt32).toInt32) &&& (255 : Int32)).toUInt32.toUInt16.toUInt32.toInt32)), .val (.ref b1)] [(.ref b1)])) _
    refine XS.iconst X1.here hx rfl (hb hby d1_76) ?_
    show Steps p.tables e below (T1.setTop (mkF m 77 #[.val (.int i1), .val (.int i2), .val (.int (2 : Int32)), .val (.int ((i1 &&& (255 : Int32)).toUInt32.toUInt16.toUInt32.toInt32)), .val (.int ((((i1.toUInt32 >>> ((8 : Int32) &&& 31).toUInt32).toInt32) &&& (255 : Int32)).toUInt32.toUInt16.toUInt32.toInt32)), .val (.ref b1)] [(.int (0 : Int32)), (.ref b1)])) _
    refine XS.iloadN X1.here hx rfl (hb hby d1_77) rfl ?_
    show Steps p.tables e below (T1.setTop (mkF m 78 #[.val (.int i1), .val (.int i2), .val (.int (2 : Int32)), .val (.int ((i1 &&& (255 : Int32)).toUInt32.toUInt16.toUInt32.toInt32)), .val (.int ((((i1.toUInt32 >>> ((8 : Int32) &&& 31).toUInt32).toInt32) &&& (255 : Int32)).toUInt32.toUInt16.toUInt32.toInt32)), .val (.ref b1)] [(.int ((i1 &&& (255 : Int32)).toUInt32.toUInt16.toUInt32.toInt32)), (.int (0 : Int32)), (.ref b1)])) _
    refine st4 _ ?_
    show Steps p.tables e below (T4.setTop (mkF m 79 #[.val (.int i1), .val (.int i2), .val (.int (2 : Int32)), .val (.int ((i1 &&& (255 : Int32)).toUInt32.toUInt16.toUInt32.toInt32)), .val (.int ((((i1.toUInt32 >>> ((8 : Int32) &&& 31).toUInt32).toInt32) &&& (255 : Int32)).toUInt32.toUInt16.toUInt32.toInt32)), .val (.ref b1)] [])) _
    refine XS.aload X4.here hx rfl (hb hby d1_79) rfl rfl ?_
    show Steps p.tables e below (T4.setTop (mkF m 81 #[.val (.int i1), .val (.int i2), .val (.int (2 : Int32)), .val (.int ((i1 &&& (255 : Int32)).toUInt32.toUInt16.toUInt32.toInt32)), .val (.int ((((i1.toUInt32 >>> ((8 : Int32) &&& 31).toUInt32).toInt32) &&& (255 : Int32)).toUInt32.toUInt16.toUInt32.toInt32)), .val (.ref b1)] [(.ref b1)])) _
    refine XS.iconst X4.here hx rfl (hb hby d1_81) ?_
    show Steps p.tables e below (T4.setTop (mkF m 82 #[.val (.int i1), .val (.int i2), .val (.int (2 : Int32)), .val (.int ((i1 &&& (255 : Int32)).toUInt32.toUInt16.toUInt32.toInt32)), .val (.int ((((i1.toUInt32 >>> ((8 : Int32) &&& 31).toUInt32).toInt32) &&& (255 : Int32)).toUInt32.toUInt16.toUInt32.toInt32)), .val (.ref b1)] [(.int (1 : Int32)), (.ref b1)])) _
    refine XS.iload X4.here hx rfl (hb hby d1_82) rfl ?_
    show Steps p.tables e below (T4.setTop (mkF m 84 #[.val (.int i1), .val (.int i2), .val (.int (2 : Int32)), .val (.int ((i1 &&& (255 : Int32)).toUInt32.toUInt16.toUInt32.toInt32)), .val (.int ((((i1.toUInt32 >>> ((8 : Int32) &&& 31).toUInt32).toInt32) &&& (255 : Int32)).toUInt32.toUInt16.toUInt32.toInt32)), .val (.ref b1)] [(.int ((((i1.toUInt32 >>> ((8 : Int32) &&& 31).toUInt32).toInt32) &&& (255 : Int32)).toUInt32.toUInt16.toUInt32.toInt32)), (.int (1 : Int32)), (.ref b1)])) _
    refine st7 _ ?_
    show Steps p.tables e below (T7.setTop (mkF m 85 #[.val (.int i1), .val (.int i2), .val (.int (2 : Int32)), .val (.int ((i1 &&& (255 : Int32)).toUInt32.toUInt16.toUInt32.toInt32)), .val (.int ((((i1.toUInt32 >>> ((8 : Int32) &&& 31).toUInt32).toInt32) &&& (255 : Int32)).toUInt32.toUInt16.toUInt32.toInt32)), .val (.ref b1)] [])) _
    refine st9 _ ?_
    show Steps p.tables e below (T9.setTop (mkF m 88 #[.val (.int i1), .val (.int i2), .val (.int (2 : Int32)), .val (.int ((i1 &&& (255 : Int32)).toUInt32.toUInt16.toUInt32.toInt32)), .val (.int ((((i1.toUInt32 >>> ((8 : Int32) &&& 31).toUInt32).toInt32) &&& (255 : Int32)).toUInt32.toUInt16.toUInt32.toInt32)), .val (.ref b1)] [(.ref b9)])) _
    refine XS.dup X9.here hx rfl (hb hby d1_88) rfl rfl ?_
    show Steps p.tables e below (T9.setTop (mkF m 89 #[.val (.int i1), .val (.int i2), .val (.int (2 : Int32)), .val (.int ((i1 &&& (255 : Int32)).toUInt32.toUInt16.toUInt32.toInt32)), .val (.int ((((i1.toUInt32 >>> ((8 : Int32) &&& 31).toUInt32).toInt32) &&& (255 : Int32)).toUInt32.toUInt16.toUInt32.toInt32)), .val (.ref b1)] [(.ref b9), (.ref b9)])) _
    refine XS.aload X9.here hx rfl (hb hby d1_89) rfl rfl ?_
    show Steps p.tables e below (T9.setTop (mkF m 91 #[.val (.int i1), .val (.int i2), .val (.int (2 : Int32)), .val (.int ((i1 &&& (255 : Int32)).toUInt32.toUInt16.toUInt32.toInt32)), .val (.int ((((i1.toUInt32 >>> ((8 : Int32) &&& 31).toUInt32).toInt32) &&& (255 : Int32)).toUInt32.toUInt16.toUInt32.toInt32)), .val (.ref b1)] [(.ref b1), (.ref b9), (.ref b9)])) _
    refine st14.trans ?_
    show Steps p.tables e below (T14.setTop (mkF m 94 #[.val (.int i1), .val (.int i2), .val (.int (2 : Int32)), .val (.int ((i1 &&& (255 : Int32)).toUInt32.toUInt16.toUInt32.toInt32)), .val (.int ((((i1.toUInt32 >>> ((8 : Int32) &&& 31).toUInt32).toInt32) &&& (255 : Int32)).toUInt32.toUInt16.toUInt32.toInt32)), .val (.ref b1)] [(.ref b9)])) _
    exact retOut X14 hx Bd.returns rfl (Or.inr (Or.inr (Or.inr (Or.inr ⟨rfl, rfl, rfl⟩)))) (hb hby d1_94) hr
  · show QrmS_2 Z cz i1 i2 h0 n0 _ T14.heap _
    exact ⟨b9, rfl, N14, Ks15, (Nat.le_trans Ks8.1 (Nat.le_of_eq g9.symm)), q14_0⟩
  · rw [hh]
    show CHr Z consts_1 s.vm h0 T14.vm T14.heap
    exact Cend
theorem rmS (l : Launch) (Z : State) (a0 : Array Value) (hw : ∀ d ∈ tables_1, d.before a0 Z = true) (ws : List Jvm.Cond) (cz : Int32) (i1 : Int32) (i2 : Int32) (h0 : Heap) (n0 : Nat) (O0 : Old Z n0 h0) (P : Pins Z cz) :
    MetFree l (⟨"com/example/iron_wire/ironwire/definition/QualifierDefinitionInheritedPinLaw", "str", "(II)Ljava/lang/String;"⟩ : MethodName) (head1 (Jvm.Cond.code (⟨"com/example/iron_wire/ironwire/definition/QualifierDefinitionInheritedPinLaw", "str", "(II)Ljava/lang/String;"⟩ : MethodName) method_2_code 6 (some (.object "java/lang/String")) :: ws) ({ frames := 4, cells := 6, slots := 12, locals := 66 } : Room)) (fun a U => a = #[(.int i1), (.int i2)] ∧ Z.Warmed39 U.vm ∧ U.heap = h0 ∧ CHv Z consts_1 U.vm h0 ∧ ∀ x ∈ ([] : List Addr), Safe Z consts_1 U.vm h0 x) (fun _ _ _ _ _ => True) (fun _ U o U' => ∃ v L, o = .returned v ∧ QrmS_0 Z cz i1 i2 h0 n0 v U'.heap L ∧ CHr Z consts_1 U.vm U.heap U'.vm U'.heap ∧ ReturnedEndW U o U' L ({ frames := 4, cells := 6, slots := 12, locals := 66 } : Room).cells ({ frames := 4, cells := 6, slots := 12, locals := 66 } : Room).slots) := by
  rcases own_r3 i2 with k | k | k
  · exact rmS_0 l Z a0 hw ws cz i1 i2 h0 n0 O0 P k
  · exact rmS_1 l Z a0 hw ws cz i1 i2 h0 n0 O0 P k
  · exact rmS_2 l Z a0 hw ws cz i1 i2 h0 n0 O0 P k
theorem pd_2 : parseMethodDescriptor "(II)Ljava/lang/String;" = some ⟨[.int, .int], some (.object "java/lang/String")⟩ := by decide +kernel
set_option maxRecDepth 65536 in
set_option maxHeartbeats 40000000 in
theorem sg_10 {p : Program} {l : Launch} {e : Env} {s : State} {m : MethodId} {args : Array Value} {below : List Frame} {meth : Method} {c : Code} {T0 : State} {locs : List Loc} {cells slots : Nat} {vm0 : Vm} {k0 : Nat} {Z : State} {a0 : Array Value} {h0 : Heap} {n0 : Nat} {cz : Int32} (p0 : Int32) (p1 : Int32) (p2 : Int32) (p3 : Int32) (p4 : Int32) (p5 : Int32) (b1_0 : Addr)
    (X0 : Stand p l e room_1 (s.setVm vm0) m args below meth c T0 locs cells slots) (hx : p.tables.exec = Jvm.exec) (hZ : Z.Warmed39 vm0) (hw : ∀ d ∈ tables_1, d.before a0 Z = true) (hby : c.code = code) (hml : c.maxLocals = 17) (hown : vm0.findClass "com/example/iron_wire/ironwire/definition/QualifierDefinitionInheritedPinLaw" = some m.cls) (e0 : T0.heap = h0) (O0 : Old Z n0 h0) (P : Pins Z cz) (hEL : EW Z a0 consts_1) (hS : s.Since vm0 k0) (hk : k0 ≤ h0.size) (C0 : CHv Z consts_1 vm0 h0) (N0 : Fr n0 locs) (hc : cells + 6 ≤ room_1.cells) (hl : slots + 12 ≤ room_1.slots) :
    ∃ (T' : State) (vm1 : Vm) (h' : Heap) (v : Value) (k1 : Nat) (locs' : List Loc), Stand p l e room_1 (s.setVm vm1) m args below meth c T' locs' (cells + 6) (slots + 12) ∧ T'.heap = h' ∧ Keep h0 h' [] ∧ StrN Z h' v ∧ s.Since vm1 k1 ∧ k1 ≤ h'.size ∧ Z.Warmed39 vm1 ∧ vm1.findClass "com/example/iron_wire/ironwire/definition/QualifierDefinitionInheritedPinLaw" = some m.cls ∧ CHr Z consts_1 vm0 h0 vm1 h' ∧ Fr n0 locs' ∧
      ∀ target, Steps p.tables e below (T'.setTop (mkF m 29 #[.val (.int p0), .val (.int p1), .val (.int p2), .val (.int p3), .val (.int p4), .val (.int p5), .val (.ref b1_0), .unset, .unset, .unset, .unset, .unset, .unset, .unset, .unset, .unset, .unset] [v])) target → Steps p.tables e below (T0.setTop (mkF m 10 #[.val (.int p0), .val (.int p1), .val (.int p2), .val (.int p3), .val (.int p4), .val (.int p5), .val (.ref b1_0), .unset, .unset, .unset, .unset, .unset, .unset, .unset, .unset, .unset, .unset] [])) target := by
  by_cases q : (p5 &&& (1 : Int32)) = (0 : Int32)
  · obtain ⟨_, _, ⟨T1, L1, k1, n1⟩, -, Xq1, Sq1, gq1, ⟨Lc1, hQ1, l1, y1, z1, Cq1⟩, st1⟩ := callSS X0 hx (y := (⟨"com/example/iron_wire/ironwire/definition/QualifierDefinitionInheritedPinLaw", "str", "(II)Ljava/lang/String;"⟩ : MethodName)) hown (mvT (s := s.setVm vm0) hZ (hw _ (List.mem_of_getElem? (i := 0) rfl))) (mvT (s := s.setVm vm0) hZ (hw _ (List.mem_of_getElem? (i := 1) rfl))) (mvT (s := s.setVm vm0) hZ (hw _ (List.mem_of_getElem? (i := 2) rfl))) (mvT (s := s.setVm vm0) hZ (hw _ (List.mem_of_getElem? (i := 3) rfl))) (by decide) (own_backH (xs := []) (W := 0) (rmS l Z a0 hw [] cz p1 ((p1.toUInt32 >>> ((16 : Int32) &&& 31).toUInt32).toInt32) h0 n0 O0 P) hZ (hw _ (List.mem_of_getElem? (i := 3) rfl)) (hw _ (List.mem_of_getElem? (i := 2) rfl)) (by decide) (by decide) hEL C0 own_sx0) (g := (mkF m 26 #[.val (.int p0), .val (.int p1), .val (.int p2), .val (.int p3), .val (.int p4), .val (.int p5), .val (.ref b1_0), .unset, .unset, .unset, .unset, .unset, .unset, .unset, .unset, .unset, .unset] [(.int ((p1.toUInt32 >>> ((16 : Int32) &&& 31).toUInt32).toInt32)), (.int p1)])) rfl (by rw [hml]; rfl) (argsL := [(.int p1), (.int ((p1.toUInt32 >>> ((16 : Int32) &&& 31).toUInt32).toInt32))]) (rest := []) (lenOf pd_2 rfl) rfl (by show 2 * 0 + _ ≤ _; exact Nat.le_of_eq rfl) (hb hby at_26) (fun _ _ => ⟨rfl, e0, hc, hl⟩)
    dsimp only [Pt.U, Pt.locs, Pt.cells, Pt.slots] at Xq1 Sq1 gq1 l1 y1 z1 st1 hQ1 Cq1
    subst l1 y1 z1
    obtain ⟨X1, hS1, hZ1, hown1⟩ := rebS hS (show _ ≤ T0.heap.size by rw [e0]; exact hk) Xq1 Sq1 gq1 hZ hown
    obtain ⟨b, rfl, Nq, K1, lb, Eb⟩ := hQ1
    refine ⟨T1, T1.vm, T1.heap, .ref b, _, _, X1, rfl, K1, Or.inr ⟨b, rfl, Eb⟩, hS1, Nat.le_refl _, hZ1, hown1, Cq1, Fr.app N0 Nq, fun target kt => ?_⟩
    show Steps p.tables e below (T0.setTop (mkF m 10 #[.val (.int p0), .val (.int p1), .val (.int p2), .val (.int p3), .val (.int p4), .val (.int p5), .val (.ref b1_0), .unset, .unset, .unset, .unset, .unset, .unset, .unset, .unset, .unset, .unset] [])) _
    refine XS.iload X0.here hx rfl (hb hby at_10) rfl ?_
    show Steps p.tables e below (T0.setTop (mkF m 12 #[.val (.int p0), .val (.int p1), .val (.int p2), .val (.int p3), .val (.int p4), .val (.int p5), .val (.ref b1_0), .unset, .unset, .unset, .unset, .unset, .unset, .unset, .unset, .unset, .unset] [(.int p5)])) _
    refine XS.iconst X0.here hx rfl (hb hby at_12) ?_
    show Steps p.tables e below (T0.setTop (mkF m 13 #[.val (.int p0), .val (.int p1), .val (.int p2), .val (.int p3), .val (.int p4), .val (.int p5), .val (.ref b1_0), .unset, .unset, .unset, .unset, .unset, .unset, .unset, .unset, .unset, .unset] [(.int (1 : Int32)), (.int p5)])) _
    refine XS.iand X0.here hx rfl (hb hby at_13) rfl ?_
    show Steps p.tables e below (T0.setTop (mkF m 14 #[.val (.int p0), .val (.int p1), .val (.int p2), .val (.int p3), .val (.int p4), .val (.int p5), .val (.ref b1_0), .unset, .unset, .unset, .unset, .unset, .unset, .unset, .unset, .unset, .unset] [(.int (p5 &&& (1 : Int32)))])) _
    refine XS.ifYes X0.here hx rfl (pc0 := 14) (pc' := 21) rfl (hb hby at_14) rfl ((if0 _ _).trans (teq q).1) (by decide) (by decide) ?_
    show Steps p.tables e below (T0.setTop (mkF m 21 #[.val (.int p0), .val (.int p1), .val (.int p2), .val (.int p3), .val (.int p4), .val (.int p5), .val (.ref b1_0), .unset, .unset, .unset, .unset, .unset, .unset, .unset, .unset, .unset, .unset] [])) _
    refine XS.iloadN X0.here hx rfl (hb hby at_21) rfl ?_
    show Steps p.tables e below (T0.setTop (mkF m 22 #[.val (.int p0), .val (.int p1), .val (.int p2), .val (.int p3), .val (.int p4), .val (.int p5), .val (.ref b1_0), .unset, .unset, .unset, .unset, .unset, .unset, .unset, .unset, .unset, .unset] [(.int p1)])) _
    refine XS.iloadN X0.here hx rfl (hb hby at_22) rfl ?_
    show Steps p.tables e below (T0.setTop (mkF m 23 #[.val (.int p0), .val (.int p1), .val (.int p2), .val (.int p3), .val (.int p4), .val (.int p5), .val (.ref b1_0), .unset, .unset, .unset, .unset, .unset, .unset, .unset, .unset, .unset, .unset] [(.int p1), (.int p1)])) _
    refine XS.bipush X0.here hx rfl (hb hby at_23) ?_
    show Steps p.tables e below (T0.setTop (mkF m 25 #[.val (.int p0), .val (.int p1), .val (.int p2), .val (.int p3), .val (.int p4), .val (.int p5), .val (.ref b1_0), .unset, .unset, .unset, .unset, .unset, .unset, .unset, .unset, .unset, .unset] [(.int (16 : Int32)), (.int p1), (.int p1)])) _
    refine XS.iushr X0.here hx rfl (hb hby at_25) rfl ?_
    show Steps p.tables e below (T0.setTop (mkF m 26 #[.val (.int p0), .val (.int p1), .val (.int p2), .val (.int p3), .val (.int p4), .val (.int p5), .val (.ref b1_0), .unset, .unset, .unset, .unset, .unset, .unset, .unset, .unset, .unset, .unset] [(.int ((p1.toUInt32 >>> ((16 : Int32) &&& 31).toUInt32).toInt32)), (.int p1)])) _
    refine st1.trans ?_
    exact kt
  · refine ⟨T0, vm0, h0, .null, k0, locs, X0.mono (Nat.le_add_right _ _) (Nat.le_add_right _ _), e0, Keep.refl h0 _, Or.inl rfl, hS, hk, hZ, hown, CHr.refl C0, N0, fun target kt => ?_⟩
    show Steps p.tables e below (T0.setTop (mkF m 10 #[.val (.int p0), .val (.int p1), .val (.int p2), .val (.int p3), .val (.int p4), .val (.int p5), .val (.ref b1_0), .unset, .unset, .unset, .unset, .unset, .unset, .unset, .unset, .unset, .unset] [])) _
    refine XS.iload X0.here hx rfl (hb hby at_10) rfl ?_
    show Steps p.tables e below (T0.setTop (mkF m 12 #[.val (.int p0), .val (.int p1), .val (.int p2), .val (.int p3), .val (.int p4), .val (.int p5), .val (.ref b1_0), .unset, .unset, .unset, .unset, .unset, .unset, .unset, .unset, .unset, .unset] [(.int p5)])) _
    refine XS.iconst X0.here hx rfl (hb hby at_12) ?_
    show Steps p.tables e below (T0.setTop (mkF m 13 #[.val (.int p0), .val (.int p1), .val (.int p2), .val (.int p3), .val (.int p4), .val (.int p5), .val (.ref b1_0), .unset, .unset, .unset, .unset, .unset, .unset, .unset, .unset, .unset, .unset] [(.int (1 : Int32)), (.int p5)])) _
    refine XS.iand X0.here hx rfl (hb hby at_13) rfl ?_
    show Steps p.tables e below (T0.setTop (mkF m 14 #[.val (.int p0), .val (.int p1), .val (.int p2), .val (.int p3), .val (.int p4), .val (.int p5), .val (.ref b1_0), .unset, .unset, .unset, .unset, .unset, .unset, .unset, .unset, .unset, .unset] [(.int (p5 &&& (1 : Int32)))])) _
    refine XS.ifNo X0.here hx rfl (hb hby at_14) rfl ((if0 _ _).trans (feq q).1) ?_
    show Steps p.tables e below (T0.setTop (mkF m 17 #[.val (.int p0), .val (.int p1), .val (.int p2), .val (.int p3), .val (.int p4), .val (.int p5), .val (.ref b1_0), .unset, .unset, .unset, .unset, .unset, .unset, .unset, .unset, .unset, .unset] [])) _
    refine XS.aconstNull X0.here hx rfl (hb hby at_17) ?_
    show Steps p.tables e below (T0.setTop (mkF m 18 #[.val (.int p0), .val (.int p1), .val (.int p2), .val (.int p3), .val (.int p4), .val (.int p5), .val (.ref b1_0), .unset, .unset, .unset, .unset, .unset, .unset, .unset, .unset, .unset, .unset] [.null])) _
    refine XS.goto X0.here hx rfl (pc0 := 18) (pc' := 29) rfl (hb hby at_18) (by decide) (by decide) ?_
    exact kt
set_option maxRecDepth 65536 in
set_option maxHeartbeats 40000000 in
theorem sg_31 {p : Program} {l : Launch} {e : Env} {s : State} {m : MethodId} {args : Array Value} {below : List Frame} {meth : Method} {c : Code} {T0 : State} {locs : List Loc} {cells slots : Nat} {vm0 : Vm} {k0 : Nat} {Z : State} {a0 : Array Value} {h0 : Heap} {n0 : Nat} {cz : Int32} (p0 : Int32) (p1 : Int32) (p2 : Int32) (p3 : Int32) (p4 : Int32) (p5 : Int32) (b1_0 : Addr) (v3 : Value)
    (X0 : Stand p l e room_1 (s.setVm vm0) m args below meth c T0 locs cells slots) (hx : p.tables.exec = Jvm.exec) (hZ : Z.Warmed39 vm0) (hw : ∀ d ∈ tables_1, d.before a0 Z = true) (hby : c.code = code) (hml : c.maxLocals = 17) (hown : vm0.findClass "com/example/iron_wire/ironwire/definition/QualifierDefinitionInheritedPinLaw" = some m.cls) (e0 : T0.heap = h0) (O0 : Old Z n0 h0) (P : Pins Z cz) (hEL : EW Z a0 consts_1) (hS : s.Since vm0 k0) (hk : k0 ≤ h0.size) (C0 : CHv Z consts_1 vm0 h0) (N0 : Fr n0 locs) (hc : cells + 6 ≤ room_1.cells) (hl : slots + 12 ≤ room_1.slots) (R_v3 : v3.isRef = true) :
    ∃ (T' : State) (vm1 : Vm) (h' : Heap) (v : Value) (k1 : Nat) (locs' : List Loc), Stand p l e room_1 (s.setVm vm1) m args below meth c T' locs' (cells + 6) (slots + 12) ∧ T'.heap = h' ∧ Keep h0 h' [] ∧ StrN Z h' v ∧ s.Since vm1 k1 ∧ k1 ≤ h'.size ∧ Z.Warmed39 vm1 ∧ vm1.findClass "com/example/iron_wire/ironwire/definition/QualifierDefinitionInheritedPinLaw" = some m.cls ∧ CHr Z consts_1 vm0 h0 vm1 h' ∧ Fr n0 locs' ∧
      ∀ target, Steps p.tables e below (T'.setTop (mkF m 50 #[.val (.int p0), .val (.int p1), .val (.int p2), .val (.int p3), .val (.int p4), .val (.int p5), .val (.ref b1_0), .val v3, .unset, .unset, .unset, .unset, .unset, .unset, .unset, .unset, .unset] [v])) target → Steps p.tables e below (T0.setTop (mkF m 31 #[.val (.int p0), .val (.int p1), .val (.int p2), .val (.int p3), .val (.int p4), .val (.int p5), .val (.ref b1_0), .val v3, .unset, .unset, .unset, .unset, .unset, .unset, .unset, .unset, .unset] [])) target := by
  by_cases q : (p5 &&& (2 : Int32)) = (0 : Int32)
  · obtain ⟨_, _, ⟨T1, L1, k1, n1⟩, -, Xq1, Sq1, gq1, ⟨Lc1, hQ1, l1, y1, z1, Cq1⟩, st1⟩ := callSS X0 hx (y := (⟨"com/example/iron_wire/ironwire/definition/QualifierDefinitionInheritedPinLaw", "str", "(II)Ljava/lang/String;"⟩ : MethodName)) hown (mvT (s := s.setVm vm0) hZ (hw _ (List.mem_of_getElem? (i := 0) rfl))) (mvT (s := s.setVm vm0) hZ (hw _ (List.mem_of_getElem? (i := 1) rfl))) (mvT (s := s.setVm vm0) hZ (hw _ (List.mem_of_getElem? (i := 2) rfl))) (mvT (s := s.setVm vm0) hZ (hw _ (List.mem_of_getElem? (i := 3) rfl))) (by decide) (own_backH (xs := []) (W := 0) (rmS l Z a0 hw [] cz p2 ((p2.toUInt32 >>> ((16 : Int32) &&& 31).toUInt32).toInt32) h0 n0 O0 P) hZ (hw _ (List.mem_of_getElem? (i := 3) rfl)) (hw _ (List.mem_of_getElem? (i := 2) rfl)) (by decide) (by decide) hEL C0 own_sx0) (g := (mkF m 47 #[.val (.int p0), .val (.int p1), .val (.int p2), .val (.int p3), .val (.int p4), .val (.int p5), .val (.ref b1_0), .val v3, .unset, .unset, .unset, .unset, .unset, .unset, .unset, .unset, .unset] [(.int ((p2.toUInt32 >>> ((16 : Int32) &&& 31).toUInt32).toInt32)), (.int p2)])) rfl (by rw [hml]; rfl) (argsL := [(.int p2), (.int ((p2.toUInt32 >>> ((16 : Int32) &&& 31).toUInt32).toInt32))]) (rest := []) (lenOf pd_2 rfl) rfl (by show 2 * 0 + _ ≤ _; exact Nat.le_of_eq rfl) (hb hby at_47) (fun _ _ => ⟨rfl, e0, hc, hl⟩)
    dsimp only [Pt.U, Pt.locs, Pt.cells, Pt.slots] at Xq1 Sq1 gq1 l1 y1 z1 st1 hQ1 Cq1
    subst l1 y1 z1
    obtain ⟨X1, hS1, hZ1, hown1⟩ := rebS hS (show _ ≤ T0.heap.size by rw [e0]; exact hk) Xq1 Sq1 gq1 hZ hown
    obtain ⟨b, rfl, Nq, K1, lb, Eb⟩ := hQ1
    refine ⟨T1, T1.vm, T1.heap, .ref b, _, _, X1, rfl, K1, Or.inr ⟨b, rfl, Eb⟩, hS1, Nat.le_refl _, hZ1, hown1, Cq1, Fr.app N0 Nq, fun target kt => ?_⟩
    show Steps p.tables e below (T0.setTop (mkF m 31 #[.val (.int p0), .val (.int p1), .val (.int p2), .val (.int p3), .val (.int p4), .val (.int p5), .val (.ref b1_0), .val v3, .unset, .unset, .unset, .unset, .unset, .unset, .unset, .unset, .unset] [])) _
    refine XS.iload X0.here hx rfl (hb hby at_31) rfl ?_
    show Steps p.tables e below (T0.setTop (mkF m 33 #[.val (.int p0), .val (.int p1), .val (.int p2), .val (.int p3), .val (.int p4), .val (.int p5), .val (.ref b1_0), .val v3, .unset, .unset, .unset, .unset, .unset, .unset, .unset, .unset, .unset] [(.int p5)])) _
    refine XS.iconst X0.here hx rfl (hb hby at_33) ?_
    show Steps p.tables e below (T0.setTop (mkF m 34 #[.val (.int p0), .val (.int p1), .val (.int p2), .val (.int p3), .val (.int p4), .val (.int p5), .val (.ref b1_0), .val v3, .unset, .unset, .unset, .unset, .unset, .unset, .unset, .unset, .unset] [(.int (2 : Int32)), (.int p5)])) _
    refine XS.iand X0.here hx rfl (hb hby at_34) rfl ?_
    show Steps p.tables e below (T0.setTop (mkF m 35 #[.val (.int p0), .val (.int p1), .val (.int p2), .val (.int p3), .val (.int p4), .val (.int p5), .val (.ref b1_0), .val v3, .unset, .unset, .unset, .unset, .unset, .unset, .unset, .unset, .unset] [(.int (p5 &&& (2 : Int32)))])) _
    refine XS.ifYes X0.here hx rfl (pc0 := 35) (pc' := 42) rfl (hb hby at_35) rfl ((if0 _ _).trans (teq q).1) (by decide) (by decide) ?_
    show Steps p.tables e below (T0.setTop (mkF m 42 #[.val (.int p0), .val (.int p1), .val (.int p2), .val (.int p3), .val (.int p4), .val (.int p5), .val (.ref b1_0), .val v3, .unset, .unset, .unset, .unset, .unset, .unset, .unset, .unset, .unset] [])) _
    refine XS.iloadN X0.here hx rfl (hb hby at_42) rfl ?_
    show Steps p.tables e below (T0.setTop (mkF m 43 #[.val (.int p0), .val (.int p1), .val (.int p2), .val (.int p3), .val (.int p4), .val (.int p5), .val (.ref b1_0), .val v3, .unset, .unset, .unset, .unset, .unset, .unset, .unset, .unset, .unset] [(.int p2)])) _
    refine XS.iloadN X0.here hx rfl (hb hby at_43) rfl ?_
    show Steps p.tables e below (T0.setTop (mkF m 44 #[.val (.int p0), .val (.int p1), .val (.int p2), .val (.int p3), .val (.int p4), .val (.int p5), .val (.ref b1_0), .val v3, .unset, .unset, .unset, .unset, .unset, .unset, .unset, .unset, .unset] [(.int p2), (.int p2)])) _
    refine XS.bipush X0.here hx rfl (hb hby at_44) ?_
    show Steps p.tables e below (T0.setTop (mkF m 46 #[.val (.int p0), .val (.int p1), .val (.int p2), .val (.int p3), .val (.int p4), .val (.int p5), .val (.ref b1_0), .val v3, .unset, .unset, .unset, .unset, .unset, .unset, .unset, .unset, .unset] [(.int (16 : Int32)), (.int p2), (.int p2)])) _
    refine XS.iushr X0.here hx rfl (hb hby at_46) rfl ?_
    show Steps p.tables e below (T0.setTop (mkF m 47 #[.val (.int p0), .val (.int p1), .val (.int p2), .val (.int p3), .val (.int p4), .val (.int p5), .val (.ref b1_0), .val v3, .unset, .unset, .unset, .unset, .unset, .unset, .unset, .unset, .unset] [(.int ((p2.toUInt32 >>> ((16 : Int32) &&& 31).toUInt32).toInt32)), (.int p2)])) _
    refine st1.trans ?_
    exact kt
  · refine ⟨T0, vm0, h0, .null, k0, locs, X0.mono (Nat.le_add_right _ _) (Nat.le_add_right _ _), e0, Keep.refl h0 _, Or.inl rfl, hS, hk, hZ, hown, CHr.refl C0, N0, fun target kt => ?_⟩
    show Steps p.tables e below (T0.setTop (mkF m 31 #[.val (.int p0), .val (.int p1), .val (.int p2), .val (.int p3), .val (.int p4), .val (.int p5), .val (.ref b1_0), .val v3, .unset, .unset, .unset, .unset, .unset, .unset, .unset, .unset, .unset] [])) _
    refine XS.iload X0.here hx rfl (hb hby at_31) rfl ?_
    show Steps p.tables e below (T0.setTop (mkF m 33 #[.val (.int p0), .val (.int p1), .val (.int p2), .val (.int p3), .val (.int p4), .val (.int p5), .val (.ref b1_0), .val v3, .unset, .unset, .unset, .unset, .unset, .unset, .unset, .unset, .unset] [(.int p5)])) _
    refine XS.iconst X0.here hx rfl (hb hby at_33) ?_
    show Steps p.tables e below (T0.setTop (mkF m 34 #[.val (.int p0), .val (.int p1), .val (.int p2), .val (.int p3), .val (.int p4), .val (.int p5), .val (.ref b1_0), .val v3, .unset, .unset, .unset, .unset, .unset, .unset, .unset, .unset, .unset] [(.int (2 : Int32)), (.int p5)])) _
    refine XS.iand X0.here hx rfl (hb hby at_34) rfl ?_
    show Steps p.tables e below (T0.setTop (mkF m 35 #[.val (.int p0), .val (.int p1), .val (.int p2), .val (.int p3), .val (.int p4), .val (.int p5), .val (.ref b1_0), .val v3, .unset, .unset, .unset, .unset, .unset, .unset, .unset, .unset, .unset] [(.int (p5 &&& (2 : Int32)))])) _
    refine XS.ifNo X0.here hx rfl (hb hby at_35) rfl ((if0 _ _).trans (feq q).1) ?_
    show Steps p.tables e below (T0.setTop (mkF m 38 #[.val (.int p0), .val (.int p1), .val (.int p2), .val (.int p3), .val (.int p4), .val (.int p5), .val (.ref b1_0), .val v3, .unset, .unset, .unset, .unset, .unset, .unset, .unset, .unset, .unset] [])) _
    refine XS.aconstNull X0.here hx rfl (hb hby at_38) ?_
    show Steps p.tables e below (T0.setTop (mkF m 39 #[.val (.int p0), .val (.int p1), .val (.int p2), .val (.int p3), .val (.int p4), .val (.int p5), .val (.ref b1_0), .val v3, .unset, .unset, .unset, .unset, .unset, .unset, .unset, .unset, .unset] [.null])) _
    refine XS.goto X0.here hx rfl (pc0 := 39) (pc' := 50) rfl (hb hby at_39) (by decide) (by decide) ?_
    exact kt
set_option maxRecDepth 65536 in
set_option maxHeartbeats 40000000 in
theorem sg_52 {p : Program} {l : Launch} {e : Env} {s : State} {m : MethodId} {args : Array Value} {below : List Frame} {meth : Method} {c : Code} {T0 : State} {locs : List Loc} {cells slots : Nat} {vm0 : Vm} {k0 : Nat} {Z : State} {a0 : Array Value} {h0 : Heap} {n0 : Nat} {cz : Int32} (p0 : Int32) (p1 : Int32) (p2 : Int32) (p3 : Int32) (p4 : Int32) (p5 : Int32) (b1_0 : Addr) (v3 : Value) (v5 : Value)
    (X0 : Stand p l e room_1 (s.setVm vm0) m args below meth c T0 locs cells slots) (hx : p.tables.exec = Jvm.exec) (hZ : Z.Warmed39 vm0) (hw : ∀ d ∈ tables_1, d.before a0 Z = true) (hby : c.code = code) (hml : c.maxLocals = 17) (hown : vm0.findClass "com/example/iron_wire/ironwire/definition/QualifierDefinitionInheritedPinLaw" = some m.cls) (e0 : T0.heap = h0) (O0 : Old Z n0 h0) (P : Pins Z cz) (hEL : EW Z a0 consts_1) (hS : s.Since vm0 k0) (hk : k0 ≤ h0.size) (C0 : CHv Z consts_1 vm0 h0) (N0 : Fr n0 locs) (hc : cells + 6 ≤ room_1.cells) (hl : slots + 12 ≤ room_1.slots) (R_v3 : v3.isRef = true) (R_v5 : v5.isRef = true) :
    ∃ (T' : State) (vm1 : Vm) (h' : Heap) (v : Value) (k1 : Nat) (locs' : List Loc), Stand p l e room_1 (s.setVm vm1) m args below meth c T' locs' (cells + 6) (slots + 12) ∧ T'.heap = h' ∧ Keep h0 h' [] ∧ StrN Z h' v ∧ s.Since vm1 k1 ∧ k1 ≤ h'.size ∧ Z.Warmed39 vm1 ∧ vm1.findClass "com/example/iron_wire/ironwire/definition/QualifierDefinitionInheritedPinLaw" = some m.cls ∧ CHr Z consts_1 vm0 h0 vm1 h' ∧ Fr n0 locs' ∧
      ∀ target, Steps p.tables e below (T'.setTop (mkF m 71 #[.val (.int p0), .val (.int p1), .val (.int p2), .val (.int p3), .val (.int p4), .val (.int p5), .val (.ref b1_0), .val v3, .val v5, .unset, .unset, .unset, .unset, .unset, .unset, .unset, .unset] [v])) target → Steps p.tables e below (T0.setTop (mkF m 52 #[.val (.int p0), .val (.int p1), .val (.int p2), .val (.int p3), .val (.int p4), .val (.int p5), .val (.ref b1_0), .val v3, .val v5, .unset, .unset, .unset, .unset, .unset, .unset, .unset, .unset] [])) target := by
  by_cases q : (p5 &&& (4 : Int32)) = (0 : Int32)
  · obtain ⟨_, _, ⟨T1, L1, k1, n1⟩, -, Xq1, Sq1, gq1, ⟨Lc1, hQ1, l1, y1, z1, Cq1⟩, st1⟩ := callSS X0 hx (y := (⟨"com/example/iron_wire/ironwire/definition/QualifierDefinitionInheritedPinLaw", "str", "(II)Ljava/lang/String;"⟩ : MethodName)) hown (mvT (s := s.setVm vm0) hZ (hw _ (List.mem_of_getElem? (i := 0) rfl))) (mvT (s := s.setVm vm0) hZ (hw _ (List.mem_of_getElem? (i := 1) rfl))) (mvT (s := s.setVm vm0) hZ (hw _ (List.mem_of_getElem? (i := 2) rfl))) (mvT (s := s.setVm vm0) hZ (hw _ (List.mem_of_getElem? (i := 3) rfl))) (by decide) (own_backH (xs := []) (W := 0) (rmS l Z a0 hw [] cz p3 ((p3.toUInt32 >>> ((16 : Int32) &&& 31).toUInt32).toInt32) h0 n0 O0 P) hZ (hw _ (List.mem_of_getElem? (i := 3) rfl)) (hw _ (List.mem_of_getElem? (i := 2) rfl)) (by decide) (by decide) hEL C0 own_sx0) (g := (mkF m 68 #[.val (.int p0), .val (.int p1), .val (.int p2), .val (.int p3), .val (.int p4), .val (.int p5), .val (.ref b1_0), .val v3, .val v5, .unset, .unset, .unset, .unset, .unset, .unset, .unset, .unset] [(.int ((p3.toUInt32 >>> ((16 : Int32) &&& 31).toUInt32).toInt32)), (.int p3)])) rfl (by rw [hml]; rfl) (argsL := [(.int p3), (.int ((p3.toUInt32 >>> ((16 : Int32) &&& 31).toUInt32).toInt32))]) (rest := []) (lenOf pd_2 rfl) rfl (by show 2 * 0 + _ ≤ _; exact Nat.le_of_eq rfl) (hb hby at_68) (fun _ _ => ⟨rfl, e0, hc, hl⟩)
    dsimp only [Pt.U, Pt.locs, Pt.cells, Pt.slots] at Xq1 Sq1 gq1 l1 y1 z1 st1 hQ1 Cq1
    subst l1 y1 z1
    obtain ⟨X1, hS1, hZ1, hown1⟩ := rebS hS (show _ ≤ T0.heap.size by rw [e0]; exact hk) Xq1 Sq1 gq1 hZ hown
    obtain ⟨b, rfl, Nq, K1, lb, Eb⟩ := hQ1
    refine ⟨T1, T1.vm, T1.heap, .ref b, _, _, X1, rfl, K1, Or.inr ⟨b, rfl, Eb⟩, hS1, Nat.le_refl _, hZ1, hown1, Cq1, Fr.app N0 Nq, fun target kt => ?_⟩
    show Steps p.tables e below (T0.setTop (mkF m 52 #[.val (.int p0), .val (.int p1), .val (.int p2), .val (.int p3), .val (.int p4), .val (.int p5), .val (.ref b1_0), .val v3, .val v5, .unset, .unset, .unset, .unset, .unset, .unset, .unset, .unset] [])) _
    refine XS.iload X0.here hx rfl (hb hby at_52) rfl ?_
    show Steps p.tables e below (T0.setTop (mkF m 54 #[.val (.int p0), .val (.int p1), .val (.int p2), .val (.int p3), .val (.int p4), .val (.int p5), .val (.ref b1_0), .val v3, .val v5, .unset, .unset, .unset, .unset, .unset, .unset, .unset, .unset] [(.int p5)])) _
    refine XS.iconst X0.here hx rfl (hb hby at_54) ?_
    show Steps p.tables e below (T0.setTop (mkF m 55 #[.val (.int p0), .val (.int p1), .val (.int p2), .val (.int p3), .val (.int p4), .val (.int p5), .val (.ref b1_0), .val v3, .val v5, .unset, .unset, .unset, .unset, .unset, .unset, .unset, .unset] [(.int (4 : Int32)), (.int p5)])) _
    refine XS.iand X0.here hx rfl (hb hby at_55) rfl ?_
    show Steps p.tables e below (T0.setTop (mkF m 56 #[.val (.int p0), .val (.int p1), .val (.int p2), .val (.int p3), .val (.int p4), .val (.int p5), .val (.ref b1_0), .val v3, .val v5, .unset, .unset, .unset, .unset, .unset, .unset, .unset, .unset] [(.int (p5 &&& (4 : Int32)))])) _
    refine XS.ifYes X0.here hx rfl (pc0 := 56) (pc' := 63) rfl (hb hby at_56) rfl ((if0 _ _).trans (teq q).1) (by decide) (by decide) ?_
    show Steps p.tables e below (T0.setTop (mkF m 63 #[.val (.int p0), .val (.int p1), .val (.int p2), .val (.int p3), .val (.int p4), .val (.int p5), .val (.ref b1_0), .val v3, .val v5, .unset, .unset, .unset, .unset, .unset, .unset, .unset, .unset] [])) _
    refine XS.iloadN X0.here hx rfl (hb hby at_63) rfl ?_
    show Steps p.tables e below (T0.setTop (mkF m 64 #[.val (.int p0), .val (.int p1), .val (.int p2), .val (.int p3), .val (.int p4), .val (.int p5), .val (.ref b1_0), .val v3, .val v5, .unset, .unset, .unset, .unset, .unset, .unset, .unset, .unset] [(.int p3)])) _
    refine XS.iloadN X0.here hx rfl (hb hby at_64) rfl ?_
    show Steps p.tables e below (T0.setTop (mkF m 65 #[.val (.int p0), .val (.int p1), .val (.int p2), .val (.int p3), .val (.int p4), .val (.int p5), .val (.ref b1_0), .val v3, .val v5, .unset, .unset, .unset, .unset, .unset, .unset, .unset, .unset] [(.int p3), (.int p3)])) _
    refine XS.bipush X0.here hx rfl (hb hby at_65) ?_
    show Steps p.tables e below (T0.setTop (mkF m 67 #[.val (.int p0), .val (.int p1), .val (.int p2), .val (.int p3), .val (.int p4), .val (.int p5), .val (.ref b1_0), .val v3, .val v5, .unset, .unset, .unset, .unset, .unset, .unset, .unset, .unset] [(.int (16 : Int32)), (.int p3), (.int p3)])) _
    refine XS.iushr X0.here hx rfl (hb hby at_67) rfl ?_
    show Steps p.tables e below (T0.setTop (mkF m 68 #[.val (.int p0), .val (.int p1), .val (.int p2), .val (.int p3), .val (.int p4), .val (.int p5), .val (.ref b1_0), .val v3, .val v5, .unset, .unset, .unset, .unset, .unset, .unset, .unset, .unset] [(.int ((p3.toUInt32 >>> ((16 : Int32) &&& 31).toUInt32).toInt32)), (.int p3)])) _
    refine st1.trans ?_
    exact kt
  · refine ⟨T0, vm0, h0, .null, k0, locs, X0.mono (Nat.le_add_right _ _) (Nat.le_add_right _ _), e0, Keep.refl h0 _, Or.inl rfl, hS, hk, hZ, hown, CHr.refl C0, N0, fun target kt => ?_⟩
    show Steps p.tables e below (T0.setTop (mkF m 52 #[.val (.int p0), .val (.int p1), .val (.int p2), .val (.int p3), .val (.int p4), .val (.int p5), .val (.ref b1_0), .val v3, .val v5, .unset, .unset, .unset, .unset, .unset, .unset, .unset, .unset] [])) _
    refine XS.iload X0.here hx rfl (hb hby at_52) rfl ?_
    show Steps p.tables e below (T0.setTop (mkF m 54 #[.val (.int p0), .val (.int p1), .val (.int p2), .val (.int p3), .val (.int p4), .val (.int p5), .val (.ref b1_0), .val v3, .val v5, .unset, .unset, .unset, .unset, .unset, .unset, .unset, .unset] [(.int p5)])) _
    refine XS.iconst X0.here hx rfl (hb hby at_54) ?_
    show Steps p.tables e below (T0.setTop (mkF m 55 #[.val (.int p0), .val (.int p1), .val (.int p2), .val (.int p3), .val (.int p4), .val (.int p5), .val (.ref b1_0), .val v3, .val v5, .unset, .unset, .unset, .unset, .unset, .unset, .unset, .unset] [(.int (4 : Int32)), (.int p5)])) _
    refine XS.iand X0.here hx rfl (hb hby at_55) rfl ?_
    show Steps p.tables e below (T0.setTop (mkF m 56 #[.val (.int p0), .val (.int p1), .val (.int p2), .val (.int p3), .val (.int p4), .val (.int p5), .val (.ref b1_0), .val v3, .val v5, .unset, .unset, .unset, .unset, .unset, .unset, .unset, .unset] [(.int (p5 &&& (4 : Int32)))])) _
    refine XS.ifNo X0.here hx rfl (hb hby at_56) rfl ((if0 _ _).trans (feq q).1) ?_
    show Steps p.tables e below (T0.setTop (mkF m 59 #[.val (.int p0), .val (.int p1), .val (.int p2), .val (.int p3), .val (.int p4), .val (.int p5), .val (.ref b1_0), .val v3, .val v5, .unset, .unset, .unset, .unset, .unset, .unset, .unset, .unset] [])) _
    refine XS.aconstNull X0.here hx rfl (hb hby at_59) ?_
    show Steps p.tables e below (T0.setTop (mkF m 60 #[.val (.int p0), .val (.int p1), .val (.int p2), .val (.int p3), .val (.int p4), .val (.int p5), .val (.ref b1_0), .val v3, .val v5, .unset, .unset, .unset, .unset, .unset, .unset, .unset, .unset] [.null])) _
    refine XS.goto X0.here hx rfl (pc0 := 60) (pc' := 71) rfl (hb hby at_60) (by decide) (by decide) ?_
    exact kt
set_option maxRecDepth 65536 in
set_option maxHeartbeats 40000000 in
theorem sg_73 {p : Program} {l : Launch} {e : Env} {s : State} {m : MethodId} {args : Array Value} {below : List Frame} {meth : Method} {c : Code} {T0 : State} {locs : List Loc} {cells slots : Nat} {vm0 : Vm} {k0 : Nat} {Z : State} {a0 : Array Value} {h0 : Heap} {n0 : Nat} {cz : Int32} (p0 : Int32) (p1 : Int32) (p2 : Int32) (p3 : Int32) (p4 : Int32) (p5 : Int32) (b1_0 : Addr) (v3 : Value) (v5 : Value) (v7 : Value)
    (X0 : Stand p l e room_1 (s.setVm vm0) m args below meth c T0 locs cells slots) (hx : p.tables.exec = Jvm.exec) (hZ : Z.Warmed39 vm0) (hw : ∀ d ∈ tables_1, d.before a0 Z = true) (hby : c.code = code) (hml : c.maxLocals = 17) (hown : vm0.findClass "com/example/iron_wire/ironwire/definition/QualifierDefinitionInheritedPinLaw" = some m.cls) (e0 : T0.heap = h0) (O0 : Old Z n0 h0) (P : Pins Z cz) (hEL : EW Z a0 consts_1) (hS : s.Since vm0 k0) (hk : k0 ≤ h0.size) (C0 : CHv Z consts_1 vm0 h0) (N0 : Fr n0 locs) (hc : cells + 6 ≤ room_1.cells) (hl : slots + 12 ≤ room_1.slots) (R_v3 : v3.isRef = true) (R_v5 : v5.isRef = true) (R_v7 : v7.isRef = true) :
    ∃ (T' : State) (vm1 : Vm) (h' : Heap) (v : Value) (k1 : Nat) (locs' : List Loc), Stand p l e room_1 (s.setVm vm1) m args below meth c T' locs' (cells + 6) (slots + 12) ∧ T'.heap = h' ∧ Keep h0 h' [] ∧ StrN Z h' v ∧ s.Since vm1 k1 ∧ k1 ≤ h'.size ∧ Z.Warmed39 vm1 ∧ vm1.findClass "com/example/iron_wire/ironwire/definition/QualifierDefinitionInheritedPinLaw" = some m.cls ∧ CHr Z consts_1 vm0 h0 vm1 h' ∧ Fr n0 locs' ∧
      ∀ target, Steps p.tables e below (T'.setTop (mkF m 95 #[.val (.int p0), .val (.int p1), .val (.int p2), .val (.int p3), .val (.int p4), .val (.int p5), .val (.ref b1_0), .val v3, .val v5, .val v7, .unset, .unset, .unset, .unset, .unset, .unset, .unset] [v])) target → Steps p.tables e below (T0.setTop (mkF m 73 #[.val (.int p0), .val (.int p1), .val (.int p2), .val (.int p3), .val (.int p4), .val (.int p5), .val (.ref b1_0), .val v3, .val v5, .val v7, .unset, .unset, .unset, .unset, .unset, .unset, .unset] [])) target := by
  by_cases q : (p5 &&& (8 : Int32)) = (0 : Int32)
  · obtain ⟨_, _, ⟨T1, L1, k1, n1⟩, -, Xq1, Sq1, gq1, ⟨Lc1, hQ1, l1, y1, z1, Cq1⟩, st1⟩ := callSS X0 hx (y := (⟨"com/example/iron_wire/ironwire/definition/QualifierDefinitionInheritedPinLaw", "str", "(II)Ljava/lang/String;"⟩ : MethodName)) hown (mvT (s := s.setVm vm0) hZ (hw _ (List.mem_of_getElem? (i := 0) rfl))) (mvT (s := s.setVm vm0) hZ (hw _ (List.mem_of_getElem? (i := 1) rfl))) (mvT (s := s.setVm vm0) hZ (hw _ (List.mem_of_getElem? (i := 2) rfl))) (mvT (s := s.setVm vm0) hZ (hw _ (List.mem_of_getElem? (i := 3) rfl))) (by decide) (own_backH (xs := []) (W := 0) (rmS l Z a0 hw [] cz p4 ((p4.toUInt32 >>> ((16 : Int32) &&& 31).toUInt32).toInt32) h0 n0 O0 P) hZ (hw _ (List.mem_of_getElem? (i := 3) rfl)) (hw _ (List.mem_of_getElem? (i := 2) rfl)) (by decide) (by decide) hEL C0 own_sx0) (g := (mkF m 92 #[.val (.int p0), .val (.int p1), .val (.int p2), .val (.int p3), .val (.int p4), .val (.int p5), .val (.ref b1_0), .val v3, .val v5, .val v7, .unset, .unset, .unset, .unset, .unset, .unset, .unset] [(.int ((p4.toUInt32 >>> ((16 : Int32) &&& 31).toUInt32).toInt32)), (.int p4)])) rfl (by rw [hml]; rfl) (argsL := [(.int p4), (.int ((p4.toUInt32 >>> ((16 : Int32) &&& 31).toUInt32).toInt32))]) (rest := []) (lenOf pd_2 rfl) rfl (by show 2 * 0 + _ ≤ _; exact Nat.le_of_eq rfl) (hb hby at_92) (fun _ _ => ⟨rfl, e0, hc, hl⟩)
    dsimp only [Pt.U, Pt.locs, Pt.cells, Pt.slots] at Xq1 Sq1 gq1 l1 y1 z1 st1 hQ1 Cq1
    subst l1 y1 z1
    obtain ⟨X1, hS1, hZ1, hown1⟩ := rebS hS (show _ ≤ T0.heap.size by rw [e0]; exact hk) Xq1 Sq1 gq1 hZ hown
    obtain ⟨b, rfl, Nq, K1, lb, Eb⟩ := hQ1
    refine ⟨T1, T1.vm, T1.heap, .ref b, _, _, X1, rfl, K1, Or.inr ⟨b, rfl, Eb⟩, hS1, Nat.le_refl _, hZ1, hown1, Cq1, Fr.app N0 Nq, fun target kt => ?_⟩
    show Steps p.tables e below (T0.setTop (mkF m 73 #[.val (.int p0), .val (.int p1), .val (.int p2), .val (.int p3), .val (.int p4), .val (.int p5), .val (.ref b1_0), .val v3, .val v5, .val v7, .unset, .unset, .unset, .unset, .unset, .unset, .unset] [])) _
    refine XS.iload X0.here hx rfl (hb hby at_73) rfl ?_
    show Steps p.tables e below (T0.setTop (mkF m 75 #[.val (.int p0), .val (.int p1), .val (.int p2), .val (.int p3), .val (.int p4), .val (.int p5), .val (.ref b1_0), .val v3, .val v5, .val v7, .unset, .unset, .unset, .unset, .unset, .unset, .unset] [(.int p5)])) _
    refine XS.bipush X0.here hx rfl (hb hby at_75) ?_
    show Steps p.tables e below (T0.setTop (mkF m 77 #[.val (.int p0), .val (.int p1), .val (.int p2), .val (.int p3), .val (.int p4), .val (.int p5), .val (.ref b1_0), .val v3, .val v5, .val v7, .unset, .unset, .unset, .unset, .unset, .unset, .unset] [(.int (8 : Int32)), (.int p5)])) _
    refine XS.iand X0.here hx rfl (hb hby at_77) rfl ?_
    show Steps p.tables e below (T0.setTop (mkF m 78 #[.val (.int p0), .val (.int p1), .val (.int p2), .val (.int p3), .val (.int p4), .val (.int p5), .val (.ref b1_0), .val v3, .val v5, .val v7, .unset, .unset, .unset, .unset, .unset, .unset, .unset] [(.int (p5 &&& (8 : Int32)))])) _
    refine XS.ifYes X0.here hx rfl (pc0 := 78) (pc' := 85) rfl (hb hby at_78) rfl ((if0 _ _).trans (teq q).1) (by decide) (by decide) ?_
    show Steps p.tables e below (T0.setTop (mkF m 85 #[.val (.int p0), .val (.int p1), .val (.int p2), .val (.int p3), .val (.int p4), .val (.int p5), .val (.ref b1_0), .val v3, .val v5, .val v7, .unset, .unset, .unset, .unset, .unset, .unset, .unset] [])) _
    refine XS.iload X0.here hx rfl (hb hby at_85) rfl ?_
    show Steps p.tables e below (T0.setTop (mkF m 87 #[.val (.int p0), .val (.int p1), .val (.int p2), .val (.int p3), .val (.int p4), .val (.int p5), .val (.ref b1_0), .val v3, .val v5, .val v7, .unset, .unset, .unset, .unset, .unset, .unset, .unset] [(.int p4)])) _
    refine XS.iload X0.here hx rfl (hb hby at_87) rfl ?_
    show Steps p.tables e below (T0.setTop (mkF m 89 #[.val (.int p0), .val (.int p1), .val (.int p2), .val (.int p3), .val (.int p4), .val (.int p5), .val (.ref b1_0), .val v3, .val v5, .val v7, .unset, .unset, .unset, .unset, .unset, .unset, .unset] [(.int p4), (.int p4)])) _
    refine XS.bipush X0.here hx rfl (hb hby at_89) ?_
    show Steps p.tables e below (T0.setTop (mkF m 91 #[.val (.int p0), .val (.int p1), .val (.int p2), .val (.int p3), .val (.int p4), .val (.int p5), .val (.ref b1_0), .val v3, .val v5, .val v7, .unset, .unset, .unset, .unset, .unset, .unset, .unset] [(.int (16 : Int32)), (.int p4), (.int p4)])) _
    refine XS.iushr X0.here hx rfl (hb hby at_91) rfl ?_
    show Steps p.tables e below (T0.setTop (mkF m 92 #[.val (.int p0), .val (.int p1), .val (.int p2), .val (.int p3), .val (.int p4), .val (.int p5), .val (.ref b1_0), .val v3, .val v5, .val v7, .unset, .unset, .unset, .unset, .unset, .unset, .unset] [(.int ((p4.toUInt32 >>> ((16 : Int32) &&& 31).toUInt32).toInt32)), (.int p4)])) _
    refine st1.trans ?_
    exact kt
  · refine ⟨T0, vm0, h0, .null, k0, locs, X0.mono (Nat.le_add_right _ _) (Nat.le_add_right _ _), e0, Keep.refl h0 _, Or.inl rfl, hS, hk, hZ, hown, CHr.refl C0, N0, fun target kt => ?_⟩
    show Steps p.tables e below (T0.setTop (mkF m 73 #[.val (.int p0), .val (.int p1), .val (.int p2), .val (.int p3), .val (.int p4), .val (.int p5), .val (.ref b1_0), .val v3, .val v5, .val v7, .unset, .unset, .unset, .unset, .unset, .unset, .unset] [])) _
    refine XS.iload X0.here hx rfl (hb hby at_73) rfl ?_
    show Steps p.tables e below (T0.setTop (mkF m 75 #[.val (.int p0), .val (.int p1), .val (.int p2), .val (.int p3), .val (.int p4), .val (.int p5), .val (.ref b1_0), .val v3, .val v5, .val v7, .unset, .unset, .unset, .unset, .unset, .unset, .unset] [(.int p5)])) _
    refine XS.bipush X0.here hx rfl (hb hby at_75) ?_
    show Steps p.tables e below (T0.setTop (mkF m 77 #[.val (.int p0), .val (.int p1), .val (.int p2), .val (.int p3), .val (.int p4), .val (.int p5), .val (.ref b1_0), .val v3, .val v5, .val v7, .unset, .unset, .unset, .unset, .unset, .unset, .unset] [(.int (8 : Int32)), (.int p5)])) _
    refine XS.iand X0.here hx rfl (hb hby at_77) rfl ?_
    show Steps p.tables e below (T0.setTop (mkF m 78 #[.val (.int p0), .val (.int p1), .val (.int p2), .val (.int p3), .val (.int p4), .val (.int p5), .val (.ref b1_0), .val v3, .val v5, .val v7, .unset, .unset, .unset, .unset, .unset, .unset, .unset] [(.int (p5 &&& (8 : Int32)))])) _
    refine XS.ifNo X0.here hx rfl (hb hby at_78) rfl ((if0 _ _).trans (feq q).1) ?_
    show Steps p.tables e below (T0.setTop (mkF m 81 #[.val (.int p0), .val (.int p1), .val (.int p2), .val (.int p3), .val (.int p4), .val (.int p5), .val (.ref b1_0), .val v3, .val v5, .val v7, .unset, .unset, .unset, .unset, .unset, .unset, .unset] [])) _
    refine XS.aconstNull X0.here hx rfl (hb hby at_81) ?_
    show Steps p.tables e below (T0.setTop (mkF m 82 #[.val (.int p0), .val (.int p1), .val (.int p2), .val (.int p3), .val (.int p4), .val (.int p5), .val (.ref b1_0), .val v3, .val v5, .val v7, .unset, .unset, .unset, .unset, .unset, .unset, .unset] [.null])) _
    refine XS.goto X0.here hx rfl (pc0 := 82) (pc' := 95) rfl (hb hby at_82) (by decide) (by decide) ?_
    exact kt
theorem d5_0 : decode prog_49_method_1_code 0 = .ok (.aload_n 0, 1) := by decide +kernel
theorem d5_1 : decode prog_49_method_1_code 1 = .ok (.invokespecial 1, 3) := by decide +kernel
theorem d6_0 : decode jdk_30_method_1_code 0 = .ok (.aload_n 0, 1) := by decide +kernel
theorem d6_1 : decode jdk_30_method_1_code 1 = .ok (.invokespecial 1, 3) := by decide +kernel
theorem d6_4 : decode jdk_30_method_1_code 4 = .ok (.return_, 1) := by decide +kernel
theorem ef_6_R (m : MethodId) (x0 : Addr) : entryFrame m #[(.ref x0)] 1 = mkF m 0 #[.val (.ref x0)] [] := by first | (simp [entryFrame, mkF, argsToLocals, Value.category]; done) | rfl
theorem pn_java_lang_Record : plainName "java/lang/Record" = true := by first | (simp [plainName, overriddenIn]; done) | decide +kernel
def Qrm6_6 (Z : State) (cz : Int32) (x1 : Addr) (h0 : Heap) (n0 : Nat) (v : Option Value) (h : Heap) (L : List Loc) : Prop := v = none ∧ Fr n0 L ∧ h = h0
set_option maxRecDepth 65536 in
set_option maxHeartbeats 40000000 in
theorem rm6_6 (l : Launch) (Z : State) (a0 : Array Value) (hw : ∀ d ∈ tables_1, d.before a0 Z = true) (ws : List Jvm.Cond) (cz : Int32) (x1 : Addr) (h0 : Heap) (n0 : Nat) (O0 : Old Z n0 h0) (P : Pins Z cz) :
    MetFree l (⟨"java/lang/Record", "<init>", "()V"⟩ : MethodName) (head1 (Jvm.Cond.code (⟨"java/lang/Record", "<init>", "()V"⟩ : MethodName) jdk_30_method_1_code 1 none :: ws) ({ frames := 1, cells := 0, slots := 0, locals := 12 } : Room)) (fun a U => a = #[(.ref x1)] ∧ Z.Warmed39 U.vm ∧ U.heap = h0) (fun _ _ _ _ _ => True) (fun _ U o U' => ∃ v L, o = .returned v ∧ Qrm6_6 Z cz x1 h0 n0 v U'.heap L ∧ FrameEnd U o U' L ({ frames := 1, cells := 0, slots := 0, locals := 12 } : Room).cells ({ frames := 1, cells := 0, slots := 0, locals := 12 } : Room).slots) := by
  refine MetFree.of_bodySF (plainFor_of_name pn_java_lang_Record) hisR ?_
  intro p e s m args below meth c s₁ Bd hml0 hP hK
  obtain ⟨rfl, hZ, hh⟩ := hP
  have hx := Bd.exec
  have hby := Bd.bytes
  have hml : c.maxLocals = 1 := hml0
  have hown : s.vm.findClass "java/lang/Record" = some m.cls := findClass_of_methodNamed Bd.named
  have hnm := (name_of_methodNamed Bd.named Bd.method).1
  have X0 : Stand p l e ({ frames := 1, cells := 0, slots := 0, locals := 12 } : Room) s m #[(.ref x1)] below meth c s₁ [] 0 0 := Stand.of_body Bd
  have e0 : s₁.heap = h0 := by rw [← hh, Bd.state]; rfl
  have N0 := Fr.nil n0
  have Z0 : n0 ≤ h0.size := O0.1 ▸ O0.2.1
  have pre0 : ∀ t, Steps p.tables e below (s₁.setTop (mkF m 0 #[.val (.ref x1)] [])) t → Steps p.tables e below (s₁.setTop (entryFrame m #[(.ref x1)] 1)) t := fun t k => castTop (ef_6_R m x1) k
  obtain ⟨T1, X1, e1, st1⟩ := initO X0 hx hZ hown (hw _ (List.mem_of_getElem? (i := 38) rfl)) (hw _ (List.mem_of_getElem? (i := 17) rfl)) (hw _ (List.mem_of_getElem? (i := 18) rfl)) e0 (g := (mkF m 1 #[.val (.ref x1)] [(.ref x1)])) rfl (by rw [hml]; rfl) rfl (hb hby d6_1) (by decide) (W := 0) (by show 2 * 0 + _ ≤ _; exact Nat.le_of_eq rfl) (by decide)
  obtain ⟨fs, hr, hrun, hended, hW, hsame⟩ := X1.leave (v := none) (fun _ => rfl)
  refine ⟨_, _, pre0 _ ?_, hrun, hended, _, _, rfl, ?_, ⟨_, rfl⟩, hW, hsame.mono (by decide) (by decide)⟩
  · show Steps p.tables e below (s₁.setTop (mkF m 0 #[.val (.ref x1)] [])) _
    refine XS.aloadN X0.here hx rfl (hb hby d6_0) rfl rfl ?_
    show Steps p.tables e below (s₁.setTop (mkF m 1 #[.val (.ref x1)] [(.ref x1)])) _
    refine st1 _ ?_
    show Steps p.tables e below (T1.setTop (mkF m 4 #[.val (.ref x1)] [])) _
    exact X1.returnOut hx Bd.returns (hb hby d6_4) hr
  · exact ⟨rfl, N0, e1⟩
theorem pd_3 : parseMethodDescriptor "()V" = some ⟨[], none⟩ := by decide +kernel
theorem d5_4 : decode prog_49_method_1_code 4 = .ok (.aload_n 1, 1) := by decide +kernel
theorem d5_5 : decode prog_49_method_1_code 5 = .ok (.ldc 7, 2) := by decide +kernel
theorem d5_7 : decode prog_49_method_1_code 7 = .ok (.invokestatic 9, 3) := by decide +kernel
theorem d7_0 : decode jdk_31_method_11_code 0 = .ok (.aload_n 0, 1) := by decide +kernel
theorem d7_1 : decode jdk_31_method_11_code 1 = .ok (.ifnonnull 12, 3) := by decide +kernel
theorem d7_13 : decode jdk_31_method_11_code 13 = .ok (.aload_n 0, 1) := by decide +kernel
theorem d7_14 : decode jdk_31_method_11_code 14 = .ok (.areturn, 1) := by decide +kernel
theorem ef_7_RR (m : MethodId) (x0 : Addr) (x1 : Addr) : entryFrame m #[(.ref x0), (.ref x1)] 2 = mkF m 0 #[.val (.ref x0), .val (.ref x1)] [] := by first | (simp [entryFrame, mkF, argsToLocals, Value.category]; done) | rfl
theorem pn_java_util_Objects : plainName "java/util/Objects" = true := by first | (simp [plainName, overriddenIn]; done) | decide +kernel
def Qrm7_7 (Z : State) (cz : Int32) (x1 : Addr) (x2 : Addr) (h0 : Heap) (n0 : Nat) (v : Option Value) (h : Heap) (L : List Loc) : Prop := v = some (.ref x1) ∧ Fr n0 L ∧ h = h0
set_option maxRecDepth 65536 in
set_option maxHeartbeats 40000000 in
theorem rm7_7 (l : Launch) (Z : State) (a0 : Array Value) (hw : ∀ d ∈ tables_1, d.before a0 Z = true) (ws : List Jvm.Cond) (cz : Int32) (x1 : Addr) (x2 : Addr) (h0 : Heap) (n0 : Nat) (O0 : Old Z n0 h0) (P : Pins Z cz) :
    MetFree l (⟨"java/util/Objects", "requireNonNull", "(Ljava/lang/Object;Ljava/lang/String;)Ljava/lang/Object;"⟩ : MethodName) (head1 (Jvm.Cond.code (⟨"java/util/Objects", "requireNonNull", "(Ljava/lang/Object;Ljava/lang/String;)Ljava/lang/Object;"⟩ : MethodName) jdk_31_method_11_code 2 (some (.object "java/lang/Object")) :: ws) ({ frames := 0, cells := 0, slots := 0, locals := 0 } : Room)) (fun a U => a = #[(.ref x1), (.ref x2)] ∧ Z.Warmed39 U.vm ∧ U.heap = h0) (fun _ _ _ _ _ => True) (fun _ U o U' => ∃ v L, o = .returned v ∧ Qrm7_7 Z cz x1 x2 h0 n0 v U'.heap L ∧ FrameEnd U o U' L ({ frames := 0, cells := 0, slots := 0, locals := 0 } : Room).cells ({ frames := 0, cells := 0, slots := 0, locals := 0 } : Room).slots) := by
  refine MetFree.of_bodySF (plainFor_of_name pn_java_util_Objects) hisR ?_
  intro p e s m args below meth c s₁ Bd hml0 hP hK
  obtain ⟨rfl, hZ, hh⟩ := hP
  have hx := Bd.exec
  have hby := Bd.bytes
  have hml : c.maxLocals = 2 := hml0
  have hown : s.vm.findClass "java/util/Objects" = some m.cls := findClass_of_methodNamed Bd.named
  have hnm := (name_of_methodNamed Bd.named Bd.method).1
  have X0 : Stand p l e ({ frames := 0, cells := 0, slots := 0, locals := 0 } : Room) s m #[(.ref x1), (.ref x2)] below meth c s₁ [] 0 0 := Stand.of_body Bd
  have e0 : s₁.heap = h0 := by rw [← hh, Bd.state]; rfl
  have N0 := Fr.nil n0
  have Z0 : n0 ≤ h0.size := O0.1 ▸ O0.2.1
  have pre0 : ∀ t, Steps p.tables e below (s₁.setTop (mkF m 0 #[.val (.ref x1), .val (.ref x2)] [])) t → Steps p.tables e below (s₁.setTop (entryFrame m #[(.ref x1), (.ref x2)] 2)) t := fun t k => castTop (ef_7_RR m x1 x2) k
  obtain ⟨fs, hr, hrun, hended, hW, hsame⟩ := X0.leave (v := some (.ref x1)) (fun h => by rw [Bd.returns] at h; cases h)
  refine ⟨_, _, pre0 _ ?_, hrun, hended, _, _, rfl, ?_, ⟨_, rfl⟩, hW, hsame.mono (by decide) (by decide)⟩
  · show Steps p.tables e below (s₁.setTop (mkF m 0 #[.val (.ref x1), .val (.ref x2)] [])) _
    refine XS.aloadN X0.here hx rfl (hb hby d7_0) rfl rfl ?_
    show Steps p.tables e below (s₁.setTop (mkF m 1 #[.val (.ref x1), .val (.ref x2)] [(.ref x1)])) _
    refine XS.ifnonnullYes X0.here hx rfl (pc0 := 1) (pc' := 13) rfl (hb hby d7_1) rfl (by decide) (by decide) ?_
    show Steps p.tables e below (s₁.setTop (mkF m 13 #[.val (.ref x1), .val (.ref x2)] [])) _
    refine XS.aloadN X0.here hx rfl (hb hby d7_13) rfl rfl ?_
    show Steps p.tables e below (s₁.setTop (mkF m 14 #[.val (.ref x1), .val (.ref x2)] [(.ref x1)])) _
    exact retOut X0 hx Bd.returns rfl (Or.inr (Or.inr (Or.inr (Or.inr ⟨rfl, rfl, rfl⟩)))) (hb hby d7_14) hr
  · exact ⟨rfl, N0, e0⟩
theorem pd_4 : parseMethodDescriptor "(Ljava/lang/Object;Ljava/lang/String;)Ljava/lang/Object;" = some ⟨[(.object "java/lang/Object"), (.object "java/lang/String")], some (.object "java/lang/Object")⟩ := by decide +kernel
theorem d5_10 : decode prog_49_method_1_code 10 = .ok (.pop, 1) := by decide +kernel
theorem d5_11 : decode prog_49_method_1_code 11 = .ok (.aload_n 0, 1) := by decide +kernel
theorem d5_12 : decode prog_49_method_1_code 12 = .ok (.aload_n 1, 1) := by decide +kernel
theorem d5_13 : decode prog_49_method_1_code 13 = .ok (.putfield 15, 3) := by decide +kernel
theorem d5_16 : decode prog_49_method_1_code 16 = .ok (.aload_n 0, 1) := by decide +kernel
theorem d5_17 : decode prog_49_method_1_code 17 = .ok (.aload_n 2, 1) := by decide +kernel
theorem d5_18 : decode prog_49_method_1_code 18 = .ok (.putfield 20, 3) := by decide +kernel
theorem d5_21 : decode prog_49_method_1_code 21 = .ok (.aload_n 0, 1) := by decide +kernel
theorem d5_22 : decode prog_49_method_1_code 22 = .ok (.aload_n 3, 1) := by decide +kernel
theorem d5_23 : decode prog_49_method_1_code 23 = .ok (.putfield 23, 3) := by decide +kernel
theorem d5_26 : decode prog_49_method_1_code 26 = .ok (.return_, 1) := by decide +kernel
theorem ef_5_RRNN (m : MethodId) (x0 : Addr) (x1 : Addr) (x2 : Value) (h2 : x2.isRef = true) (x3 : Value) (h3 : x3.isRef = true) : entryFrame m #[(.ref x0), (.ref x1), x2, x3] 4 = mkF m 0 #[.val (.ref x0), .val (.ref x1), .val x2, .val x3] [] := by rcases ref_cases h2 with rfl | ⟨_, rfl⟩ <;> rcases ref_cases h3 with rfl | ⟨_, rfl⟩ <;> first | (simp [entryFrame, mkF, argsToLocals, Value.category]; done) | rfl
theorem pn_com_example_iron_wire_ironwire_definition_QualifierDefinition : plainName "com/example/iron_wire/ironwire/definition/QualifierDefinition" = true := by first | (simp [plainName, overriddenIn]; done) | decide +kernel
def Qrm5_8 (Z : State) (cz : Int32) (x1 : Addr) (x2 : Addr) (n3 : Value) (n4 : Value) (h0 : Heap) (n0 : Nat) (v : Option Value) (h : Heap) (L : List Loc) : Prop := v = none ∧ Fr n0 L ∧ Keep h0 h [x1] ∧ Fld Z h x1 "com/example/iron_wire/ironwire/definition/QualifierDefinition" "typeName" "Ljava/lang/String;" (.ref x2) ∧ Fld Z h x1 "com/example/iron_wire/ironwire/definition/QualifierDefinition" "value" "Ljava/lang/String;" n3 ∧ Fld Z h x1 "com/example/iron_wire/ironwire/definition/QualifierDefinition" "inheritedFrom" "Ljava/lang/String;" n4
set_option maxRecDepth 65536 in
set_option maxHeartbeats 40000000 in
theorem rm5_8 (l : Launch) (Z : State) (a0 : Array Value) (hw : ∀ d ∈ tables_1, d.before a0 Z = true) (ws : List Jvm.Cond) (cz : Int32) (x1 : Addr) (x2 : Addr) (n3 : Value) (n4 : Value) (h0 : Heap) (n0 : Nat) (O0 : Old Z n0 h0) (P : Pins Z cz) (E_x1 : Exa Z h0 x1 "com/example/iron_wire/ironwire/definition/QualifierDefinition") (F_x1_typeName : Fld Z h0 x1 "com/example/iron_wire/ironwire/definition/QualifierDefinition" "typeName" "Ljava/lang/String;" .null) (g_x1 : n0 ≤ x1) (R_n3 : n3.isRef = true) (F_x1_value : Fld Z h0 x1 "com/example/iron_wire/ironwire/definition/QualifierDefinition" "value" "Ljava/lang/String;" .null) (R_n4 : n4.isRef = true) (F_x1_inheritedFrom : Fld Z h0 x1 "com/example/iron_wire/ironwire/definition/QualifierDefinition" "inheritedFrom" "Ljava/lang/String;" .null) :
    MetFree l (⟨"com/example/iron_wire/ironwire/definition/QualifierDefinition", "<init>", "(Ljava/lang/String;Ljava/lang/String;Ljava/lang/String;)V"⟩ : MethodName) (head1 (Jvm.Cond.code (⟨"com/example/iron_wire/ironwire/definition/QualifierDefinition", "<init>", "(Ljava/lang/String;Ljava/lang/String;Ljava/lang/String;)V"⟩ : MethodName) prog_49_method_1_code 4 none :: ws) ({ frames := 2, cells := 2, slots := 36, locals := 24 } : Room)) (fun a U => a = #[(.ref x1), (.ref x2), n3, n4] ∧ Z.Warmed39 U.vm ∧ U.heap = h0 ∧ CHv Z consts_1 U.vm h0 ∧ ∀ x ∈ ([] : List Addr), Safe Z consts_1 U.vm h0 x) (fun _ _ _ _ _ => True) (fun _ U o U' => ∃ v L, o = .returned v ∧ Qrm5_8 Z cz x1 x2 n3 n4 h0 n0 v U'.heap L ∧ CHr Z consts_1 U.vm U.heap U'.vm U'.heap ∧ ReturnedEndW U o U' L ({ frames := 2, cells := 2, slots := 36, locals := 24 } : Room).cells ({ frames := 2, cells := 2, slots := 36, locals := 24 } : Room).slots) := by
  refine MetFree.of_bodySF (plainFor_of_name pn_com_example_iron_wire_ironwire_definition_QualifierDefinition) hisR ?_
  intro p e s m args below meth c s₁ Bd hml0 hP hK
  obtain ⟨rfl, hZ, hh, hCv, hSf⟩ := hP
  have hx := Bd.exec
  have hby := Bd.bytes
  have hml : c.maxLocals = 4 := hml0
  have hown : s.vm.findClass "com/example/iron_wire/ironwire/definition/QualifierDefinition" = some m.cls := findClass_of_methodNamed Bd.named
  have hnm := (name_of_methodNamed Bd.named Bd.method).1
  have X0 : Stand p l e ({ frames := 2, cells := 2, slots := 36, locals := 24 } : Room) (s.setVm s.vm) m #[(.ref x1), (.ref x2), n3, n4] below meth c s₁ [] 0 0 := Stand.of_body Bd
  have e0 : s₁.heap = h0 := by rw [← hh, Bd.state]; rfl
  have N0 := Fr.nil n0
  have Z0 : n0 ≤ h0.size := O0.1 ▸ O0.2.1
  have pre0 : ∀ t, Steps p.tables e below (s₁.setTop (mkF m 0 #[.val (.ref x1), .val (.ref x2), .val n3, .val n4] [])) t → Steps p.tables e below (s₁.setTop (entryFrame m #[(.ref x1), (.ref x2), n3, n4] 4)) t := fun t k => castTop (ef_5_RRNN m x1 x2 n3 R_n3 n4 R_n4) k
  have Kr : Keep h0 h0 [x1] := Keep.refl h0 _
  have hEL : EW Z a0 consts_1 := own_ew hw
  have wS : ∀ d ∈ Bundle.stringAtoms, d.before a0 Z = true := fun d hd => hw d (own_wsa d hd)
  have hS : s.Since s.vm 0 := (State.WarmedH.refl s).since 0
  have hk : 0 ≤ h0.size := Nat.zero_le _
  have C0 : CHr Z consts_1 s.vm h0 s.vm h0 := CHr.refl hCv
  obtain ⟨_, _, ⟨T1, L1, k1, n1⟩, -, X1, ⟨Lc1, hQ1, l1, y1, z1⟩, st1⟩ := X0.specialBack hx (y := (⟨"java/lang/Record", "<init>", "()V"⟩ : MethodName)) rfl hown (mvT hZ (hw _ (List.mem_of_getElem? (i := 33) rfl))) (mvT hZ (hw _ (List.mem_of_getElem? (i := 34) rfl))) (mvT hZ (hw _ (List.mem_of_getElem? (i := 37) rfl))) (by decide) (backOf (W := 0) (rm6_6 l Z a0 hw [] cz x1 h0 n0 O0 P ) hZ (hw _ (List.mem_of_getElem? (i := 37) rfl)) (hw _ (List.mem_of_getElem? (i := 36) rfl)) (by decide) (by decide)) (g := (mkF m 1 #[.val (.ref x1), .val (.ref x2), .val n3, .val n4] [(.ref x1)])) rfl (by rw [hml]; rfl) (Steps.refl _) (a := x1) (argsL := []) (rest := []) (lenOf pd_3 rfl) rfl (by show 2 * 0 + _ ≤ _; exact Nat.le_of_eq rfl) (hb hby d5_1) (fun _ _ => ⟨rfl, e0, (by decide : 0 + 0 ≤ _), (by decide : 0 + 0 ≤ _)⟩)
  dsimp only [Pt.U, Pt.locs, Pt.cells, Pt.slots] at X1 l1 y1 z1 st1 hQ1
  subst l1 y1 z1
  obtain ⟨rfl, N1q, e1⟩ := hQ1
  have N1 := Fr.app N0 N1q
  obtain ⟨w2, T2, h2, kq2, X2, e2, E2, hS2, hkq2, hZ2, hown2, Cq2, -, st2⟩ := ldcOH X1 hx hZ hown (hw _ (List.mem_of_getElem? (i := 39) rfl)) wS e1 hS hk hEL C0.1 (g := (mkF m 5 #[.val (.ref x1), .val (.ref x2), .val n3, .val n4] [(.ref x2)])) rfl (hb hby d5_5) (n := 32) (by decide) (by decide) (by decide) (by decide)
  have Zs3 : n0 ≤ (h2).size := Nat.le_trans Z0 E2.1
  have Os3 : Old Z n0 (h2) := O0.ext E2
  have Ks3 : Keep h0 (h2) [x1] := Kr.ext E2
  have Cs3 : CHr Z consts_1 s.vm h0 T2.vm (h2) := C0.trans Cq2
  have hk3 : kq2 ≤ (h2).size := hkq2
  obtain ⟨_, _, ⟨T4, L4, k4, n4⟩, -, X4, ⟨Lc4, hQ4, l4, y4, z4⟩, st4⟩ := Jvm.LawKit.callS X2 hx (y := (⟨"java/util/Objects", "requireNonNull", "(Ljava/lang/Object;Ljava/lang/String;)Ljava/lang/Object;"⟩ : MethodName)) hown2 (mvT hZ2 (hw _ (List.mem_of_getElem? (i := 40) rfl))) (mvT hZ2 (hw _ (List.mem_of_getElem? (i := 41) rfl))) (mvT hZ2 (hw _ (List.mem_of_getElem? (i := 42) rfl))) (mvT hZ2 (hw _ (List.mem_of_getElem? (i := 43) rfl))) (by decide) (backOf (W := 0) (rm7_7 l Z a0 hw [] cz x2 w2 h2 n0 Os3 P ) hZ2 (hw _ (List.mem_of_getElem? (i := 43) rfl)) (hw _ (List.mem_of_getElem? (i := 42) rfl)) (by decide) (by decide)) (g := (mkF m 7 #[.val (.ref x1), .val (.ref x2), .val n3, .val n4] [(.ref w2), (.ref x2)])) rfl (by rw [hml]; rfl) (argsL := [(.ref x2), (.ref w2)]) (rest := []) (lenOf pd_4 rfl) rfl (by show 2 * 0 + _ ≤ _; exact Nat.le_of_eq rfl) (hb hby d5_7) (fun _ _ => ⟨rfl, e2, (by decide : 2 + 0 ≤ _), (by decide : 36 + 0 ≤ _)⟩)
  dsimp only [Pt.U, Pt.locs, Pt.cells, Pt.slots] at X4 l4 y4 z4 st4 hQ4
  subst l4 y4 z4
  obtain ⟨rfl, N4q, e4⟩ := hQ4
  have N4 := Fr.app N1 N4q
  have f5 := (E_x1.ext E2)
  have f6 := (F_x1_typeName.ext E2)
  obtain ⟨T7, h7, X7, e7, W7, st7⟩ := putF X4 hx hZ2 hown2 (host := "") (Or.inl (hw _ (List.mem_of_getElem? (i := 44) rfl))) Via.refl e4 f6 f5 (Or.inr ⟨(hw _ (List.mem_of_getElem? (i := 45) rfl)), rfl, hnm⟩) (hw _ (List.mem_of_getElem? (i := 28) rfl)) (ty := (.object "java/lang/String")) (by decide) rfl rfl (g := (mkF m 13 #[.val (.ref x1), .val (.ref x2), .val n3, .val n4] [(.ref x2), (.ref x1)])) rfl rfl (hb hby d5_13)
  have Ks8 : Keep h0 (h7) [x1] := Ks3.wr W7 (Or.inl (List.mem_of_getElem? (i := 0) rfl))
  have Zs8 : n0 ≤ (h7).size := Nat.le_trans Zs3 (Keep.of_wr W7).1
  have Os8 : Old Z n0 (h7) := Os3.wr W7 g_x1
  have Cs8 : CHr Z consts_1 s.vm h0 T2.vm (h7) := Cs3.trans (CHr.wr W7 (Safe.exa hZ2.alike f5 (by decide) (by decide)) Cs3.1)
  have hk8 : kq2 ≤ (h7).size := Nat.le_trans hk3 (Keep.of_wr W7).1
  have Fw7 := Fld.same W7 f6
  have N7 := Fr.snoc X7 N4 g_x1
  have f9 := (Exa.wr W7 f5)
  have f10 := (Fld.other W7 (F_x1_value.ext E2) (Or.inr (slot_ne (Or.inr (hw _ (List.mem_of_getElem? (i := 47) rfl))) (Or.inr (hw _ (List.mem_of_getElem? (i := 45) rfl))) (by decide) (t := (.object "java/lang/String")) (t' := (.object "java/lang/String")) (by decide) (by decide))))
  obtain ⟨T11, h11, X11, e11, W11, st11⟩ := putF X7 hx hZ2 hown2 (host := "") (Or.inl (hw _ (List.mem_of_getElem? (i := 46) rfl))) Via.refl e7 f10 f9 (Or.inr ⟨(hw _ (List.mem_of_getElem? (i := 47) rfl)), rfl, hnm⟩) (hw _ (List.mem_of_getElem? (i := 28) rfl)) (ty := (.object "java/lang/String")) (by decide) (own_nar R_n3) (own_fit R_n3) (g := (mkF m 18 #[.val (.ref x1), .val (.ref x2), .val n3, .val n4] [n3, (.ref x1)])) rfl rfl (hb hby d5_18)
  have Ks12 : Keep h0 (h11) [x1] := Ks8.wr W11 (Or.inl (List.mem_of_getElem? (i := 0) rfl))
  have Zs12 : n0 ≤ (h11).size := Nat.le_trans Zs8 (Keep.of_wr W11).1
  have Os12 : Old Z n0 (h11) := Os8.wr W11 g_x1
  have Cs12 : CHr Z consts_1 s.vm h0 T2.vm (h11) := Cs8.trans (CHr.wr W11 (Safe.exa hZ2.alike f9 (by decide) (by decide)) Cs8.1)
  have hk12 : kq2 ≤ (h11).size := Nat.le_trans hk8 (Keep.of_wr W11).1
  have Fw11 := Fld.same W11 f10
  have N11 := Fr.snoc X11 N7 g_x1
  have f13 := (Exa.wr W11 f9)
  have f14 := (Fld.other W11 (Fld.other W7 (F_x1_inheritedFrom.ext E2) (Or.inr (slot_ne (Or.inr (hw _ (List.mem_of_getElem? (i := 49) rfl))) (Or.inr (hw _ (List.mem_of_getElem? (i := 45) rfl))) (by decide) (t := (.object "java/lang/String")) (t' := (.object "java/lang/String")) (by decide) (by decide)))) (Or.inr (slot_ne (Or.inr (hw _ (List.mem_of_getElem? (i := 49) rfl))) (Or.inr (hw _ (List.mem_of_getElem? (i := 47) rfl))) (by decide) (t := (.object "java/lang/String")) (t' := (.object "java/lang/String")) (by decide) (by decide))))
  obtain ⟨T15, h15, X15, e15, W15, st15⟩ := putF X11 hx hZ2 hown2 (host := "") (Or.inl (hw _ (List.mem_of_getElem? (i := 48) rfl))) Via.refl e11 f14 f13 (Or.inr ⟨(hw _ (List.mem_of_getElem? (i := 49) rfl)), rfl, hnm⟩) (hw _ (List.mem_of_getElem? (i := 28) rfl)) (ty := (.object "java/lang/String")) (by decide) (own_nar R_n4) (own_fit R_n4) (g := (mkF m 23 #[.val (.ref x1), .val (.ref x2), .val n3, .val n4] [n4, (.ref x1)])) rfl rfl (hb hby d5_23)
  have Ks16 : Keep h0 (h15) [x1] := Ks12.wr W15 (Or.inl (List.mem_of_getElem? (i := 0) rfl))
  have Zs16 : n0 ≤ (h15).size := Nat.le_trans Zs12 (Keep.of_wr W15).1
  have Os16 : Old Z n0 (h15) := Os12.wr W15 g_x1
  have Cs16 : CHr Z consts_1 s.vm h0 T2.vm (h15) := Cs12.trans (CHr.wr W15 (Safe.exa hZ2.alike f13 (by decide) (by decide)) Cs12.1)
  have hk16 : kq2 ≤ (h15).size := Nat.le_trans hk12 (Keep.of_wr W15).1
  have Fw15 := Fld.same W15 f14
  have N15 := Fr.snoc X15 N11 g_x1
  have f17 := (Fld.other W15 (Fld.other W11 Fw7 (Or.inr (slot_ne (Or.inr (hw _ (List.mem_of_getElem? (i := 45) rfl))) (Or.inr (hw _ (List.mem_of_getElem? (i := 47) rfl))) (by decide) (t := (.object "java/lang/String")) (t' := (.object "java/lang/String")) (by decide) (by decide)))) (Or.inr (slot_ne (Or.inr (hw _ (List.mem_of_getElem? (i := 45) rfl))) (Or.inr (hw _ (List.mem_of_getElem? (i := 49) rfl))) (by decide) (t := (.object "java/lang/String")) (t' := (.object "java/lang/String")) (by decide) (by decide))))
  have f18 := (Fld.other W15 Fw11 (Or.inr (slot_ne (Or.inr (hw _ (List.mem_of_getElem? (i := 47) rfl))) (Or.inr (hw _ (List.mem_of_getElem? (i := 49) rfl))) (by decide) (t := (.object "java/lang/String")) (t' := (.object "java/lang/String")) (by decide) (by decide))))
  have Cend := Cs16.trans (CHv.at X15 hZ2 hEL Cs16.1)
  obtain ⟨fs, hr, hrun, hended, hREW⟩ := X15.leaveW hS2 (show _ ≤ T15.heap.size by rw [e15]; exact hk16) (v := none) (fun _ => rfl)
  refine ⟨_, _, pre0 _ ?_, hrun, hended, _, _, rfl, ?_, ?_, own_rew hREW (by decide) (by decide)⟩
  · show Steps p.tables e below (s₁.setTop (mkF m 0 #[.val (.ref x1), .val (.ref x2), .val n3, .val n4] [])) _
    refine XS.aloadN X0.here hx rfl (hb hby d5_0) rfl rfl ?_
    show Steps p.tables e below (s₁.setTop (mkF m 1 #[.val (.ref x1), .val (.ref x2), .val n3, .val n4] [(.ref x1)])) _
    refine st1.trans ?_
    show Steps p.tables e below (T1.setTop (mkF m 4 #[.val (.ref x1), .val (.ref x2), .val n3, .val n4] [])) _
    refine XS.aloadN X1.here hx rfl (hb hby d5_4) rfl rfl ?_
    show Steps p.tables e below (T1.setTop (mkF m 5 #[.val (.ref x1), .val (.ref x2), .val n3, .val n4] [(.ref x2)])) _
    refine st2 _ ?_
    show Steps p.tables e below (T2.setTop (mkF m 7 #[.val (.ref x1), .val (.ref x2), .val n3, .val n4] [(.ref w2), (.ref x2)])) _
    refine st4 _ ?_
    show Steps p.tables e below (T4.setTop (mkF m 10 #[.val (.ref x1), .val (.ref x2), .val n3, .val n4] [(.ref x2)])) _
    refine XS.pop X4.here hx rfl (hb hby d5_10) rfl rfl ?_
    show Steps p.tables e below (T4.setTop (mkF m 11 #[.val (.ref x1), .val (.ref x2), .val n3, .val n4] [])) _
    refine XS.aloadN X4.here hx rfl (hb hby d5_11) rfl rfl ?_
    show Steps p.tables e below (T4.setTop (mkF m 12 #[.val (.ref x1), .val (.ref x2), .val n3, .val n4] [(.ref x1)])) _
    refine XS.aloadN X4.here hx rfl (hb hby d5_12) rfl rfl ?_
    show Steps p.tables e below (T4.setTop (mkF m 13 #[.val (.ref x1), .val (.ref x2), .val n3, .val n4] [(.ref x2), (.ref x1)])) _
    refine st7 _ ?_
    show Steps p.tables e below (T7.setTop (mkF m 16 #[.val (.ref x1), .val (.ref x2), .val n3, .val n4] [])) _
    refine XS.aloadN X7.here hx rfl (hb hby d5_16) rfl rfl ?_
    show Steps p.tables e below (T7.setTop (mkF m 17 #[.val (.ref x1), .val (.ref x2), .val n3, .val n4] [(.ref x1)])) _
    refine XS.aloadN X7.here hx rfl (hb hby d5_17) rfl R_n3 ?_
    show Steps p.tables e below (T7.setTop (mkF m 18 #[.val (.ref x1), .val (.ref x2), .val n3, .val n4] [n3, (.ref x1)])) _
    refine st11 _ ?_
    show Steps p.tables e below (T11.setTop (mkF m 21 #[.val (.ref x1), .val (.ref x2), .val n3, .val n4] [])) _
    refine XS.aloadN X11.here hx rfl (hb hby d5_21) rfl rfl ?_
    show Steps p.tables e below (T11.setTop (mkF m 22 #[.val (.ref x1), .val (.ref x2), .val n3, .val n4] [(.ref x1)])) _
    refine XS.aloadN X11.here hx rfl (hb hby d5_22) rfl R_n4 ?_
    show Steps p.tables e below (T11.setTop (mkF m 23 #[.val (.ref x1), .val (.ref x2), .val n3, .val n4] [n4, (.ref x1)])) _
    refine st15 _ ?_
    show Steps p.tables e below (T15.setTop (mkF m 26 #[.val (.ref x1), .val (.ref x2), .val n3, .val n4] [])) _
    exact X15.returnOut hx Bd.returns (hb hby d5_26) hr
  · show Qrm5_8 Z cz x1 x2 n3 n4 h0 n0 _ T15.heap _
    rw [e15]
    exact ⟨rfl, N15, Ks16, f17, f18, Fw15⟩
  · rw [hh]
    show CHr Z consts_1 s.vm h0 T15.vm T15.heap
    rw [e15]
    exact Cend
theorem pd_5 : parseMethodDescriptor "(Ljava/lang/String;Ljava/lang/String;Ljava/lang/String;)V" = some ⟨[(.object "java/lang/String"), (.object "java/lang/String"), (.object "java/lang/String")], none⟩ := by decide +kernel
theorem d8_0 : decode prog_49_method_3_code 0 = .ok (.new 16, 3) := by decide +kernel
theorem d8_3 : decode prog_49_method_3_code 3 = .ok (.dup, 1) := by decide +kernel
theorem d8_4 : decode prog_49_method_3_code 4 = .ok (.aload_n 0, 1) := by decide +kernel
theorem d8_5 : decode prog_49_method_3_code 5 = .ok (.getfield 15, 3) := by decide +kernel
theorem d8_8 : decode prog_49_method_3_code 8 = .ok (.aload_n 0, 1) := by decide +kernel
theorem d8_9 : decode prog_49_method_3_code 9 = .ok (.getfield 20, 3) := by decide +kernel
theorem d8_12 : decode prog_49_method_3_code 12 = .ok (.aload_n 0, 1) := by decide +kernel
theorem d8_13 : decode prog_49_method_3_code 13 = .ok (.getfield 23, 3) := by decide +kernel
theorem d8_16 : decode prog_49_method_3_code 16 = .ok (.ifnonnull 7, 3) := by decide +kernel
theorem d8_19 : decode prog_49_method_3_code 19 = .ok (.aload_n 1, 1) := by decide +kernel
theorem d8_20 : decode prog_49_method_3_code 20 = .ok (.goto 7, 3) := by decide +kernel
theorem d8_27 : decode prog_49_method_3_code 27 = .ok (.invokespecial 26, 3) := by decide +kernel
theorem d8_30 : decode prog_49_method_3_code 30 = .ok (.areturn, 1) := by decide +kernel
theorem d8_23 : decode prog_49_method_3_code 23 = .ok (.aload_n 0, 1) := by decide +kernel
theorem d8_24 : decode prog_49_method_3_code 24 = .ok (.getfield 23, 3) := by decide +kernel
theorem ef_5_RRNR (m : MethodId) (x0 : Addr) (x1 : Addr) (x2 : Value) (h2 : x2.isRef = true) (x3 : Addr) : entryFrame m #[(.ref x0), (.ref x1), x2, (.ref x3)] 4 = mkF m 0 #[.val (.ref x0), .val (.ref x1), .val x2, .val (.ref x3)] [] := by rcases ref_cases h2 with rfl | ⟨_, rfl⟩ <;> first | (simp [entryFrame, mkF, argsToLocals, Value.category]; done) | rfl
def Qrm5_9 (Z : State) (cz : Int32) (x1 : Addr) (x2 : Addr) (n3 : Value) (x4 : Addr) (h0 : Heap) (n0 : Nat) (v : Option Value) (h : Heap) (L : List Loc) : Prop := v = none ∧ Fr n0 L ∧ Keep h0 h [x1] ∧ Fld Z h x1 "com/example/iron_wire/ironwire/definition/QualifierDefinition" "typeName" "Ljava/lang/String;" (.ref x2) ∧ Fld Z h x1 "com/example/iron_wire/ironwire/definition/QualifierDefinition" "value" "Ljava/lang/String;" n3 ∧ Fld Z h x1 "com/example/iron_wire/ironwire/definition/QualifierDefinition" "inheritedFrom" "Ljava/lang/String;" (.ref x4)
set_option maxRecDepth 65536 in
set_option maxHeartbeats 40000000 in
theorem rm5_9 (l : Launch) (Z : State) (a0 : Array Value) (hw : ∀ d ∈ tables_1, d.before a0 Z = true) (ws : List Jvm.Cond) (cz : Int32) (x1 : Addr) (x2 : Addr) (n3 : Value) (x4 : Addr) (h0 : Heap) (n0 : Nat) (O0 : Old Z n0 h0) (P : Pins Z cz) (E_x1 : Exa Z h0 x1 "com/example/iron_wire/ironwire/definition/QualifierDefinition") (F_x1_typeName : Fld Z h0 x1 "com/example/iron_wire/ironwire/definition/QualifierDefinition" "typeName" "Ljava/lang/String;" .null) (g_x1 : n0 ≤ x1) (R_n3 : n3.isRef = true) (F_x1_value : Fld Z h0 x1 "com/example/iron_wire/ironwire/definition/QualifierDefinition" "value" "Ljava/lang/String;" .null) (F_x1_inheritedFrom : Fld Z h0 x1 "com/example/iron_wire/ironwire/definition/QualifierDefinition" "inheritedFrom" "Ljava/lang/String;" .null) :
    MetFree l (⟨"com/example/iron_wire/ironwire/definition/QualifierDefinition", "<init>", "(Ljava/lang/String;Ljava/lang/String;Ljava/lang/String;)V"⟩ : MethodName) (head1 (Jvm.Cond.code (⟨"com/example/iron_wire/ironwire/definition/QualifierDefinition", "<init>", "(Ljava/lang/String;Ljava/lang/String;Ljava/lang/String;)V"⟩ : MethodName) prog_49_method_1_code 4 none :: ws) ({ frames := 2, cells := 2, slots := 36, locals := 24 } : Room)) (fun a U => a = #[(.ref x1), (.ref x2), n3, (.ref x4)] ∧ Z.Warmed39 U.vm ∧ U.heap = h0 ∧ CHv Z consts_1 U.vm h0 ∧ ∀ x ∈ ([] : List Addr), Safe Z consts_1 U.vm h0 x) (fun _ _ _ _ _ => True) (fun _ U o U' => ∃ v L, o = .returned v ∧ Qrm5_9 Z cz x1 x2 n3 x4 h0 n0 v U'.heap L ∧ CHr Z consts_1 U.vm U.heap U'.vm U'.heap ∧ ReturnedEndW U o U' L ({ frames := 2, cells := 2, slots := 36, locals := 24 } : Room).cells ({ frames := 2, cells := 2, slots := 36, locals := 24 } : Room).slots) := by
  refine MetFree.of_bodySF (plainFor_of_name pn_com_example_iron_wire_ironwire_definition_QualifierDefinition) hisR ?_
  intro p e s m args below meth c s₁ Bd hml0 hP hK
  obtain ⟨rfl, hZ, hh, hCv, hSf⟩ := hP
  have hx := Bd.exec
  have hby := Bd.bytes
  have hml : c.maxLocals = 4 := hml0
  have hown : s.vm.findClass "com/example/iron_wire/ironwire/definition/QualifierDefinition" = some m.cls := findClass_of_methodNamed Bd.named
  have hnm := (name_of_methodNamed Bd.named Bd.method).1
  have X0 : Stand p l e ({ frames := 2, cells := 2, slots := 36, locals := 24 } : Room) (s.setVm s.vm) m #[(.ref x1), (.ref x2), n3, (.ref x4)] below meth c s₁ [] 0 0 := Stand.of_body Bd
  have e0 : s₁.heap = h0 := by rw [← hh, Bd.state]; rfl
  have N0 := Fr.nil n0
  have Z0 : n0 ≤ h0.size := O0.1 ▸ O0.2.1
  have pre0 : ∀ t, Steps p.tables e below (s₁.setTop (mkF m 0 #[.val (.ref x1), .val (.ref x2), .val n3, .val (.ref x4)] [])) t → Steps p.tables e below (s₁.setTop (entryFrame m #[(.ref x1), (.ref x2), n3, (.ref x4)] 4)) t := fun t k => castTop (ef_5_RRNR m x1 x2 n3 R_n3 x4) k
  have Kr : Keep h0 h0 [x1] := Keep.refl h0 _
  have hEL : EW Z a0 consts_1 := own_ew hw
  have wS : ∀ d ∈ Bundle.stringAtoms, d.before a0 Z = true := fun d hd => hw d (own_wsa d hd)
  have hS : s.Since s.vm 0 := (State.WarmedH.refl s).since 0
  have hk : 0 ≤ h0.size := Nat.zero_le _
  have C0 : CHr Z consts_1 s.vm h0 s.vm h0 := CHr.refl hCv
  obtain ⟨_, _, ⟨T1, L1, k1, n1⟩, -, X1, ⟨Lc1, hQ1, l1, y1, z1⟩, st1⟩ := X0.specialBack hx (y := (⟨"java/lang/Record", "<init>", "()V"⟩ : MethodName)) rfl hown (mvT hZ (hw _ (List.mem_of_getElem? (i := 33) rfl))) (mvT hZ (hw _ (List.mem_of_getElem? (i := 34) rfl))) (mvT hZ (hw _ (List.mem_of_getElem? (i := 37) rfl))) (by decide) (backOf (W := 0) (rm6_6 l Z a0 hw [] cz x1 h0 n0 O0 P ) hZ (hw _ (List.mem_of_getElem? (i := 37) rfl)) (hw _ (List.mem_of_getElem? (i := 36) rfl)) (by decide) (by decide)) (g := (mkF m 1 #[.val (.ref x1), .val (.ref x2), .val n3, .val (.ref x4)] [(.ref x1)])) rfl (by rw [hml]; rfl) (Steps.refl _) (a := x1) (argsL := []) (rest := []) (lenOf pd_3 rfl) rfl (by show 2 * 0 + _ ≤ _; exact Nat.le_of_eq rfl) (hb hby d5_1) (fun _ _ => ⟨rfl, e0, (by decide : 0 + 0 ≤ _), (by decide : 0 + 0 ≤ _)⟩)
  dsimp only [Pt.U, Pt.locs, Pt.cells, Pt.slots] at X1 l1 y1 z1 st1 hQ1
  subst l1 y1 z1
  obtain ⟨rfl, N1q, e1⟩ := hQ1
  have N1 := Fr.app N0 N1q
  obtain ⟨w2, T2, h2, kq2, X2, e2, E2, hS2, hkq2, hZ2, hown2, Cq2, -, st2⟩ := ldcOH X1 hx hZ hown (hw _ (List.mem_of_getElem? (i := 39) rfl)) wS e1 hS hk hEL C0.1 (g := (mkF m 5 #[.val (.ref x1), .val (.ref x2), .val n3, .val (.ref x4)] [(.ref x2)])) rfl (hb hby d5_5) (n := 32) (by decide) (by decide) (by decide) (by decide)
  have Zs3 : n0 ≤ (h2).size := Nat.le_trans Z0 E2.1
  have Os3 : Old Z n0 (h2) := O0.ext E2
  have Ks3 : Keep h0 (h2) [x1] := Kr.ext E2
  have Cs3 : CHr Z consts_1 s.vm h0 T2.vm (h2) := C0.trans Cq2
  have hk3 : kq2 ≤ (h2).size := hkq2
  obtain ⟨_, _, ⟨T4, L4, k4, n4⟩, -, X4, ⟨Lc4, hQ4, l4, y4, z4⟩, st4⟩ := Jvm.LawKit.callS X2 hx (y := (⟨"java/util/Objects", "requireNonNull", "(Ljava/lang/Object;Ljava/lang/String;)Ljava/lang/Object;"⟩ : MethodName)) hown2 (mvT hZ2 (hw _ (List.mem_of_getElem? (i := 40) rfl))) (mvT hZ2 (hw _ (List.mem_of_getElem? (i := 41) rfl))) (mvT hZ2 (hw _ (List.mem_of_getElem? (i := 42) rfl))) (mvT hZ2 (hw _ (List.mem_of_getElem? (i := 43) rfl))) (by decide) (backOf (W := 0) (rm7_7 l Z a0 hw [] cz x2 w2 h2 n0 Os3 P ) hZ2 (hw _ (List.mem_of_getElem? (i := 43) rfl)) (hw _ (List.mem_of_getElem? (i := 42) rfl)) (by decide) (by decide)) (g := (mkF m 7 #[.val (.ref x1), .val (.ref x2), .val n3, .val (.ref x4)] [(.ref w2), (.ref x2)])) rfl (by rw [hml]; rfl) (argsL := [(.ref x2), (.ref w2)]) (rest := []) (lenOf pd_4 rfl) rfl (by show 2 * 0 + _ ≤ _; exact Nat.le_of_eq rfl) (hb hby d5_7) (fun _ _ => ⟨rfl, e2, (by decide : 2 + 0 ≤ _), (by decide : 36 + 0 ≤ _)⟩)
  dsimp only [Pt.U, Pt.locs, Pt.cells, Pt.slots] at X4 l4 y4 z4 st4 hQ4
  subst l4 y4 z4
  obtain ⟨rfl, N4q, e4⟩ := hQ4
  have N4 := Fr.app N1 N4q
  have f5 := (E_x1.ext E2)
  have f6 := (F_x1_typeName.ext E2)
  obtain ⟨T7, h7, X7, e7, W7, st7⟩ := putF X4 hx hZ2 hown2 (host := "") (Or.inl (hw _ (List.mem_of_getElem? (i := 44) rfl))) Via.refl e4 f6 f5 (Or.inr ⟨(hw _ (List.mem_of_getElem? (i := 45) rfl)), rfl, hnm⟩) (hw _ (List.mem_of_getElem? (i := 28) rfl)) (ty := (.object "java/lang/String")) (by decide) rfl rfl (g := (mkF m 13 #[.val (.ref x1), .val (.ref x2), .val n3, .val (.ref x4)] [(.ref x2), (.ref x1)])) rfl rfl (hb hby d5_13)
  have Ks8 : Keep h0 (h7) [x1] := Ks3.wr W7 (Or.inl (List.mem_of_getElem? (i := 0) rfl))
  have Zs8 : n0 ≤ (h7).size := Nat.le_trans Zs3 (Keep.of_wr W7).1
  have Os8 : Old Z n0 (h7) := Os3.wr W7 g_x1
  have Cs8 : CHr Z consts_1 s.vm h0 T2.vm (h7) := Cs3.trans (CHr.wr W7 (Safe.exa hZ2.alike f5 (by decide) (by decide)) Cs3.1)
  have hk8 : kq2 ≤ (h7).size := Nat.le_trans hk3 (Keep.of_wr W7).1
  have Fw7 := Fld.same W7 f6
  have N7 := Fr.snoc X7 N4 g_x1
  have f9 := (Exa.wr W7 f5)
  have f10 := (Fld.other W7 (F_x1_value.ext E2) (Or.inr (slot_ne (Or.inr (hw _ (List.mem_of_getElem? (i := 47) rfl))) (Or.inr (hw _ (List.mem_of_getElem? (i := 45) rfl))) (by decide) (t := (.object "java/lang/String")) (t' := (.object "java/lang/String")) (by decide) (by decide))))
  obtain ⟨T11, h11, X11, e11, W11, st11⟩ := putF X7 hx hZ2 hown2 (host := "") (Or.inl (hw _ (List.mem_of_getElem? (i := 46) rfl))) Via.refl e7 f10 f9 (Or.inr ⟨(hw _ (List.mem_of_getElem? (i := 47) rfl)), rfl, hnm⟩) (hw _ (List.mem_of_getElem? (i := 28) rfl)) (ty := (.object "java/lang/String")) (by decide) (own_nar R_n3) (own_fit R_n3) (g := (mkF m 18 #[.val (.ref x1), .val (.ref x2), .val n3, .val (.ref x4)] [n3, (.ref x1)])) rfl rfl (hb hby d5_18)
  have Ks12 : Keep h0 (h11) [x1] := Ks8.wr W11 (Or.inl (List.mem_of_getElem? (i := 0) rfl))
  have Zs12 : n0 ≤ (h11).size := Nat.le_trans Zs8 (Keep.of_wr W11).1
  have Os12 : Old Z n0 (h11) := Os8.wr W11 g_x1
  have Cs12 : CHr Z consts_1 s.vm h0 T2.vm (h11) := Cs8.trans (CHr.wr W11 (Safe.exa hZ2.alike f9 (by decide) (by decide)) Cs8.1)
  have hk12 : kq2 ≤ (h11).size := Nat.le_trans hk8 (Keep.of_wr W11).1
  have Fw11 := Fld.same W11 f10
  have N11 := Fr.snoc X11 N7 g_x1
  have f13 := (Exa.wr W11 f9)
  have f14 := (Fld.other W11 (Fld.other W7 (F_x1_inheritedFrom.ext E2) (Or.inr (slot_ne (Or.inr (hw _ (List.mem_of_getElem? (i := 49) rfl))) (Or.inr (hw _ (List.mem_of_getElem? (i := 45) rfl))) (by decide) (t := (.object "java/lang/String")) (t' := (.object "java/lang/String")) (by decide) (by decide)))) (Or.inr (slot_ne (Or.inr (hw _ (List.mem_of_getElem? (i := 49) rfl))) (Or.inr (hw _ (List.mem_of_getElem? (i := 47) rfl))) (by decide) (t := (.object "java/lang/String")) (t' := (.object "java/lang/String")) (by decide) (by decide))))
  obtain ⟨T15, h15, X15, e15, W15, st15⟩ := putF X11 hx hZ2 hown2 (host := "") (Or.inl (hw _ (List.mem_of_getElem? (i := 48) rfl))) Via.refl e11 f14 f13 (Or.inr ⟨(hw _ (List.mem_of_getElem? (i := 49) rfl)), rfl, hnm⟩) (hw _ (List.mem_of_getElem? (i := 28) rfl)) (ty := (.object "java/lang/String")) (by decide) rfl rfl (g := (mkF m 23 #[.val (.ref x1), .val (.ref x2), .val n3, .val (.ref x4)] [(.ref x4), (.ref x1)])) rfl rfl (hb hby d5_23)
  have Ks16 : Keep h0 (h15) [x1] := Ks12.wr W15 (Or.inl (List.mem_of_getElem? (i := 0) rfl))
  have Zs16 : n0 ≤ (h15).size := Nat.le_trans Zs12 (Keep.of_wr W15).1
  have Os16 : Old Z n0 (h15) := Os12.wr W15 g_x1
  have Cs16 : CHr Z consts_1 s.vm h0 T2.vm (h15) := Cs12.trans (CHr.wr W15 (Safe.exa hZ2.alike f13 (by decide) (by decide)) Cs12.1)
  have hk16 : kq2 ≤ (h15).size := Nat.le_trans hk12 (Keep.of_wr W15).1
  have Fw15 := Fld.same W15 f14
  have N15 := Fr.snoc X15 N11 g_x1
  have f17 := (Fld.other W15 (Fld.other W11 Fw7 (Or.inr (slot_ne (Or.inr (hw _ (List.mem_of_getElem? (i := 45) rfl))) (Or.inr (hw _ (List.mem_of_getElem? (i := 47) rfl))) (by decide) (t := (.object "java/lang/String")) (t' := (.object "java/lang/String")) (by decide) (by decide)))) (Or.inr (slot_ne (Or.inr (hw _ (List.mem_of_getElem? (i := 45) rfl))) (Or.inr (hw _ (List.mem_of_getElem? (i := 49) rfl))) (by decide) (t := (.object "java/lang/String")) (t' := (.object "java/lang/String")) (by decide) (by decide))))
  have f18 := (Fld.other W15 Fw11 (Or.inr (slot_ne (Or.inr (hw _ (List.mem_of_getElem? (i := 47) rfl))) (Or.inr (hw _ (List.mem_of_getElem? (i := 49) rfl))) (by decide) (t := (.object "java/lang/String")) (t' := (.object "java/lang/String")) (by decide) (by decide))))
  have Cend := Cs16.trans (CHv.at X15 hZ2 hEL Cs16.1)
  obtain ⟨fs, hr, hrun, hended, hREW⟩ := X15.leaveW hS2 (show _ ≤ T15.heap.size by rw [e15]; exact hk16) (v := none) (fun _ => rfl)
  refine ⟨_, _, pre0 _ ?_, hrun, hended, _, _, rfl, ?_, ?_, own_rew hREW (by decide) (by decide)⟩
  · show Steps p.tables e below (s₁.setTop (mkF m 0 #[.val (.ref x1), .val (.ref x2), .val n3, .val (.ref x4)] [])) _
    refine XS.aloadN X0.here hx rfl (hb hby d5_0) rfl rfl ?_
    show Steps p.tables e below (s₁.setTop (mkF m 1 #[.val (.ref x1), .val (.ref x2), .val n3, .val (.ref x4)] [(.ref x1)])) _
    refine st1.trans ?_
    show Steps p.tables e below (T1.setTop (mkF m 4 #[.val (.ref x1), .val (.ref x2), .val n3, .val (.ref x4)] [])) _
    refine XS.aloadN X1.here hx rfl (hb hby d5_4) rfl rfl ?_
    show Steps p.tables e below (T1.setTop (mkF m 5 #[.val (.ref x1), .val (.ref x2), .val n3, .val (.ref x4)] [(.ref x2)])) _
    refine st2 _ ?_
    show Steps p.tables e below (T2.setTop (mkF m 7 #[.val (.ref x1), .val (.ref x2), .val n3, .val (.ref x4)] [(.ref w2), (.ref x2)])) _
    refine st4 _ ?_
    show Steps p.tables e below (T4.setTop (mkF m 10 #[.val (.ref x1), .val (.ref x2), .val n3, .val (.ref x4)] [(.ref x2)])) _
    refine XS.pop X4.here hx rfl (hb hby d5_10) rfl rfl ?_
    show Steps p.tables e below (T4.setTop (mkF m 11 #[.val (.ref x1), .val (.ref x2), .val n3, .val (.ref x4)] [])) _
    refine XS.aloadN X4.here hx rfl (hb hby d5_11) rfl rfl ?_
    show Steps p.tables e below (T4.setTop (mkF m 12 #[.val (.ref x1), .val (.ref x2), .val n3, .val (.ref x4)] [(.ref x1)])) _
    refine XS.aloadN X4.here hx rfl (hb hby d5_12) rfl rfl ?_
    show Steps p.tables e below (T4.setTop (mkF m 13 #[.val (.ref x1), .val (.ref x2), .val n3, .val (.ref x4)] [(.ref x2), (.ref x1)])) _
    refine st7 _ ?_
    show Steps p.tables e below (T7.setTop (mkF m 16 #[.val (.ref x1), .val (.ref x2), .val n3, .val (.ref x4)] [])) _
    refine XS.aloadN X7.here hx rfl (hb hby d5_16) rfl rfl ?_
    show Steps p.tables e below (T7.setTop (mkF m 17 #[.val (.ref x1), .val (.ref x2), .val n3, .val (.ref x4)] [(.ref x1)])) _
    refine XS.aloadN X7.here hx rfl (hb hby d5_17) rfl R_n3 ?_
    show Steps p.tables e below (T7.setTop (mkF m 18 #[.val (.ref x1), .val (.ref x2), .val n3, .val (.ref x4)] [n3, (.ref x1)])) _
    refine st11 _ ?_
    show Steps p.tables e below (T11.setTop (mkF m 21 #[.val (.ref x1), .val (.ref x2), .val n3, .val (.ref x4)] [])) _
    refine XS.aloadN X11.here hx rfl (hb hby d5_21) rfl rfl ?_
    show Steps p.tables e below (T11.setTop (mkF m 22 #[.val (.ref x1), .val (.ref x2), .val n3, .val (.ref x4)] [(.ref x1)])) _
    refine XS.aloadN X11.here hx rfl (hb hby d5_22) rfl rfl ?_
    show Steps p.tables e below (T11.setTop (mkF m 23 #[.val (.ref x1), .val (.ref x2), .val n3, .val (.ref x4)] [(.ref x4), (.ref x1)])) _
    refine st15 _ ?_
    show Steps p.tables e below (T15.setTop (mkF m 26 #[.val (.ref x1), .val (.ref x2), .val n3, .val (.ref x4)] [])) _
    exact X15.returnOut hx Bd.returns (hb hby d5_26) hr
  · show Qrm5_9 Z cz x1 x2 n3 x4 h0 n0 _ T15.heap _
    rw [e15]
    exact ⟨rfl, N15, Ks16, f17, f18, Fw15⟩
  · rw [hh]
    show CHr Z consts_1 s.vm h0 T15.vm T15.heap
    rw [e15]
    exact Cend
theorem ef_8_RN (m : MethodId) (x0 : Addr) (x1 : Value) (h1 : x1.isRef = true) : entryFrame m #[(.ref x0), x1] 2 = mkF m 0 #[.val (.ref x0), .val x1] [] := by rcases ref_cases h1 with rfl | ⟨_, rfl⟩ <;> first | (simp [entryFrame, mkF, argsToLocals, Value.category]; done) | rfl
def QrmI_0 (Z : State) (cz : Int32) (x1 : Addr) (n2 : Value) (x3 : Addr) (n4 : Value) (h0 : Heap) (n0 : Nat) (v : Option Value) (h : Heap) (L : List Loc) : Prop := ∃ y1 : Addr, v = some (.ref y1) ∧ Fr n0 L ∧ Keep h0 h [] ∧ h0.size ≤ y1 ∧ Exa Z h y1 "com/example/iron_wire/ironwire/definition/QualifierDefinition" ∧ Fld Z h y1 "com/example/iron_wire/ironwire/definition/QualifierDefinition" "typeName" "Ljava/lang/String;" (.ref x3) ∧ Fld Z h y1 "com/example/iron_wire/ironwire/definition/QualifierDefinition" "value" "Ljava/lang/String;" n4 ∧ Fld Z h y1 "com/example/iron_wire/ironwire/definition/QualifierDefinition" "inheritedFrom" "Ljava/lang/String;" n2
set_option maxRecDepth 65536 in
set_option maxHeartbeats 40000000 in
theorem rmI_0 (l : Launch) (Z : State) (a0 : Array Value) (hw : ∀ d ∈ tables_1, d.before a0 Z = true) (ws : List Jvm.Cond) (cz : Int32) (x1 : Addr) (n2 : Value) (x3 : Addr) (n4 : Value) (h0 : Heap) (n0 : Nat) (O0 : Old Z n0 h0) (P : Pins Z cz) (F_x1_typeName : Fld Z h0 x1 "com/example/iron_wire/ironwire/definition/QualifierDefinition" "typeName" "Ljava/lang/String;" (.ref x3)) (F_x1_value : Fld Z h0 x1 "com/example/iron_wire/ironwire/definition/QualifierDefinition" "value" "Ljava/lang/String;" n4) (F_x1_inheritedFrom : Fld Z h0 x1 "com/example/iron_wire/ironwire/definition/QualifierDefinition" "inheritedFrom" "Ljava/lang/String;" .null) (R_n2 : n2.isRef = true) (R_n4 : n4.isRef = true) :
    MetFree l (⟨"com/example/iron_wire/ironwire/definition/QualifierDefinition", "inherited", "(Ljava/lang/String;)Lcom/example/iron_wire/ironwire/definition/QualifierDefinition;"⟩ : MethodName) (head1 (Jvm.Cond.code (⟨"com/example/iron_wire/ironwire/definition/QualifierDefinition", "inherited", "(Ljava/lang/String;)Lcom/example/iron_wire/ironwire/definition/QualifierDefinition;"⟩ : MethodName) prog_49_method_3_code 2 (some (.object "com/example/iron_wire/ironwire/definition/QualifierDefinition")) :: ws) ({ frames := 3, cells := 3, slots := 39, locals := 40 } : Room)) (fun a U => a = #[(.ref x1), n2] ∧ Z.Warmed39 U.vm ∧ U.heap = h0 ∧ CHv Z consts_1 U.vm h0 ∧ ∀ x ∈ ([] : List Addr), Safe Z consts_1 U.vm h0 x) (fun _ _ _ _ _ => True) (fun _ U o U' => ∃ v L, o = .returned v ∧ QrmI_0 Z cz x1 n2 x3 n4 h0 n0 v U'.heap L ∧ CHr Z consts_1 U.vm U.heap U'.vm U'.heap ∧ ReturnedEndW U o U' L ({ frames := 3, cells := 3, slots := 39, locals := 40 } : Room).cells ({ frames := 3, cells := 3, slots := 39, locals := 40 } : Room).slots) := by
  refine MetFree.of_bodySF (plainFor_of_name pn_com_example_iron_wire_ironwire_definition_QualifierDefinition) hisR ?_
  intro p e s m args below meth c s₁ Bd hml0 hP hK
  obtain ⟨rfl, hZ, hh, hCv, hSf⟩ := hP
  have hx := Bd.exec
  have hby := Bd.bytes
  have hml : c.maxLocals = 2 := hml0
  have hown : s.vm.findClass "com/example/iron_wire/ironwire/definition/QualifierDefinition" = some m.cls := findClass_of_methodNamed Bd.named
  have hnm := (name_of_methodNamed Bd.named Bd.method).1
  have X0 : Stand p l e ({ frames := 3, cells := 3, slots := 39, locals := 40 } : Room) (s.setVm s.vm) m #[(.ref x1), n2] below meth c s₁ [] 0 0 := Stand.of_body Bd
  have e0 : s₁.heap = h0 := by rw [← hh, Bd.state]; rfl
  have N0 := Fr.nil n0
  have Z0 : n0 ≤ h0.size := O0.1 ▸ O0.2.1
  have pre0 : ∀ t, Steps p.tables e below (s₁.setTop (mkF m 0 #[.val (.ref x1), .val n2] [])) t → Steps p.tables e below (s₁.setTop (entryFrame m #[(.ref x1), n2] 2)) t := fun t k => castTop (ef_8_RN m x1 n2 R_n2) k
  have Kr : Keep h0 h0 [] := Keep.refl h0 _
  have hEL : EW Z a0 consts_1 := own_ew hw
  have wS : ∀ d ∈ Bundle.stringAtoms, d.before a0 Z = true := fun d hd => hw d (own_wsa d hd)
  have hS : s.Since s.vm 0 := (State.WarmedH.refl s).since 0
  have hk : 0 ≤ h0.size := Nat.zero_le _
  have C0 : CHr Z consts_1 s.vm h0 s.vm h0 := CHr.refl hCv
  obtain ⟨T1, h1, X1, e1, E1, A1, D1, -, st1⟩ := newO X0 hx hZ hown (hw _ (List.mem_of_getElem? (i := 55) rfl)) (hw _ (List.mem_of_getElem? (i := 28) rfl)) (hw _ (List.mem_of_getElem? (i := 29) rfl)) e0 (g := (mkF m 0 #[.val (.ref x1), .val n2] [])) rfl (hb hby d8_0) (by decide) (by decide)
  obtain ⟨b1, g1⟩ : ∃ z, z = (h0).size := ⟨_, rfl⟩
  rw [← g1] at A1 D1 st1
  have Zs2 : n0 ≤ (h1).size := Nat.le_trans Z0 E1.1
  have Os2 : Old Z n0 (h1) := O0.ext E1
  have Ks2 : Keep h0 (h1) [] := Kr.ext E1
  have Cs2 : CHr Z consts_1 s.vm h0 s.vm (h1) := C0.trans (CHr.ext E1 C0.1)
  have hk2 : 0 ≤ (h1).size := Nat.le_trans hk E1.1
  have D1_typeName : Fld Z h1 b1 "com/example/iron_wire/ironwire/definition/QualifierDefinition" "typeName" "Ljava/lang/String;" .null := D1 (Or.inr (hw _ (List.mem_of_getElem? (i := 45) rfl))) (ty := (.object "java/lang/String")) (by decide)
  have D1_value : Fld Z h1 b1 "com/example/iron_wire/ironwire/definition/QualifierDefinition" "value" "Ljava/lang/String;" .null := D1 (Or.inr (hw _ (List.mem_of_getElem? (i := 47) rfl))) (ty := (.object "java/lang/String")) (by decide)
  have D1_inheritedFrom : Fld Z h1 b1 "com/example/iron_wire/ironwire/definition/QualifierDefinition" "inheritedFrom" "Ljava/lang/String;" .null := D1 (Or.inr (hw _ (List.mem_of_getElem? (i := 49) rfl))) (ty := (.object "java/lang/String")) (by decide)
  have f3 := (F_x1_typeName.ext E1)
  obtain ⟨T4, X4, e4, st4⟩ := getF X1 hx hZ hown (host := "") (Or.inl (hw _ (List.mem_of_getElem? (i := 44) rfl))) Via.refl e1 f3 (g := (mkF m 5 #[.val (.ref x1), .val n2] [(.ref x1), (.ref b1), (.ref b1)])) rfl rfl (hb hby d8_5)
  have f5 := (F_x1_value.ext E1)
  obtain ⟨T6, X6, e6, st6⟩ := getF X4 hx hZ hown (host := "") (Or.inl (hw _ (List.mem_of_getElem? (i := 46) rfl))) Via.refl e4 f5 (g := (mkF m 9 #[.val (.ref x1), .val n2] [(.ref x1), (.ref x3), (.ref b1), (.ref b1)])) rfl rfl (hb hby d8_9)
  have f7 := (F_x1_inheritedFrom.ext E1)
  obtain ⟨T8, X8, e8, st8⟩ := getF X6 hx hZ hown (host := "") (Or.inl (hw _ (List.mem_of_getElem? (i := 48) rfl))) Via.refl e6 f7 (g := (mkF m 13 #[.val (.ref x1), .val n2] [(.ref x1), n4, (.ref x3), (.ref b1), (.ref b1)])) rfl rfl (hb hby d8_13)
  obtain ⟨_, _, ⟨T9, L9, k9, n9⟩, -, Xq9, Sq9, gq9, ⟨Lc9, hQ9, l9, y9, z9, Cq9⟩, st9⟩ := X8.specialBackS hx (y := (⟨"com/example/iron_wire/ironwire/definition/QualifierDefinition", "<init>", "(Ljava/lang/String;Ljava/lang/String;Ljava/lang/String;)V"⟩ : MethodName)) rfl hown (mvT hZ (hw _ (List.mem_of_getElem? (i := 56) rfl))) (mvT hZ (hw _ (List.mem_of_getElem? (i := 31) rfl))) (mvT hZ (hw _ (List.mem_of_getElem? (i := 32) rfl))) (by decide) (own_backH (xs := []) (W := 1) (rm5_8 l Z a0 hw [] cz b1 x3 n4 n2 h1 n0 Os2 P A1 D1_typeName (Nat.le_trans Z0 (Nat.le_of_eq g1.symm)) R_n4 D1_value R_n2 D1_inheritedFrom) hZ (hw _ (List.mem_of_getElem? (i := 32) rfl)) (hw _ (List.mem_of_getElem? (i := 29) rfl)) (by decide) (by decide) hEL Cs2.1 own_sx0) (g := (mkF m 27 #[.val (.ref x1), .val n2] [n2, n4, (.ref x3), (.ref b1), (.ref b1)])) rfl (by rw [hml]; rfl) (Steps.refl _) (a := b1) (argsL := [(.ref x3), n4, n2]) (rest := [(.ref b1)]) (lenOf pd_5 rfl) rfl (by show 2 * 0 + _ ≤ _; exact Nat.le_of_eq rfl) (hb hby d8_27) (fun _ _ => ⟨rfl, e8, (by decide : 1 + 2 ≤ _), (by decide : 3 + 36 ≤ _)⟩)
  dsimp only [Pt.U, Pt.locs, Pt.cells, Pt.slots] at Xq9 Sq9 gq9 l9 y9 z9 st9 hQ9 Cq9
  subst l9 y9 z9
  obtain ⟨X9, hS9, hZ9, hown9⟩ := rebS hS (show _ ≤ T8.heap.size by rw [e8]; exact hk2) Xq9 Sq9 gq9 hZ hown
  have hkq9 : T9.heap.size ≤ (T9.heap).size := Nat.le_refl _
  obtain ⟨rfl, N9q, K9, q9_0, q9_1, q9_2⟩ := hQ9
  have N9 := Fr.app N0 N9q
  have Ks10 : Keep h0 (T9.heap) [] := Ks2.trans K9 (allS (Or.inr (Nat.le_trans Kr.1 (Nat.le_of_eq g1.symm))) all0)
  have Zs10 : n0 ≤ (T9.heap).size := Nat.le_trans Zs2 K9.1
  have Os10 : Old Z n0 (T9.heap) := Os2.keep K9 (allS (Nat.le_trans Z0 (Nat.le_of_eq g1.symm)) all0)
  have Cs10 : CHr Z consts_1 s.vm h0 T9.vm (T9.heap) := Cs2.trans Cq9
  have hk10 : T9.heap.size ≤ (T9.heap).size := hkq9
  have f11 := (A1.keep K9)
  have Cend := Cs10.trans (CHv.at X9 hZ9 hEL Cs10.1)
  obtain ⟨fs, hr, hrun, hended, hREW⟩ := X9.leaveW hS9 hk10 (v := some (.ref b1)) (fun h => by rw [Bd.returns] at h; cases h)
  refine ⟨_, _, pre0 _ ?_, hrun, hended, _, _, rfl, ?_, ?_, own_rew hREW (by decide) (by decide)⟩
  · show Steps p.tables e below (s₁.setTop (mkF m 0 #[.val (.ref x1), .val n2] [])) _
    refine st1 _ ?_
    show Steps p.tables e below (T1.setTop (mkF m 3 #[.val (.ref x1), .val n2] [(.ref b1)])) _
    refine XS.dup X1.here hx rfl (hb hby d8_3) rfl rfl ?_
    show Steps p.tables e below (T1.setTop (mkF m 4 #[.val (.ref x1), .val n2] [(.ref b1), (.ref b1)])) _
    refine XS.aloadN X1.here hx rfl (hb hby d8_4) rfl rfl ?_
    show Steps p.tables e below (T1.setTop (mkF m 5 #[.val (.ref x1), .val n2] [(.ref x1), (.ref b1), (.ref b1)])) _
    refine st4 _ ?_
    show Steps p.tables e below (T4.setTop (mkF m 8 #[.val (.ref x1), .val n2] [(.ref x3), (.ref b1), (.ref b1)])) _
    refine XS.aloadN X4.here hx rfl (hb hby d8_8) rfl rfl ?_
    show Steps p.tables e below (T4.setTop (mkF m 9 #[.val (.ref x1), .val n2] [(.ref x1), (.ref x3), (.ref b1), (.ref b1)])) _
    refine st6 _ ?_
    show Steps p.tables e below (T6.setTop (mkF m 12 #[.val (.ref x1), .val n2] [n4, (.ref x3), (.ref b1), (.ref b1)])) _
    refine XS.aloadN X6.here hx rfl (hb hby d8_12) rfl rfl ?_
    show Steps p.tables e below (T6.setTop (mkF m 13 #[.val (.ref x1), .val n2] [(.ref x1), n4, (.ref x3), (.ref b1), (.ref b1)])) _
    refine st8 _ ?_
    show Steps p.tables e below (T8.setTop (mkF m 16 #[.val (.ref x1), .val n2] [.null, n4, (.ref x3), (.ref b1), (.ref b1)])) _
    refine XS.ifnonnullNo X8.here hx rfl (hb hby d8_16) rfl ?_
    show Steps p.tables e below (T8.setTop (mkF m 19 #[.val (.ref x1), .val n2] [n4, (.ref x3), (.ref b1), (.ref b1)])) _
    refine XS.aloadN X8.here hx rfl (hb hby d8_19) rfl R_n2 ?_
    show Steps p.tables e below (T8.setTop (mkF m 20 #[.val (.ref x1), .val n2] [n2, n4, (.ref x3), (.ref b1), (.ref b1)])) _
    refine XS.goto X8.here hx rfl (pc0 := 20) (pc' := 27) rfl (hb hby d8_20) (by decide) (by decide) ?_
    show Steps p.tables e below (T8.setTop (mkF m 27 #[.val (.ref x1), .val n2] [n2, n4, (.ref x3), (.ref b1), (.ref b1)])) _
    refine st9.trans ?_
    show Steps p.tables e below (T9.setTop (mkF m 30 #[.val (.ref x1), .val n2] [(.ref b1)])) _
    exact retOut X9 hx Bd.returns rfl (Or.inr (Or.inr (Or.inr (Or.inr ⟨rfl, rfl, rfl⟩)))) (hb hby d8_30) hr
  · show QrmI_0 Z cz x1 n2 x3 n4 h0 n0 _ T9.heap _
    exact ⟨b1, rfl, N9, Ks10, (Nat.le_trans Kr.1 (Nat.le_of_eq g1.symm)), f11, q9_0, q9_1, q9_2⟩
  · rw [hh]
    show CHr Z consts_1 s.vm h0 T9.vm T9.heap
    exact Cend
def QrmI_1 (Z : State) (cz : Int32) (x1 : Addr) (n2 : Value) (x3 : Addr) (n4 : Value) (x5 : Addr) (h0 : Heap) (n0 : Nat) (v : Option Value) (h : Heap) (L : List Loc) : Prop := ∃ y1 : Addr, v = some (.ref y1) ∧ Fr n0 L ∧ Keep h0 h [] ∧ h0.size ≤ y1 ∧ Exa Z h y1 "com/example/iron_wire/ironwire/definition/QualifierDefinition" ∧ Fld Z h y1 "com/example/iron_wire/ironwire/definition/QualifierDefinition" "typeName" "Ljava/lang/String;" (.ref x3) ∧ Fld Z h y1 "com/example/iron_wire/ironwire/definition/QualifierDefinition" "value" "Ljava/lang/String;" n4 ∧ Fld Z h y1 "com/example/iron_wire/ironwire/definition/QualifierDefinition" "inheritedFrom" "Ljava/lang/String;" (.ref x5)
set_option maxRecDepth 65536 in
set_option maxHeartbeats 40000000 in
theorem rmI_1 (l : Launch) (Z : State) (a0 : Array Value) (hw : ∀ d ∈ tables_1, d.before a0 Z = true) (ws : List Jvm.Cond) (cz : Int32) (x1 : Addr) (n2 : Value) (x3 : Addr) (n4 : Value) (x5 : Addr) (h0 : Heap) (n0 : Nat) (O0 : Old Z n0 h0) (P : Pins Z cz) (F_x1_typeName : Fld Z h0 x1 "com/example/iron_wire/ironwire/definition/QualifierDefinition" "typeName" "Ljava/lang/String;" (.ref x3)) (F_x1_value : Fld Z h0 x1 "com/example/iron_wire/ironwire/definition/QualifierDefinition" "value" "Ljava/lang/String;" n4) (F_x1_inheritedFrom : Fld Z h0 x1 "com/example/iron_wire/ironwire/definition/QualifierDefinition" "inheritedFrom" "Ljava/lang/String;" (.ref x5)) (R_n4 : n4.isRef = true) (R_n2 : n2.isRef = true) :
    MetFree l (⟨"com/example/iron_wire/ironwire/definition/QualifierDefinition", "inherited", "(Ljava/lang/String;)Lcom/example/iron_wire/ironwire/definition/QualifierDefinition;"⟩ : MethodName) (head1 (Jvm.Cond.code (⟨"com/example/iron_wire/ironwire/definition/QualifierDefinition", "inherited", "(Ljava/lang/String;)Lcom/example/iron_wire/ironwire/definition/QualifierDefinition;"⟩ : MethodName) prog_49_method_3_code 2 (some (.object "com/example/iron_wire/ironwire/definition/QualifierDefinition")) :: ws) ({ frames := 3, cells := 3, slots := 39, locals := 40 } : Room)) (fun a U => a = #[(.ref x1), n2] ∧ Z.Warmed39 U.vm ∧ U.heap = h0 ∧ CHv Z consts_1 U.vm h0 ∧ ∀ x ∈ ([] : List Addr), Safe Z consts_1 U.vm h0 x) (fun _ _ _ _ _ => True) (fun _ U o U' => ∃ v L, o = .returned v ∧ QrmI_1 Z cz x1 n2 x3 n4 x5 h0 n0 v U'.heap L ∧ CHr Z consts_1 U.vm U.heap U'.vm U'.heap ∧ ReturnedEndW U o U' L ({ frames := 3, cells := 3, slots := 39, locals := 40 } : Room).cells ({ frames := 3, cells := 3, slots := 39, locals := 40 } : Room).slots) := by
  refine MetFree.of_bodySF (plainFor_of_name pn_com_example_iron_wire_ironwire_definition_QualifierDefinition) hisR ?_
  intro p e s m args below meth c s₁ Bd hml0 hP hK
  obtain ⟨rfl, hZ, hh, hCv, hSf⟩ := hP
  have hx := Bd.exec
  have hby := Bd.bytes
  have hml : c.maxLocals = 2 := hml0
  have hown : s.vm.findClass "com/example/iron_wire/ironwire/definition/QualifierDefinition" = some m.cls := findClass_of_methodNamed Bd.named
  have hnm := (name_of_methodNamed Bd.named Bd.method).1
  have X0 : Stand p l e ({ frames := 3, cells := 3, slots := 39, locals := 40 } : Room) (s.setVm s.vm) m #[(.ref x1), n2] below meth c s₁ [] 0 0 := Stand.of_body Bd
  have e0 : s₁.heap = h0 := by rw [← hh, Bd.state]; rfl
  have N0 := Fr.nil n0
  have Z0 : n0 ≤ h0.size := O0.1 ▸ O0.2.1
  have pre0 : ∀ t, Steps p.tables e below (s₁.setTop (mkF m 0 #[.val (.ref x1), .val n2] [])) t → Steps p.tables e below (s₁.setTop (entryFrame m #[(.ref x1), n2] 2)) t := fun t k => castTop (ef_8_RN m x1 n2 R_n2) k
  have Kr : Keep h0 h0 [] := Keep.refl h0 _
  have hEL : EW Z a0 consts_1 := own_ew hw
  have wS : ∀ d ∈ Bundle.stringAtoms, d.before a0 Z = true := fun d hd => hw d (own_wsa d hd)
  have hS : s.Since s.vm 0 := (State.WarmedH.refl s).since 0
  have hk : 0 ≤ h0.size := Nat.zero_le _
  have C0 : CHr Z consts_1 s.vm h0 s.vm h0 := CHr.refl hCv
  obtain ⟨T1, h1, X1, e1, E1, A1, D1, -, st1⟩ := newO X0 hx hZ hown (hw _ (List.mem_of_getElem? (i := 55) rfl)) (hw _ (List.mem_of_getElem? (i := 28) rfl)) (hw _ (List.mem_of_getElem? (i := 29) rfl)) e0 (g := (mkF m 0 #[.val (.ref x1), .val n2] [])) rfl (hb hby d8_0) (by decide) (by decide)
  obtain ⟨b1, g1⟩ : ∃ z, z = (h0).size := ⟨_, rfl⟩
  rw [← g1] at A1 D1 st1
  have Zs2 : n0 ≤ (h1).size := Nat.le_trans Z0 E1.1
  have Os2 : Old Z n0 (h1) := O0.ext E1
  have Ks2 : Keep h0 (h1) [] := Kr.ext E1
  have Cs2 : CHr Z consts_1 s.vm h0 s.vm (h1) := C0.trans (CHr.ext E1 C0.1)
  have hk2 : 0 ≤ (h1).size := Nat.le_trans hk E1.1
  have D1_typeName : Fld Z h1 b1 "com/example/iron_wire/ironwire/definition/QualifierDefinition" "typeName" "Ljava/lang/String;" .null := D1 (Or.inr (hw _ (List.mem_of_getElem? (i := 45) rfl))) (ty := (.object "java/lang/String")) (by decide)
  have D1_value : Fld Z h1 b1 "com/example/iron_wire/ironwire/definition/QualifierDefinition" "value" "Ljava/lang/String;" .null := D1 (Or.inr (hw _ (List.mem_of_getElem? (i := 47) rfl))) (ty := (.object "java/lang/String")) (by decide)
  have D1_inheritedFrom : Fld Z h1 b1 "com/example/iron_wire/ironwire/definition/QualifierDefinition" "inheritedFrom" "Ljava/lang/String;" .null := D1 (Or.inr (hw _ (List.mem_of_getElem? (i := 49) rfl))) (ty := (.object "java/lang/String")) (by decide)
  have f3 := (F_x1_typeName.ext E1)
  obtain ⟨T4, X4, e4, st4⟩ := getF X1 hx hZ hown (host := "") (Or.inl (hw _ (List.mem_of_getElem? (i := 44) rfl))) Via.refl e1 f3 (g := (mkF m 5 #[.val (.ref x1), .val n2] [(.ref x1), (.ref b1), (.ref b1)])) rfl rfl (hb hby d8_5)
  have f5 := (F_x1_value.ext E1)
  obtain ⟨T6, X6, e6, st6⟩ := getF X4 hx hZ hown (host := "") (Or.inl (hw _ (List.mem_of_getElem? (i := 46) rfl))) Via.refl e4 f5 (g := (mkF m 9 #[.val (.ref x1), .val n2] [(.ref x1), (.ref x3), (.ref b1), (.ref b1)])) rfl rfl (hb hby d8_9)
  have f7 := (F_x1_inheritedFrom.ext E1)
  obtain ⟨T8, X8, e8, st8⟩ := getF X6 hx hZ hown (host := "") (Or.inl (hw _ (List.mem_of_getElem? (i := 48) rfl))) Via.refl e6 f7 (g := (mkF m 13 #[.val (.ref x1), .val n2] [(.ref x1), n4, (.ref x3), (.ref b1), (.ref b1)])) rfl rfl (hb hby d8_13)
  obtain ⟨T9, X9, e9, st9⟩ := getF X8 hx hZ hown (host := "") (Or.inl (hw _ (List.mem_of_getElem? (i := 48) rfl))) Via.refl e8 f7 (g := (mkF m 24 #[.val (.ref x1), .val n2] [(.ref x1), n4, (.ref x3), (.ref b1), (.ref b1)])) rfl rfl (hb hby d8_24)
  obtain ⟨_, _, ⟨T10, L10, k10, n10⟩, -, Xq10, Sq10, gq10, ⟨Lc10, hQ10, l10, y10, z10, Cq10⟩, st10⟩ := X9.specialBackS hx (y := (⟨"com/example/iron_wire/ironwire/definition/QualifierDefinition", "<init>", "(Ljava/lang/String;Ljava/lang/String;Ljava/lang/String;)V"⟩ : MethodName)) rfl hown (mvT hZ (hw _ (List.mem_of_getElem? (i := 56) rfl))) (mvT hZ (hw _ (List.mem_of_getElem? (i := 31) rfl))) (mvT hZ (hw _ (List.mem_of_getElem? (i := 32) rfl))) (by decide) (own_backH (xs := []) (W := 1) (rm5_9 l Z a0 hw [] cz b1 x3 n4 x5 h1 n0 Os2 P A1 D1_typeName (Nat.le_trans Z0 (Nat.le_of_eq g1.symm)) R_n4 D1_value D1_inheritedFrom) hZ (hw _ (List.mem_of_getElem? (i := 32) rfl)) (hw _ (List.mem_of_getElem? (i := 29) rfl)) (by decide) (by decide) hEL Cs2.1 own_sx0) (g := (mkF m 27 #[.val (.ref x1), .val n2] [(.ref x5), n4, (.ref x3), (.ref b1), (.ref b1)])) rfl (by rw [hml]; rfl) (Steps.refl _) (a := b1) (argsL := [(.ref x3), n4, (.ref x5)]) (rest := [(.ref b1)]) (lenOf pd_5 rfl) rfl (by show 2 * 0 + _ ≤ _; exact Nat.le_of_eq rfl) (hb hby d8_27) (fun _ _ => ⟨rfl, e9, (by decide : 1 + 2 ≤ _), (by decide : 3 + 36 ≤ _)⟩)
  dsimp only [Pt.U, Pt.locs, Pt.cells, Pt.slots] at Xq10 Sq10 gq10 l10 y10 z10 st10 hQ10 Cq10
  subst l10 y10 z10
  obtain ⟨X10, hS10, hZ10, hown10⟩ := rebS hS (show _ ≤ T9.heap.size by rw [e9]; exact hk2) Xq10 Sq10 gq10 hZ hown
  have hkq10 : T10.heap.size ≤ (T10.heap).size := Nat.le_refl _
  obtain ⟨rfl, N10q, K10, q10_0, q10_1, q10_2⟩ := hQ10
  have N10 := Fr.app N0 N10q
  have Ks11 : Keep h0 (T10.heap) [] := Ks2.trans K10 (allS (Or.inr (Nat.le_trans Kr.1 (Nat.le_of_eq g1.symm))) all0)
  have Zs11 : n0 ≤ (T10.heap).size := Nat.le_trans Zs2 K10.1
  have Os11 : Old Z n0 (T10.heap) := Os2.keep K10 (allS (Nat.le_trans Z0 (Nat.le_of_eq g1.symm)) all0)
  have Cs11 : CHr Z consts_1 s.vm h0 T10.vm (T10.heap) := Cs2.trans Cq10
  have hk11 : T10.heap.size ≤ (T10.heap).size := hkq10
  have f12 := (A1.keep K10)
  have Cend := Cs11.trans (CHv.at X10 hZ10 hEL Cs11.1)
  obtain ⟨fs, hr, hrun, hended, hREW⟩ := X10.leaveW hS10 hk11 (v := some (.ref b1)) (fun h => by rw [Bd.returns] at h; cases h)
  refine ⟨_, _, pre0 _ ?_, hrun, hended, _, _, rfl, ?_, ?_, own_rew hREW (by decide) (by decide)⟩
  · show Steps p.tables e below (s₁.setTop (mkF m 0 #[.val (.ref x1), .val n2] [])) _
    refine st1 _ ?_
    show Steps p.tables e below (T1.setTop (mkF m 3 #[.val (.ref x1), .val n2] [(.ref b1)])) _
    refine XS.dup X1.here hx rfl (hb hby d8_3) rfl rfl ?_
    show Steps p.tables e below (T1.setTop (mkF m 4 #[.val (.ref x1), .val n2] [(.ref b1), (.ref b1)])) _
    refine XS.aloadN X1.here hx rfl (hb hby d8_4) rfl rfl ?_
    show Steps p.tables e below (T1.setTop (mkF m 5 #[.val (.ref x1), .val n2] [(.ref x1), (.ref b1), (.ref b1)])) _
    refine st4 _ ?_
    show Steps p.tables e below (T4.setTop (mkF m 8 #[.val (.ref x1), .val n2] [(.ref x3), (.ref b1), (.ref b1)])) _
    refine XS.aloadN X4.here hx rfl (hb hby d8_8) rfl rfl ?_
    show Steps p.tables e below (T4.setTop (mkF m 9 #[.val (.ref x1), .val n2] [(.ref x1), (.ref x3), (.ref b1), (.ref b1)])) _
    refine st6 _ ?_
    show Steps p.tables e below (T6.setTop (mkF m 12 #[.val (.ref x1), .val n2] [n4, (.ref x3), (.ref b1), (.ref b1)])) _
    refine XS.aloadN X6.here hx rfl (hb hby d8_12) rfl rfl ?_
    show Steps p.tables e below (T6.setTop (mkF m 13 #[.val (.ref x1), .val n2] [(.ref x1), n4, (.ref x3), (.ref b1), (.ref b1)])) _
    refine st8 _ ?_
    show Steps p.tables e below (T8.setTop (mkF m 16 #[.val (.ref x1), .val n2] [(.ref x5), n4, (.ref x3), (.ref b1), (.ref b1)])) _
    refine XS.ifnonnullYes X8.here hx rfl (pc0 := 16) (pc' := 23) rfl (hb hby d8_16) rfl (by decide) (by decide) ?_
    show Steps p.tables e below (T8.setTop (mkF m 23 #[.val (.ref x1), .val n2] [n4, (.ref x3), (.ref b1), (.ref b1)])) _
    refine XS.aloadN X8.here hx rfl (hb hby d8_23) rfl rfl ?_
    show Steps p.tables e below (T8.setTop (mkF m 24 #[.val (.ref x1), .val n2] [(.ref x1), n4, (.ref x3), (.ref b1), (.ref b1)])) _
    refine st9 _ ?_
    show Steps p.tables e below (T9.setTop (mkF m 27 #[.val (.ref x1), .val n2] [(.ref x5), n4, (.ref x3), (.ref b1), (.ref b1)])) _
    refine st10.trans ?_
    show Steps p.tables e below (T10.setTop (mkF m 30 #[.val (.ref x1), .val n2] [(.ref b1)])) _
    exact retOut X10 hx Bd.returns rfl (Or.inr (Or.inr (Or.inr (Or.inr ⟨rfl, rfl, rfl⟩)))) (hb hby d8_30) hr
  · show QrmI_1 Z cz x1 n2 x3 n4 x5 h0 n0 _ T10.heap _
    exact ⟨b1, rfl, N10, Ks11, (Nat.le_trans Kr.1 (Nat.le_of_eq g1.symm)), f12, q10_0, q10_1, q10_2⟩
  · rw [hh]
    show CHr Z consts_1 s.vm h0 T10.vm T10.heap
    exact Cend
def QrmI (Z : State) (cz : Int32) (x1 : Addr) (n2 : Value) (x3 : Addr) (n4 : Value) (ne : Value) (h0 : Heap) (n0 : Nat) (v : Option Value) (h : Heap) (L : List Loc) : Prop := ∃ y1 : Addr, v = some (.ref y1) ∧ Fr n0 L ∧ Keep h0 h [] ∧ h0.size ≤ y1 ∧ Exa Z h y1 "com/example/iron_wire/ironwire/definition/QualifierDefinition" ∧ Fld Z h y1 "com/example/iron_wire/ironwire/definition/QualifierDefinition" "typeName" "Ljava/lang/String;" (.ref x3) ∧ Fld Z h y1 "com/example/iron_wire/ironwire/definition/QualifierDefinition" "value" "Ljava/lang/String;" n4 ∧ Fld Z h y1 "com/example/iron_wire/ironwire/definition/QualifierDefinition" "inheritedFrom" "Ljava/lang/String;" ne
theorem rmI (l : Launch) (Z : State) (a0 : Array Value) (hw : ∀ d ∈ tables_1, d.before a0 Z = true) (ws : List Jvm.Cond) (cz : Int32) (x1 : Addr) (n2 : Value) (x3 : Addr) (n4 : Value) (ne : Value) (nf : Value) (h0 : Heap) (n0 : Nat) (O0 : Old Z n0 h0) (P : Pins Z cz) (he : ne = own_or nf n2) (Rf : nf.isRef = true) (F_x1_typeName : Fld Z h0 x1 "com/example/iron_wire/ironwire/definition/QualifierDefinition" "typeName" "Ljava/lang/String;" (.ref x3)) (F_x1_value : Fld Z h0 x1 "com/example/iron_wire/ironwire/definition/QualifierDefinition" "value" "Ljava/lang/String;" n4) (F_x1_inheritedFrom : Fld Z h0 x1 "com/example/iron_wire/ironwire/definition/QualifierDefinition" "inheritedFrom" "Ljava/lang/String;" nf) (R_n4 : n4.isRef = true) (R_n2 : n2.isRef = true) :
    MetFree l (⟨"com/example/iron_wire/ironwire/definition/QualifierDefinition", "inherited", "(Ljava/lang/String;)Lcom/example/iron_wire/ironwire/definition/QualifierDefinition;"⟩ : MethodName) (head1 (Jvm.Cond.code (⟨"com/example/iron_wire/ironwire/definition/QualifierDefinition", "inherited", "(Ljava/lang/String;)Lcom/example/iron_wire/ironwire/definition/QualifierDefinition;"⟩ : MethodName) prog_49_method_3_code 2 (some (.object "com/example/iron_wire/ironwire/definition/QualifierDefinition")) :: ws) ({ frames := 3, cells := 3, slots := 39, locals := 40 } : Room)) (fun a U => a = #[(.ref x1), n2] ∧ Z.Warmed39 U.vm ∧ U.heap = h0 ∧ CHv Z consts_1 U.vm h0 ∧ ∀ x ∈ ([] : List Addr), Safe Z consts_1 U.vm h0 x) (fun _ _ _ _ _ => True) (fun _ U o U' => ∃ v L, o = .returned v ∧ QrmI Z cz x1 n2 x3 n4 ne h0 n0 v U'.heap L ∧ CHr Z consts_1 U.vm U.heap U'.vm U'.heap ∧ ReturnedEndW U o U' L ({ frames := 3, cells := 3, slots := 39, locals := 40 } : Room).cells ({ frames := 3, cells := 3, slots := 39, locals := 40 } : Room).slots) := by
  subst he
  rcases ref_cases Rf with rfl | ⟨a, rfl⟩
  · exact rmI_0 l Z a0 hw ws cz x1 n2 x3 n4 h0 n0 O0 P F_x1_typeName F_x1_value F_x1_inheritedFrom R_n2 R_n4
  · exact rmI_1 l Z a0 hw ws cz x1 n2 x3 n4 a h0 n0 O0 P F_x1_typeName F_x1_value F_x1_inheritedFrom R_n4 R_n2
theorem pd_6 : parseMethodDescriptor "(Ljava/lang/String;)Lcom/example/iron_wire/ironwire/definition/QualifierDefinition;" = some ⟨[(.object "java/lang/String")], some (.object "com/example/iron_wire/ironwire/definition/QualifierDefinition")⟩ := by decide +kernel
theorem d9_0 : decode prog_49_method_7_code 0 = .ok (.aload_n 0, 1) := by decide +kernel
theorem d9_1 : decode prog_49_method_7_code 1 = .ok (.getfield 15, 3) := by decide +kernel
theorem d9_4 : decode prog_49_method_7_code 4 = .ok (.areturn, 1) := by decide +kernel
theorem ef_9_R (m : MethodId) (x0 : Addr) : entryFrame m #[(.ref x0)] 1 = mkF m 0 #[.val (.ref x0)] [] := by first | (simp [entryFrame, mkF, argsToLocals, Value.category]; done) | rfl
def Qrm9_12 (Z : State) (cz : Int32) (x1 : Addr) (x2 : Addr) (h0 : Heap) (n0 : Nat) (v : Option Value) (h : Heap) (L : List Loc) : Prop := v = some (.ref x2) ∧ Fr n0 L ∧ h = h0
set_option maxRecDepth 65536 in
set_option maxHeartbeats 40000000 in
theorem rm9_12 (l : Launch) (Z : State) (a0 : Array Value) (hw : ∀ d ∈ tables_1, d.before a0 Z = true) (ws : List Jvm.Cond) (cz : Int32) (x1 : Addr) (x2 : Addr) (h0 : Heap) (n0 : Nat) (O0 : Old Z n0 h0) (P : Pins Z cz) (F_x1_typeName : Fld Z h0 x1 "com/example/iron_wire/ironwire/definition/QualifierDefinition" "typeName" "Ljava/lang/String;" (.ref x2)) :
    MetFree l (⟨"com/example/iron_wire/ironwire/definition/QualifierDefinition", "typeName", "()Ljava/lang/String;"⟩ : MethodName) (head1 (Jvm.Cond.code (⟨"com/example/iron_wire/ironwire/definition/QualifierDefinition", "typeName", "()Ljava/lang/String;"⟩ : MethodName) prog_49_method_7_code 1 (some (.object "java/lang/String")) :: ws) ({ frames := 0, cells := 0, slots := 0, locals := 0 } : Room)) (fun a U => a = #[(.ref x1)] ∧ Z.Warmed39 U.vm ∧ U.heap = h0) (fun _ _ _ _ _ => True) (fun _ U o U' => ∃ v L, o = .returned v ∧ Qrm9_12 Z cz x1 x2 h0 n0 v U'.heap L ∧ FrameEnd U o U' L ({ frames := 0, cells := 0, slots := 0, locals := 0 } : Room).cells ({ frames := 0, cells := 0, slots := 0, locals := 0 } : Room).slots) := by
  refine MetFree.of_bodySF (plainFor_of_name pn_com_example_iron_wire_ironwire_definition_QualifierDefinition) hisR ?_
  intro p e s m args below meth c s₁ Bd hml0 hP hK
  obtain ⟨rfl, hZ, hh⟩ := hP
  have hx := Bd.exec
  have hby := Bd.bytes
  have hml : c.maxLocals = 1 := hml0
  have hown : s.vm.findClass "com/example/iron_wire/ironwire/definition/QualifierDefinition" = some m.cls := findClass_of_methodNamed Bd.named
  have hnm := (name_of_methodNamed Bd.named Bd.method).1
  have X0 : Stand p l e ({ frames := 0, cells := 0, slots := 0, locals := 0 } : Room) s m #[(.ref x1)] below meth c s₁ [] 0 0 := Stand.of_body Bd
  have e0 : s₁.heap = h0 := by rw [← hh, Bd.state]; rfl
  have N0 := Fr.nil n0
  have Z0 : n0 ≤ h0.size := O0.1 ▸ O0.2.1
  have pre0 : ∀ t, Steps p.tables e below (s₁.setTop (mkF m 0 #[.val (.ref x1)] [])) t → Steps p.tables e below (s₁.setTop (entryFrame m #[(.ref x1)] 1)) t := fun t k => castTop (ef_9_R m x1) k
  obtain ⟨T1, X1, e1, st1⟩ := getF X0 hx hZ hown (host := "") (Or.inl (hw _ (List.mem_of_getElem? (i := 44) rfl))) Via.refl e0 F_x1_typeName (g := (mkF m 1 #[.val (.ref x1)] [(.ref x1)])) rfl rfl (hb hby d9_1)
  obtain ⟨fs, hr, hrun, hended, hW, hsame⟩ := X1.leave (v := some (.ref x2)) (fun h => by rw [Bd.returns] at h; cases h)
  refine ⟨_, _, pre0 _ ?_, hrun, hended, _, _, rfl, ?_, ⟨_, rfl⟩, hW, hsame.mono (by decide) (by decide)⟩
  · show Steps p.tables e below (s₁.setTop (mkF m 0 #[.val (.ref x1)] [])) _
    refine XS.aloadN X0.here hx rfl (hb hby d9_0) rfl rfl ?_
    show Steps p.tables e below (s₁.setTop (mkF m 1 #[.val (.ref x1)] [(.ref x1)])) _
    refine st1 _ ?_
    show Steps p.tables e below (T1.setTop (mkF m 4 #[.val (.ref x1)] [(.ref x2)])) _
    exact retOut X1 hx Bd.returns rfl (Or.inr (Or.inr (Or.inr (Or.inr ⟨rfl, rfl, rfl⟩)))) (hb hby d9_4) hr
  · exact ⟨rfl, N0, e1⟩
theorem pd_7 : parseMethodDescriptor "()Ljava/lang/String;" = some ⟨[], some (.object "java/lang/String")⟩ := by decide +kernel
theorem d10_0 : decode method_3_code 0 = .ok (.aload_n 0, 1) := by decide +kernel
theorem d10_1 : decode method_3_code 1 = .ok (.ifnonnull 13, 3) := by decide +kernel
theorem d10_14 : decode method_3_code 14 = .ok (.aload_n 1, 1) := by decide +kernel
theorem d10_15 : decode method_3_code 15 = .ok (.ifnull 15, 3) := by decide +kernel
theorem d10_18 : decode method_3_code 18 = .ok (.aload_n 0, 1) := by decide +kernel
theorem d10_19 : decode method_3_code 19 = .ok (.aload_n 1, 1) := by decide +kernel
theorem d10_20 : decode method_3_code 20 = .ok (.invokevirtual 13, 3) := by decide +kernel
theorem d11_0 : decode jdk_42_method_66_code 0 = .ok (.aload_n 0, 1) := by decide +kernel
theorem d11_1 : decode jdk_42_method_66_code 1 = .ok (.aload_n 1, 1) := by decide +kernel
theorem d11_2 : decode jdk_42_method_66_code 2 = .ok (.if_acmp .ne 5, 3) := by decide +kernel
theorem d11_5 : decode jdk_42_method_66_code 5 = .ok (.iconst 1, 1) := by decide +kernel
theorem d11_6 : decode jdk_42_method_66_code 6 = .ok (.ireturn, 1) := by decide +kernel
theorem ef_11_RR (m : MethodId) (x0 : Addr) (x1 : Addr) : entryFrame m #[(.ref x0), (.ref x1)] 3 = mkF m 0 #[.val (.ref x0), .val (.ref x1), .unset] [] := by first | (simp [entryFrame, mkF, argsToLocals, Value.category]; done) | rfl
def Qrm11_13 (Z : State) (cz : Int32) (x1 : Addr) (h0 : Heap) (n0 : Nat) (v : Option Value) (h : Heap) (L : List Loc) : Prop := v = some (.int (1 : Int32)) ∧ Fr n0 L ∧ h = h0
set_option maxRecDepth 65536 in
set_option maxHeartbeats 40000000 in
theorem rm11_13 (l : Launch) (Z : State) (a0 : Array Value) (hw : ∀ d ∈ tables_1, d.before a0 Z = true) (ws : List Jvm.Cond) (cz : Int32) (x1 : Addr) (h0 : Heap) (n0 : Nat) (O0 : Old Z n0 h0) (P : Pins Z cz) :
    MetFree l (⟨"java/lang/String", "equals", "(Ljava/lang/Object;)Z"⟩ : MethodName) (head1 (Jvm.Cond.code (⟨"java/lang/String", "equals", "(Ljava/lang/Object;)Z"⟩ : MethodName) jdk_42_method_66_code 3 (some .boolean) :: ws) ({ frames := 0, cells := 0, slots := 0, locals := 0 } : Room)) (fun a U => a = #[(.ref x1), (.ref x1)] ∧ Z.Warmed39 U.vm ∧ U.heap = h0) (fun _ _ _ _ _ => True) (fun _ U o U' => ∃ v L, o = .returned v ∧ Qrm11_13 Z cz x1 h0 n0 v U'.heap L ∧ FrameEnd U o U' L ({ frames := 0, cells := 0, slots := 0, locals := 0 } : Room).cells ({ frames := 0, cells := 0, slots := 0, locals := 0 } : Room).slots) := by
  refine MetFree.of_bodySF (plainFor_of_name pn_java_lang_String) hisR ?_
  intro p e s m args below meth c s₁ Bd hml0 hP hK
  obtain ⟨rfl, hZ, hh⟩ := hP
  have hx := Bd.exec
  have hby := Bd.bytes
  have hml : c.maxLocals = 3 := hml0
  have hown : s.vm.findClass "java/lang/String" = some m.cls := findClass_of_methodNamed Bd.named
  have hnm := (name_of_methodNamed Bd.named Bd.method).1
  have X0 : Stand p l e ({ frames := 0, cells := 0, slots := 0, locals := 0 } : Room) s m #[(.ref x1), (.ref x1)] below meth c s₁ [] 0 0 := Stand.of_body Bd
  have e0 : s₁.heap = h0 := by rw [← hh, Bd.state]; rfl
  have N0 := Fr.nil n0
  have Z0 : n0 ≤ h0.size := O0.1 ▸ O0.2.1
  have pre0 : ∀ t, Steps p.tables e below (s₁.setTop (mkF m 0 #[.val (.ref x1), .val (.ref x1), .unset] [])) t → Steps p.tables e below (s₁.setTop (entryFrame m #[(.ref x1), (.ref x1)] 3)) t := fun t k => castTop (ef_11_RR m x1 x1) k
  obtain ⟨fs, hr, hrun, hended, hW, hsame⟩ := X0.leave (v := some (.int (1 : Int32))) (fun h => by rw [Bd.returns] at h; cases h)
  refine ⟨_, _, pre0 _ ?_, hrun, hended, _, _, rfl, ?_, ⟨_, rfl⟩, hW, hsame.mono (by decide) (by decide)⟩
  · show Steps p.tables e below (s₁.setTop (mkF m 0 #[.val (.ref x1), .val (.ref x1), .unset] [])) _
    refine XS.aloadN X0.here hx rfl (hb hby d11_0) rfl rfl ?_
    show Steps p.tables e below (s₁.setTop (mkF m 1 #[.val (.ref x1), .val (.ref x1), .unset] [(.ref x1)])) _
    refine XS.aloadN X0.here hx rfl (hb hby d11_1) rfl rfl ?_
    show Steps p.tables e below (s₁.setTop (mkF m 2 #[.val (.ref x1), .val (.ref x1), .unset] [(.ref x1), (.ref x1)])) _
    refine Jvm.RoadKit.acmp (g := (mkF m 2 #[.val (.ref x1), .val (.ref x1), .unset] [(.ref x1), (.ref x1)])) X0 hx rfl rfl rfl (pc0 := 2) (pc' := 5) (same := true) rfl (hb hby d11_2) rfl (decide_eq_true rfl) (by decide) (by decide) ?_
    show Steps p.tables e below (s₁.setTop (mkF m 5 #[.val (.ref x1), .val (.ref x1), .unset] [])) _
    refine XS.iconst X0.here hx rfl (hb hby d11_5) ?_
    show Steps p.tables e below (s₁.setTop (mkF m 6 #[.val (.ref x1), .val (.ref x1), .unset] [(.int (1 : Int32))])) _
    exact retN X0 hx (t := .boolean) Bd.returns (by simp) (hb hby d11_6) hr
  · exact ⟨rfl, N0, e0⟩
theorem pd_8 : parseMethodDescriptor "(Ljava/lang/Object;)Z" = some ⟨[(.object "java/lang/Object")], some .boolean⟩ := by decide +kernel
theorem d10_23 : decode method_3_code 23 = .ok (.ifCond .eq 7, 3) := by decide +kernel
theorem d10_26 : decode method_3_code 26 = .ok (.iconst 1, 1) := by decide +kernel
theorem d10_27 : decode method_3_code 27 = .ok (.goto 4, 3) := by decide +kernel
theorem d10_31 : decode method_3_code 31 = .ok (.ireturn, 1) := by decide +kernel
theorem ef_10_RR (m : MethodId) (x0 : Addr) (x1 : Addr) : entryFrame m #[(.ref x0), (.ref x1)] 2 = mkF m 0 #[.val (.ref x0), .val (.ref x1)] [] := by first | (simp [entryFrame, mkF, argsToLocals, Value.category]; done) | rfl
def Qrm10_14 (Z : State) (cz : Int32) (x1 : Addr) (h0 : Heap) (n0 : Nat) (v : Option Value) (h : Heap) (L : List Loc) : Prop := v = some (.int (1 : Int32)) ∧ Fr n0 L ∧ h = h0
set_option maxRecDepth 65536 in
set_option maxHeartbeats 40000000 in
theorem rm10_14 (l : Launch) (Z : State) (a0 : Array Value) (hw : ∀ d ∈ tables_1, d.before a0 Z = true) (ws : List Jvm.Cond) (cz : Int32) (x1 : Addr) (h0 : Heap) (n0 : Nat) (O0 : Old Z n0 h0) (P : Pins Z cz) (E_x1 : Exa Z h0 x1 "java/lang/String") :
    MetFree l (⟨"com/example/iron_wire/ironwire/definition/QualifierDefinitionInheritedPinLaw", "same", "(Ljava/lang/String;Ljava/lang/String;)Z"⟩ : MethodName) (head1 (Jvm.Cond.code (⟨"com/example/iron_wire/ironwire/definition/QualifierDefinitionInheritedPinLaw", "same", "(Ljava/lang/String;Ljava/lang/String;)Z"⟩ : MethodName) method_3_code 2 (some .boolean) :: ws) ({ frames := 1, cells := 0, slots := 0, locals := 14 } : Room)) (fun a U => a = #[(.ref x1), (.ref x1)] ∧ Z.Warmed39 U.vm ∧ U.heap = h0) (fun _ _ _ _ _ => True) (fun _ U o U' => ∃ v L, o = .returned v ∧ Qrm10_14 Z cz x1 h0 n0 v U'.heap L ∧ FrameEnd U o U' L ({ frames := 1, cells := 0, slots := 0, locals := 14 } : Room).cells ({ frames := 1, cells := 0, slots := 0, locals := 14 } : Room).slots) := by
  refine MetFree.of_bodySF (plainFor_of_name pn_com_example_iron_wire_ironwire_definition_QualifierDefinitionInheritedPinLaw) hisR ?_
  intro p e s m args below meth c s₁ Bd hml0 hP hK
  obtain ⟨rfl, hZ, hh⟩ := hP
  have hx := Bd.exec
  have hby := Bd.bytes
  have hml : c.maxLocals = 2 := hml0
  have hown : s.vm.findClass "com/example/iron_wire/ironwire/definition/QualifierDefinitionInheritedPinLaw" = some m.cls := findClass_of_methodNamed Bd.named
  have hnm := (name_of_methodNamed Bd.named Bd.method).1
  have X0 : Stand p l e ({ frames := 1, cells := 0, slots := 0, locals := 14 } : Room) s m #[(.ref x1), (.ref x1)] below meth c s₁ [] 0 0 := Stand.of_body Bd
  have e0 : s₁.heap = h0 := by rw [← hh, Bd.state]; rfl
  have N0 := Fr.nil n0
  have Z0 : n0 ≤ h0.size := O0.1 ▸ O0.2.1
  have pre0 : ∀ t, Steps p.tables e below (s₁.setTop (mkF m 0 #[.val (.ref x1), .val (.ref x1)] [])) t → Steps p.tables e below (s₁.setTop (entryFrame m #[(.ref x1), (.ref x1)] 2)) t := fun t k => castTop (ef_10_RR m x1 x1) k
  obtain ⟨cq1, kq1, q1a, q1b, q1c⟩ := isOf hZ e0 E_x1
  obtain ⟨_, _, ⟨T1, L1, k1, n1⟩, -, X1, ⟨Lc1, hQ1, l1, y1, z1⟩, st1⟩ := X0.virtualBack hx (y := (⟨"java/lang/String", "equals", "(Ljava/lang/Object;)Z"⟩ : MethodName)) (z := (⟨"java/lang/String", "equals", "(Ljava/lang/Object;)Z"⟩ : MethodName)) hown (mvT hZ (hw _ (List.mem_of_getElem? (i := 65) rfl))) (mvT hZ (hw _ (List.mem_of_getElem? (i := 66) rfl))) (notFace_of_selects (args := #[]) (mvT hZ (hw _ (List.mem_of_getElem? (i := 68) rfl)))) (mvT hZ (hw _ (List.mem_of_getElem? (i := 68) rfl))) (mvT hZ (hw _ (List.mem_of_getElem? (i := 67) rfl))) (by decide) (backOf (W := 0) (rm11_13 l Z a0 hw [] cz x1 h0 n0 O0 P ) hZ (hw _ (List.mem_of_getElem? (i := 69) rfl)) (hw _ (List.mem_of_getElem? (i := 8) rfl)) (by decide) (by decide)) q1a q1c (g := (mkF m 20 #[.val (.ref x1), .val (.ref x1)] [(.ref x1), (.ref x1)])) rfl (by rw [hml]; rfl) (Steps.refl _) (argsL := [(.ref x1)]) (rest := []) (lenOf pd_8 rfl) rfl (by show 2 * 0 + _ ≤ _; exact Nat.le_of_eq rfl) (hb hby d10_20) (fun _ _ => ⟨rfl, e0, (by decide : 0 + 0 ≤ _), (by decide : 0 + 0 ≤ _)⟩)
  dsimp only [Pt.U, Pt.locs, Pt.cells, Pt.slots] at X1 l1 y1 z1 st1 hQ1
  subst l1 y1 z1
  obtain ⟨rfl, N1q, e1⟩ := hQ1
  have N1 := Fr.app N0 N1q
  obtain ⟨fs, hr, hrun, hended, hW, hsame⟩ := X1.leave (v := some (.int (1 : Int32))) (fun h => by rw [Bd.returns] at h; cases h)
  refine ⟨_, _, pre0 _ ?_, hrun, hended, _, _, rfl, ?_, ⟨_, rfl⟩, hW, hsame.mono (by decide) (by decide)⟩
  · show Steps p.tables e below (s₁.setTop (mkF m 0 #[.val (.ref x1), .val (.ref x1)] [])) _
    refine XS.aloadN X0.here hx rfl (hb hby d10_0) rfl rfl ?_
    show Steps p.tables e below (s₁.setTop (mkF m 1 #[.val (.ref x1), .val (.ref x1)] [(.ref x1)])) _
    refine XS.ifnonnullYes X0.here hx rfl (pc0 := 1) (pc' := 14) rfl (hb hby d10_1) rfl (by decide) (by decide) ?_
    show Steps p.tables e below (s₁.setTop (mkF m 14 #[.val (.ref x1), .val (.ref x1)] [])) _
    refine XS.aloadN X0.here hx rfl (hb hby d10_14) rfl rfl ?_
    show Steps p.tables e below (s₁.setTop (mkF m 15 #[.val (.ref x1), .val (.ref x1)] [(.ref x1)])) _
    refine XS.ifnullNo X0.here hx rfl (hb hby d10_15) rfl ?_
    show Steps p.tables e below (s₁.setTop (mkF m 18 #[.val (.ref x1), .val (.ref x1)] [])) _
    refine XS.aloadN X0.here hx rfl (hb hby d10_18) rfl rfl ?_
    show Steps p.tables e below (s₁.setTop (mkF m 19 #[.val (.ref x1), .val (.ref x1)] [(.ref x1)])) _
    refine XS.aloadN X0.here hx rfl (hb hby d10_19) rfl rfl ?_
    show Steps p.tables e below (s₁.setTop (mkF m 20 #[.val (.ref x1), .val (.ref x1)] [(.ref x1), (.ref x1)])) _
    refine st1.trans ?_
    show Steps p.tables e below (T1.setTop (mkF m 23 #[.val (.ref x1), .val (.ref x1)] [(.int (1 : Int32))])) _
    refine XS.ifNo X1.here hx rfl (hb hby d10_23) rfl (by decide) ?_
    show Steps p.tables e below (T1.setTop (mkF m 26 #[.val (.ref x1), .val (.ref x1)] [])) _
    refine XS.iconst X1.here hx rfl (hb hby d10_26) ?_
    show Steps p.tables e below (T1.setTop (mkF m 27 #[.val (.ref x1), .val (.ref x1)] [(.int (1 : Int32))])) _
    refine XS.goto X1.here hx rfl (pc0 := 27) (pc' := 31) rfl (hb hby d10_27) (by decide) (by decide) ?_
    show Steps p.tables e below (T1.setTop (mkF m 31 #[.val (.ref x1), .val (.ref x1)] [(.int (1 : Int32))])) _
    exact retN X1 hx (t := .boolean) Bd.returns (by simp) (hb hby d10_31) hr
  · exact ⟨rfl, N1, e1⟩
theorem pd_9 : parseMethodDescriptor "(Ljava/lang/String;Ljava/lang/String;)Z" = some ⟨[(.object "java/lang/String"), (.object "java/lang/String")], some .boolean⟩ := by decide +kernel
theorem d12_0 : decode prog_49_method_8_code 0 = .ok (.aload_n 0, 1) := by decide +kernel
theorem d12_1 : decode prog_49_method_8_code 1 = .ok (.getfield 20, 3) := by decide +kernel
theorem d12_4 : decode prog_49_method_8_code 4 = .ok (.areturn, 1) := by decide +kernel
theorem ef_12_R (m : MethodId) (x0 : Addr) : entryFrame m #[(.ref x0)] 1 = mkF m 0 #[.val (.ref x0)] [] := by first | (simp [entryFrame, mkF, argsToLocals, Value.category]; done) | rfl
def Qrm12_15 (Z : State) (cz : Int32) (x1 : Addr) (n2 : Value) (h0 : Heap) (n0 : Nat) (v : Option Value) (h : Heap) (L : List Loc) : Prop := v = some n2 ∧ Fr n0 L ∧ h = h0
set_option maxRecDepth 65536 in
set_option maxHeartbeats 40000000 in
theorem rm12_15 (l : Launch) (Z : State) (a0 : Array Value) (hw : ∀ d ∈ tables_1, d.before a0 Z = true) (ws : List Jvm.Cond) (cz : Int32) (x1 : Addr) (n2 : Value) (h0 : Heap) (n0 : Nat) (O0 : Old Z n0 h0) (P : Pins Z cz) (F_x1_value : Fld Z h0 x1 "com/example/iron_wire/ironwire/definition/QualifierDefinition" "value" "Ljava/lang/String;" n2) (R_n2 : n2.isRef = true) :
    MetFree l (⟨"com/example/iron_wire/ironwire/definition/QualifierDefinition", "value", "()Ljava/lang/String;"⟩ : MethodName) (head1 (Jvm.Cond.code (⟨"com/example/iron_wire/ironwire/definition/QualifierDefinition", "value", "()Ljava/lang/String;"⟩ : MethodName) prog_49_method_8_code 1 (some (.object "java/lang/String")) :: ws) ({ frames := 0, cells := 0, slots := 0, locals := 0 } : Room)) (fun a U => a = #[(.ref x1)] ∧ Z.Warmed39 U.vm ∧ U.heap = h0) (fun _ _ _ _ _ => True) (fun _ U o U' => ∃ v L, o = .returned v ∧ Qrm12_15 Z cz x1 n2 h0 n0 v U'.heap L ∧ FrameEnd U o U' L ({ frames := 0, cells := 0, slots := 0, locals := 0 } : Room).cells ({ frames := 0, cells := 0, slots := 0, locals := 0 } : Room).slots) := by
  refine MetFree.of_bodySF (plainFor_of_name pn_com_example_iron_wire_ironwire_definition_QualifierDefinition) hisR ?_
  intro p e s m args below meth c s₁ Bd hml0 hP hK
  obtain ⟨rfl, hZ, hh⟩ := hP
  have hx := Bd.exec
  have hby := Bd.bytes
  have hml : c.maxLocals = 1 := hml0
  have hown : s.vm.findClass "com/example/iron_wire/ironwire/definition/QualifierDefinition" = some m.cls := findClass_of_methodNamed Bd.named
  have hnm := (name_of_methodNamed Bd.named Bd.method).1
  have X0 : Stand p l e ({ frames := 0, cells := 0, slots := 0, locals := 0 } : Room) s m #[(.ref x1)] below meth c s₁ [] 0 0 := Stand.of_body Bd
  have e0 : s₁.heap = h0 := by rw [← hh, Bd.state]; rfl
  have N0 := Fr.nil n0
  have Z0 : n0 ≤ h0.size := O0.1 ▸ O0.2.1
  have pre0 : ∀ t, Steps p.tables e below (s₁.setTop (mkF m 0 #[.val (.ref x1)] [])) t → Steps p.tables e below (s₁.setTop (entryFrame m #[(.ref x1)] 1)) t := fun t k => castTop (ef_12_R m x1) k
  obtain ⟨T1, X1, e1, st1⟩ := getF X0 hx hZ hown (host := "") (Or.inl (hw _ (List.mem_of_getElem? (i := 46) rfl))) Via.refl e0 F_x1_value (g := (mkF m 1 #[.val (.ref x1)] [(.ref x1)])) rfl rfl (hb hby d12_1)
  obtain ⟨fs, hr, hrun, hended, hW, hsame⟩ := X1.leave (v := some n2) (fun h => by rw [Bd.returns] at h; cases h)
  refine ⟨_, _, pre0 _ ?_, hrun, hended, _, _, rfl, ?_, ⟨_, rfl⟩, hW, hsame.mono (by decide) (by decide)⟩
  · show Steps p.tables e below (s₁.setTop (mkF m 0 #[.val (.ref x1)] [])) _
    refine XS.aloadN X0.here hx rfl (hb hby d12_0) rfl rfl ?_
    show Steps p.tables e below (s₁.setTop (mkF m 1 #[.val (.ref x1)] [(.ref x1)])) _
    refine st1 _ ?_
    show Steps p.tables e below (T1.setTop (mkF m 4 #[.val (.ref x1)] [n2])) _
    exact retOut X1 hx Bd.returns (own_nar R_n2) (Or.inr (Or.inr (Or.inr (Or.inr ⟨rfl, rfl, R_n2⟩)))) (hb hby d12_4) hr
  · exact ⟨rfl, N0, e1⟩
theorem d10_4 : decode method_3_code 4 = .ok (.aload_n 1, 1) := by decide +kernel
theorem d10_5 : decode method_3_code 5 = .ok (.ifnonnull 7, 3) := by decide +kernel
theorem d10_8 : decode method_3_code 8 = .ok (.iconst 1, 1) := by decide +kernel
theorem d10_9 : decode method_3_code 9 = .ok (.goto 4, 3) := by decide +kernel
theorem d10_13 : decode method_3_code 13 = .ok (.ireturn, 1) := by decide +kernel
theorem ef_10_00 (m : MethodId)  : entryFrame m #[.null, .null] 2 = mkF m 0 #[.val .null, .val .null] [] := by first | (simp [entryFrame, mkF, argsToLocals, Value.category]; done) | rfl
def QrmE_0 (Z : State) (cz : Int32)  (h0 : Heap) (n0 : Nat) (v : Option Value) (h : Heap) (L : List Loc) : Prop := v = some (.int (1 : Int32)) ∧ Fr n0 L ∧ h = h0
set_option maxRecDepth 65536 in
set_option maxHeartbeats 40000000 in
theorem rmE_0 (l : Launch) (Z : State) (a0 : Array Value) (hw : ∀ d ∈ tables_1, d.before a0 Z = true) (ws : List Jvm.Cond) (cz : Int32)  (h0 : Heap) (n0 : Nat) (O0 : Old Z n0 h0) (P : Pins Z cz) :
    MetFree l (⟨"com/example/iron_wire/ironwire/definition/QualifierDefinitionInheritedPinLaw", "same", "(Ljava/lang/String;Ljava/lang/String;)Z"⟩ : MethodName) (head1 (Jvm.Cond.code (⟨"com/example/iron_wire/ironwire/definition/QualifierDefinitionInheritedPinLaw", "same", "(Ljava/lang/String;Ljava/lang/String;)Z"⟩ : MethodName) method_3_code 2 (some .boolean) :: ws) ({ frames := 1, cells := 0, slots := 0, locals := 14 } : Room)) (fun a U => a = #[.null, .null] ∧ Z.Warmed39 U.vm ∧ U.heap = h0) (fun _ _ _ _ _ => True) (fun _ U o U' => ∃ v L, o = .returned v ∧ QrmE_0 Z cz  h0 n0 v U'.heap L ∧ FrameEnd U o U' L ({ frames := 1, cells := 0, slots := 0, locals := 14 } : Room).cells ({ frames := 1, cells := 0, slots := 0, locals := 14 } : Room).slots) := by
  refine MetFree.of_bodySF (plainFor_of_name pn_com_example_iron_wire_ironwire_definition_QualifierDefinitionInheritedPinLaw) hisR ?_
  intro p e s m args below meth c s₁ Bd hml0 hP hK
  obtain ⟨rfl, hZ, hh⟩ := hP
  have hx := Bd.exec
  have hby := Bd.bytes
  have hml : c.maxLocals = 2 := hml0
  have hown : s.vm.findClass "com/example/iron_wire/ironwire/definition/QualifierDefinitionInheritedPinLaw" = some m.cls := findClass_of_methodNamed Bd.named
  have hnm := (name_of_methodNamed Bd.named Bd.method).1
  have X0 : Stand p l e ({ frames := 1, cells := 0, slots := 0, locals := 14 } : Room) s m #[.null, .null] below meth c s₁ [] 0 0 := Stand.of_body Bd
  have e0 : s₁.heap = h0 := by rw [← hh, Bd.state]; rfl
  have N0 := Fr.nil n0
  have Z0 : n0 ≤ h0.size := O0.1 ▸ O0.2.1
  have pre0 : ∀ t, Steps p.tables e below (s₁.setTop (mkF m 0 #[.val .null, .val .null] [])) t → Steps p.tables e below (s₁.setTop (entryFrame m #[.null, .null] 2)) t := fun t k => castTop (ef_10_00 m ) k
  obtain ⟨fs, hr, hrun, hended, hW, hsame⟩ := X0.leave (v := some (.int (1 : Int32))) (fun h => by rw [Bd.returns] at h; cases h)
  refine ⟨_, _, pre0 _ ?_, hrun, hended, _, _, rfl, ?_, ⟨_, rfl⟩, hW, hsame.mono (by decide) (by decide)⟩
  · show Steps p.tables e below (s₁.setTop (mkF m 0 #[.val .null, .val .null] [])) _
    refine XS.aloadN X0.here hx rfl (hb hby d10_0) rfl rfl ?_
    show Steps p.tables e below (s₁.setTop (mkF m 1 #[.val .null, .val .null] [.null])) _
    refine XS.ifnonnullNo X0.here hx rfl (hb hby d10_1) rfl ?_
    show Steps p.tables e below (s₁.setTop (mkF m 4 #[.val .null, .val .null] [])) _
    refine XS.aloadN X0.here hx rfl (hb hby d10_4) rfl rfl ?_
    show Steps p.tables e below (s₁.setTop (mkF m 5 #[.val .null, .val .null] [.null])) _
    refine XS.ifnonnullNo X0.here hx rfl (hb hby d10_5) rfl ?_
    show Steps p.tables e below (s₁.setTop (mkF m 8 #[.val .null, .val .null] [])) _
    refine XS.iconst X0.here hx rfl (hb hby d10_8) ?_
    show Steps p.tables e below (s₁.setTop (mkF m 9 #[.val .null, .val .null] [(.int (1 : Int32))])) _
    refine XS.goto X0.here hx rfl (pc0 := 9) (pc' := 13) rfl (hb hby d10_9) (by decide) (by decide) ?_
    show Steps p.tables e below (s₁.setTop (mkF m 13 #[.val .null, .val .null] [(.int (1 : Int32))])) _
    exact retN X0 hx (t := .boolean) Bd.returns (by simp) (hb hby d10_13) hr
  · exact ⟨rfl, N0, e0⟩
theorem rmE (l : Launch) (Z : State) (a0 : Array Value) (hw : ∀ d ∈ tables_1, d.before a0 Z = true) (ws : List Jvm.Cond) (cz : Int32)  (n1 : Value) (h0 : Heap) (n0 : Nat) (O0 : Old Z n0 h0) (P : Pins Z cz) (B : StrN Z h0 n1) :
    MetFree l (⟨"com/example/iron_wire/ironwire/definition/QualifierDefinitionInheritedPinLaw", "same", "(Ljava/lang/String;Ljava/lang/String;)Z"⟩ : MethodName) (head1 (Jvm.Cond.code (⟨"com/example/iron_wire/ironwire/definition/QualifierDefinitionInheritedPinLaw", "same", "(Ljava/lang/String;Ljava/lang/String;)Z"⟩ : MethodName) method_3_code 2 (some .boolean) :: ws) ({ frames := 1, cells := 0, slots := 0, locals := 14 } : Room)) (fun a U => a = #[n1, n1] ∧ Z.Warmed39 U.vm ∧ U.heap = h0) (fun _ _ _ _ _ => True) (fun _ U o U' => ∃ v L, o = .returned v ∧ QrmE_0 Z cz  h0 n0 v U'.heap L ∧ FrameEnd U o U' L ({ frames := 1, cells := 0, slots := 0, locals := 14 } : Room).cells ({ frames := 1, cells := 0, slots := 0, locals := 14 } : Room).slots) := by
  rcases B with rfl | ⟨a, rfl, E⟩
  · exact rmE_0 l Z a0 hw ws cz h0 n0 O0 P
  · exact rm10_14 l Z a0 hw ws cz a h0 n0 O0 P E
theorem d13_0 : decode prog_49_method_9_code 0 = .ok (.aload_n 0, 1) := by decide +kernel
theorem d13_1 : decode prog_49_method_9_code 1 = .ok (.getfield 23, 3) := by decide +kernel
theorem d13_4 : decode prog_49_method_9_code 4 = .ok (.areturn, 1) := by decide +kernel
theorem ef_13_R (m : MethodId) (x0 : Addr) : entryFrame m #[(.ref x0)] 1 = mkF m 0 #[.val (.ref x0)] [] := by first | (simp [entryFrame, mkF, argsToLocals, Value.category]; done) | rfl
def Qrm13_17 (Z : State) (cz : Int32) (x1 : Addr) (n2 : Value) (h0 : Heap) (n0 : Nat) (v : Option Value) (h : Heap) (L : List Loc) : Prop := v = some n2 ∧ Fr n0 L ∧ h = h0
set_option maxRecDepth 65536 in
set_option maxHeartbeats 40000000 in
theorem rm13_17 (l : Launch) (Z : State) (a0 : Array Value) (hw : ∀ d ∈ tables_1, d.before a0 Z = true) (ws : List Jvm.Cond) (cz : Int32) (x1 : Addr) (n2 : Value) (h0 : Heap) (n0 : Nat) (O0 : Old Z n0 h0) (P : Pins Z cz) (F_x1_inheritedFrom : Fld Z h0 x1 "com/example/iron_wire/ironwire/definition/QualifierDefinition" "inheritedFrom" "Ljava/lang/String;" n2) (R_n2 : n2.isRef = true) :
    MetFree l (⟨"com/example/iron_wire/ironwire/definition/QualifierDefinition", "inheritedFrom", "()Ljava/lang/String;"⟩ : MethodName) (head1 (Jvm.Cond.code (⟨"com/example/iron_wire/ironwire/definition/QualifierDefinition", "inheritedFrom", "()Ljava/lang/String;"⟩ : MethodName) prog_49_method_9_code 1 (some (.object "java/lang/String")) :: ws) ({ frames := 0, cells := 0, slots := 0, locals := 0 } : Room)) (fun a U => a = #[(.ref x1)] ∧ Z.Warmed39 U.vm ∧ U.heap = h0) (fun _ _ _ _ _ => True) (fun _ U o U' => ∃ v L, o = .returned v ∧ Qrm13_17 Z cz x1 n2 h0 n0 v U'.heap L ∧ FrameEnd U o U' L ({ frames := 0, cells := 0, slots := 0, locals := 0 } : Room).cells ({ frames := 0, cells := 0, slots := 0, locals := 0 } : Room).slots) := by
  refine MetFree.of_bodySF (plainFor_of_name pn_com_example_iron_wire_ironwire_definition_QualifierDefinition) hisR ?_
  intro p e s m args below meth c s₁ Bd hml0 hP hK
  obtain ⟨rfl, hZ, hh⟩ := hP
  have hx := Bd.exec
  have hby := Bd.bytes
  have hml : c.maxLocals = 1 := hml0
  have hown : s.vm.findClass "com/example/iron_wire/ironwire/definition/QualifierDefinition" = some m.cls := findClass_of_methodNamed Bd.named
  have hnm := (name_of_methodNamed Bd.named Bd.method).1
  have X0 : Stand p l e ({ frames := 0, cells := 0, slots := 0, locals := 0 } : Room) s m #[(.ref x1)] below meth c s₁ [] 0 0 := Stand.of_body Bd
  have e0 : s₁.heap = h0 := by rw [← hh, Bd.state]; rfl
  have N0 := Fr.nil n0
  have Z0 : n0 ≤ h0.size := O0.1 ▸ O0.2.1
  have pre0 : ∀ t, Steps p.tables e below (s₁.setTop (mkF m 0 #[.val (.ref x1)] [])) t → Steps p.tables e below (s₁.setTop (entryFrame m #[(.ref x1)] 1)) t := fun t k => castTop (ef_13_R m x1) k
  obtain ⟨T1, X1, e1, st1⟩ := getF X0 hx hZ hown (host := "") (Or.inl (hw _ (List.mem_of_getElem? (i := 48) rfl))) Via.refl e0 F_x1_inheritedFrom (g := (mkF m 1 #[.val (.ref x1)] [(.ref x1)])) rfl rfl (hb hby d13_1)
  obtain ⟨fs, hr, hrun, hended, hW, hsame⟩ := X1.leave (v := some n2) (fun h => by rw [Bd.returns] at h; cases h)
  refine ⟨_, _, pre0 _ ?_, hrun, hended, _, _, rfl, ?_, ⟨_, rfl⟩, hW, hsame.mono (by decide) (by decide)⟩
  · show Steps p.tables e below (s₁.setTop (mkF m 0 #[.val (.ref x1)] [])) _
    refine XS.aloadN X0.here hx rfl (hb hby d13_0) rfl rfl ?_
    show Steps p.tables e below (s₁.setTop (mkF m 1 #[.val (.ref x1)] [(.ref x1)])) _
    refine st1 _ ?_
    show Steps p.tables e below (T1.setTop (mkF m 4 #[.val (.ref x1)] [n2])) _
    exact retOut X1 hx Bd.returns (own_nar R_n2) (Or.inr (Or.inr (Or.inr (Or.inr ⟨rfl, rfl, R_n2⟩)))) (hb hby d13_4) hr
  · exact ⟨rfl, N0, e1⟩
theorem ef_0_IIIIII (m : MethodId) (x0 : Int32) (x1 : Int32) (x2 : Int32) (x3 : Int32) (x4 : Int32) (x5 : Int32) : entryFrame m #[(.int x0), (.int x1), (.int x2), (.int x3), (.int x4), (.int x5)] maxLocals = mkF m 0 #[.val (.int x0), .val (.int x1), .val (.int x2), .val (.int x3), .val (.int x4), .val (.int x5), .unset, .unset, .unset, .unset, .unset, .unset, .unset, .unset, .unset, .unset, .unset] [] := by first | (simp [entryFrame, mkF, argsToLocals, Value.category, maxLocals]; done) | rfl
def Qrm0_0 (Z : State) (cz : Int32) (p0 : Int32) (p1 : Int32) (p2 : Int32) (p3 : Int32) (p4 : Int32) (p5 : Int32) (h0 : Heap) (n0 : Nat) (v : Option Value) (h : Heap) (L : List Loc) : Prop := v = some (.int (1 : Int32)) ∧ Fr n0 L ∧ Keep h0 h []
set_option maxRecDepth 65536 in
set_option maxHeartbeats 40000000 in
theorem rm0_0 (l : Launch) (Z : State) (a0 : Array Value) (hw : ∀ d ∈ tables_1, d.before a0 Z = true) (ws : List Jvm.Cond) (cz : Int32) (p0 : Int32) (p1 : Int32) (p2 : Int32) (p3 : Int32) (p4 : Int32) (p5 : Int32) (h0 : Heap) (n0 : Nat) (O0 : Old Z n0 h0) (P : Pins Z cz) :
    MetFree l x (head1 (Jvm.Cond.code x code maxLocals ret :: ws) room_1) (fun a U => a = #[(.int p0), (.int p1), (.int p2), (.int p3), (.int p4), (.int p5)] ∧ Z.Warmed39 U.vm ∧ U.heap = h0 ∧ CHv Z consts_1 U.vm h0 ∧ ∀ x ∈ ([] : List Addr), Safe Z consts_1 U.vm h0 x) (fun _ _ _ _ _ => True) (fun _ U o U' => ∃ v L, o = .returned v ∧ Qrm0_0 Z cz p0 p1 p2 p3 p4 p5 h0 n0 v U'.heap L ∧ CHr Z consts_1 U.vm U.heap U'.vm U'.heap ∧ ReturnedEndW U o U' L room_1.cells room_1.slots) := by
  refine MetFree.of_bodySF (plainFor_of_name pn_com_example_iron_wire_ironwire_definition_QualifierDefinitionInheritedPinLaw) hisR ?_
  intro p e s m args below meth c s₁ Bd hml0 hP hK
  obtain ⟨rfl, hZ, hh, hCv, hSf⟩ := hP
  have hx := Bd.exec
  have hby := Bd.bytes
  have hml : c.maxLocals = 17 := hml0
  have hown : s.vm.findClass "com/example/iron_wire/ironwire/definition/QualifierDefinitionInheritedPinLaw" = some m.cls := findClass_of_methodNamed Bd.named
  have hnm := (name_of_methodNamed Bd.named Bd.method).1
  have X0 : Stand p l e room_1 (s.setVm s.vm) m #[(.int p0), (.int p1), (.int p2), (.int p3), (.int p4), (.int p5)] below meth c s₁ [] 0 0 := Stand.of_body Bd
  have e0 : s₁.heap = h0 := by rw [← hh, Bd.state]; rfl
  have N0 := Fr.nil n0
  have Z0 : n0 ≤ h0.size := O0.1 ▸ O0.2.1
  have pre0 : ∀ t, Steps p.tables e below (s₁.setTop (mkF m 0 #[.val (.int p0), .val (.int p1), .val (.int p2), .val (.int p3), .val (.int p4), .val (.int p5), .unset, .unset, .unset, .unset, .unset, .unset, .unset, .unset, .unset, .unset, .unset] [])) t → Steps p.tables e below (s₁.setTop (entryFrame m #[(.int p0), (.int p1), (.int p2), (.int p3), (.int p4), (.int p5)] maxLocals)) t := fun t k => castTop (ef_0_IIIIII m p0 p1 p2 p3 p4 p5) k
  have Kr : Keep h0 h0 [] := Keep.refl h0 _
  have hEL : EW Z a0 consts_1 := own_ew hw
  have wS : ∀ d ∈ Bundle.stringAtoms, d.before a0 Z = true := fun d hd => hw d (own_wsa d hd)
  have hS : s.Since s.vm 0 := (State.WarmedH.refl s).since 0
  have hk : 0 ≤ h0.size := Nat.zero_le _
  have C0 : CHr Z consts_1 s.vm h0 s.vm h0 := CHr.refl hCv
  obtain ⟨_, _, ⟨T1, L1, k1, n1⟩, -, Xq1, Sq1, gq1, ⟨Lc1, hQ1, l1, y1, z1, Cq1⟩, st1⟩ := callSS X0 hx (y := (⟨"com/example/iron_wire/ironwire/definition/QualifierDefinitionInheritedPinLaw", "str", "(II)Ljava/lang/String;"⟩ : MethodName)) hown (mvT hZ (hw _ (List.mem_of_getElem? (i := 0) rfl))) (mvT hZ (hw _ (List.mem_of_getElem? (i := 1) rfl))) (mvT hZ (hw _ (List.mem_of_getElem? (i := 2) rfl))) (mvT hZ (hw _ (List.mem_of_getElem? (i := 3) rfl))) (by decide) (own_backH (xs := []) (W := 0) (rmS l Z a0 hw [] cz p0 ((p0.toUInt32 >>> ((16 : Int32) &&& 31).toUInt32).toInt32) h0 n0 O0 P ) hZ (hw _ (List.mem_of_getElem? (i := 3) rfl)) (hw _ (List.mem_of_getElem? (i := 2) rfl)) (by decide) (by decide) hEL C0.1 own_sx0) (g := (mkF m 5 #[.val (.int p0), .val (.int p1), .val (.int p2), .val (.int p3), .val (.int p4), .val (.int p5), .unset, .unset, .unset, .unset, .unset, .unset, .unset, .unset, .unset, .unset, .unset] [(.int ((p0.toUInt32 >>> ((16 : Int32) &&& 31).toUInt32).toInt32)), (.int p0)])) rfl (by rw [hml]; rfl) (argsL := [(.int p0), (.int ((p0.toUInt32 >>> ((16 : Int32) &&& 31).toUInt32).toInt32))]) (rest := []) (lenOf pd_2 rfl) rfl (by show 2 * 0 + _ ≤ _; exact Nat.le_of_eq rfl) (hb hby at_5) (fun _ _ => ⟨rfl, e0, (by decide : 0 + 6 ≤ _), (by decide : 0 + 12 ≤ _)⟩)
  dsimp only [Pt.U, Pt.locs, Pt.cells, Pt.slots] at Xq1 Sq1 gq1 l1 y1 z1 st1 hQ1 Cq1
  subst l1 y1 z1
  obtain ⟨X1, hS1, hZ1, hown1⟩ := rebS hS (show _ ≤ s₁.heap.size by rw [e0]; exact hk) Xq1 Sq1 gq1 hZ hown
  have hkq1 : T1.heap.size ≤ (T1.heap).size := Nat.le_refl _
  obtain ⟨b1_0, rfl, N1q, K1, l1_0, q1_0⟩ := hQ1
  have N1 := Fr.app N0 N1q
  have Ks2 : Keep h0 (T1.heap) [] := Kr.trans K1 all0
  have Zs2 : n0 ≤ (T1.heap).size := Nat.le_trans Z0 K1.1
  have Os2 : Old Z n0 (T1.heap) := O0.keep K1 all0
  have Cs2 : CHr Z consts_1 s.vm h0 T1.vm (T1.heap) := C0.trans Cq1
  have hk2 : T1.heap.size ≤ (T1.heap).size := hkq1
  obtain ⟨T3, vm3, h3, v3, kq3, Lq3, X3, e3, K3, S3, hS3, hkq3, hZ3, hown3, Cq3, N3, st3⟩ := sg_10 p0 p1 p2 p3 p4 p5 b1_0 X1 hx hZ1 hw hby hml hown1 rfl Os2 P hEL hS1 hk2 Cs2.1 N1 (by decide) (by decide)
  have Ks4 : Keep h0 (h3) [] := Ks2.trans K3 all0
  have Zs4 : n0 ≤ (h3).size := Nat.le_trans Zs2 K3.1
  have Os4 : Old Z n0 (h3) := Os2.keep K3 all0
  have Cs4 : CHr Z consts_1 s.vm h0 vm3 (h3) := Cs2.trans Cq3
  have hk4 : kq3 ≤ (h3).size := hkq3
  have R_v3 := own_snr S3
  obtain ⟨T5, vm5, h5, v5, kq5, Lq5, X5, e5, K5, S5, hS5, hkq5, hZ5, hown5, Cq5, N5, st5⟩ := sg_31 p0 p1 p2 p3 p4 p5 b1_0 v3 X3 hx hZ3 hw hby hml hown3 e3 Os4 P hEL hS3 hk4 Cs4.1 N3 (by decide) (by decide) R_v3
  have Ks6 : Keep h0 (h5) [] := Ks4.trans K5 all0
  have Zs6 : n0 ≤ (h5).size := Nat.le_trans Zs4 K5.1
  have Os6 : Old Z n0 (h5) := Os4.keep K5 all0
  have Cs6 : CHr Z consts_1 s.vm h0 vm5 (h5) := Cs4.trans Cq5
  have hk6 : kq5 ≤ (h5).size := hkq5
  have R_v5 := own_snr S5
  obtain ⟨T7, vm7, h7, v7, kq7, Lq7, X7, e7, K7, S7, hS7, hkq7, hZ7, hown7, Cq7, N7, st7⟩ := sg_52 p0 p1 p2 p3 p4 p5 b1_0 v3 v5 X5 hx hZ5 hw hby hml hown5 e5 Os6 P hEL hS5 hk6 Cs6.1 N5 (by decide) (by decide) R_v3 R_v5
  have Ks8 : Keep h0 (h7) [] := Ks6.trans K7 all0
  have Zs8 : n0 ≤ (h7).size := Nat.le_trans Zs6 K7.1
  have Os8 : Old Z n0 (h7) := Os6.keep K7 all0
  have Cs8 : CHr Z consts_1 s.vm h0 vm7 (h7) := Cs6.trans Cq7
  have hk8 : kq7 ≤ (h7).size := hkq7
  have R_v7 := own_snr S7
  obtain ⟨T9, vm9, h9, v9, kq9, Lq9, X9, e9, K9, S9, hS9, hkq9, hZ9, hown9, Cq9, N9, st9⟩ := sg_73 p0 p1 p2 p3 p4 p5 b1_0 v3 v5 v7 X7 hx hZ7 hw hby hml hown7 e7 Os8 P hEL hS7 hk8 Cs8.1 N7 (by decide) (by decide) R_v3 R_v5 R_v7
  have Ks10 : Keep h0 (h9) [] := Ks8.trans K9 all0
  have Zs10 : n0 ≤ (h9).size := Nat.le_trans Zs8 K9.1
  have Os10 : Old Z n0 (h9) := Os8.keep K9 all0
  have Cs10 : CHr Z consts_1 s.vm h0 vm9 (h9) := Cs8.trans Cq9
  have hk10 : kq9 ≤ (h9).size := hkq9
  have R_v9 := own_snr S9
  obtain ⟨T11, h11, X11, e11, E11, A11, D11, -, st11⟩ := newO X9 hx hZ9 hown9 (hw _ (List.mem_of_getElem? (i := 27) rfl)) (hw _ (List.mem_of_getElem? (i := 28) rfl)) (hw _ (List.mem_of_getElem? (i := 29) rfl)) e9 (g := (mkF m 97 #[.val (.int p0), .val (.int p1), .val (.int p2), .val (.int p3), .val (.int p4), .val (.int p5), .val (.ref b1_0), .val v3, .val v5, .val v7, .val v9, .unset, .unset, .unset, .unset, .unset, .unset] [])) rfl (hb hby at_97) (by decide) (by decide)
  obtain ⟨b11, g11⟩ : ∃ z, z = (h9).size := ⟨_, rfl⟩
  rw [← g11] at A11 D11 st11
  have Zs12 : n0 ≤ (h11).size := Nat.le_trans Zs10 E11.1
  have Os12 : Old Z n0 (h11) := Os10.ext E11
  have Ks12 : Keep h0 (h11) [] := Ks10.ext E11
  have Cs12 : CHr Z consts_1 s.vm h0 vm9 (h11) := Cs10.trans (CHr.ext E11 Cs10.1)
  have hk12 : kq9 ≤ (h11).size := Nat.le_trans hk10 E11.1
  have D11_typeName : Fld Z h11 b11 "com/example/iron_wire/ironwire/definition/QualifierDefinition" "typeName" "Ljava/lang/String;" .null := D11 (Or.inr (hw _ (List.mem_of_getElem? (i := 45) rfl))) (ty := (.object "java/lang/String")) (by decide)
  have D11_value : Fld Z h11 b11 "com/example/iron_wire/ironwire/definition/QualifierDefinition" "value" "Ljava/lang/String;" .null := D11 (Or.inr (hw _ (List.mem_of_getElem? (i := 47) rfl))) (ty := (.object "java/lang/String")) (by decide)
  have D11_inheritedFrom : Fld Z h11 b11 "com/example/iron_wire/ironwire/definition/QualifierDefinition" "inheritedFrom" "Ljava/lang/String;" .null := D11 (Or.inr (hw _ (List.mem_of_getElem? (i := 49) rfl))) (ty := (.object "java/lang/String")) (by decide)
  obtain ⟨_, _, ⟨T13, L13, k13, n13⟩, -, Xq13, Sq13, gq13, ⟨Lc13, hQ13, l13, y13, z13, Cq13⟩, st13⟩ := X11.specialBackS hx (y := (⟨"com/example/iron_wire/ironwire/definition/QualifierDefinition", "<init>", "(Ljava/lang/String;Ljava/lang/String;Ljava/lang/String;)V"⟩ : MethodName)) rfl hown9 (mvT hZ9 (hw _ (List.mem_of_getElem? (i := 30) rfl))) (mvT hZ9 (hw _ (List.mem_of_getElem? (i := 31) rfl))) (mvT hZ9 (hw _ (List.mem_of_getElem? (i := 32) rfl))) (by decide) (own_backH (xs := []) (W := 1) (rm5_8 l Z a0 hw [] cz b11 b1_0 v3 v5 h11 n0 Os12 P A11 D11_typeName (Nat.le_trans Zs10 (Nat.le_of_eq g11.symm)) R_v3 D11_value R_v5 D11_inheritedFrom) hZ9 (hw _ (List.mem_of_getElem? (i := 32) rfl)) (hw _ (List.mem_of_getElem? (i := 29) rfl)) (by decide) (by decide) hEL Cs12.1 own_sx0) (g := (mkF m 107 #[.val (.int p0), .val (.int p1), .val (.int p2), .val (.int p3), .val (.int p4), .val (.int p5), .val (.ref b1_0), .val v3, .val v5, .val v7, .val v9, .unset, .unset, .unset, .unset, .unset, .unset] [v5, v3, (.ref b1_0), (.ref b11), (.ref b11)])) rfl (by rw [hml]; rfl) (Steps.refl _) (a := b11) (argsL := [(.ref b1_0), v3, v5]) (rest := [(.ref b11)]) (lenOf pd_5 rfl) rfl (by show 2 * 0 + _ ≤ _; exact Nat.le_of_eq rfl) (hb hby at_107) (fun _ _ => ⟨rfl, e11, (by decide : 31 + 2 ≤ _), (by decide : 63 + 36 ≤ _)⟩)
  dsimp only [Pt.U, Pt.locs, Pt.cells, Pt.slots] at Xq13 Sq13 gq13 l13 y13 z13 st13 hQ13 Cq13
  subst l13 y13 z13
  obtain ⟨X13, hS13, hZ13, hown13⟩ := rebS hS9 (show _ ≤ T11.heap.size by rw [e11]; exact hk12) Xq13 Sq13 gq13 hZ9 hown9
  have hkq13 : T13.heap.size ≤ (T13.heap).size := Nat.le_refl _
  obtain ⟨rfl, N13q, K13, q13_0, q13_1, q13_2⟩ := hQ13
  have N13 := Fr.app N9 N13q
  have Ks14 : Keep h0 (T13.heap) [] := Ks12.trans K13 (allS (Or.inr (Nat.le_trans Ks10.1 (Nat.le_of_eq g11.symm))) all0)
  have Zs14 : n0 ≤ (T13.heap).size := Nat.le_trans Zs12 K13.1
  have Os14 : Old Z n0 (T13.heap) := Os12.keep K13 (allS (Nat.le_trans Zs10 (Nat.le_of_eq g11.symm)) all0)
  have Cs14 : CHr Z consts_1 s.vm h0 T13.vm (T13.heap) := Cs12.trans Cq13
  have hk14 : T13.heap.size ≤ (T13.heap).size := hkq13
  have f16 := (own_snK K13 (own_snE E11 (own_snK K9 (own_snK K7 S5))))
  have f17 := (own_snK K13 (own_snE E11 (own_snK K9 S7)))
  obtain ⟨ve15, he15⟩ : ∃ z, z = own_or v5 v7 := ⟨_, rfl⟩
  have So15 : StrN Z (T13.heap) ve15 := by rw [he15]; exact own_snO f16 f17
  have R_ve15 := own_snr So15
  have f18 := (A11.keep K13)
  obtain ⟨cq19, kq19, q19a, q19b, q19c⟩ := isOf hZ13 rfl f18
  obtain ⟨_, _, ⟨T19, L19, k19, n19⟩, -, Xq19, Sq19, gq19, ⟨Lc19, hQ19, l19, y19, z19, Cq19⟩, st19⟩ := X13.virtualBackS hx (y := (⟨"com/example/iron_wire/ironwire/definition/QualifierDefinition", "inherited", "(Ljava/lang/String;)Lcom/example/iron_wire/ironwire/definition/QualifierDefinition;"⟩ : MethodName)) (z := (⟨"com/example/iron_wire/ironwire/definition/QualifierDefinition", "inherited", "(Ljava/lang/String;)Lcom/example/iron_wire/ironwire/definition/QualifierDefinition;"⟩ : MethodName)) hown13 (mvT hZ13 (hw _ (List.mem_of_getElem? (i := 50) rfl))) (mvT hZ13 (hw _ (List.mem_of_getElem? (i := 51) rfl))) (notFace_of_selects (args := #[]) (mvT hZ13 (hw _ (List.mem_of_getElem? (i := 53) rfl)))) (mvT hZ13 (hw _ (List.mem_of_getElem? (i := 53) rfl))) (mvT hZ13 (hw _ (List.mem_of_getElem? (i := 52) rfl))) (by decide) (own_backH (xs := []) (W := 0) (rmI l Z a0 hw [] cz b11 v7 b1_0 v3 ve15 v5 T13.heap n0 Os14 P he15 R_v5 q13_0 q13_1 q13_2 R_v3 R_v7) hZ13 (hw _ (List.mem_of_getElem? (i := 54) rfl)) (hw _ (List.mem_of_getElem? (i := 29) rfl)) (by decide) (by decide) hEL Cs14.1 own_sx0) q19a q19c (g := (mkF m 116 #[.val (.int p0), .val (.int p1), .val (.int p2), .val (.int p3), .val (.int p4), .val (.int p5), .val (.ref b1_0), .val v3, .val v5, .val v7, .val v9, .val (.ref b11), .unset, .unset, .unset, .unset, .unset] [v7, (.ref b11)])) rfl (by rw [hml]; rfl) (Steps.refl _) (argsL := [v7]) (rest := []) (lenOf pd_6 rfl) rfl (by show 2 * 0 + _ ≤ _; exact Nat.le_of_eq rfl) (hb hby at_116) (fun _ _ => ⟨rfl, rfl, (by decide : 33 + 3 ≤ _), (by decide : 99 + 39 ≤ _)⟩)
  dsimp only [Pt.U, Pt.locs, Pt.cells, Pt.slots] at Xq19 Sq19 gq19 l19 y19 z19 st19 hQ19 Cq19
  subst l19 y19 z19
  obtain ⟨X19, hS19, hZ19, hown19⟩ := rebS hS13 hk14 Xq19 Sq19 gq19 hZ13 hown13
  have hkq19 : T19.heap.size ≤ (T19.heap).size := Nat.le_refl _
  obtain ⟨b19_0, rfl, N19q, K19, l19_0, q19_0, q19_1, q19_2, q19_3⟩ := hQ19
  have N19 := Fr.app N13 N19q
  have Ks20 : Keep h0 (T19.heap) [] := Ks14.trans K19 all0
  have Zs20 : n0 ≤ (T19.heap).size := Nat.le_trans Zs14 K19.1
  have Os20 : Old Z n0 (T19.heap) := Os14.keep K19 all0
  have Cs20 : CHr Z consts_1 s.vm h0 T19.vm (T19.heap) := Cs14.trans Cq19
  have hk20 : T19.heap.size ≤ (T19.heap).size := hkq19
  have so21 : ∀ t, Steps p.tables e below (T19.setTop (mkF m 133 #[.val (.int p0), .val (.int p1), .val (.int p2), .val (.int p3), .val (.int p4), .val (.int p5), .val (.ref b1_0), .val v3, .val v5, .val v7, .val v9, .val (.ref b11), .val (.ref b19_0), .unset, .unset, .unset, .unset] [ve15])) t → Steps p.tables e below (T19.setTop (mkF m 121 #[.val (.int p0), .val (.int p1), .val (.int p2), .val (.int p3), .val (.int p4), .val (.int p5), .val (.ref b1_0), .val v3, .val v5, .val v7, .val v9, .val (.ref b11), .val (.ref b19_0), .unset, .unset, .unset, .unset] [])) t := by
    intro t kt
    rcases ref_cases R_v5 with q | ⟨a, q⟩
    · rw [q] at kt ⊢
      rw [show ve15 = v7 from by rw [he15, q]; rfl] at kt
      show Steps p.tables e below (T19.setTop (mkF m 121 #[.val (.int p0), .val (.int p1), .val (.int p2), .val (.int p3), .val (.int p4), .val (.int p5), .val (.ref b1_0), .val v3, .val .null, .val v7, .val v9, .val (.ref b11), .val (.ref b19_0), .unset, .unset, .unset, .unset] [])) _
      refine XS.aload X19.here hx rfl (hb hby at_121) rfl rfl ?_
      show Steps p.tables e below (T19.setTop (mkF m 123 #[.val (.int p0), .val (.int p1), .val (.int p2), .val (.int p3), .val (.int p4), .val (.int p5), .val (.ref b1_0), .val v3, .val .null, .val v7, .val v9, .val (.ref b11), .val (.ref b19_0), .unset, .unset, .unset, .unset] [.null])) _
      refine XS.ifnullYes X19.here hx rfl (pc0 := 123) (pc' := 131) rfl (hb hby at_123) rfl (by decide) (by decide) ?_
      show Steps p.tables e below (T19.setTop (mkF m 131 #[.val (.int p0), .val (.int p1), .val (.int p2), .val (.int p3), .val (.int p4), .val (.int p5), .val (.ref b1_0), .val v3, .val .null, .val v7, .val v9, .val (.ref b11), .val (.ref b19_0), .unset, .unset, .unset, .unset] [])) _
      refine XS.aload X19.here hx rfl (hb hby at_131) rfl R_v7 ?_
      exact kt
    · rw [q] at kt ⊢
      rw [show ve15 = (.ref a) from by rw [he15, q]; rfl] at kt
      show Steps p.tables e below (T19.setTop (mkF m 121 #[.val (.int p0), .val (.int p1), .val (.int p2), .val (.int p3), .val (.int p4), .val (.int p5), .val (.ref b1_0), .val v3, .val (.ref a), .val v7, .val v9, .val (.ref b11), .val (.ref b19_0), .unset, .unset, .unset, .unset] [])) _
      refine XS.aload X19.here hx rfl (hb hby at_121) rfl rfl ?_
      show Steps p.tables e below (T19.setTop (mkF m 123 #[.val (.int p0), .val (.int p1), .val (.int p2), .val (.int p3), .val (.int p4), .val (.int p5), .val (.ref b1_0), .val v3, .val (.ref a), .val v7, .val v9, .val (.ref b11), .val (.ref b19_0), .unset, .unset, .unset, .unset] [(.ref a)])) _
      refine XS.ifnullNo X19.here hx rfl (hb hby at_123) rfl ?_
      show Steps p.tables e below (T19.setTop (mkF m 126 #[.val (.int p0), .val (.int p1), .val (.int p2), .val (.int p3), .val (.int p4), .val (.int p5), .val (.ref b1_0), .val v3, .val (.ref a), .val v7, .val v9, .val (.ref b11), .val (.ref b19_0), .unset, .unset, .unset, .unset] [])) _
      refine XS.aload X19.here hx rfl (hb hby at_126) rfl rfl ?_
      show Steps p.tables e below (T19.setTop (mkF m 128 #[.val (.int p0), .val (.int p1), .val (.int p2), .val (.int p3), .val (.int p4), .val (.int p5), .val (.ref b1_0), .val v3, .val (.ref a), .val v7, .val v9, .val (.ref b11), .val (.ref b19_0), .unset, .unset, .unset, .unset] [(.ref a)])) _
      refine XS.goto X19.here hx rfl (pc0 := 128) (pc' := 133) rfl (hb hby at_128) (by decide) (by decide) ?_
      exact kt
  obtain ⟨cq22, kq22, q22a, q22b, q22c⟩ := isOf hZ19 rfl q19_0
  obtain ⟨_, _, ⟨T22, L22, k22, n22⟩, -, X22, ⟨Lc22, hQ22, l22, y22, z22⟩, st22⟩ := X19.virtualBack hx (y := (⟨"com/example/iron_wire/ironwire/definition/QualifierDefinition", "typeName", "()Ljava/lang/String;"⟩ : MethodName)) (z := (⟨"com/example/iron_wire/ironwire/definition/QualifierDefinition", "typeName", "()Ljava/lang/String;"⟩ : MethodName)) hown19 (mvT hZ19 (hw _ (List.mem_of_getElem? (i := 57) rfl))) (mvT hZ19 (hw _ (List.mem_of_getElem? (i := 58) rfl))) (notFace_of_selects (args := #[]) (mvT hZ19 (hw _ (List.mem_of_getElem? (i := 60) rfl)))) (mvT hZ19 (hw _ (List.mem_of_getElem? (i := 60) rfl))) (mvT hZ19 (hw _ (List.mem_of_getElem? (i := 59) rfl))) (by decide) (backOf (W := 0) (rm9_12 l Z a0 hw [] cz b19_0 b1_0 T19.heap n0 Os20 P q19_1) hZ19 (hw _ (List.mem_of_getElem? (i := 61) rfl)) (hw _ (List.mem_of_getElem? (i := 29) rfl)) (by decide) (by decide)) q22a q22c (g := (mkF m 137 #[.val (.int p0), .val (.int p1), .val (.int p2), .val (.int p3), .val (.int p4), .val (.int p5), .val (.ref b1_0), .val v3, .val v5, .val v7, .val v9, .val (.ref b11), .val (.ref b19_0), .val ve15, .unset, .unset, .unset] [(.ref b19_0)])) rfl (by rw [hml]; rfl) (Steps.refl _) (argsL := []) (rest := []) (lenOf pd_7 rfl) rfl (by show 2 * 0 + _ ≤ _; exact Nat.le_of_eq rfl) (hb hby at_137) (fun _ _ => ⟨rfl, rfl, (by decide : 36 + 0 ≤ _), (by decide : 138 + 0 ≤ _)⟩)
  dsimp only [Pt.U, Pt.locs, Pt.cells, Pt.slots] at X22 l22 y22 z22 st22 hQ22
  subst l22 y22 z22
  obtain ⟨rfl, N22q, e22⟩ := hQ22
  have N22 := Fr.app N19 N22q
  have f23 := (((((((q1_0.keep K3).keep K5).keep K7).keep K9).ext E11).keep K13).keep K19)
  obtain ⟨_, _, ⟨T24, L24, k24, n24⟩, -, X24, ⟨Lc24, hQ24, l24, y24, z24⟩, st24⟩ := Jvm.LawKit.callS X22 hx (y := (⟨"com/example/iron_wire/ironwire/definition/QualifierDefinitionInheritedPinLaw", "same", "(Ljava/lang/String;Ljava/lang/String;)Z"⟩ : MethodName)) hown19 (mvT hZ19 (hw _ (List.mem_of_getElem? (i := 62) rfl))) (mvT hZ19 (hw _ (List.mem_of_getElem? (i := 63) rfl))) (mvT hZ19 (hw _ (List.mem_of_getElem? (i := 2) rfl))) (mvT hZ19 (hw _ (List.mem_of_getElem? (i := 64) rfl))) (by decide) (backOf (W := 0) (rm10_14 l Z a0 hw [] cz b1_0 T19.heap n0 Os20 P f23) hZ19 (hw _ (List.mem_of_getElem? (i := 64) rfl)) (hw _ (List.mem_of_getElem? (i := 2) rfl)) (by decide) (by decide)) (g := (mkF m 142 #[.val (.int p0), .val (.int p1), .val (.int p2), .val (.int p3), .val (.int p4), .val (.int p5), .val (.ref b1_0), .val v3, .val v5, .val v7, .val v9, .val (.ref b11), .val (.ref b19_0), .val ve15, .unset, .unset, .unset] [(.ref b1_0), (.ref b1_0)])) rfl (by rw [hml]; rfl) (argsL := [(.ref b1_0), (.ref b1_0)]) (rest := []) (lenOf pd_9 rfl) rfl (by show 2 * 0 + _ ≤ _; exact Nat.le_of_eq rfl) (hb hby at_142) (fun _ _ => ⟨rfl, e22, (by decide : 36 + 0 ≤ _), (by decide : 138 + 0 ≤ _)⟩)
  dsimp only [Pt.U, Pt.locs, Pt.cells, Pt.slots] at X24 l24 y24 z24 st24 hQ24
  subst l24 y24 z24
  obtain ⟨rfl, N24q, e24⟩ := hQ24
  have N24 := Fr.app N22 N24q
  obtain ⟨cq25, kq25, q25a, q25b, q25c⟩ := isOf hZ19 e24 q19_0
  obtain ⟨_, _, ⟨T25, L25, k25, n25⟩, -, X25, ⟨Lc25, hQ25, l25, y25, z25⟩, st25⟩ := X24.virtualBack hx (y := (⟨"com/example/iron_wire/ironwire/definition/QualifierDefinition", "value", "()Ljava/lang/String;"⟩ : MethodName)) (z := (⟨"com/example/iron_wire/ironwire/definition/QualifierDefinition", "value", "()Ljava/lang/String;"⟩ : MethodName)) hown19 (mvT hZ19 (hw _ (List.mem_of_getElem? (i := 70) rfl))) (mvT hZ19 (hw _ (List.mem_of_getElem? (i := 71) rfl))) (notFace_of_selects (args := #[]) (mvT hZ19 (hw _ (List.mem_of_getElem? (i := 73) rfl)))) (mvT hZ19 (hw _ (List.mem_of_getElem? (i := 73) rfl))) (mvT hZ19 (hw _ (List.mem_of_getElem? (i := 72) rfl))) (by decide) (backOf (W := 0) (rm12_15 l Z a0 hw [] cz b19_0 v3 T19.heap n0 Os20 P q19_2 R_v3) hZ19 (hw _ (List.mem_of_getElem? (i := 74) rfl)) (hw _ (List.mem_of_getElem? (i := 29) rfl)) (by decide) (by decide)) q25a q25c (g := (mkF m 150 #[.val (.int p0), .val (.int p1), .val (.int p2), .val (.int p3), .val (.int p4), .val (.int p5), .val (.ref b1_0), .val v3, .val v5, .val v7, .val v9, .val (.ref b11), .val (.ref b19_0), .val ve15, .unset, .unset, .unset] [(.ref b19_0)])) rfl (by rw [hml]; rfl) (Steps.refl _) (argsL := []) (rest := []) (lenOf pd_7 rfl) rfl (by show 2 * 0 + _ ≤ _; exact Nat.le_of_eq rfl) (hb hby at_150) (fun _ _ => ⟨rfl, e24, (by decide : 36 + 0 ≤ _), (by decide : 138 + 0 ≤ _)⟩)
  dsimp only [Pt.U, Pt.locs, Pt.cells, Pt.slots] at X25 l25 y25 z25 st25 hQ25
  subst l25 y25 z25
  obtain ⟨rfl, N25q, e25⟩ := hQ25
  have N25 := Fr.app N24 N25q
  have f26 := (own_snK K19 (own_snK K13 (own_snE E11 (own_snK K9 (own_snK K7 (own_snK K5 S3))))))
  obtain ⟨_, _, ⟨T27, L27, k27, n27⟩, -, X27, ⟨Lc27, hQ27, l27, y27, z27⟩, st27⟩ := Jvm.LawKit.callS X25 hx (y := (⟨"com/example/iron_wire/ironwire/definition/QualifierDefinitionInheritedPinLaw", "same", "(Ljava/lang/String;Ljava/lang/String;)Z"⟩ : MethodName)) hown19 (mvT hZ19 (hw _ (List.mem_of_getElem? (i := 62) rfl))) (mvT hZ19 (hw _ (List.mem_of_getElem? (i := 63) rfl))) (mvT hZ19 (hw _ (List.mem_of_getElem? (i := 2) rfl))) (mvT hZ19 (hw _ (List.mem_of_getElem? (i := 64) rfl))) (by decide) (backOf (W := 0) (rmE l Z a0 hw [] cz v3 T19.heap n0 Os20 P f26) hZ19 (hw _ (List.mem_of_getElem? (i := 64) rfl)) (hw _ (List.mem_of_getElem? (i := 2) rfl)) (by decide) (by decide)) (g := (mkF m 155 #[.val (.int p0), .val (.int p1), .val (.int p2), .val (.int p3), .val (.int p4), .val (.int p5), .val (.ref b1_0), .val v3, .val v5, .val v7, .val v9, .val (.ref b11), .val (.ref b19_0), .val ve15, .unset, .unset, .unset] [v3, v3])) rfl (by rw [hml]; rfl) (argsL := [v3, v3]) (rest := []) (lenOf pd_9 rfl) rfl (by show 2 * 0 + _ ≤ _; exact Nat.le_of_eq rfl) (hb hby at_155) (fun _ _ => ⟨rfl, e25, (by decide : 36 + 0 ≤ _), (by decide : 138 + 0 ≤ _)⟩)
  dsimp only [Pt.U, Pt.locs, Pt.cells, Pt.slots] at X27 l27 y27 z27 st27 hQ27
  subst l27 y27 z27
  obtain ⟨rfl, N27q, e27⟩ := hQ27
  have N27 := Fr.app N25 N27q
  obtain ⟨cq28, kq28, q28a, q28b, q28c⟩ := isOf hZ19 e27 q19_0
  obtain ⟨_, _, ⟨T28, L28, k28, n28⟩, -, X28, ⟨Lc28, hQ28, l28, y28, z28⟩, st28⟩ := X27.virtualBack hx (y := (⟨"com/example/iron_wire/ironwire/definition/QualifierDefinition", "inheritedFrom", "()Ljava/lang/String;"⟩ : MethodName)) (z := (⟨"com/example/iron_wire/ironwire/definition/QualifierDefinition", "inheritedFrom", "()Ljava/lang/String;"⟩ : MethodName)) hown19 (mvT hZ19 (hw _ (List.mem_of_getElem? (i := 75) rfl))) (mvT hZ19 (hw _ (List.mem_of_getElem? (i := 76) rfl))) (notFace_of_selects (args := #[]) (mvT hZ19 (hw _ (List.mem_of_getElem? (i := 78) rfl)))) (mvT hZ19 (hw _ (List.mem_of_getElem? (i := 78) rfl))) (mvT hZ19 (hw _ (List.mem_of_getElem? (i := 77) rfl))) (by decide) (backOf (W := 0) (rm13_17 l Z a0 hw [] cz b19_0 ve15 T19.heap n0 Os20 P q19_3 R_ve15) hZ19 (hw _ (List.mem_of_getElem? (i := 79) rfl)) (hw _ (List.mem_of_getElem? (i := 29) rfl)) (by decide) (by decide)) q28a q28c (g := (mkF m 163 #[.val (.int p0), .val (.int p1), .val (.int p2), .val (.int p3), .val (.int p4), .val (.int p5), .val (.ref b1_0), .val v3, .val v5, .val v7, .val v9, .val (.ref b11), .val (.ref b19_0), .val ve15, .unset, .unset, .unset] [(.ref b19_0)])) rfl (by rw [hml]; rfl) (Steps.refl _) (argsL := []) (rest := []) (lenOf pd_7 rfl) rfl (by show 2 * 0 + _ ≤ _; exact Nat.le_of_eq rfl) (hb hby at_163) (fun _ _ => ⟨rfl, e27, (by decide : 36 + 0 ≤ _), (by decide : 138 + 0 ≤ _)⟩)
  dsimp only [Pt.U, Pt.locs, Pt.cells, Pt.slots] at X28 l28 y28 z28 st28 hQ28
  subst l28 y28 z28
  obtain ⟨rfl, N28q, e28⟩ := hQ28
  have N28 := Fr.app N27 N28q
  have f29 := (own_snK K19 So15)
  obtain ⟨_, _, ⟨T30, L30, k30, n30⟩, -, X30, ⟨Lc30, hQ30, l30, y30, z30⟩, st30⟩ := Jvm.LawKit.callS X28 hx (y := (⟨"com/example/iron_wire/ironwire/definition/QualifierDefinitionInheritedPinLaw", "same", "(Ljava/lang/String;Ljava/lang/String;)Z"⟩ : MethodName)) hown19 (mvT hZ19 (hw _ (List.mem_of_getElem? (i := 62) rfl))) (mvT hZ19 (hw _ (List.mem_of_getElem? (i := 63) rfl))) (mvT hZ19 (hw _ (List.mem_of_getElem? (i := 2) rfl))) (mvT hZ19 (hw _ (List.mem_of_getElem? (i := 64) rfl))) (by decide) (backOf (W := 0) (rmE l Z a0 hw [] cz ve15 T19.heap n0 Os20 P f29) hZ19 (hw _ (List.mem_of_getElem? (i := 64) rfl)) (hw _ (List.mem_of_getElem? (i := 2) rfl)) (by decide) (by decide)) (g := (mkF m 168 #[.val (.int p0), .val (.int p1), .val (.int p2), .val (.int p3), .val (.int p4), .val (.int p5), .val (.ref b1_0), .val v3, .val v5, .val v7, .val v9, .val (.ref b11), .val (.ref b19_0), .val ve15, .unset, .unset, .unset] [ve15, ve15])) rfl (by rw [hml]; rfl) (argsL := [ve15, ve15]) (rest := []) (lenOf pd_9 rfl) rfl (by show 2 * 0 + _ ≤ _; exact Nat.le_of_eq rfl) (hb hby at_168) (fun _ _ => ⟨rfl, e28, (by decide : 36 + 0 ≤ _), (by decide : 138 + 0 ≤ _)⟩)
  dsimp only [Pt.U, Pt.locs, Pt.cells, Pt.slots] at X30 l30 y30 z30 st30 hQ30
  subst l30 y30 z30
  obtain ⟨rfl, N30q, e30⟩ := hQ30
  have N30 := Fr.app N28 N30q
  have f31 := (f18.keep K19)
  have f32 := (q13_0.keep K19 nin0)
  obtain ⟨cq33, kq33, q33a, q33b, q33c⟩ := isOf hZ19 e30 f31
  obtain ⟨_, _, ⟨T33, L33, k33, n33⟩, -, X33, ⟨Lc33, hQ33, l33, y33, z33⟩, st33⟩ := X30.virtualBack hx (y := (⟨"com/example/iron_wire/ironwire/definition/QualifierDefinition", "typeName", "()Ljava/lang/String;"⟩ : MethodName)) (z := (⟨"com/example/iron_wire/ironwire/definition/QualifierDefinition", "typeName", "()Ljava/lang/String;"⟩ : MethodName)) hown19 (mvT hZ19 (hw _ (List.mem_of_getElem? (i := 57) rfl))) (mvT hZ19 (hw _ (List.mem_of_getElem? (i := 58) rfl))) (notFace_of_selects (args := #[]) (mvT hZ19 (hw _ (List.mem_of_getElem? (i := 60) rfl)))) (mvT hZ19 (hw _ (List.mem_of_getElem? (i := 60) rfl))) (mvT hZ19 (hw _ (List.mem_of_getElem? (i := 59) rfl))) (by decide) (backOf (W := 0) (rm9_12 l Z a0 hw [] cz b11 b1_0 T19.heap n0 Os20 P f32) hZ19 (hw _ (List.mem_of_getElem? (i := 61) rfl)) (hw _ (List.mem_of_getElem? (i := 29) rfl)) (by decide) (by decide)) q33a q33c (g := (mkF m 188 #[.val (.int p0), .val (.int p1), .val (.int p2), .val (.int p3), .val (.int p4), .val (.int p5), .val (.ref b1_0), .val v3, .val v5, .val v7, .val v9, .val (.ref b11), .val (.ref b19_0), .val ve15, .val (.int (1 : Int32)), .unset, .unset] [(.ref b11)])) rfl (by rw [hml]; rfl) (Steps.refl _) (argsL := []) (rest := []) (lenOf pd_7 rfl) rfl (by show 2 * 0 + _ ≤ _; exact Nat.le_of_eq rfl) (hb hby at_188) (fun _ _ => ⟨rfl, e30, (by decide : 36 + 0 ≤ _), (by decide : 138 + 0 ≤ _)⟩)
  dsimp only [Pt.U, Pt.locs, Pt.cells, Pt.slots] at X33 l33 y33 z33 st33 hQ33
  subst l33 y33 z33
  obtain ⟨rfl, N33q, e33⟩ := hQ33
  have N33 := Fr.app N30 N33q
  obtain ⟨_, _, ⟨T34, L34, k34, n34⟩, -, X34, ⟨Lc34, hQ34, l34, y34, z34⟩, st34⟩ := Jvm.LawKit.callS X33 hx (y := (⟨"com/example/iron_wire/ironwire/definition/QualifierDefinitionInheritedPinLaw", "same", "(Ljava/lang/String;Ljava/lang/String;)Z"⟩ : MethodName)) hown19 (mvT hZ19 (hw _ (List.mem_of_getElem? (i := 62) rfl))) (mvT hZ19 (hw _ (List.mem_of_getElem? (i := 63) rfl))) (mvT hZ19 (hw _ (List.mem_of_getElem? (i := 2) rfl))) (mvT hZ19 (hw _ (List.mem_of_getElem? (i := 64) rfl))) (by decide) (backOf (W := 0) (rm10_14 l Z a0 hw [] cz b1_0 T19.heap n0 Os20 P f23) hZ19 (hw _ (List.mem_of_getElem? (i := 64) rfl)) (hw _ (List.mem_of_getElem? (i := 2) rfl)) (by decide) (by decide)) (g := (mkF m 193 #[.val (.int p0), .val (.int p1), .val (.int p2), .val (.int p3), .val (.int p4), .val (.int p5), .val (.ref b1_0), .val v3, .val v5, .val v7, .val v9, .val (.ref b11), .val (.ref b19_0), .val ve15, .val (.int (1 : Int32)), .unset, .unset] [(.ref b1_0), (.ref b1_0)])) rfl (by rw [hml]; rfl) (argsL := [(.ref b1_0), (.ref b1_0)]) (rest := []) (lenOf pd_9 rfl) rfl (by show 2 * 0 + _ ≤ _; exact Nat.le_of_eq rfl) (hb hby at_193) (fun _ _ => ⟨rfl, e33, (by decide : 36 + 0 ≤ _), (by decide : 138 + 0 ≤ _)⟩)
  dsimp only [Pt.U, Pt.locs, Pt.cells, Pt.slots] at X34 l34 y34 z34 st34 hQ34
  subst l34 y34 z34
  obtain ⟨rfl, N34q, e34⟩ := hQ34
  have N34 := Fr.app N33 N34q
  have f35 := (q13_1.keep K19 nin0)
  obtain ⟨cq36, kq36, q36a, q36b, q36c⟩ := isOf hZ19 e34 f31
  obtain ⟨_, _, ⟨T36, L36, k36, n36⟩, -, X36, ⟨Lc36, hQ36, l36, y36, z36⟩, st36⟩ := X34.virtualBack hx (y := (⟨"com/example/iron_wire/ironwire/definition/QualifierDefinition", "value", "()Ljava/lang/String;"⟩ : MethodName)) (z := (⟨"com/example/iron_wire/ironwire/definition/QualifierDefinition", "value", "()Ljava/lang/String;"⟩ : MethodName)) hown19 (mvT hZ19 (hw _ (List.mem_of_getElem? (i := 70) rfl))) (mvT hZ19 (hw _ (List.mem_of_getElem? (i := 71) rfl))) (notFace_of_selects (args := #[]) (mvT hZ19 (hw _ (List.mem_of_getElem? (i := 73) rfl)))) (mvT hZ19 (hw _ (List.mem_of_getElem? (i := 73) rfl))) (mvT hZ19 (hw _ (List.mem_of_getElem? (i := 72) rfl))) (by decide) (backOf (W := 0) (rm12_15 l Z a0 hw [] cz b11 v3 T19.heap n0 Os20 P f35 R_v3) hZ19 (hw _ (List.mem_of_getElem? (i := 74) rfl)) (hw _ (List.mem_of_getElem? (i := 29) rfl)) (by decide) (by decide)) q36a q36c (g := (mkF m 201 #[.val (.int p0), .val (.int p1), .val (.int p2), .val (.int p3), .val (.int p4), .val (.int p5), .val (.ref b1_0), .val v3, .val v5, .val v7, .val v9, .val (.ref b11), .val (.ref b19_0), .val ve15, .val (.int (1 : Int32)), .unset, .unset] [(.ref b11)])) rfl (by rw [hml]; rfl) (Steps.refl _) (argsL := []) (rest := []) (lenOf pd_7 rfl) rfl (by show 2 * 0 + _ ≤ _; exact Nat.le_of_eq rfl) (hb hby at_201) (fun _ _ => ⟨rfl, e34, (by decide : 36 + 0 ≤ _), (by decide : 138 + 0 ≤ _)⟩)
  dsimp only [Pt.U, Pt.locs, Pt.cells, Pt.slots] at X36 l36 y36 z36 st36 hQ36
  subst l36 y36 z36
  obtain ⟨rfl, N36q, e36⟩ := hQ36
  have N36 := Fr.app N34 N36q
  obtain ⟨_, _, ⟨T37, L37, k37, n37⟩, -, X37, ⟨Lc37, hQ37, l37, y37, z37⟩, st37⟩ := Jvm.LawKit.callS X36 hx (y := (⟨"com/example/iron_wire/ironwire/definition/QualifierDefinitionInheritedPinLaw", "same", "(Ljava/lang/String;Ljava/lang/String;)Z"⟩ : MethodName)) hown19 (mvT hZ19 (hw _ (List.mem_of_getElem? (i := 62) rfl))) (mvT hZ19 (hw _ (List.mem_of_getElem? (i := 63) rfl))) (mvT hZ19 (hw _ (List.mem_of_getElem? (i := 2) rfl))) (mvT hZ19 (hw _ (List.mem_of_getElem? (i := 64) rfl))) (by decide) (backOf (W := 0) (rmE l Z a0 hw [] cz v3 T19.heap n0 Os20 P f26) hZ19 (hw _ (List.mem_of_getElem? (i := 64) rfl)) (hw _ (List.mem_of_getElem? (i := 2) rfl)) (by decide) (by decide)) (g := (mkF m 206 #[.val (.int p0), .val (.int p1), .val (.int p2), .val (.int p3), .val (.int p4), .val (.int p5), .val (.ref b1_0), .val v3, .val v5, .val v7, .val v9, .val (.ref b11), .val (.ref b19_0), .val ve15, .val (.int (1 : Int32)), .unset, .unset] [v3, v3])) rfl (by rw [hml]; rfl) (argsL := [v3, v3]) (rest := []) (lenOf pd_9 rfl) rfl (by show 2 * 0 + _ ≤ _; exact Nat.le_of_eq rfl) (hb hby at_206) (fun _ _ => ⟨rfl, e36, (by decide : 36 + 0 ≤ _), (by decide : 138 + 0 ≤ _)⟩)
  dsimp only [Pt.U, Pt.locs, Pt.cells, Pt.slots] at X37 l37 y37 z37 st37 hQ37
  subst l37 y37 z37
  obtain ⟨rfl, N37q, e37⟩ := hQ37
  have N37 := Fr.app N36 N37q
  have f38 := (q13_2.keep K19 nin0)
  obtain ⟨cq39, kq39, q39a, q39b, q39c⟩ := isOf hZ19 e37 f31
  obtain ⟨_, _, ⟨T39, L39, k39, n39⟩, -, X39, ⟨Lc39, hQ39, l39, y39, z39⟩, st39⟩ := X37.virtualBack hx (y := (⟨"com/example/iron_wire/ironwire/definition/QualifierDefinition", "inheritedFrom", "()Ljava/lang/String;"⟩ : MethodName)) (z := (⟨"com/example/iron_wire/ironwire/definition/QualifierDefinition", "inheritedFrom", "()Ljava/lang/String;"⟩ : MethodName)) hown19 (mvT hZ19 (hw _ (List.mem_of_getElem? (i := 75) rfl))) (mvT hZ19 (hw _ (List.mem_of_getElem? (i := 76) rfl))) (notFace_of_selects (args := #[]) (mvT hZ19 (hw _ (List.mem_of_getElem? (i := 78) rfl)))) (mvT hZ19 (hw _ (List.mem_of_getElem? (i := 78) rfl))) (mvT hZ19 (hw _ (List.mem_of_getElem? (i := 77) rfl))) (by decide) (backOf (W := 0) (rm13_17 l Z a0 hw [] cz b11 v5 T19.heap n0 Os20 P f38 R_v5) hZ19 (hw _ (List.mem_of_getElem? (i := 79) rfl)) (hw _ (List.mem_of_getElem? (i := 29) rfl)) (by decide) (by decide)) q39a q39c (g := (mkF m 214 #[.val (.int p0), .val (.int p1), .val (.int p2), .val (.int p3), .val (.int p4), .val (.int p5), .val (.ref b1_0), .val v3, .val v5, .val v7, .val v9, .val (.ref b11), .val (.ref b19_0), .val ve15, .val (.int (1 : Int32)), .unset, .unset] [(.ref b11)])) rfl (by rw [hml]; rfl) (Steps.refl _) (argsL := []) (rest := []) (lenOf pd_7 rfl) rfl (by show 2 * 0 + _ ≤ _; exact Nat.le_of_eq rfl) (hb hby at_214) (fun _ _ => ⟨rfl, e37, (by decide : 36 + 0 ≤ _), (by decide : 138 + 0 ≤ _)⟩)
  dsimp only [Pt.U, Pt.locs, Pt.cells, Pt.slots] at X39 l39 y39 z39 st39 hQ39
  subst l39 y39 z39
  obtain ⟨rfl, N39q, e39⟩ := hQ39
  have N39 := Fr.app N37 N39q
  have f40 := (own_snK K19 f16)
  obtain ⟨_, _, ⟨T41, L41, k41, n41⟩, -, X41, ⟨Lc41, hQ41, l41, y41, z41⟩, st41⟩ := Jvm.LawKit.callS X39 hx (y := (⟨"com/example/iron_wire/ironwire/definition/QualifierDefinitionInheritedPinLaw", "same", "(Ljava/lang/String;Ljava/lang/String;)Z"⟩ : MethodName)) hown19 (mvT hZ19 (hw _ (List.mem_of_getElem? (i := 62) rfl))) (mvT hZ19 (hw _ (List.mem_of_getElem? (i := 63) rfl))) (mvT hZ19 (hw _ (List.mem_of_getElem? (i := 2) rfl))) (mvT hZ19 (hw _ (List.mem_of_getElem? (i := 64) rfl))) (by decide) (backOf (W := 0) (rmE l Z a0 hw [] cz v5 T19.heap n0 Os20 P f40) hZ19 (hw _ (List.mem_of_getElem? (i := 64) rfl)) (hw _ (List.mem_of_getElem? (i := 2) rfl)) (by decide) (by decide)) (g := (mkF m 219 #[.val (.int p0), .val (.int p1), .val (.int p2), .val (.int p3), .val (.int p4), .val (.int p5), .val (.ref b1_0), .val v3, .val v5, .val v7, .val v9, .val (.ref b11), .val (.ref b19_0), .val ve15, .val (.int (1 : Int32)), .unset, .unset] [v5, v5])) rfl (by rw [hml]; rfl) (argsL := [v5, v5]) (rest := []) (lenOf pd_9 rfl) rfl (by show 2 * 0 + _ ≤ _; exact Nat.le_of_eq rfl) (hb hby at_219) (fun _ _ => ⟨rfl, e39, (by decide : 36 + 0 ≤ _), (by decide : 138 + 0 ≤ _)⟩)
  dsimp only [Pt.U, Pt.locs, Pt.cells, Pt.slots] at X41 l41 y41 z41 st41 hQ41
  subst l41 y41 z41
  obtain ⟨rfl, N41q, e41⟩ := hQ41
  have N41 := Fr.app N39 N41q
  have f43 := (own_snK K19 (own_snK K13 (own_snE E11 S9)))
  obtain ⟨ve42, he42⟩ : ∃ z, z = own_or ve15 v9 := ⟨_, rfl⟩
  have So42 : StrN Z (T19.heap) ve42 := by rw [he42]; exact own_snO f29 f43
  have R_ve42 := own_snr So42
  obtain ⟨cq44, kq44, q44a, q44b, q44c⟩ := isOf hZ19 e41 q19_0
  obtain ⟨_, _, ⟨T44, L44, k44, n44⟩, -, Xq44, Sq44, gq44, ⟨Lc44, hQ44, l44, y44, z44, Cq44⟩, st44⟩ := X41.virtualBackS hx (y := (⟨"com/example/iron_wire/ironwire/definition/QualifierDefinition", "inherited", "(Ljava/lang/String;)Lcom/example/iron_wire/ironwire/definition/QualifierDefinition;"⟩ : MethodName)) (z := (⟨"com/example/iron_wire/ironwire/definition/QualifierDefinition", "inherited", "(Ljava/lang/String;)Lcom/example/iron_wire/ironwire/definition/QualifierDefinition;"⟩ : MethodName)) hown19 (mvT hZ19 (hw _ (List.mem_of_getElem? (i := 50) rfl))) (mvT hZ19 (hw _ (List.mem_of_getElem? (i := 51) rfl))) (notFace_of_selects (args := #[]) (mvT hZ19 (hw _ (List.mem_of_getElem? (i := 53) rfl)))) (mvT hZ19 (hw _ (List.mem_of_getElem? (i := 53) rfl))) (mvT hZ19 (hw _ (List.mem_of_getElem? (i := 52) rfl))) (by decide) (own_backH (xs := []) (W := 0) (rmI l Z a0 hw [] cz b19_0 v9 b1_0 v3 ve42 ve15 T19.heap n0 Os20 P he42 R_ve15 q19_1 q19_2 q19_3 R_v3 R_v9) hZ19 (hw _ (List.mem_of_getElem? (i := 54) rfl)) (hw _ (List.mem_of_getElem? (i := 29) rfl)) (by decide) (by decide) hEL Cs20.1 own_sx0) q44a q44c (g := (mkF m 236 #[.val (.int p0), .val (.int p1), .val (.int p2), .val (.int p3), .val (.int p4), .val (.int p5), .val (.ref b1_0), .val v3, .val v5, .val v7, .val v9, .val (.ref b11), .val (.ref b19_0), .val ve15, .val (.int (1 : Int32)), .unset, .unset] [v9, (.ref b19_0)])) rfl (by rw [hml]; rfl) (Steps.refl _) (argsL := [v9]) (rest := []) (lenOf pd_6 rfl) rfl (by show 2 * 0 + _ ≤ _; exact Nat.le_of_eq rfl) (hb hby at_236) (fun _ _ => ⟨rfl, e41, (by decide : 36 + 3 ≤ _), (by decide : 138 + 39 ≤ _)⟩)
  dsimp only [Pt.U, Pt.locs, Pt.cells, Pt.slots] at Xq44 Sq44 gq44 l44 y44 z44 st44 hQ44 Cq44
  subst l44 y44 z44
  obtain ⟨X44, hS44, hZ44, hown44⟩ := rebS hS19 (show _ ≤ T41.heap.size by rw [e41]; exact hk20) Xq44 Sq44 gq44 hZ19 hown19
  have hkq44 : T44.heap.size ≤ (T44.heap).size := Nat.le_refl _
  obtain ⟨b44_0, rfl, N44q, K44, l44_0, q44_0, q44_1, q44_2, q44_3⟩ := hQ44
  have N44 := Fr.app N41 N44q
  have Ks45 : Keep h0 (T44.heap) [] := Ks20.trans K44 all0
  have Zs45 : n0 ≤ (T44.heap).size := Nat.le_trans Zs20 K44.1
  have Os45 : Old Z n0 (T44.heap) := Os20.keep K44 all0
  have Cs45 : CHr Z consts_1 s.vm h0 T44.vm (T44.heap) := Cs20.trans Cq44
  have hk45 : T44.heap.size ≤ (T44.heap).size := hkq44
  have so46 : ∀ t, Steps p.tables e below (T44.setTop (mkF m 253 #[.val (.int p0), .val (.int p1), .val (.int p2), .val (.int p3), .val (.int p4), .val (.int p5), .val (.ref b1_0), .val v3, .val v5, .val v7, .val v9, .val (.ref b11), .val (.ref b19_0), .val ve15, .val (.int (1 : Int32)), .val (.ref b44_0), .unset] [ve42])) t → Steps p.tables e below (T44.setTop (mkF m 241 #[.val (.int p0), .val (.int p1), .val (.int p2), .val (.int p3), .val (.int p4), .val (.int p5), .val (.ref b1_0), .val v3, .val v5, .val v7, .val v9, .val (.ref b11), .val (.ref b19_0), .val ve15, .val (.int (1 : Int32)), .val (.ref b44_0), .unset] [])) t := by
    intro t kt
    rcases ref_cases R_ve15 with q | ⟨a, q⟩
    · rw [q] at kt ⊢
      rw [show ve42 = v9 from by rw [he42, q]; rfl] at kt
      show Steps p.tables e below (T44.setTop (mkF m 241 #[.val (.int p0), .val (.int p1), .val (.int p2), .val (.int p3), .val (.int p4), .val (.int p5), .val (.ref b1_0), .val v3, .val v5, .val v7, .val v9, .val (.ref b11), .val (.ref b19_0), .val .null, .val (.int (1 : Int32)), .val (.ref b44_0), .unset] [])) _
      refine XS.aload X44.here hx rfl (hb hby at_241) rfl rfl ?_
      show Steps p.tables e below (T44.setTop (mkF m 243 #[.val (.int p0), .val (.int p1), .val (.int p2), .val (.int p3), .val (.int p4), .val (.int p5), .val (.ref b1_0), .val v3, .val v5, .val v7, .val v9, .val (.ref b11), .val (.ref b19_0), .val .null, .val (.int (1 : Int32)), .val (.ref b44_0), .unset] [.null])) _
      refine XS.ifnullYes X44.here hx rfl (pc0 := 243) (pc' := 251) rfl (hb hby at_243) rfl (by decide) (by decide) ?_
      show Steps p.tables e below (T44.setTop (mkF m 251 #[.val (.int p0), .val (.int p1), .val (.int p2), .val (.int p3), .val (.int p4), .val (.int p5), .val (.ref b1_0), .val v3, .val v5, .val v7, .val v9, .val (.ref b11), .val (.ref b19_0), .val .null, .val (.int (1 : Int32)), .val (.ref b44_0), .unset] [])) _
      refine XS.aload X44.here hx rfl (hb hby at_251) rfl R_v9 ?_
      exact kt
    · rw [q] at kt ⊢
      rw [show ve42 = (.ref a) from by rw [he42, q]; rfl] at kt
      show Steps p.tables e below (T44.setTop (mkF m 241 #[.val (.int p0), .val (.int p1), .val (.int p2), .val (.int p3), .val (.int p4), .val (.int p5), .val (.ref b1_0), .val v3, .val v5, .val v7, .val v9, .val (.ref b11), .val (.ref b19_0), .val (.ref a), .val (.int (1 : Int32)), .val (.ref b44_0), .unset] [])) _
      refine XS.aload X44.here hx rfl (hb hby at_241) rfl rfl ?_
      show Steps p.tables e below (T44.setTop (mkF m 243 #[.val (.int p0), .val (.int p1), .val (.int p2), .val (.int p3), .val (.int p4), .val (.int p5), .val (.ref b1_0), .val v3, .val v5, .val v7, .val v9, .val (.ref b11), .val (.ref b19_0), .val (.ref a), .val (.int (1 : Int32)), .val (.ref b44_0), .unset] [(.ref a)])) _
      refine XS.ifnullNo X44.here hx rfl (hb hby at_243) rfl ?_
      show Steps p.tables e below (T44.setTop (mkF m 246 #[.val (.int p0), .val (.int p1), .val (.int p2), .val (.int p3), .val (.int p4), .val (.int p5), .val (.ref b1_0), .val v3, .val v5, .val v7, .val v9, .val (.ref b11), .val (.ref b19_0), .val (.ref a), .val (.int (1 : Int32)), .val (.ref b44_0), .unset] [])) _
      refine XS.aload X44.here hx rfl (hb hby at_246) rfl rfl ?_
      show Steps p.tables e below (T44.setTop (mkF m 248 #[.val (.int p0), .val (.int p1), .val (.int p2), .val (.int p3), .val (.int p4), .val (.int p5), .val (.ref b1_0), .val v3, .val v5, .val v7, .val v9, .val (.ref b11), .val (.ref b19_0), .val (.ref a), .val (.int (1 : Int32)), .val (.ref b44_0), .unset] [(.ref a)])) _
      refine XS.goto X44.here hx rfl (pc0 := 248) (pc' := 253) rfl (hb hby at_248) (by decide) (by decide) ?_
      exact kt
  obtain ⟨cq47, kq47, q47a, q47b, q47c⟩ := isOf hZ44 rfl q44_0
  obtain ⟨_, _, ⟨T47, L47, k47, n47⟩, -, X47, ⟨Lc47, hQ47, l47, y47, z47⟩, st47⟩ := X44.virtualBack hx (y := (⟨"com/example/iron_wire/ironwire/definition/QualifierDefinition", "typeName", "()Ljava/lang/String;"⟩ : MethodName)) (z := (⟨"com/example/iron_wire/ironwire/definition/QualifierDefinition", "typeName", "()Ljava/lang/String;"⟩ : MethodName)) hown44 (mvT hZ44 (hw _ (List.mem_of_getElem? (i := 57) rfl))) (mvT hZ44 (hw _ (List.mem_of_getElem? (i := 58) rfl))) (notFace_of_selects (args := #[]) (mvT hZ44 (hw _ (List.mem_of_getElem? (i := 60) rfl)))) (mvT hZ44 (hw _ (List.mem_of_getElem? (i := 60) rfl))) (mvT hZ44 (hw _ (List.mem_of_getElem? (i := 59) rfl))) (by decide) (backOf (W := 0) (rm9_12 l Z a0 hw [] cz b44_0 b1_0 T44.heap n0 Os45 P q44_1) hZ44 (hw _ (List.mem_of_getElem? (i := 61) rfl)) (hw _ (List.mem_of_getElem? (i := 29) rfl)) (by decide) (by decide)) q47a q47c (g := (mkF m 262 #[.val (.int p0), .val (.int p1), .val (.int p2), .val (.int p3), .val (.int p4), .val (.int p5), .val (.ref b1_0), .val v3, .val v5, .val v7, .val v9, .val (.ref b11), .val (.ref b19_0), .val ve15, .val (.int (1 : Int32)), .val (.ref b44_0), .val ve42] [(.ref b44_0)])) rfl (by rw [hml]; rfl) (Steps.refl _) (argsL := []) (rest := []) (lenOf pd_7 rfl) rfl (by show 2 * 0 + _ ≤ _; exact Nat.le_of_eq rfl) (hb hby at_262) (fun _ _ => ⟨rfl, rfl, (by decide : 39 + 0 ≤ _), (by decide : 177 + 0 ≤ _)⟩)
  dsimp only [Pt.U, Pt.locs, Pt.cells, Pt.slots] at X47 l47 y47 z47 st47 hQ47
  subst l47 y47 z47
  obtain ⟨rfl, N47q, e47⟩ := hQ47
  have N47 := Fr.app N44 N47q
  have f48 := (f23.keep K44)
  obtain ⟨_, _, ⟨T49, L49, k49, n49⟩, -, X49, ⟨Lc49, hQ49, l49, y49, z49⟩, st49⟩ := Jvm.LawKit.callS X47 hx (y := (⟨"com/example/iron_wire/ironwire/definition/QualifierDefinitionInheritedPinLaw", "same", "(Ljava/lang/String;Ljava/lang/String;)Z"⟩ : MethodName)) hown44 (mvT hZ44 (hw _ (List.mem_of_getElem? (i := 62) rfl))) (mvT hZ44 (hw _ (List.mem_of_getElem? (i := 63) rfl))) (mvT hZ44 (hw _ (List.mem_of_getElem? (i := 2) rfl))) (mvT hZ44 (hw _ (List.mem_of_getElem? (i := 64) rfl))) (by decide) (backOf (W := 0) (rm10_14 l Z a0 hw [] cz b1_0 T44.heap n0 Os45 P f48) hZ44 (hw _ (List.mem_of_getElem? (i := 64) rfl)) (hw _ (List.mem_of_getElem? (i := 2) rfl)) (by decide) (by decide)) (g := (mkF m 267 #[.val (.int p0), .val (.int p1), .val (.int p2), .val (.int p3), .val (.int p4), .val (.int p5), .val (.ref b1_0), .val v3, .val v5, .val v7, .val v9, .val (.ref b11), .val (.ref b19_0), .val ve15, .val (.int (1 : Int32)), .val (.ref b44_0), .val ve42] [(.ref b1_0), (.ref b1_0)])) rfl (by rw [hml]; rfl) (argsL := [(.ref b1_0), (.ref b1_0)]) (rest := []) (lenOf pd_9 rfl) rfl (by show 2 * 0 + _ ≤ _; exact Nat.le_of_eq rfl) (hb hby at_267) (fun _ _ => ⟨rfl, e47, (by decide : 39 + 0 ≤ _), (by decide : 177 + 0 ≤ _)⟩)
  dsimp only [Pt.U, Pt.locs, Pt.cells, Pt.slots] at X49 l49 y49 z49 st49 hQ49
  subst l49 y49 z49
  obtain ⟨rfl, N49q, e49⟩ := hQ49
  have N49 := Fr.app N47 N49q
  obtain ⟨cq50, kq50, q50a, q50b, q50c⟩ := isOf hZ44 e49 q44_0
  obtain ⟨_, _, ⟨T50, L50, k50, n50⟩, -, X50, ⟨Lc50, hQ50, l50, y50, z50⟩, st50⟩ := X49.virtualBack hx (y := (⟨"com/example/iron_wire/ironwire/definition/QualifierDefinition", "value", "()Ljava/lang/String;"⟩ : MethodName)) (z := (⟨"com/example/iron_wire/ironwire/definition/QualifierDefinition", "value", "()Ljava/lang/String;"⟩ : MethodName)) hown44 (mvT hZ44 (hw _ (List.mem_of_getElem? (i := 70) rfl))) (mvT hZ44 (hw _ (List.mem_of_getElem? (i := 71) rfl))) (notFace_of_selects (args := #[]) (mvT hZ44 (hw _ (List.mem_of_getElem? (i := 73) rfl)))) (mvT hZ44 (hw _ (List.mem_of_getElem? (i := 73) rfl))) (mvT hZ44 (hw _ (List.mem_of_getElem? (i := 72) rfl))) (by decide) (backOf (W := 0) (rm12_15 l Z a0 hw [] cz b44_0 v3 T44.heap n0 Os45 P q44_2 R_v3) hZ44 (hw _ (List.mem_of_getElem? (i := 74) rfl)) (hw _ (List.mem_of_getElem? (i := 29) rfl)) (by decide) (by decide)) q50a q50c (g := (mkF m 275 #[.val (.int p0), .val (.int p1), .val (.int p2), .val (.int p3), .val (.int p4), .val (.int p5), .val (.ref b1_0), .val v3, .val v5, .val v7, .val v9, .val (.ref b11), .val (.ref b19_0), .val ve15, .val (.int (1 : Int32)), .val (.ref b44_0), .val ve42] [(.ref b44_0)])) rfl (by rw [hml]; rfl) (Steps.refl _) (argsL := []) (rest := []) (lenOf pd_7 rfl) rfl (by show 2 * 0 + _ ≤ _; exact Nat.le_of_eq rfl) (hb hby at_275) (fun _ _ => ⟨rfl, e49, (by decide : 39 + 0 ≤ _), (by decide : 177 + 0 ≤ _)⟩)
  dsimp only [Pt.U, Pt.locs, Pt.cells, Pt.slots] at X50 l50 y50 z50 st50 hQ50
  subst l50 y50 z50
  obtain ⟨rfl, N50q, e50⟩ := hQ50
  have N50 := Fr.app N49 N50q
  have f51 := (own_snK K44 f26)
  obtain ⟨_, _, ⟨T52, L52, k52, n52⟩, -, X52, ⟨Lc52, hQ52, l52, y52, z52⟩, st52⟩ := Jvm.LawKit.callS X50 hx (y := (⟨"com/example/iron_wire/ironwire/definition/QualifierDefinitionInheritedPinLaw", "same", "(Ljava/lang/String;Ljava/lang/String;)Z"⟩ : MethodName)) hown44 (mvT hZ44 (hw _ (List.mem_of_getElem? (i := 62) rfl))) (mvT hZ44 (hw _ (List.mem_of_getElem? (i := 63) rfl))) (mvT hZ44 (hw _ (List.mem_of_getElem? (i := 2) rfl))) (mvT hZ44 (hw _ (List.mem_of_getElem? (i := 64) rfl))) (by decide) (backOf (W := 0) (rmE l Z a0 hw [] cz v3 T44.heap n0 Os45 P f51) hZ44 (hw _ (List.mem_of_getElem? (i := 64) rfl)) (hw _ (List.mem_of_getElem? (i := 2) rfl)) (by decide) (by decide)) (g := (mkF m 280 #[.val (.int p0), .val (.int p1), .val (.int p2), .val (.int p3), .val (.int p4), .val (.int p5), .val (.ref b1_0), .val v3, .val v5, .val v7, .val v9, .val (.ref b11), .val (.ref b19_0), .val ve15, .val (.int (1 : Int32)), .val (.ref b44_0), .val ve42] [v3, v3])) rfl (by rw [hml]; rfl) (argsL := [v3, v3]) (rest := []) (lenOf pd_9 rfl) rfl (by show 2 * 0 + _ ≤ _; exact Nat.le_of_eq rfl) (hb hby at_280) (fun _ _ => ⟨rfl, e50, (by decide : 39 + 0 ≤ _), (by decide : 177 + 0 ≤ _)⟩)
  dsimp only [Pt.U, Pt.locs, Pt.cells, Pt.slots] at X52 l52 y52 z52 st52 hQ52
  subst l52 y52 z52
  obtain ⟨rfl, N52q, e52⟩ := hQ52
  have N52 := Fr.app N50 N52q
  obtain ⟨cq53, kq53, q53a, q53b, q53c⟩ := isOf hZ44 e52 q44_0
  obtain ⟨_, _, ⟨T53, L53, k53, n53⟩, -, X53, ⟨Lc53, hQ53, l53, y53, z53⟩, st53⟩ := X52.virtualBack hx (y := (⟨"com/example/iron_wire/ironwire/definition/QualifierDefinition", "inheritedFrom", "()Ljava/lang/String;"⟩ : MethodName)) (z := (⟨"com/example/iron_wire/ironwire/definition/QualifierDefinition", "inheritedFrom", "()Ljava/lang/String;"⟩ : MethodName)) hown44 (mvT hZ44 (hw _ (List.mem_of_getElem? (i := 75) rfl))) (mvT hZ44 (hw _ (List.mem_of_getElem? (i := 76) rfl))) (notFace_of_selects (args := #[]) (mvT hZ44 (hw _ (List.mem_of_getElem? (i := 78) rfl)))) (mvT hZ44 (hw _ (List.mem_of_getElem? (i := 78) rfl))) (mvT hZ44 (hw _ (List.mem_of_getElem? (i := 77) rfl))) (by decide) (backOf (W := 0) (rm13_17 l Z a0 hw [] cz b44_0 ve42 T44.heap n0 Os45 P q44_3 R_ve42) hZ44 (hw _ (List.mem_of_getElem? (i := 79) rfl)) (hw _ (List.mem_of_getElem? (i := 29) rfl)) (by decide) (by decide)) q53a q53c (g := (mkF m 288 #[.val (.int p0), .val (.int p1), .val (.int p2), .val (.int p3), .val (.int p4), .val (.int p5), .val (.ref b1_0), .val v3, .val v5, .val v7, .val v9, .val (.ref b11), .val (.ref b19_0), .val ve15, .val (.int (1 : Int32)), .val (.ref b44_0), .val ve42] [(.ref b44_0)])) rfl (by rw [hml]; rfl) (Steps.refl _) (argsL := []) (rest := []) (lenOf pd_7 rfl) rfl (by show 2 * 0 + _ ≤ _; exact Nat.le_of_eq rfl) (hb hby at_288) (fun _ _ => ⟨rfl, e52, (by decide : 39 + 0 ≤ _), (by decide : 177 + 0 ≤ _)⟩)
  dsimp only [Pt.U, Pt.locs, Pt.cells, Pt.slots] at X53 l53 y53 z53 st53 hQ53
  subst l53 y53 z53
  obtain ⟨rfl, N53q, e53⟩ := hQ53
  have N53 := Fr.app N52 N53q
  have f54 := (own_snK K44 So42)
  obtain ⟨_, _, ⟨T55, L55, k55, n55⟩, -, X55, ⟨Lc55, hQ55, l55, y55, z55⟩, st55⟩ := Jvm.LawKit.callS X53 hx (y := (⟨"com/example/iron_wire/ironwire/definition/QualifierDefinitionInheritedPinLaw", "same", "(Ljava/lang/String;Ljava/lang/String;)Z"⟩ : MethodName)) hown44 (mvT hZ44 (hw _ (List.mem_of_getElem? (i := 62) rfl))) (mvT hZ44 (hw _ (List.mem_of_getElem? (i := 63) rfl))) (mvT hZ44 (hw _ (List.mem_of_getElem? (i := 2) rfl))) (mvT hZ44 (hw _ (List.mem_of_getElem? (i := 64) rfl))) (by decide) (backOf (W := 0) (rmE l Z a0 hw [] cz ve42 T44.heap n0 Os45 P f54) hZ44 (hw _ (List.mem_of_getElem? (i := 64) rfl)) (hw _ (List.mem_of_getElem? (i := 2) rfl)) (by decide) (by decide)) (g := (mkF m 293 #[.val (.int p0), .val (.int p1), .val (.int p2), .val (.int p3), .val (.int p4), .val (.int p5), .val (.ref b1_0), .val v3, .val v5, .val v7, .val v9, .val (.ref b11), .val (.ref b19_0), .val ve15, .val (.int (1 : Int32)), .val (.ref b44_0), .val ve42] [ve42, ve42])) rfl (by rw [hml]; rfl) (argsL := [ve42, ve42]) (rest := []) (lenOf pd_9 rfl) rfl (by show 2 * 0 + _ ≤ _; exact Nat.le_of_eq rfl) (hb hby at_293) (fun _ _ => ⟨rfl, e53, (by decide : 39 + 0 ≤ _), (by decide : 177 + 0 ≤ _)⟩)
  dsimp only [Pt.U, Pt.locs, Pt.cells, Pt.slots] at X55 l55 y55 z55 st55 hQ55
  subst l55 y55 z55
  obtain ⟨rfl, N55q, e55⟩ := hQ55
  have N55 := Fr.app N53 N55q
  have Cend := Cs45.trans (CHv.at X55 hZ44 hEL Cs45.1)
  obtain ⟨fs, hr, hrun, hended, hREW⟩ := X55.leaveW hS44 (show _ ≤ T55.heap.size by rw [e55]; exact hk45) (v := some (.int (1 : Int32))) (fun h => by rw [Bd.returns] at h; cases h)
  refine ⟨_, _, pre0 _ ?_, hrun, hended, _, _, rfl, ?_, ?_, own_rew hREW (by decide) (by decide)⟩
  · show Steps p.tables e below (s₁.setTop (mkF m 0 #[.val (.int p0), .val (.int p1), .val (.int p2), .val (.int p3), .val (.int p4), .val (.int p5), .unset, .unset, .unset, .unset, .unset, .unset, .unset, .unset, .unset, .unset, .unset] [])) _
    refine XS.iloadN X0.here hx rfl (hb hby at_0) rfl ?_
    show Steps p.tables e below (s₁.setTop (mkF m 1 #[.val (.int p0), .val (.int p1), .val (.int p2), .val (.int p3), .val (.int p4), .val (.int p5), .unset, .unset, .unset, .unset, .unset, .unset, .unset, .unset, .unset, .unset, .unset] [(.int p0)])) _
    refine XS.iloadN X0.here hx rfl (hb hby at_1) rfl ?_
    show Steps p.tables e below (s₁.setTop (mkF m 2 #[.val (.int p0), .val (.int p1), .val (.int p2), .val (.int p3), .val (.int p4), .val (.int p5), .unset, .unset, .unset, .unset, .unset, .unset, .unset, .unset, .unset, .unset, .unset] [(.int p0), (.int p0)])) _
    refine XS.bipush X0.here hx rfl (hb hby at_2) ?_
    show Steps p.tables e below (s₁.setTop (mkF m 4 #[.val (.int p0), .val (.int p1), .val (.int p2), .val (.int p3), .val (.int p4), .val (.int p5), .unset, .unset, .unset, .unset, .unset, .unset, .unset, .unset, .unset, .unset, .unset] [(.int (16 : Int32)), (.int p0), (.int p0)])) _
    refine XS.iushr X0.here hx rfl (hb hby at_4) rfl ?_
    show Steps p.tables e below (s₁.setTop (mkF m 5 #[.val (.int p0), .val (.int p1), .val (.int p2), .val (.int p3), .val (.int p4), .val (.int p5), .unset, .unset, .unset, .unset, .unset, .unset, .unset, .unset, .unset, .unset, .unset] [(.int ((p0.toUInt32 >>> ((16 : Int32) &&& 31).toUInt32).toInt32)), (.int p0)])) _
    refine st1.trans ?_
    show Steps p.tables e below (T1.setTop (mkF m 8 #[.val (.int p0), .val (.int p1), .val (.int p2), .val (.int p3), .val (.int p4), .val (.int p5), .unset, .unset, .unset, .unset, .unset, .unset, .unset, .unset, .unset, .unset, .unset] [(.ref b1_0)])) _
    refine XS.astore X1.here hx rfl (hb hby at_8) rfl rfl (l' := #[.val (.int p0), .val (.int p1), .val (.int p2), .val (.int p3), .val (.int p4), .val (.int p5), .val (.ref b1_0), .unset, .unset, .unset, .unset, .unset, .unset, .unset, .unset, .unset, .unset]) rfl ?_
    show Steps p.tables e below (T1.setTop (mkF m 10 #[.val (.int p0), .val (.int p1), .val (.int p2), .val (.int p3), .val (.int p4), .val (.int p5), .val (.ref b1_0), .unset, .unset, .unset, .unset, .unset, .unset, .unset, .unset, .unset, .unset] [])) _
    refine st3 _ ?_
    show Steps p.tables e below (T3.setTop (mkF m 29 #[.val (.int p0), .val (.int p1), .val (.int p2), .val (.int p3), .val (.int p4), .val (.int p5), .val (.ref b1_0), .unset, .unset, .unset, .unset, .unset, .unset, .unset, .unset, .unset, .unset] [v3])) _
    refine XS.astoreS X3.here hx rfl (hb hby at_29) rfl R_v3 (own_cat R_v3) rfl (Or.inl rfl) ?_
    show Steps p.tables e below (T3.setTop (mkF m 31 #[.val (.int p0), .val (.int p1), .val (.int p2), .val (.int p3), .val (.int p4), .val (.int p5), .val (.ref b1_0), .val v3, .unset, .unset, .unset, .unset, .unset, .unset, .unset, .unset, .unset] [])) _
    refine st5 _ ?_
    show Steps p.tables e below (T5.setTop (mkF m 50 #[.val (.int p0), .val (.int p1), .val (.int p2), .val (.int p3), .val (.int p4), .val (.int p5), .val (.ref b1_0), .val v3, .unset, .unset, .unset, .unset, .unset, .unset, .unset, .unset, .unset] [v5])) _
    refine XS.astoreS X5.here hx rfl (hb hby at_50) rfl R_v5 (own_cat R_v5) rfl (Or.inl rfl) ?_
    show Steps p.tables e below (T5.setTop (mkF m 52 #[.val (.int p0), .val (.int p1), .val (.int p2), .val (.int p3), .val (.int p4), .val (.int p5), .val (.ref b1_0), .val v3, .val v5, .unset, .unset, .unset, .unset, .unset, .unset, .unset, .unset] [])) _
    refine st7 _ ?_
    show Steps p.tables e below (T7.setTop (mkF m 71 #[.val (.int p0), .val (.int p1), .val (.int p2), .val (.int p3), .val (.int p4), .val (.int p5), .val (.ref b1_0), .val v3, .val v5, .unset, .unset, .unset, .unset, .unset, .unset, .unset, .unset] [v7])) _
    refine XS.astoreS X7.here hx rfl (hb hby at_71) rfl R_v7 (own_cat R_v7) rfl (Or.inl rfl) ?_
    show Steps p.tables e below (T7.setTop (mkF m 73 #[.val (.int p0), .val (.int p1), .val (.int p2), .val (.int p3), .val (.int p4), .val (.int p5), .val (.ref b1_0), .val v3, .val v5, .val v7, .unset, .unset, .unset, .unset, .unset, .unset, .unset] [])) _
    refine st9 _ ?_
    show Steps p.tables e below (T9.setTop (mkF m 95 #[.val (.int p0), .val (.int p1), .val (.int p2), .val (.int p3), .val (.int p4), .val (.int p5), .val (.ref b1_0), .val v3, .val v5, .val v7, .unset, .unset, .unset, .unset, .unset, .unset, .unset] [v9])) _
    refine XS.astoreS X9.here hx rfl (hb hby at_95) rfl R_v9 (own_cat R_v9) rfl (Or.inl rfl) ?_
    show Steps p.tables e below (T9.setTop (mkF m 97 #[.val (.int p0), .val (.int p1), .val (.int p2), .val (.int p3), .val (.int p4), .val (.int p5), .val (.ref b1_0), .val v3, .val v5, .val v7, .val v9, .unset, .unset, .unset, .unset, .unset, .unset] [])) _
    refine st11 _ ?_
    show Steps p.tables e below (T11.setTop (mkF m 100 #[.val (.int p0), .val (.int p1), .val (.int p2), .val (.int p3), .val (.int p4), .val (.int p5), .val (.ref b1_0), .val v3, .val v5, .val v7, .val v9, .unset, .unset, .unset, .unset, .unset, .unset] [(.ref b11)])) _
    refine XS.dup X11.here hx rfl (hb hby at_100) rfl rfl ?_
    show Steps p.tables e below (T11.setTop (mkF m 101 #[.val (.int p0), .val (.int p1), .val (.int p2), .val (.int p3), .val (.int p4), .val (.int p5), .val (.ref b1_0), .val v3, .val v5, .val v7, .val v9, .unset, .unset, .unset, .unset, .unset, .unset] [(.ref b11), (.ref b11)])) _
    refine XS.aload X11.here hx rfl (hb hby at_101) rfl rfl ?_
    show Steps p.tables e below (T11.setTop (mkF m 103 #[.val (.int p0), .val (.int p1), .val (.int p2), .val (.int p3), .val (.int p4), .val (.int p5), .val (.ref b1_0), .val v3, .val v5, .val v7, .val v9, .unset, .unset, .unset, .unset, .unset, .unset] [(.ref b1_0), (.ref b11), (.ref b11)])) _
    refine XS.aload X11.here hx rfl (hb hby at_103) rfl R_v3 ?_
    show Steps p.tables e below (T11.setTop (mkF m 105 #[.val (.int p0), .val (.int p1), .val (.int p2), .val (.int p3), .val (.int p4), .val (.int p5), .val (.ref b1_0), .val v3, .val v5, .val v7, .val v9, .unset, .unset, .unset, .unset, .unset, .unset] [v3, (.ref b1_0), (.ref b11), (.ref b11)])) _
    refine XS.aload X11.here hx rfl (hb hby at_105) rfl R_v5 ?_
    show Steps p.tables e below (T11.setTop (mkF m 107 #[.val (.int p0), .val (.int p1), .val (.int p2), .val (.int p3), .val (.int p4), .val (.int p5), .val (.ref b1_0), .val v3, .val v5, .val v7, .val v9, .unset, .unset, .unset, .unset, .unset, .unset] [v5, v3, (.ref b1_0), (.ref b11), (.ref b11)])) _
    refine st13.trans ?_
    show Steps p.tables e below (T13.setTop (mkF m 110 #[.val (.int p0), .val (.int p1), .val (.int p2), .val (.int p3), .val (.int p4), .val (.int p5), .val (.ref b1_0), .val v3, .val v5, .val v7, .val v9, .unset, .unset, .unset, .unset, .unset, .unset] [(.ref b11)])) _
    refine XS.astore X13.here hx rfl (hb hby at_110) rfl rfl (l' := #[.val (.int p0), .val (.int p1), .val (.int p2), .val (.int p3), .val (.int p4), .val (.int p5), .val (.ref b1_0), .val v3, .val v5, .val v7, .val v9, .val (.ref b11), .unset, .unset, .unset, .unset, .unset]) rfl ?_
    show Steps p.tables e below (T13.setTop (mkF m 112 #[.val (.int p0), .val (.int p1), .val (.int p2), .val (.int p3), .val (.int p4), .val (.int p5), .val (.ref b1_0), .val v3, .val v5, .val v7, .val v9, .val (.ref b11), .unset, .unset, .unset, .unset, .unset] [])) _
    refine XS.aload X13.here hx rfl (hb hby at_112) rfl rfl ?_
    show Steps p.tables e below (T13.setTop (mkF m 114 #[.val (.int p0), .val (.int p1), .val (.int p2), .val (.int p3), .val (.int p4), .val (.int p5), .val (.ref b1_0), .val v3, .val v5, .val v7, .val v9, .val (.ref b11), .unset, .unset, .unset, .unset, .unset] [(.ref b11)])) _
    refine XS.aload X13.here hx rfl (hb hby at_114) rfl R_v7 ?_
    show Steps p.tables e below (T13.setTop (mkF m 116 #[.val (.int p0), .val (.int p1), .val (.int p2), .val (.int p3), .val (.int p4), .val (.int p5), .val (.ref b1_0), .val v3, .val v5, .val v7, .val v9, .val (.ref b11), .unset, .unset, .unset, .unset, .unset] [v7, (.ref b11)])) _
    refine st19.trans ?_
    show Steps p.tables e below (T19.setTop (mkF m 119 #[.val (.int p0), .val (.int p1), .val (.int p2), .val (.int p3), .val (.int p4), .val (.int p5), .val (.ref b1_0), .val v3, .val v5, .val v7, .val v9, .val (.ref b11), .unset, .unset, .unset, .unset, .unset] [(.ref b19_0)])) _
    refine XS.astore X19.here hx rfl (hb hby at_119) rfl rfl (l' := #[.val (.int p0), .val (.int p1), .val (.int p2), .val (.int p3), .val (.int p4), .val (.int p5), .val (.ref b1_0), .val v3, .val v5, .val v7, .val v9, .val (.ref b11), .val (.ref b19_0), .unset, .unset, .unset, .unset]) rfl ?_
    show Steps p.tables e below (T19.setTop (mkF m 121 #[.val (.int p0), .val (.int p1), .val (.int p2), .val (.int p3), .val (.int p4), .val (.int p5), .val (.ref b1_0), .val v3, .val v5, .val v7, .val v9, .val (.ref b11), .val (.ref b19_0), .unset, .unset, .unset, .unset] [])) _
    refine so21 _ ?_
    show Steps p.tables e below (T19.setTop (mkF m 133 #[.val (.int p0), .val (.int p1), .val (.int p2), .val (.int p3), .val (.int p4), .val (.int p5), .val (.ref b1_0), .val v3, .val v5, .val v7, .val v9, .val (.ref b11), .val (.ref b19_0), .unset, .unset, .unset, .unset] [ve15])) _
    refine XS.astoreS X19.here hx rfl (hb hby at_133) rfl R_ve15 (own_cat R_ve15) rfl (Or.inl rfl) ?_
    show Steps p.tables e below (T19.setTop (mkF m 135 #[.val (.int p0), .val (.int p1), .val (.int p2), .val (.int p3), .val (.int p4), .val (.int p5), .val (.ref b1_0), .val v3, .val v5, .val v7, .val v9, .val (.ref b11), .val (.ref b19_0), .val ve15, .unset, .unset, .unset] [])) _
    refine XS.aload X19.here hx rfl (hb hby at_135) rfl rfl ?_
    show Steps p.tables e below (T19.setTop (mkF m 137 #[.val (.int p0), .val (.int p1), .val (.int p2), .val (.int p3), .val (.int p4), .val (.int p5), .val (.ref b1_0), .val v3, .val v5, .val v7, .val v9, .val (.ref b11), .val (.ref b19_0), .val ve15, .unset, .unset, .unset] [(.ref b19_0)])) _
    refine st22.trans ?_
    show Steps p.tables e below (T22.setTop (mkF m 140 #[.val (.int p0), .val (.int p1), .val (.int p2), .val (.int p3), .val (.int p4), .val (.int p5), .val (.ref b1_0), .val v3, .val v5, .val v7, .val v9, .val (.ref b11), .val (.ref b19_0), .val ve15, .unset, .unset, .unset] [(.ref b1_0)])) _
    refine XS.aload X22.here hx rfl (hb hby at_140) rfl rfl ?_
    show Steps p.tables e below (T22.setTop (mkF m 142 #[.val (.int p0), .val (.int p1), .val (.int p2), .val (.int p3), .val (.int p4), .val (.int p5), .val (.ref b1_0), .val v3, .val v5, .val v7, .val v9, .val (.ref b11), .val (.ref b19_0), .val ve15, .unset, .unset, .unset] [(.ref b1_0), (.ref b1_0)])) _
    refine st24 _ ?_
    show Steps p.tables e below (T24.setTop (mkF m 145 #[.val (.int p0), .val (.int p1), .val (.int p2), .val (.int p3), .val (.int p4), .val (.int p5), .val (.ref b1_0), .val v3, .val v5, .val v7, .val v9, .val (.ref b11), .val (.ref b19_0), .val ve15, .unset, .unset, .unset] [(.int (1 : Int32))])) _
    refine XS.ifNo X24.here hx rfl (hb hby at_145) rfl (by decide) ?_
    show Steps p.tables e below (T24.setTop (mkF m 148 #[.val (.int p0), .val (.int p1), .val (.int p2), .val (.int p3), .val (.int p4), .val (.int p5), .val (.ref b1_0), .val v3, .val v5, .val v7, .val v9, .val (.ref b11), .val (.ref b19_0), .val ve15, .unset, .unset, .unset] [])) _
    refine XS.aload X24.here hx rfl (hb hby at_148) rfl rfl ?_
    show Steps p.tables e below (T24.setTop (mkF m 150 #[.val (.int p0), .val (.int p1), .val (.int p2), .val (.int p3), .val (.int p4), .val (.int p5), .val (.ref b1_0), .val v3, .val v5, .val v7, .val v9, .val (.ref b11), .val (.ref b19_0), .val ve15, .unset, .unset, .unset] [(.ref b19_0)])) _
    refine st25.trans ?_
    show Steps p.tables e below (T25.setTop (mkF m 153 #[.val (.int p0), .val (.int p1), .val (.int p2), .val (.int p3), .val (.int p4), .val (.int p5), .val (.ref b1_0), .val v3, .val v5, .val v7, .val v9, .val (.ref b11), .val (.ref b19_0), .val ve15, .unset, .unset, .unset] [v3])) _
    refine XS.aload X25.here hx rfl (hb hby at_153) rfl R_v3 ?_
    show Steps p.tables e below (T25.setTop (mkF m 155 #[.val (.int p0), .val (.int p1), .val (.int p2), .val (.int p3), .val (.int p4), .val (.int p5), .val (.ref b1_0), .val v3, .val v5, .val v7, .val v9, .val (.ref b11), .val (.ref b19_0), .val ve15, .unset, .unset, .unset] [v3, v3])) _
    refine st27 _ ?_
    show Steps p.tables e below (T27.setTop (mkF m 158 #[.val (.int p0), .val (.int p1), .val (.int p2), .val (.int p3), .val (.int p4), .val (.int p5), .val (.ref b1_0), .val v3, .val v5, .val v7, .val v9, .val (.ref b11), .val (.ref b19_0), .val ve15, .unset, .unset, .unset] [(.int (1 : Int32))])) _
    refine XS.ifNo X27.here hx rfl (hb hby at_158) rfl (by decide) ?_
    show Steps p.tables e below (T27.setTop (mkF m 161 #[.val (.int p0), .val (.int p1), .val (.int p2), .val (.int p3), .val (.int p4), .val (.int p5), .val (.ref b1_0), .val v3, .val v5, .val v7, .val v9, .val (.ref b11), .val (.ref b19_0), .val ve15, .unset, .unset, .unset] [])) _
    refine XS.aload X27.here hx rfl (hb hby at_161) rfl rfl ?_
    show Steps p.tables e below (T27.setTop (mkF m 163 #[.val (.int p0), .val (.int p1), .val (.int p2), .val (.int p3), .val (.int p4), .val (.int p5), .val (.ref b1_0), .val v3, .val v5, .val v7, .val v9, .val (.ref b11), .val (.ref b19_0), .val ve15, .unset, .unset, .unset] [(.ref b19_0)])) _
    refine st28.trans ?_
    show Steps p.tables e below (T28.setTop (mkF m 166 #[.val (.int p0), .val (.int p1), .val (.int p2), .val (.int p3), .val (.int p4), .val (.int p5), .val (.ref b1_0), .val v3, .val v5, .val v7, .val v9, .val (.ref b11), .val (.ref b19_0), .val ve15, .unset, .unset, .unset] [ve15])) _
    refine XS.aload X28.here hx rfl (hb hby at_166) rfl R_ve15 ?_
    show Steps p.tables e below (T28.setTop (mkF m 168 #[.val (.int p0), .val (.int p1), .val (.int p2), .val (.int p3), .val (.int p4), .val (.int p5), .val (.ref b1_0), .val v3, .val v5, .val v7, .val v9, .val (.ref b11), .val (.ref b19_0), .val ve15, .unset, .unset, .unset] [ve15, ve15])) _
    refine st30 _ ?_
    show Steps p.tables e below (T30.setTop (mkF m 171 #[.val (.int p0), .val (.int p1), .val (.int p2), .val (.int p3), .val (.int p4), .val (.int p5), .val (.ref b1_0), .val v3, .val v5, .val v7, .val v9, .val (.ref b11), .val (.ref b19_0), .val ve15, .unset, .unset, .unset] [(.int (1 : Int32))])) _
    refine XS.ifNo X30.here hx rfl (hb hby at_171) rfl (by decide) ?_
    show Steps p.tables e below (T30.setTop (mkF m 174 #[.val (.int p0), .val (.int p1), .val (.int p2), .val (.int p3), .val (.int p4), .val (.int p5), .val (.ref b1_0), .val v3, .val v5, .val v7, .val v9, .val (.ref b11), .val (.ref b19_0), .val ve15, .unset, .unset, .unset] [])) _
    refine XS.iconst X30.here hx rfl (hb hby at_174) ?_
    show Steps p.tables e below (T30.setTop (mkF m 175 #[.val (.int p0), .val (.int p1), .val (.int p2), .val (.int p3), .val (.int p4), .val (.int p5), .val (.ref b1_0), .val v3, .val v5, .val v7, .val v9, .val (.ref b11), .val (.ref b19_0), .val ve15, .unset, .unset, .unset] [(.int (1 : Int32))])) _
    refine XS.goto X30.here hx rfl (pc0 := 175) (pc' := 179) rfl (hb hby at_175) (by decide) (by decide) ?_
    show Steps p.tables e below (T30.setTop (mkF m 179 #[.val (.int p0), .val (.int p1), .val (.int p2), .val (.int p3), .val (.int p4), .val (.int p5), .val (.ref b1_0), .val v3, .val v5, .val v7, .val v9, .val (.ref b11), .val (.ref b19_0), .val ve15, .unset, .unset, .unset] [(.int (1 : Int32))])) _
    refine XS.istore X30.here hx rfl (hb hby at_179) rfl (l' := #[.val (.int p0), .val (.int p1), .val (.int p2), .val (.int p3), .val (.int p4), .val (.int p5), .val (.ref b1_0), .val v3, .val v5, .val v7, .val v9, .val (.ref b11), .val (.ref b19_0), .val ve15, .val (.int (1 : Int32)), .unset, .unset]) rfl ?_
    show Steps p.tables e below (T30.setTop (mkF m 181 #[.val (.int p0), .val (.int p1), .val (.int p2), .val (.int p3), .val (.int p4), .val (.int p5), .val (.ref b1_0), .val v3, .val v5, .val v7, .val v9, .val (.ref b11), .val (.ref b19_0), .val ve15, .val (.int (1 : Int32)), .unset, .unset] [])) _
    refine XS.iload X30.here hx rfl (hb hby at_181) rfl ?_
    show Steps p.tables e below (T30.setTop (mkF m 183 #[.val (.int p0), .val (.int p1), .val (.int p2), .val (.int p3), .val (.int p4), .val (.int p5), .val (.ref b1_0), .val v3, .val v5, .val v7, .val v9, .val (.ref b11), .val (.ref b19_0), .val ve15, .val (.int (1 : Int32)), .unset, .unset] [(.int (1 : Int32))])) _
    refine XS.ifNo X30.here hx rfl (hb hby at_183) rfl (by decide) ?_
    show Steps p.tables e below (T30.setTop (mkF m 186 #[.val (.int p0), .val (.int p1), .val (.int p2), .val (.int p3), .val (.int p4), .val (.int p5), .val (.ref b1_0), .val v3, .val v5, .val v7, .val v9, .val (.ref b11), .val (.ref b19_0), .val ve15, .val (.int (1 : Int32)), .unset, .unset] [])) _
    refine XS.aload X30.here hx rfl (hb hby at_186) rfl rfl ?_
    show Steps p.tables e below (T30.setTop (mkF m 188 #[.val (.int p0), .val (.int p1), .val (.int p2), .val (.int p3), .val (.int p4), .val (.int p5), .val (.ref b1_0), .val v3, .val v5, .val v7, .val v9, .val (.ref b11), .val (.ref b19_0), .val ve15, .val (.int (1 : Int32)), .unset, .unset] [(.ref b11)])) _
    refine st33.trans ?_
    show Steps p.tables e below (T33.setTop (mkF m 191 #[.val (.int p0), .val (.int p1), .val (.int p2), .val (.int p3), .val (.int p4), .val (.int p5), .val (.ref b1_0), .val v3, .val v5, .val v7, .val v9, .val (.ref b11), .val (.ref b19_0), .val ve15, .val (.int (1 : Int32)), .unset, .unset] [(.ref b1_0)])) _
    refine XS.aload X33.here hx rfl (hb hby at_191) rfl rfl ?_
    show Steps p.tables e below (T33.setTop (mkF m 193 #[.val (.int p0), .val (.int p1), .val (.int p2), .val (.int p3), .val (.int p4), .val (.int p5), .val (.ref b1_0), .val v3, .val v5, .val v7, .val v9, .val (.ref b11), .val (.ref b19_0), .val ve15, .val (.int (1 : Int32)), .unset, .unset] [(.ref b1_0), (.ref b1_0)])) _
    refine st34 _ ?_
    show Steps p.tables e below (T34.setTop (mkF m 196 #[.val (.int p0), .val (.int p1), .val (.int p2), .val (.int p3), .val (.int p4), .val (.int p5), .val (.ref b1_0), .val v3, .val v5, .val v7, .val v9, .val (.ref b11), .val (.ref b19_0), .val ve15, .val (.int (1 : Int32)), .unset, .unset] [(.int (1 : Int32))])) _
    refine XS.ifNo X34.here hx rfl (hb hby at_196) rfl (by decide) ?_
    show Steps p.tables e below (T34.setTop (mkF m 199 #[.val (.int p0), .val (.int p1), .val (.int p2), .val (.int p3), .val (.int p4), .val (.int p5), .val (.ref b1_0), .val v3, .val v5, .val v7, .val v9, .val (.ref b11), .val (.ref b19_0), .val ve15, .val (.int (1 : Int32)), .unset, .unset] [])) _
    refine XS.aload X34.here hx rfl (hb hby at_199) rfl rfl ?_
    show Steps p.tables e below (T34.setTop (mkF m 201 #[.val (.int p0), .val (.int p1), .val (.int p2), .val (.int p3), .val (.int p4), .val (.int p5), .val (.ref b1_0), .val v3, .val v5, .val v7, .val v9, .val (.ref b11), .val (.ref b19_0), .val ve15, .val (.int (1 : Int32)), .unset, .unset] [(.ref b11)])) _
    refine st36.trans ?_
    show Steps p.tables e below (T36.setTop (mkF m 204 #[.val (.int p0), .val (.int p1), .val (.int p2), .val (.int p3), .val (.int p4), .val (.int p5), .val (.ref b1_0), .val v3, .val v5, .val v7, .val v9, .val (.ref b11), .val (.ref b19_0), .val ve15, .val (.int (1 : Int32)), .unset, .unset] [v3])) _
    refine XS.aload X36.here hx rfl (hb hby at_204) rfl R_v3 ?_
    show Steps p.tables e below (T36.setTop (mkF m 206 #[.val (.int p0), .val (.int p1), .val (.int p2), .val (.int p3), .val (.int p4), .val (.int p5), .val (.ref b1_0), .val v3, .val v5, .val v7, .val v9, .val (.ref b11), .val (.ref b19_0), .val ve15, .val (.int (1 : Int32)), .unset, .unset] [v3, v3])) _
    refine st37 _ ?_
    show Steps p.tables e below (T37.setTop (mkF m 209 #[.val (.int p0), .val (.int p1), .val (.int p2), .val (.int p3), .val (.int p4), .val (.int p5), .val (.ref b1_0), .val v3, .val v5, .val v7, .val v9, .val (.ref b11), .val (.ref b19_0), .val ve15, .val (.int (1 : Int32)), .unset, .unset] [(.int (1 : Int32))])) _
    refine XS.ifNo X37.here hx rfl (hb hby at_209) rfl (by decide) ?_
    show Steps p.tables e below (T37.setTop (mkF m 212 #[.val (.int p0), .val (.int p1), .val (.int p2), .val (.int p3), .val (.int p4), .val (.int p5), .val (.ref b1_0), .val v3, .val v5, .val v7, .val v9, .val (.ref b11), .val (.ref b19_0), .val ve15, .val (.int (1 : Int32)), .unset, .unset] [])) _
    refine XS.aload X37.here hx rfl (hb hby at_212) rfl rfl ?_
    show Steps p.tables e below (T37.setTop (mkF m 214 #[.val (.int p0), .val (.int p1), .val (.int p2), .val (.int p3), .val (.int p4), .val (.int p5), .val (.ref b1_0), .val v3, .val v5, .val v7, .val v9, .val (.ref b11), .val (.ref b19_0), .val ve15, .val (.int (1 : Int32)), .unset, .unset] [(.ref b11)])) _
    refine st39.trans ?_
    show Steps p.tables e below (T39.setTop (mkF m 217 #[.val (.int p0), .val (.int p1), .val (.int p2), .val (.int p3), .val (.int p4), .val (.int p5), .val (.ref b1_0), .val v3, .val v5, .val v7, .val v9, .val (.ref b11), .val (.ref b19_0), .val ve15, .val (.int (1 : Int32)), .unset, .unset] [v5])) _
    refine XS.aload X39.here hx rfl (hb hby at_217) rfl R_v5 ?_
    show Steps p.tables e below (T39.setTop (mkF m 219 #[.val (.int p0), .val (.int p1), .val (.int p2), .val (.int p3), .val (.int p4), .val (.int p5), .val (.ref b1_0), .val v3, .val v5, .val v7, .val v9, .val (.ref b11), .val (.ref b19_0), .val ve15, .val (.int (1 : Int32)), .unset, .unset] [v5, v5])) _
    refine st41 _ ?_
    show Steps p.tables e below (T41.setTop (mkF m 222 #[.val (.int p0), .val (.int p1), .val (.int p2), .val (.int p3), .val (.int p4), .val (.int p5), .val (.ref b1_0), .val v3, .val v5, .val v7, .val v9, .val (.ref b11), .val (.ref b19_0), .val ve15, .val (.int (1 : Int32)), .unset, .unset] [(.int (1 : Int32))])) _
    refine XS.ifNo X41.here hx rfl (hb hby at_222) rfl (by decide) ?_
    show Steps p.tables e below (T41.setTop (mkF m 225 #[.val (.int p0), .val (.int p1), .val (.int p2), .val (.int p3), .val (.int p4), .val (.int p5), .val (.ref b1_0), .val v3, .val v5, .val v7, .val v9, .val (.ref b11), .val (.ref b19_0), .val ve15, .val (.int (1 : Int32)), .unset, .unset] [])) _
    refine XS.iconst X41.here hx rfl (hb hby at_225) ?_
    show Steps p.tables e below (T41.setTop (mkF m 226 #[.val (.int p0), .val (.int p1), .val (.int p2), .val (.int p3), .val (.int p4), .val (.int p5), .val (.ref b1_0), .val v3, .val v5, .val v7, .val v9, .val (.ref b11), .val (.ref b19_0), .val ve15, .val (.int (1 : Int32)), .unset, .unset] [(.int (1 : Int32))])) _
    refine XS.goto X41.here hx rfl (pc0 := 226) (pc' := 230) rfl (hb hby at_226) (by decide) (by decide) ?_
    show Steps p.tables e below (T41.setTop (mkF m 230 #[.val (.int p0), .val (.int p1), .val (.int p2), .val (.int p3), .val (.int p4), .val (.int p5), .val (.ref b1_0), .val v3, .val v5, .val v7, .val v9, .val (.ref b11), .val (.ref b19_0), .val ve15, .val (.int (1 : Int32)), .unset, .unset] [(.int (1 : Int32))])) _
    refine XS.istore X41.here hx rfl (hb hby at_230) rfl (l' := #[.val (.int p0), .val (.int p1), .val (.int p2), .val (.int p3), .val (.int p4), .val (.int p5), .val (.ref b1_0), .val v3, .val v5, .val v7, .val v9, .val (.ref b11), .val (.ref b19_0), .val ve15, .val (.int (1 : Int32)), .unset, .unset]) rfl ?_
    show Steps p.tables e below (T41.setTop (mkF m 232 #[.val (.int p0), .val (.int p1), .val (.int p2), .val (.int p3), .val (.int p4), .val (.int p5), .val (.ref b1_0), .val v3, .val v5, .val v7, .val v9, .val (.ref b11), .val (.ref b19_0), .val ve15, .val (.int (1 : Int32)), .unset, .unset] [])) _
    refine XS.aload X41.here hx rfl (hb hby at_232) rfl rfl ?_
    show Steps p.tables e below (T41.setTop (mkF m 234 #[.val (.int p0), .val (.int p1), .val (.int p2), .val (.int p3), .val (.int p4), .val (.int p5), .val (.ref b1_0), .val v3, .val v5, .val v7, .val v9, .val (.ref b11), .val (.ref b19_0), .val ve15, .val (.int (1 : Int32)), .unset, .unset] [(.ref b19_0)])) _
    refine XS.aload X41.here hx rfl (hb hby at_234) rfl R_v9 ?_
    show Steps p.tables e below (T41.setTop (mkF m 236 #[.val (.int p0), .val (.int p1), .val (.int p2), .val (.int p3), .val (.int p4), .val (.int p5), .val (.ref b1_0), .val v3, .val v5, .val v7, .val v9, .val (.ref b11), .val (.ref b19_0), .val ve15, .val (.int (1 : Int32)), .unset, .unset] [v9, (.ref b19_0)])) _
    refine st44.trans ?_
    show Steps p.tables e below (T44.setTop (mkF m 239 #[.val (.int p0), .val (.int p1), .val (.int p2), .val (.int p3), .val (.int p4), .val (.int p5), .val (.ref b1_0), .val v3, .val v5, .val v7, .val v9, .val (.ref b11), .val (.ref b19_0), .val ve15, .val (.int (1 : Int32)), .unset, .unset] [(.ref b44_0)])) _
    refine XS.astore X44.here hx rfl (hb hby at_239) rfl rfl (l' := #[.val (.int p0), .val (.int p1), .val (.int p2), .val (.int p3), .val (.int p4), .val (.int p5), .val (.ref b1_0), .val v3, .val v5, .val v7, .val v9, .val (.ref b11), .val (.ref b19_0), .val ve15, .val (.int (1 : Int32)), .val (.ref b44_0), .unset]) rfl ?_
    show Steps p.tables e below (T44.setTop (mkF m 241 #[.val (.int p0), .val (.int p1), .val (.int p2), .val (.int p3), .val (.int p4), .val (.int p5), .val (.ref b1_0), .val v3, .val v5, .val v7, .val v9, .val (.ref b11), .val (.ref b19_0), .val ve15, .val (.int (1 : Int32)), .val (.ref b44_0), .unset] [])) _
    refine so46 _ ?_
    show Steps p.tables e below (T44.setTop (mkF m 253 #[.val (.int p0), .val (.int p1), .val (.int p2), .val (.int p3), .val (.int p4), .val (.int p5), .val (.ref b1_0), .val v3, .val v5, .val v7, .val v9, .val (.ref b11), .val (.ref b19_0), .val ve15, .val (.int (1 : Int32)), .val (.ref b44_0), .unset] [ve42])) _
    refine XS.astoreS X44.here hx rfl (hb hby at_253) rfl R_ve42 (own_cat R_ve42) rfl (Or.inl rfl) ?_
    show Steps p.tables e below (T44.setTop (mkF m 255 #[.val (.int p0), .val (.int p1), .val (.int p2), .val (.int p3), .val (.int p4), .val (.int p5), .val (.ref b1_0), .val v3, .val v5, .val v7, .val v9, .val (.ref b11), .val (.ref b19_0), .val ve15, .val (.int (1 : Int32)), .val (.ref b44_0), .val ve42] [])) _
    refine XS.iload X44.here hx rfl (hb hby at_255) rfl ?_
    show Steps p.tables e below (T44.setTop (mkF m 257 #[.val (.int p0), .val (.int p1), .val (.int p2), .val (.int p3), .val (.int p4), .val (.int p5), .val (.ref b1_0), .val v3, .val v5, .val v7, .val v9, .val (.ref b11), .val (.ref b19_0), .val ve15, .val (.int (1 : Int32)), .val (.ref b44_0), .val ve42] [(.int (1 : Int32))])) _
    refine XS.ifNo X44.here hx rfl (hb hby at_257) rfl (by decide) ?_
    show Steps p.tables e below (T44.setTop (mkF m 260 #[.val (.int p0), .val (.int p1), .val (.int p2), .val (.int p3), .val (.int p4), .val (.int p5), .val (.ref b1_0), .val v3, .val v5, .val v7, .val v9, .val (.ref b11), .val (.ref b19_0), .val ve15, .val (.int (1 : Int32)), .val (.ref b44_0), .val ve42] [])) _
    refine XS.aload X44.here hx rfl (hb hby at_260) rfl rfl ?_
    show Steps p.tables e below (T44.setTop (mkF m 262 #[.val (.int p0), .val (.int p1), .val (.int p2), .val (.int p3), .val (.int p4), .val (.int p5), .val (.ref b1_0), .val v3, .val v5, .val v7, .val v9, .val (.ref b11), .val (.ref b19_0), .val ve15, .val (.int (1 : Int32)), .val (.ref b44_0), .val ve42] [(.ref b44_0)])) _
    refine st47.trans ?_
    show Steps p.tables e below (T47.setTop (mkF m 265 #[.val (.int p0), .val (.int p1), .val (.int p2), .val (.int p3), .val (.int p4), .val (.int p5), .val (.ref b1_0), .val v3, .val v5, .val v7, .val v9, .val (.ref b11), .val (.ref b19_0), .val ve15, .val (.int (1 : Int32)), .val (.ref b44_0), .val ve42] [(.ref b1_0)])) _
    refine XS.aload X47.here hx rfl (hb hby at_265) rfl rfl ?_
    show Steps p.tables e below (T47.setTop (mkF m 267 #[.val (.int p0), .val (.int p1), .val (.int p2), .val (.int p3), .val (.int p4), .val (.int p5), .val (.ref b1_0), .val v3, .val v5, .val v7, .val v9, .val (.ref b11), .val (.ref b19_0), .val ve15, .val (.int (1 : Int32)), .val (.ref b44_0), .val ve42] [(.ref b1_0), (.ref b1_0)])) _
    refine st49 _ ?_
    show Steps p.tables e below (T49.setTop (mkF m 270 #[.val (.int p0), .val (.int p1), .val (.int p2), .val (.int p3), .val (.int p4), .val (.int p5), .val (.ref b1_0), .val v3, .val v5, .val v7, .val v9, .val (.ref b11), .val (.ref b19_0), .val ve15, .val (.int (1 : Int32)), .val (.ref b44_0), .val ve42] [(.int (1 : Int32))])) _
    refine XS.ifNo X49.here hx rfl (hb hby at_270) rfl (by decide) ?_
    show Steps p.tables e below (T49.setTop (mkF m 273 #[.val (.int p0), .val (.int p1), .val (.int p2), .val (.int p3), .val (.int p4), .val (.int p5), .val (.ref b1_0), .val v3, .val v5, .val v7, .val v9, .val (.ref b11), .val (.ref b19_0), .val ve15, .val (.int (1 : Int32)), .val (.ref b44_0), .val ve42] [])) _
    refine XS.aload X49.here hx rfl (hb hby at_273) rfl rfl ?_
    show Steps p.tables e below (T49.setTop (mkF m 275 #[.val (.int p0), .val (.int p1), .val (.int p2), .val (.int p3), .val (.int p4), .val (.int p5), .val (.ref b1_0), .val v3, .val v5, .val v7, .val v9, .val (.ref b11), .val (.ref b19_0), .val ve15, .val (.int (1 : Int32)), .val (.ref b44_0), .val ve42] [(.ref b44_0)])) _
    refine st50.trans ?_
    show Steps p.tables e below (T50.setTop (mkF m 278 #[.val (.int p0), .val (.int p1), .val (.int p2), .val (.int p3), .val (.int p4), .val (.int p5), .val (.ref b1_0), .val v3, .val v5, .val v7, .val v9, .val (.ref b11), .val (.ref b19_0), .val ve15, .val (.int (1 : Int32)), .val (.ref b44_0), .val ve42] [v3])) _
    refine XS.aload X50.here hx rfl (hb hby at_278) rfl R_v3 ?_
    show Steps p.tables e below (T50.setTop (mkF m 280 #[.val (.int p0), .val (.int p1), .val (.int p2), .val (.int p3), .val (.int p4), .val (.int p5), .val (.ref b1_0), .val v3, .val v5, .val v7, .val v9, .val (.ref b11), .val (.ref b19_0), .val ve15, .val (.int (1 : Int32)), .val (.ref b44_0), .val ve42] [v3, v3])) _
    refine st52 _ ?_
    show Steps p.tables e below (T52.setTop (mkF m 283 #[.val (.int p0), .val (.int p1), .val (.int p2), .val (.int p3), .val (.int p4), .val (.int p5), .val (.ref b1_0), .val v3, .val v5, .val v7, .val v9, .val (.ref b11), .val (.ref b19_0), .val ve15, .val (.int (1 : Int32)), .val (.ref b44_0), .val ve42] [(.int (1 : Int32))])) _
    refine XS.ifNo X52.here hx rfl (hb hby at_283) rfl (by decide) ?_
    show Steps p.tables e below (T52.setTop (mkF m 286 #[.val (.int p0), .val (.int p1), .val (.int p2), .val (.int p3), .val (.int p4), .val (.int p5), .val (.ref b1_0), .val v3, .val v5, .val v7, .val v9, .val (.ref b11), .val (.ref b19_0), .val ve15, .val (.int (1 : Int32)), .val (.ref b44_0), .val ve42] [])) _
    refine XS.aload X52.here hx rfl (hb hby at_286) rfl rfl ?_
    show Steps p.tables e below (T52.setTop (mkF m 288 #[.val (.int p0), .val (.int p1), .val (.int p2), .val (.int p3), .val (.int p4), .val (.int p5), .val (.ref b1_0), .val v3, .val v5, .val v7, .val v9, .val (.ref b11), .val (.ref b19_0), .val ve15, .val (.int (1 : Int32)), .val (.ref b44_0), .val ve42] [(.ref b44_0)])) _
    refine st53.trans ?_
    show Steps p.tables e below (T53.setTop (mkF m 291 #[.val (.int p0), .val (.int p1), .val (.int p2), .val (.int p3), .val (.int p4), .val (.int p5), .val (.ref b1_0), .val v3, .val v5, .val v7, .val v9, .val (.ref b11), .val (.ref b19_0), .val ve15, .val (.int (1 : Int32)), .val (.ref b44_0), .val ve42] [ve42])) _
    refine XS.aload X53.here hx rfl (hb hby at_291) rfl R_ve42 ?_
    show Steps p.tables e below (T53.setTop (mkF m 293 #[.val (.int p0), .val (.int p1), .val (.int p2), .val (.int p3), .val (.int p4), .val (.int p5), .val (.ref b1_0), .val v3, .val v5, .val v7, .val v9, .val (.ref b11), .val (.ref b19_0), .val ve15, .val (.int (1 : Int32)), .val (.ref b44_0), .val ve42] [ve42, ve42])) _
    refine st55 _ ?_
    show Steps p.tables e below (T55.setTop (mkF m 296 #[.val (.int p0), .val (.int p1), .val (.int p2), .val (.int p3), .val (.int p4), .val (.int p5), .val (.ref b1_0), .val v3, .val v5, .val v7, .val v9, .val (.ref b11), .val (.ref b19_0), .val ve15, .val (.int (1 : Int32)), .val (.ref b44_0), .val ve42] [(.int (1 : Int32))])) _
    refine XS.ifNo X55.here hx rfl (hb hby at_296) rfl (by decide) ?_
    show Steps p.tables e below (T55.setTop (mkF m 299 #[.val (.int p0), .val (.int p1), .val (.int p2), .val (.int p3), .val (.int p4), .val (.int p5), .val (.ref b1_0), .val v3, .val v5, .val v7, .val v9, .val (.ref b11), .val (.ref b19_0), .val ve15, .val (.int (1 : Int32)), .val (.ref b44_0), .val ve42] [])) _
    refine XS.iconst X55.here hx rfl (hb hby at_299) ?_
    show Steps p.tables e below (T55.setTop (mkF m 300 #[.val (.int p0), .val (.int p1), .val (.int p2), .val (.int p3), .val (.int p4), .val (.int p5), .val (.ref b1_0), .val v3, .val v5, .val v7, .val v9, .val (.ref b11), .val (.ref b19_0), .val ve15, .val (.int (1 : Int32)), .val (.ref b44_0), .val ve42] [(.int (1 : Int32))])) _
    refine XS.goto X55.here hx rfl (pc0 := 300) (pc' := 304) rfl (hb hby at_300) (by decide) (by decide) ?_
    show Steps p.tables e below (T55.setTop (mkF m 304 #[.val (.int p0), .val (.int p1), .val (.int p2), .val (.int p3), .val (.int p4), .val (.int p5), .val (.ref b1_0), .val v3, .val v5, .val v7, .val v9, .val (.ref b11), .val (.ref b19_0), .val ve15, .val (.int (1 : Int32)), .val (.ref b44_0), .val ve42] [(.int (1 : Int32))])) _
    refine XS.istore X55.here hx rfl (hb hby at_304) rfl (l' := #[.val (.int p0), .val (.int p1), .val (.int p2), .val (.int p3), .val (.int p4), .val (.int p5), .val (.ref b1_0), .val v3, .val v5, .val v7, .val v9, .val (.ref b11), .val (.ref b19_0), .val ve15, .val (.int (1 : Int32)), .val (.ref b44_0), .val ve42]) rfl ?_
    show Steps p.tables e below (T55.setTop (mkF m 306 #[.val (.int p0), .val (.int p1), .val (.int p2), .val (.int p3), .val (.int p4), .val (.int p5), .val (.ref b1_0), .val v3, .val v5, .val v7, .val v9, .val (.ref b11), .val (.ref b19_0), .val ve15, .val (.int (1 : Int32)), .val (.ref b44_0), .val ve42] [])) _
    refine XS.iload X55.here hx rfl (hb hby at_306) rfl ?_
    show Steps p.tables e below (T55.setTop (mkF m 308 #[.val (.int p0), .val (.int p1), .val (.int p2), .val (.int p3), .val (.int p4), .val (.int p5), .val (.ref b1_0), .val v3, .val v5, .val v7, .val v9, .val (.ref b11), .val (.ref b19_0), .val ve15, .val (.int (1 : Int32)), .val (.ref b44_0), .val ve42] [(.int (1 : Int32))])) _
    exact retN X55 hx (t := .boolean) Bd.returns (by simp) (hb hby at_308) hr
  · show Qrm0_0 Z cz p0 p1 p2 p3 p4 p5 h0 n0 _ T55.heap _
    rw [e55]
    exact ⟨rfl, N55, Ks45⟩
  · rw [hh]
    show CHr Z consts_1 s.vm h0 T55.vm T55.heap
    rw [e55]
    exact Cend
set_option maxRecDepth 65536 in
set_option maxHeartbeats 40000000 in
theorem comes_1 {Post : Tables → Env → Array Value → State → Outcome → State → Prop} (hpost : ∀ tb e args s v u, (limb_1_1.after args s (.returned v) u = true ∧ limb_1_2.after args s (.returned v) u = true ∧ True) → FramedW s (.returned v) u (Jvm.fieldLocs frame_1_writes args s ++ Jvm.arrayLocs frame_1_arrays args s ++ Jvm.staticLocs frame_1_statics s) 48 2240 → Post tb e args s (.returned v) u) :
    ArmFor flags0 classFile x code maxLocals ret World_1 tables_1 room_1 Calls_1 rest_1 Pre_1 Post := by
  intro l hfl _ _ p e ha hc hk s m args below hf hA hF happ hP
  obtain ⟨hcalls, hrest, hpre⟩ := hP
  obtain ⟨-, -, -, hnamed, -, -, -, hat⟩ := (Spec.applies_iff hf).mp happ
  obtain ⟨hg, hn⟩ := and_e (Cond.before_iff.mp (show (Jvm.Cond.and given_1 narrow_1).before args s = true from hpre))
  obtain ⟨g0, gr0⟩ := and_e hg
  obtain ⟨g1, gr1⟩ := and_e gr0
  obtain ⟨g2, gr2⟩ := and_e gr1
  obtain ⟨g3, gr3⟩ := and_e gr2
  obtain ⟨g4, gr4⟩ := and_e gr3
  obtain ⟨g5, gr5⟩ := and_e gr4
  obtain ⟨v0, v1, v2, v3, v4, v5, rfl⟩ : ∃ v0 v1 v2 v3 v4 v5 : Value, args = #[v0, v1, v2, v3, v4, v5] := by
    have hs : args.size = 6 := by simpa [Cond.value, given_1] using g0
    obtain ⟨L⟩ := args
    match L, hs with
    | [v0, v1, v2, v3, v4, v5], _ => exact ⟨v0, v1, v2, v3, v4, v5, rfl⟩
  have hw := fun d (hd : d ∈ tables_1) => atoms_spec (ws := Jvm.Cond.code x code maxLocals ret :: tables_1) hat d (List.mem_cons_of_mem _ hd)
  have hfit : Fit s := fun {y c} hc i hi => by
    obtain ⟨ha, rfl⟩ := Array.getElem?_eq_some_iff.mp hc
    have q := List.all_eq_true.mp ((Array.all_eq_true_iff_forall_mem.mp hF) _ (Array.getElem_mem ha)) i (List.mem_range.mpr hi)
    simpa [Array.getElem?_eq_getElem hi] using q
  obtain ⟨i0, ei0⟩ := is_v g1
  obtain rfl : v0 = (.int i0) := Option.some.inj ei0
  obtain ⟨i1, ei1⟩ := is_v g2
  obtain rfl : v1 = (.int i1) := Option.some.inj ei1
  obtain ⟨i2, ei2⟩ := is_v g3
  obtain rfl : v2 = (.int i2) := Option.some.inj ei2
  obtain ⟨i3, ei3⟩ := is_v g4
  obtain rfl : v3 = (.int i3) := Option.some.inj ei3
  obtain ⟨i4, ei4⟩ := is_v g5
  obtain rfl : v4 = (.int i4) := Option.some.inj ei4
  obtain ⟨i5, ei5⟩ := is_v gr5
  obtain rfl : v5 = (.int i5) := Option.some.inj ei5
  obtain ⟨hsets, hown0⟩ := atoms_of _ (rest_1_c_eq ▸ (show rest_1_c.before _ s = true from hrest))
  have hs0 := hsets _ (List.mem_of_getElem? (i := 0) rfl)
  have hs1 := hsets _ (List.mem_of_getElem? (i := 1) rfl)
  have hs2 := hsets _ (List.mem_of_getElem? (i := 2) rfl)
  obtain ⟨cz, ev_cz⟩ := is_v (Cond.before_iff.mp hs1)
  have S_compact := Sta.start ev_cz (Or.inl hs0)
  have N_cz : ¬ cz = 0 := gotF (Cond.eq_ints ev_cz (Term.int_eval (0 : Int32))) (not_v (Cond.before_iff.mp hs2))
  have hCv : CHv s consts_1 s.vm s.heap := CHv.start (own_ew hw) (fun p hp => hcalls.1 p hp) hs2 (hw _ (List.mem_of_getElem? (i := 20) rfl)) (hw _ (List.mem_of_getElem? (i := 7) rfl))
  have P : Pins s cz := ⟨S_compact, N_cz⟩
  obtain ⟨n, o, h1, h2, h3, _, L, rfl, ⟨rfl, N, -⟩, -, hq⟩ := rm0_0 l s _ hw tables_1 cz i0 i1 i2 i3 i4 i5 s.heap s.heap.size (Old.start s) P p e ha hc hk s m _ below hf ((Spec.applies_iff_loose hf).mp happ).1 ⟨rfl, State.Warmed39.refl s, rfl, hCv, fun _ q => nomatch q⟩ trivial
  refine ⟨n, _, h1, h2, h3, hpost _ _ _ _ _ _ ⟨Cond.after_iff.mpr rfl, Cond.after_iff.mpr (eq_i res_at (Term.int_eval (1)) rfl), trivial⟩ ⟨hq.1, hq.2.1, hq.2.2.1, (hq.2.2.2.sift fun y hy => Or.inr (N y hy)).mono (by decide) (by decide)⟩⟩
theorem main_1_1 : Claimed_1_1 := comes_1 fun _ _ _ _ _ _ h hF => ⟨h.1, hF⟩
theorem main_1_2 : Claimed_1_2 := comes_1 fun _ _ _ _ _ _ h hF => ⟨h.2.1, hF⟩
end Jvm.Pilot.@@N@@
namespace Jvm.Pilot.@@N@@
open Jvm Jvm.ClassFile Sem Op Lib Jvm.Free Jvm.Stand Jvm.Pilot.@@N@@.Jvm.D
/-! MADE BY PROGRAM (witnessworld.py) out of the Statement's table words and the real class files: 22 classes; the members and pool entries that the words name. The judged class is class 1, her method 3. -/
namespace start1
open Jvm.ClassFile
def u (s : String) : CpInfo := .utf8 (stringToUtf16 s)
/-- a pool by its gaps: so many unusable entries, then the entry; so many at the end -/
def gap : Nat → List CpInfo → List CpInfo
  | 0, r => r
  | n + 1, r => .unusable :: gap n r
def poolList (es : List (Nat × CpInfo)) (last : Nat) : List CpInfo := es.foldr (fun e r => gap e.1 (e.2 :: r)) (gap last [])
def pool (es : List (Nat × CpInfo)) (last : Nat) : Array CpInfo := ⟨poolList es last⟩
def fileOf (pool : Array CpInfo) (this : Nat) (attrs : Array Attribute := #[]) (ms : Array MethodInfo := #[]) (fl : Nat := 33) (sup : Nat := 0) (ifs : Array Nat := #[]) (fds : Array FieldInfo := #[]) : ClassFile where
  minorVersion := 0
  majorVersion := 65
  constantPool := pool
  accessFlags := fl
  thisClass := this
  superClass := sup
  interfaces := ifs
  fields := fds
  methods := ms
  attributes := attrs
def plain (name : String) (sup : Option ClassId) : Class where
  name := name
  kind := .ordinary
  loader := none
  accessFlags := 33
  super := sup
  interfaces := #[]
  cf := none
  fields := #[]
  methods := #[]
  instanceTypes := #[]
  staticTypes := #[]
  resolved := #[]
  callSites := []
  init := .initialized
  statics := none
  mirror := none

def pool0 : Array CpInfo := pool [(5, u "<init>"), (0, u "()V"), (1, .class_ 10), (1, u "java/lang/Object")] 113

def k0c0 : Code := { maxStack := 0, maxLocals := 1, code := object_method_1_code, exceptionTable := #[], attributes := #[] }
def k0m0 : Method := { name := "<init>", desc := "()V", sig := { parameters := [], returnType := none }, accessFlags := 1, code := some k0c0 }
/-- java/lang/Object -/
def k0 : Class := { plain "java/lang/Object" none with
  accessFlags := 33
  interfaces := #[]
  cf := some (fileOf pool0 8 #[] #[{ accessFlags := 1, nameIndex := 5, descriptorIndex := 6, attributes := #[] }] 33 0 #[] #[])
  fields := #[]
  methods := #[k0m0]
  instanceTypes := #[]
  staticTypes := #[]
  resolved := Array.replicate 124 none
  statics := none }

def pool1 : Array CpInfo := pool [(2, .class_ 4), (1, u "java/lang/Object"), (0, u "<init>"), (0, u "()V"), (0, .integer 2147483647), (0, .class_ 9), (0, u "java/lang/String"), (0, .methodref 8 11), (0, .nameAndType 5 12), (0, u "([C)V"), (0, .methodref 8 14), (0, .nameAndType 15 16), (0, u "equals"), (0, u "(Ljava/lang/Object;)Z"), (0, .methodref 18 19), (0, .class_ 20), (0, .nameAndType 21 22), (0, u "com/example/iron_wire/ironwire/definition/QualifierDefinitionInheritedPinLaw"), (0, u "str"), (0, u "(II)Ljava/lang/String;"), (0, .class_ 24), (0, u "com/example/iron_wire/ironwire/definition/QualifierDefinition"), (0, .methodref 23 26), (0, .nameAndType 5 27), (0, u "(Ljava/lang/String;Ljava/lang/String;Ljava/lang/String;)V"), (0, .methodref 23 29), (0, .nameAndType 30 31), (0, u "inherited"), (0, u "(Ljava/lang/String;)Lcom/example/iron_wire/ironwire/definition/QualifierDefinition;"), (0, .methodref 23 33), (0, .nameAndType 34 35), (0, u "typeName"), (0, u "()Ljava/lang/String;"), (0, .methodref 18 37), (0, .nameAndType 38 39), (0, u "same"), (0, u "(Ljava/lang/String;Ljava/lang/String;)Z"), (0, .methodref 23 41), (0, .nameAndType 42 35), (0, u "value"), (0, .methodref 23 44), (0, .nameAndType 45 35), (0, u "inheritedFrom"), (3, u "law"), (0, u "(IIIIII)Z")] 2

def k1m0 : Method := { name := "<init>", desc := "()V", sig := { parameters := [], returnType := none }, accessFlags := 1, code := none }
def k1c1 : Code := { maxStack := 3, maxLocals := 6, code := method_2_code, exceptionTable := #[], attributes := #[] }
def k1m1 : Method := { name := "str", desc := "(II)Ljava/lang/String;", sig := { parameters := [.int, .int], returnType := some (.object "java/lang/String") }, accessFlags := 10, code := some k1c1 }
def k1c2 : Code := { maxStack := 2, maxLocals := 2, code := method_3_code, exceptionTable := #[], attributes := #[] }
def k1m2 : Method := { name := "same", desc := "(Ljava/lang/String;Ljava/lang/String;)Z", sig := { parameters := [(.object "java/lang/String"), (.object "java/lang/String")], returnType := some .boolean }, accessFlags := 10, code := some k1c2 }
def k1c3 : Code := { maxStack := 5, maxLocals := 17, code := code, exceptionTable := #[], attributes := #[] }
def k1m3 : Method := { name := "law", desc := "(IIIIII)Z", sig := { parameters := [.int, .int, .int, .int, .int, .int], returnType := some .boolean }, accessFlags := 9, code := some k1c3 }
/-- com/example/iron_wire/ironwire/definition/QualifierDefinitionInheritedPinLaw -/
def k1 : Class := { plain "com/example/iron_wire/ironwire/definition/QualifierDefinitionInheritedPinLaw" (some 0) with
  accessFlags := 49
  interfaces := #[]
  cf := some (fileOf pool1 18 #[] #[{ accessFlags := 1, nameIndex := 5, descriptorIndex := 6, attributes := #[] }, { accessFlags := 10, nameIndex := 21, descriptorIndex := 22, attributes := #[] }, { accessFlags := 10, nameIndex := 38, descriptorIndex := 39, attributes := #[] }, { accessFlags := 9, nameIndex := 49, descriptorIndex := 50, attributes := #[] }] 49 2 #[] #[])
  fields := #[]
  methods := #[k1m0, k1m1, k1m2, k1m3]
  instanceTypes := #[]
  staticTypes := #[]
  resolved := Array.replicate 53 none
  statics := none }

def pool2 : Array CpInfo := pool [(1, .class_ 2), (0, u "java/io/Serializable"), (0, .class_ 4), (0, u "java/lang/Object")] 2

/-- java/io/Serializable -/
def k2 : Class := { plain "java/io/Serializable" (some 0) with
  accessFlags := 1537
  interfaces := #[]
  cf := some (fileOf pool2 1 #[] #[] 1537 3 #[] #[])
  fields := #[]
  methods := #[]
  instanceTypes := #[]
  staticTypes := #[]
  resolved := Array.replicate 7 none
  statics := none }

def pool3 : Array CpInfo := pool [(1, .class_ 2), (0, u "java/lang/Comparable"), (0, .class_ 4), (0, u "java/lang/Object")] 7

/-- java/lang/Comparable -/
def k3 : Class := { plain "java/lang/Comparable" (some 0) with
  accessFlags := 1537
  interfaces := #[]
  cf := some (fileOf pool3 1 #[] #[] 1537 3 #[] #[])
  fields := #[]
  methods := #[]
  instanceTypes := #[]
  staticTypes := #[]
  resolved := Array.replicate 12 none
  statics := none }

def pool4 : Array CpInfo := pool [(2, .class_ 4), (1, u "java/lang/CharSequence"), (42, .class_ 48), (0, u "java/lang/CharSequence$1CodePointIterator"), (10, .class_ 60), (0, u "java/lang/CharSequence$1CharIterator"), (5, .class_ 67), (0, u "java/lang/Object")] 63

/-- java/lang/CharSequence -/
def k4 : Class := { plain "java/lang/CharSequence" (some 0) with
  accessFlags := 1537
  interfaces := #[]
  cf := some (fileOf pool4 2 #[.nestMembers #[47, 59]] #[] 1537 66 #[] #[])
  fields := #[]
  methods := #[]
  instanceTypes := #[]
  staticTypes := #[]
  resolved := Array.replicate 131 none
  statics := none }

def pool5 : Array CpInfo := pool [(1, .class_ 2), (0, u "java/lang/constant/Constable"), (0, .class_ 4), (0, u "java/lang/Object")] 6

/-- java/lang/constant/Constable -/
def k5 : Class := { plain "java/lang/constant/Constable" (some 0) with
  accessFlags := 1537
  interfaces := #[]
  cf := some (fileOf pool5 1 #[] #[] 1537 3 #[] #[])
  fields := #[]
  methods := #[]
  instanceTypes := #[]
  staticTypes := #[]
  resolved := Array.replicate 11 none
  statics := none }

def pool6 : Array CpInfo := pool [(1, .class_ 2), (0, u "java/lang/constant/ConstantDesc"), (0, .class_ 4), (0, u "java/lang/Object")] 32

/-- java/lang/constant/ConstantDesc -/
def k6 : Class := { plain "java/lang/constant/ConstantDesc" (some 0) with
  accessFlags := 1537
  interfaces := #[]
  cf := some (fileOf pool6 1 #[] #[] 1537 3 #[] #[])
  fields := #[]
  methods := #[]
  instanceTypes := #[]
  staticTypes := #[]
  resolved := Array.replicate 37 none
  statics := none }

def pool7 : Array CpInfo := pool [(1, .methodref 2 3), (0, .class_ 4), (0, .nameAndType 5 6), (0, u "java/lang/Object"), (0, u "<init>"), (0, u "()V"), (0, .string 8), (0, u ""), (0, .fieldref 10 11), (0, .class_ 12), (0, .nameAndType 13 14), (0, u "java/lang/String"), (0, u "value"), (0, u "[B"), (0, .fieldref 10 16), (0, .nameAndType 17 18), (0, u "coder"), (0, u "B"), (2, u "hash"), (0, u "I"), (2, u "hashIsZero"), (0, u "Z"), (0, .methodref 10 28), (0, .nameAndType 5 29), (0, u "([CIILjava/lang/Void;)V"), (8, .fieldref 10 39), (0, .nameAndType 40 26), (0, u "COMPACT_STRINGS"), (1, .class_ 44), (1, u "java/lang/StringUTF16"), (0, u "compress"), (1, .methodref 42 48), (0, .nameAndType 49 50), (0, u "coderFromArrayLen"), (0, u "([BI)B"), (126, .methodref 42 178), (0, .nameAndType 45 179), (0, u "([CII)[B"), (363, u "equals"), (29, u "(Ljava/lang/Object;)Z"), (1, .class_ 576), (0, u "java/lang/CharSequence"), (22, u "CASE_INSENSITIVE_ORDER"), (0, u "Ljava/util/Comparator;"), (409, u "([C)V"), (90, u "serialPersistentFields"), (0, u "[Ljava/io/ObjectStreamField;"), (0, .class_ 1104), (0, u "java/lang/String$CaseInsensitiveComparator"), (1, .class_ 1107), (0, u "java/io/Serializable"), (0, .class_ 1109), (0, u "java/lang/Comparable"), (0, .class_ 1111), (0, u "java/lang/constant/Constable"), (0, .class_ 1113), (0, u "java/lang/constant/ConstantDesc"), (2, u "serialVersionUID"), (0, u "J"), (3, u "REPL"), (0, u "C"), (2, u "LATIN1"), (1, u "UTF16")] 323

def k7m0 : Method := { name := "<init>", desc := "()V", sig := { parameters := [], returnType := none }, accessFlags := 1, code := none }
def k7c1 : Code := { maxStack := 5, maxLocals := 2, code := jdk_42_method_3_code, exceptionTable := #[], attributes := #[] }
def k7m1 : Method := { name := "<init>", desc := "([C)V", sig := { parameters := [(.array .char)], returnType := none }, accessFlags := 1, code := some k7c1 }
def k7c2 : Code := { maxStack := 2, maxLocals := 3, code := jdk_42_method_66_code, exceptionTable := #[], attributes := #[] }
def k7m2 : Method := { name := "equals", desc := "(Ljava/lang/Object;)Z", sig := { parameters := [(.object "java/lang/Object")], returnType := some .boolean }, accessFlags := 1, code := some k7c2 }
def k7c3 : Code := { maxStack := 4, maxLocals := 6, code := jdk_42_method_149_code, exceptionTable := #[], attributes := #[] }
def k7m3 : Method := { name := "<init>", desc := "([CIILjava/lang/Void;)V", sig := { parameters := [(.array .char), .int, .int, (.object "java/lang/Void")], returnType := none }, accessFlags := 2, code := some k7c3 }
/-- java/lang/String -/
def k7 : Class := { plain "java/lang/String" (some 0) with
  accessFlags := 49
  interfaces := #[2, 3, 4, 5, 6]
  cf := some (fileOf pool7 10 #[.nestMembers #[1103]] #[{ accessFlags := 1, nameIndex := 5, descriptorIndex := 6, attributes := #[] }, { accessFlags := 1, nameIndex := 5, descriptorIndex := 1010, attributes := #[] }, { accessFlags := 1, nameIndex := 543, descriptorIndex := 573, attributes := #[] }, { accessFlags := 2, nameIndex := 5, descriptorIndex := 29, attributes := #[] }] 49 2 #[1106, 1108, 575, 1110, 1112] #[{ accessFlags := 18, nameIndex := 13, descriptorIndex := 14, attributes := #[] }, { accessFlags := 18, nameIndex := 17, descriptorIndex := 18, attributes := #[] }, { accessFlags := 2, nameIndex := 21, descriptorIndex := 22, attributes := #[] }, { accessFlags := 2, nameIndex := 25, descriptorIndex := 26, attributes := #[] }, { accessFlags := 26, nameIndex := 1116, descriptorIndex := 1117, attributes := #[] }, { accessFlags := 24, nameIndex := 40, descriptorIndex := 26, attributes := #[] }, { accessFlags := 26, nameIndex := 1101, descriptorIndex := 1102, attributes := #[] }, { accessFlags := 26, nameIndex := 1121, descriptorIndex := 1122, attributes := #[] }, { accessFlags := 25, nameIndex := 599, descriptorIndex := 600, attributes := #[] }, { accessFlags := 24, nameIndex := 1125, descriptorIndex := 18, attributes := #[] }, { accessFlags := 24, nameIndex := 1127, descriptorIndex := 18, attributes := #[] }])
  fields := #[{ name := "value", type := (.array .byte), accessFlags := 18, slot := 0, constantValue := 0 }, { name := "coder", type := .byte, accessFlags := 18, slot := 1, constantValue := 0 }, { name := "hash", type := .int, accessFlags := 2, slot := 2, constantValue := 0 }, { name := "hashIsZero", type := .boolean, accessFlags := 2, slot := 3, constantValue := 0 }, { name := "serialVersionUID", type := .long, accessFlags := 26, slot := 0, constantValue := 0 }, { name := "COMPACT_STRINGS", type := .boolean, accessFlags := 24, slot := 1, constantValue := 0 }, { name := "serialPersistentFields", type := (.array (.object "java/io/ObjectStreamField")), accessFlags := 26, slot := 2, constantValue := 0 }, { name := "REPL", type := .char, accessFlags := 26, slot := 3, constantValue := 0 }, { name := "CASE_INSENSITIVE_ORDER", type := (.object "java/util/Comparator"), accessFlags := 25, slot := 4, constantValue := 0 }, { name := "LATIN1", type := .byte, accessFlags := 24, slot := 5, constantValue := 0 }, { name := "UTF16", type := .byte, accessFlags := 24, slot := 6, constantValue := 0 }]
  methods := #[k7m0, k7m1, k7m2, k7m3]
  instanceTypes := #[(.array .byte), .byte, .int, .boolean]
  staticTypes := #[.long, .boolean, (.array (.object "java/io/ObjectStreamField")), .char, (.object "java/util/Comparator"), .byte, .byte]
  resolved := Array.replicate 1451 none
  statics := some 0 }

def pool8 : Array CpInfo := pool [(1, .methodref 2 3), (0, .class_ 4), (0, .nameAndType 5 6), (0, u "java/lang/Object"), (0, u "<init>"), (0, u "()V"), (0, .class_ 8), (0, u "java/lang/Record")] 13

def k8c0 : Code := { maxStack := 1, maxLocals := 1, code := jdk_30_method_1_code, exceptionTable := #[], attributes := #[] }
def k8m0 : Method := { name := "<init>", desc := "()V", sig := { parameters := [], returnType := none }, accessFlags := 4, code := some k8c0 }
/-- java/lang/Record -/
def k8 : Class := { plain "java/lang/Record" (some 0) with
  accessFlags := 1057
  interfaces := #[]
  cf := some (fileOf pool8 7 #[] #[{ accessFlags := 4, nameIndex := 5, descriptorIndex := 6, attributes := #[] }] 1057 2 #[] #[])
  fields := #[]
  methods := #[k8m0]
  instanceTypes := #[]
  staticTypes := #[]
  resolved := Array.replicate 22 none
  statics := none }

def pool9 : Array CpInfo := pool [(1, .methodref 2 3), (0, .class_ 4), (0, .nameAndType 5 6), (0, u "java/lang/Record"), (0, u "<init>"), (0, u "()V"), (0, .string 8), (0, u "typeName"), (0, .methodref 10 11), (0, .class_ 12), (0, .nameAndType 13 14), (0, u "java/util/Objects"), (0, u "requireNonNull"), (0, u "(Ljava/lang/Object;Ljava/lang/String;)Ljava/lang/Object;"), (0, .fieldref 16 17), (0, .class_ 18), (0, .nameAndType 8 19), (0, u "com/example/iron_wire/ironwire/definition/QualifierDefinition"), (0, u "Ljava/lang/String;"), (0, .fieldref 16 21), (0, .nameAndType 22 19), (0, u "value"), (0, .fieldref 16 24), (0, .nameAndType 25 19), (0, u "inheritedFrom"), (0, .methodref 16 27), (0, .nameAndType 5 28), (0, u "(Ljava/lang/String;Ljava/lang/String;Ljava/lang/String;)V"), (16, u "inherited"), (0, u "(Ljava/lang/String;)Lcom/example/iron_wire/ironwire/definition/QualifierDefinition;"), (3, u "()Ljava/lang/String;")] 24

def k9c0 : Code := { maxStack := 2, maxLocals := 4, code := prog_49_method_1_code, exceptionTable := #[], attributes := #[] }
def k9m0 : Method := { name := "<init>", desc := "(Ljava/lang/String;Ljava/lang/String;Ljava/lang/String;)V", sig := { parameters := [(.object "java/lang/String"), (.object "java/lang/String"), (.object "java/lang/String")], returnType := none }, accessFlags := 1, code := some k9c0 }
def k9c1 : Code := { maxStack := 5, maxLocals := 2, code := prog_49_method_3_code, exceptionTable := #[], attributes := #[] }
def k9m1 : Method := { name := "inherited", desc := "(Ljava/lang/String;)Lcom/example/iron_wire/ironwire/definition/QualifierDefinition;", sig := { parameters := [(.object "java/lang/String")], returnType := some (.object "com/example/iron_wire/ironwire/definition/QualifierDefinition") }, accessFlags := 1, code := some k9c1 }
def k9c2 : Code := { maxStack := 1, maxLocals := 1, code := prog_49_method_7_code, exceptionTable := #[], attributes := #[] }
def k9m2 : Method := { name := "typeName", desc := "()Ljava/lang/String;", sig := { parameters := [], returnType := some (.object "java/lang/String") }, accessFlags := 1, code := some k9c2 }
def k9c3 : Code := { maxStack := 1, maxLocals := 1, code := prog_49_method_8_code, exceptionTable := #[], attributes := #[] }
def k9m3 : Method := { name := "value", desc := "()Ljava/lang/String;", sig := { parameters := [], returnType := some (.object "java/lang/String") }, accessFlags := 1, code := some k9c3 }
def k9c4 : Code := { maxStack := 1, maxLocals := 1, code := prog_49_method_9_code, exceptionTable := #[], attributes := #[] }
def k9m4 : Method := { name := "inheritedFrom", desc := "()Ljava/lang/String;", sig := { parameters := [], returnType := some (.object "java/lang/String") }, accessFlags := 1, code := some k9c4 }
/-- com/example/iron_wire/ironwire/definition/QualifierDefinition -/
def k9 : Class := { plain "com/example/iron_wire/ironwire/definition/QualifierDefinition" (some 8) with
  accessFlags := 49
  interfaces := #[]
  cf := some (fileOf pool9 16 #[] #[{ accessFlags := 1, nameIndex := 5, descriptorIndex := 28, attributes := #[] }, { accessFlags := 1, nameIndex := 45, descriptorIndex := 46, attributes := #[] }, { accessFlags := 1, nameIndex := 8, descriptorIndex := 50, attributes := #[] }, { accessFlags := 1, nameIndex := 22, descriptorIndex := 50, attributes := #[] }, { accessFlags := 1, nameIndex := 25, descriptorIndex := 50, attributes := #[] }] 49 2 #[] #[{ accessFlags := 18, nameIndex := 8, descriptorIndex := 19, attributes := #[] }, { accessFlags := 18, nameIndex := 22, descriptorIndex := 19, attributes := #[] }, { accessFlags := 18, nameIndex := 25, descriptorIndex := 19, attributes := #[] }])
  fields := #[{ name := "typeName", type := (.object "java/lang/String"), accessFlags := 18, slot := 0, constantValue := 0 }, { name := "value", type := (.object "java/lang/String"), accessFlags := 18, slot := 1, constantValue := 0 }, { name := "inheritedFrom", type := (.object "java/lang/String"), accessFlags := 18, slot := 2, constantValue := 0 }]
  methods := #[k9m0, k9m1, k9m2, k9m3, k9m4]
  instanceTypes := #[(.object "java/lang/String"), (.object "java/lang/String"), (.object "java/lang/String")]
  staticTypes := #[]
  resolved := Array.replicate 75 none
  statics := none }

def pool10 : Array CpInfo := pool [(2, .class_ 4), (1, u "java/lang/Object"), (0, u "<init>"), (0, u "()V"), (35, .class_ 44), (1, u "java/util/Objects"), (0, u "requireNonNull"), (48, u "(Ljava/lang/Object;Ljava/lang/String;)Ljava/lang/Object;")] 89

def k10m0 : Method := { name := "<init>", desc := "()V", sig := { parameters := [], returnType := none }, accessFlags := 2, code := none }
def k10c1 : Code := { maxStack := 3, maxLocals := 2, code := jdk_31_method_11_code, exceptionTable := #[], attributes := #[] }
def k10m1 : Method := { name := "requireNonNull", desc := "(Ljava/lang/Object;Ljava/lang/String;)Ljava/lang/Object;", sig := { parameters := [(.object "java/lang/Object"), (.object "java/lang/String")], returnType := some (.object "java/lang/Object") }, accessFlags := 9, code := some k10c1 }
/-- java/util/Objects -/
def k10 : Class := { plain "java/util/Objects" (some 0) with
  accessFlags := 49
  interfaces := #[]
  cf := some (fileOf pool10 42 #[] #[{ accessFlags := 2, nameIndex := 5, descriptorIndex := 6, attributes := #[] }, { accessFlags := 9, nameIndex := 45, descriptorIndex := 94, attributes := #[] }] 49 2 #[] #[])
  fields := #[]
  methods := #[k10m0, k10m1]
  instanceTypes := #[]
  staticTypes := #[]
  resolved := Array.replicate 184 none
  statics := none }

def pool11 : Array CpInfo := pool [(6, .class_ 8), (1, u "java/lang/Object"), (0, u "<init>"), (0, u "()V"), (1, .class_ 14), (1, u "java/lang/StringUTF16"), (31, u "$assertionsDisabled"), (0, u "Z"), (13, u "HI_BYTE_SHIFT"), (0, u "I"), (2, u "LO_BYTE_SHIFT"), (49, .methodref 12 116), (0, .nameAndType 117 118), (0, u "compress"), (0, u "([CI[BII)I"), (3, u "([CII)[B"), (138, u "coderFromArrayLen"), (0, u "([BI)B"), (106, .class_ 371), (1, u "java/lang/StringUTF16$LinesSpliterator"), (58, u "MAX_LENGTH"), (196, .class_ 628), (0, u "java/lang/StringUTF16$CodePointsSpliterator"), (0, .class_ 630), (0, u "java/lang/StringUTF16$CharsSpliterator")] 4

def k11m0 : Method := { name := "<init>", desc := "()V", sig := { parameters := [], returnType := none }, accessFlags := 0, code := none }
def k11c1 : Code := { maxStack := 2, maxLocals := 2, code := jdk_52_method_15_code, exceptionTable := #[], attributes := #[] }
def k11m1 : Method := { name := "coderFromArrayLen", desc := "([BI)B", sig := { parameters := [(.array .byte), .int], returnType := some .byte }, accessFlags := 8, code := some k11c1 }
def k11c2 : Code := { maxStack := 5, maxLocals := 6, code := jdk_52_method_16_code, exceptionTable := #[], attributes := #[] }
def k11m2 : Method := { name := "compress", desc := "([CII)[B", sig := { parameters := [(.array .char), .int, .int], returnType := some (.array .byte) }, accessFlags := 9, code := some k11c2 }
def k11c3 : Code := { maxStack := 3, maxLocals := 7, code := jdk_52_method_21_code, exceptionTable := #[], attributes := #[] }
def k11m3 : Method := { name := "compress", desc := "([CI[BII)I", sig := { parameters := [(.array .char), .int, (.array .byte), .int, .int], returnType := some .int }, accessFlags := 9, code := some k11c3 }
/-- java/lang/StringUTF16 -/
def k11 : Class := { plain "java/lang/StringUTF16" (some 0) with
  accessFlags := 48
  interfaces := #[]
  cf := some (fileOf pool11 12 #[.nestMembers #[627, 629, 369]] #[{ accessFlags := 0, nameIndex := 9, descriptorIndex := 10, attributes := #[] }, { accessFlags := 8, nameIndex := 261, descriptorIndex := 262, attributes := #[] }, { accessFlags := 9, nameIndex := 117, descriptorIndex := 122, attributes := #[] }, { accessFlags := 9, nameIndex := 117, descriptorIndex := 118, attributes := #[] }] 48 6 #[] #[{ accessFlags := 26, nameIndex := 61, descriptorIndex := 62, attributes := #[] }, { accessFlags := 26, nameIndex := 65, descriptorIndex := 62, attributes := #[] }, { accessFlags := 24, nameIndex := 430, descriptorIndex := 62, attributes := #[] }, { accessFlags := 4120, nameIndex := 46, descriptorIndex := 47, attributes := #[] }])
  fields := #[{ name := "HI_BYTE_SHIFT", type := .int, accessFlags := 26, slot := 0, constantValue := 0 }, { name := "LO_BYTE_SHIFT", type := .int, accessFlags := 26, slot := 1, constantValue := 0 }, { name := "MAX_LENGTH", type := .int, accessFlags := 24, slot := 2, constantValue := 0 }, { name := "$assertionsDisabled", type := .boolean, accessFlags := 4120, slot := 3, constantValue := 0 }]
  methods := #[k11m0, k11m1, k11m2, k11m3]
  instanceTypes := #[]
  staticTypes := #[.int, .int, .int, .boolean]
  resolved := Array.replicate 635 none
  statics := none }

def pool12 : Array CpInfo := pool [(4, .class_ 6), (1, u "java/lang/Object"), (0, u "<init>"), (0, u "()V"), (5, .class_ 16), (1, u "java/lang/StringLatin1"), (104, u "$assertionsDisabled"), (0, u "Z"), (98, .class_ 223), (1, u "java/lang/StringLatin1$LinesSpliterator"), (166, .class_ 391), (0, u "java/lang/StringLatin1$CharsSpliterator")] 3

def k12m0 : Method := { name := "<init>", desc := "()V", sig := { parameters := [], returnType := none }, accessFlags := 0, code := none }
/-- java/lang/StringLatin1 -/
def k12 : Class := { plain "java/lang/StringLatin1" (some 0) with
  accessFlags := 48
  interfaces := #[]
  cf := some (fileOf pool12 14 #[.nestMembers #[390, 221]] #[{ accessFlags := 0, nameIndex := 7, descriptorIndex := 8, attributes := #[] }] 48 4 #[] #[{ accessFlags := 4120, nameIndex := 121, descriptorIndex := 122, attributes := #[] }])
  fields := #[{ name := "$assertionsDisabled", type := .boolean, accessFlags := 4120, slot := 0, constantValue := 0 }]
  methods := #[k12m0]
  instanceTypes := #[]
  staticTypes := #[.boolean]
  resolved := Array.replicate 395 none
  statics := none }

def pool13 : Array CpInfo := pool [(2, .class_ 4), (1, u "java/lang/Object"), (0, u "<init>"), (0, u "()V"), (17, .class_ 26), (1, u "jdk/internal/util/Preconditions"), (28, .class_ 56), (0, u "jdk/internal/util/Preconditions$4"), (57, .class_ 115), (0, u "jdk/internal/util/Preconditions$1"), (7, u "SIOOBE_FORMATTER"), (0, u "Ljava/util/function/BiFunction;"), (0, .class_ 126), (0, u "jdk/internal/util/Preconditions$2"), (3, u "AIOOBE_FORMATTER"), (0, .class_ 132), (0, u "jdk/internal/util/Preconditions$3"), (3, u "IOOBE_FORMATTER")] 57

def k13m0 : Method := { name := "<init>", desc := "()V", sig := { parameters := [], returnType := none }, accessFlags := 1, code := none }
/-- jdk/internal/util/Preconditions -/
def k13 : Class := { plain "jdk/internal/util/Preconditions" (some 0) with
  accessFlags := 33
  interfaces := #[]
  cf := some (fileOf pool13 24 #[.nestMembers #[55, 131, 125, 114]] #[{ accessFlags := 1, nameIndex := 5, descriptorIndex := 6, attributes := #[] }] 33 2 #[] #[{ accessFlags := 25, nameIndex := 123, descriptorIndex := 124, attributes := #[] }, { accessFlags := 25, nameIndex := 130, descriptorIndex := 124, attributes := #[] }, { accessFlags := 25, nameIndex := 136, descriptorIndex := 124, attributes := #[] }])
  fields := #[{ name := "SIOOBE_FORMATTER", type := (.object "java/util/function/BiFunction"), accessFlags := 25, slot := 0, constantValue := 0 }, { name := "AIOOBE_FORMATTER", type := (.object "java/util/function/BiFunction"), accessFlags := 25, slot := 1, constantValue := 0 }, { name := "IOOBE_FORMATTER", type := (.object "java/util/function/BiFunction"), accessFlags := 25, slot := 2, constantValue := 0 }]
  methods := #[k13m0]
  instanceTypes := #[]
  staticTypes := #[(.object "java/util/function/BiFunction"), (.object "java/util/function/BiFunction"), (.object "java/util/function/BiFunction")]
  resolved := Array.replicate 194 none
  statics := some 1 }

def pool14 : Array CpInfo := pool [(9, u "<init>"), (6, .class_ 18), (1, u "java/lang/Object"), (0, u "()V"), (1, .class_ 23), (1, u "jdk/internal/util/ArraysSupport"), (0, u "LOG2_ARRAY_LONG_INDEX_SCALE"), (0, u "I"), (2, u "U"), (0, u "Ljdk/internal/misc/Unsafe;"), (8, u "BIG_ENDIAN"), (0, u "Z"), (8, u "LOG2_BYTE_BIT_SIZE"), (4, u "LOG2_ARRAY_INT_INDEX_SCALE"), (54, u "JLA"), (0, u "Ljdk/internal/access/JavaLangAccess;"), (11, u "LOG2_ARRAY_BOOLEAN_INDEX_SCALE"), (9, u "LOG2_ARRAY_BYTE_INDEX_SCALE"), (5, u "LOG2_ARRAY_CHAR_INDEX_SCALE"), (5, u "LOG2_ARRAY_SHORT_INDEX_SCALE"), (18, u "LOG2_ARRAY_FLOAT_INDEX_SCALE"), (24, u "LOG2_ARRAY_DOUBLE_INDEX_SCALE"), (89, u "T_BOOLEAN"), (2, u "T_CHAR"), (1, u "T_FLOAT"), (1, u "T_DOUBLE"), (1, u "T_BYTE"), (1, u "T_SHORT"), (1, u "T_INT"), (1, u "T_LONG"), (1, u "SOFT_MAX_ARRAY_LENGTH")] 83

def k14m0 : Method := { name := "<init>", desc := "()V", sig := { parameters := [], returnType := none }, accessFlags := 2, code := none }
/-- jdk/internal/util/ArraysSupport -/
def k14 : Class := { plain "jdk/internal/util/ArraysSupport" (some 0) with
  accessFlags := 33
  interfaces := #[]
  cf := some (fileOf pool14 21 #[] #[{ accessFlags := 2, nameIndex := 9, descriptorIndex := 19, attributes := #[] }] 33 16 #[] #[{ accessFlags := 24, nameIndex := 28, descriptorIndex := 29, attributes := #[] }, { accessFlags := 26, nameIndex := 38, descriptorIndex := 39, attributes := #[] }, { accessFlags := 25, nameIndex := 121, descriptorIndex := 25, attributes := #[] }, { accessFlags := 25, nameIndex := 131, descriptorIndex := 25, attributes := #[] }, { accessFlags := 25, nameIndex := 137, descriptorIndex := 25, attributes := #[] }, { accessFlags := 25, nameIndex := 143, descriptorIndex := 25, attributes := #[] }, { accessFlags := 25, nameIndex := 53, descriptorIndex := 25, attributes := #[] }, { accessFlags := 25, nameIndex := 24, descriptorIndex := 25, attributes := #[] }, { accessFlags := 25, nameIndex := 162, descriptorIndex := 25, attributes := #[] }, { accessFlags := 25, nameIndex := 187, descriptorIndex := 25, attributes := #[] }, { accessFlags := 26, nameIndex := 48, descriptorIndex := 25, attributes := #[] }, { accessFlags := 25, nameIndex := 277, descriptorIndex := 25, attributes := #[] }, { accessFlags := 25, nameIndex := 280, descriptorIndex := 25, attributes := #[] }, { accessFlags := 25, nameIndex := 282, descriptorIndex := 25, attributes := #[] }, { accessFlags := 25, nameIndex := 284, descriptorIndex := 25, attributes := #[] }, { accessFlags := 25, nameIndex := 286, descriptorIndex := 25, attributes := #[] }, { accessFlags := 25, nameIndex := 288, descriptorIndex := 25, attributes := #[] }, { accessFlags := 25, nameIndex := 290, descriptorIndex := 25, attributes := #[] }, { accessFlags := 25, nameIndex := 292, descriptorIndex := 25, attributes := #[] }, { accessFlags := 26, nameIndex := 108, descriptorIndex := 109, attributes := #[] }, { accessFlags := 25, nameIndex := 294, descriptorIndex := 25, attributes := #[] }])
  fields := #[{ name := "U", type := (.object "jdk/internal/misc/Unsafe"), accessFlags := 24, slot := 0, constantValue := 0 }, { name := "BIG_ENDIAN", type := .boolean, accessFlags := 26, slot := 1, constantValue := 0 }, { name := "LOG2_ARRAY_BOOLEAN_INDEX_SCALE", type := .int, accessFlags := 25, slot := 2, constantValue := 0 }, { name := "LOG2_ARRAY_BYTE_INDEX_SCALE", type := .int, accessFlags := 25, slot := 3, constantValue := 0 }, { name := "LOG2_ARRAY_CHAR_INDEX_SCALE", type := .int, accessFlags := 25, slot := 4, constantValue := 0 }, { name := "LOG2_ARRAY_SHORT_INDEX_SCALE", type := .int, accessFlags := 25, slot := 5, constantValue := 0 }, { name := "LOG2_ARRAY_INT_INDEX_SCALE", type := .int, accessFlags := 25, slot := 6, constantValue := 0 }, { name := "LOG2_ARRAY_LONG_INDEX_SCALE", type := .int, accessFlags := 25, slot := 7, constantValue := 0 }, { name := "LOG2_ARRAY_FLOAT_INDEX_SCALE", type := .int, accessFlags := 25, slot := 8, constantValue := 0 }, { name := "LOG2_ARRAY_DOUBLE_INDEX_SCALE", type := .int, accessFlags := 25, slot := 9, constantValue := 0 }, { name := "LOG2_BYTE_BIT_SIZE", type := .int, accessFlags := 26, slot := 10, constantValue := 0 }, { name := "T_BOOLEAN", type := .int, accessFlags := 25, slot := 11, constantValue := 0 }, { name := "T_CHAR", type := .int, accessFlags := 25, slot := 12, constantValue := 0 }, { name := "T_FLOAT", type := .int, accessFlags := 25, slot := 13, constantValue := 0 }, { name := "T_DOUBLE", type := .int, accessFlags := 25, slot := 14, constantValue := 0 }, { name := "T_BYTE", type := .int, accessFlags := 25, slot := 15, constantValue := 0 }, { name := "T_SHORT", type := .int, accessFlags := 25, slot := 16, constantValue := 0 }, { name := "T_INT", type := .int, accessFlags := 25, slot := 17, constantValue := 0 }, { name := "T_LONG", type := .int, accessFlags := 25, slot := 18, constantValue := 0 }, { name := "JLA", type := (.object "jdk/internal/access/JavaLangAccess"), accessFlags := 26, slot := 19, constantValue := 0 }, { name := "SOFT_MAX_ARRAY_LENGTH", type := .int, accessFlags := 25, slot := 20, constantValue := 0 }]
  methods := #[k14m0]
  instanceTypes := #[]
  staticTypes := #[(.object "jdk/internal/misc/Unsafe"), .boolean, .int, .int, .int, .int, .int, .int, .int, .int, .int, .int, .int, .int, .int, .int, .int, .int, .int, (.object "jdk/internal/access/JavaLangAccess"), .int]
  resolved := Array.replicate 378 none
  statics := none }

def pool15 : Array CpInfo := pool [(1, u "java/lang/Cloneable"), (0, .class_ 1), (0, u "java/lang/Object"), (0, .class_ 3)] 3

/-- java/lang/Cloneable -/
def k15 : Class := { plain "java/lang/Cloneable" (some 0) with
  accessFlags := 1537
  interfaces := #[]
  cf := some (fileOf pool15 2 #[] #[] 1537 4 #[] #[])
  fields := #[]
  methods := #[]
  instanceTypes := #[]
  staticTypes := #[]
  resolved := Array.replicate 8 none
  statics := none }

/-- the primitive byte -/
def k16 : Class := { plain "byte" none with kind := .primitive 'B', accessFlags := 0x411 }
/-- [B -/
def k17 : Class := { plain "[B" (some 0) with kind := .array 16 .byte, interfaces := #[15, 2], accessFlags := 1041 }

/-- the primitive char -/
def k18 : Class := { plain "char" none with kind := .primitive 'C', accessFlags := 0x411 }
/-- [C -/
def k19 : Class := { plain "[C" (some 0) with kind := .array 18 .char, interfaces := #[15, 2], accessFlags := 1041 }

/-- the primitive int -/
def k20 : Class := { plain "int" none with kind := .primitive 'I', accessFlags := 0x411 }
/-- [I -/
def k21 : Class := { plain "[I" (some 0) with kind := .array 20 .int, interfaces := #[15, 2], accessFlags := 1041 }

def heap : Heap := #[{ cls := 7, slots := #[.long 0, .int 1, .null, .int 0, .null, .int 0, .int 0], vm := .statics 7 },
  { cls := 13, slots := #[.null, .null, .null], vm := .statics 13 }]
def classes : Array Class := #[k0, k1, k2, k3, k4, k5, k6, k7, k8, k9, k10, k11, k12, k13, k14, k15, k16, k17, k18, k19, k20, k21]
def interned : List (Array UInt16 × Addr) := []
def slotsUsed : Nat := 10
def theMethod : MethodId := ⟨1, 3⟩
def args0 : Array Value := #[.int 5, .int 4, .int 3, .int 2, .int 1, .int 0]
def aboutOver (below : List Frame) : State where
  vm := { classes := classes, interned := interned.toArray }
  heap := heap
  slotsUsed := slotsUsed
  threads := #[{ frames := .invoking theMethod args0 :: below }]
def below0 : List Frame := [.native { method := ⟨0, 0⟩, args := #[] }]
def about1 : State := aboutOver below0
def p0 : Program := .bare "" "" ""
def e0 : Env := launch0.env 0 0 0
theorem w_frames : about1.frames = Frame.invoking theMethod args0 :: below0 := rfl
set_option maxRecDepth 65536 in
theorem w_args : argsFit about1.vm theMethod args0 = true := by decide +kernel
set_option maxRecDepth 65536 in
theorem w_heap : heapFits about1 = true := by decide +kernel
set_option maxRecDepth 65536 in
theorem w_runnable : about1.curStatus? = some .runnable := by decide +kernel
set_option maxRecDepth 65536 in
theorem w_alone : about1.alone = true := by decide +kernel
set_option maxRecDepth 65536 in
theorem w_named : about1.methodNamed? x = some theMethod := by decide +kernel
set_option maxRecDepth 65536 in
theorem w_hears : about1.hears theMethod below0 = true := by decide +kernel
set_option maxRecDepth 65536 in
theorem w_ripe : about1.ripe theMethod args0 below0 = true := by decide +kernel
theorem w_running : about1.status = .running := rfl
set_option maxRecDepth 65536 in
theorem w_room : about1.hasRoom e0.platform room_1 = true :=
  launch0.hasRoom_least _ room_1 (by decide +kernel) (by decide +kernel) (by decide +kernel) (by decide +kernel) (by decide +kernel) (by decide +kernel)
theorem allAtoms_all (ts : List Jvm.Cond) (a : Array Jvm.Value) (st : Jvm.State) : (allAtoms ts).before a st = ts.all (fun c => c.before a st) := by
  induction ts with
  | nil => rfl
  | cons c t ih =>
    show (Jvm.Cond.and c (allAtoms t)).before a st = _
    rw [Jvm.Cond.before_and, ih, List.all_cons]
def words1 : List Jvm.Cond := Jvm.Cond.code x code maxLocals ret :: tables_1
/-- a 'code' word, met by the world's own term for the bytes: nothing is compared byte by byte -/
theorem code_word {y : MethodName} {bytes : ByteArray} {mx : Nat} {rt : Option FieldType} {a : Array Value} {s : State} {m : MethodId} {meth : Method} {c : Code} (h1 : s.methodNamed? y = some m) (h2 : s.vm.method? m = some meth) (h3 : meth.code = some c) (h4 : c.code = bytes)
    (h5 : (c.maxLocals == mx && c.exceptionTable.isEmpty && decide (c.maxStack ≤ mostOperands) && decide (meth.sig.returnType = rt) && !meth.locks && decide (parseMethodDescriptor y.desc = some meth.sig)) = true) : (Jvm.Cond.code y bytes mx rt).before a s = true := by
  simp only [Bool.and_eq_true, beq_iff_eq, Bool.not_eq_true', decide_eq_true_eq] at h5
  obtain ⟨⟨⟨⟨⟨g1, g2⟩, g3⟩, g4⟩, g5⟩, g6⟩ := h5
  simp [Cond.before, Cond.holds, Cond.value, h1, h2, h3, h4, g1, g2, g3, g4, g5, g6]
def isCode : Jvm.Cond → Bool
  | .code _ _ _ _ => true
  | _ => false
theorem all_split {L : List Jvm.Cond} {P : Jvm.Cond → Bool} (h1 : L.all (fun c => isCode c || P c) = true) (h2 : ∀ c ∈ L.filter isCode, P c = true) : L.all P = true := by
  refine List.all_eq_true.mpr fun c hc => ?_
  have h := List.all_eq_true.mp h1 c hc
  rcases Bool.eq_false_or_eq_true (isCode c) with hi | hi
  · exact h2 c (List.mem_filter.mpr ⟨hc, hi⟩)
  · simpa [hi] using h
set_option maxRecDepth 65536 in
theorem w_c0 : (Jvm.Cond.code x code maxLocals ret).before args0 about1 = true := code_word (m := ⟨1, 3⟩) (meth := k1m3) (c := k1c3) (by decide +kernel) rfl rfl rfl (by decide +kernel)
set_option maxRecDepth 65536 in
theorem w_c1 : (Jvm.Cond.code ({ cls := "com/example/iron_wire/ironwire/definition/QualifierDefinitionInheritedPinLaw", name := "str", desc := "(II)Ljava/lang/String;" } : Jvm.MethodName) method_2_code (6 : Nat) (Option.some (Jvm.ClassFile.FieldType.object "java/lang/String"))).before args0 about1 = true := code_word (m := ⟨1, 1⟩) (meth := k1m1) (c := k1c1) (by decide +kernel) rfl rfl rfl (by decide +kernel)
set_option maxRecDepth 65536 in
theorem w_c2 : (Jvm.Cond.code ({ cls := "java/lang/String", name := "<init>", desc := "([C)V" } : Jvm.MethodName) jdk_42_method_3_code (2 : Nat) (Option.none : Option Jvm.ClassFile.FieldType)).before args0 about1 = true := code_word (m := ⟨7, 1⟩) (meth := k7m1) (c := k7c1) (by decide +kernel) rfl rfl rfl (by decide +kernel)
set_option maxRecDepth 65536 in
theorem w_c3 : (Jvm.Cond.code ({ cls := "java/lang/String", name := "<init>", desc := "([CIILjava/lang/Void;)V" } : Jvm.MethodName) jdk_42_method_149_code (6 : Nat) (Option.none : Option Jvm.ClassFile.FieldType)).before args0 about1 = true := code_word (m := ⟨7, 3⟩) (meth := k7m3) (c := k7c3) (by decide +kernel) rfl rfl rfl (by decide +kernel)
set_option maxRecDepth 65536 in
theorem w_c4 : (Jvm.Cond.code ({ cls := "java/lang/Object", name := "<init>", desc := "()V" } : Jvm.MethodName) object_method_1_code (1 : Nat) (Option.none : Option Jvm.ClassFile.FieldType)).before args0 about1 = true := code_word (m := ⟨0, 0⟩) (meth := k0m0) (c := k0c0) (by decide +kernel) rfl rfl rfl (by decide +kernel)
set_option maxRecDepth 65536 in
theorem w_c5 : (Jvm.Cond.code ({ cls := "com/example/iron_wire/ironwire/definition/QualifierDefinition", name := "<init>", desc := "(Ljava/lang/String;Ljava/lang/String;Ljava/lang/String;)V" } : Jvm.MethodName) prog_49_method_1_code (4 : Nat) (Option.none : Option Jvm.ClassFile.FieldType)).before args0 about1 = true := code_word (m := ⟨9, 0⟩) (meth := k9m0) (c := k9c0) (by decide +kernel) rfl rfl rfl (by decide +kernel)
set_option maxRecDepth 65536 in
theorem w_c6 : (Jvm.Cond.code ({ cls := "java/lang/Record", name := "<init>", desc := "()V" } : Jvm.MethodName) jdk_30_method_1_code (1 : Nat) (Option.none : Option Jvm.ClassFile.FieldType)).before args0 about1 = true := code_word (m := ⟨8, 0⟩) (meth := k8m0) (c := k8c0) (by decide +kernel) rfl rfl rfl (by decide +kernel)
set_option maxRecDepth 65536 in
theorem w_c7 : (Jvm.Cond.code ({ cls := "java/util/Objects", name := "requireNonNull", desc := "(Ljava/lang/Object;Ljava/lang/String;)Ljava/lang/Object;" } : Jvm.MethodName) jdk_31_method_11_code (2 : Nat) (Option.some (Jvm.ClassFile.FieldType.object "java/lang/Object"))).before args0 about1 = true := code_word (m := ⟨10, 1⟩) (meth := k10m1) (c := k10c1) (by decide +kernel) rfl rfl rfl (by decide +kernel)
set_option maxRecDepth 65536 in
theorem w_c8 : (Jvm.Cond.code ({ cls := "com/example/iron_wire/ironwire/definition/QualifierDefinition", name := "inherited", desc := "(Ljava/lang/String;)Lcom/example/iron_wire/ironwire/definition/QualifierDefinition;" } : Jvm.MethodName) prog_49_method_3_code (2 : Nat) (Option.some (Jvm.ClassFile.FieldType.object "com/example/iron_wire/ironwire/definition/QualifierDefinition"))).before args0 about1 = true := code_word (m := ⟨9, 1⟩) (meth := k9m1) (c := k9c1) (by decide +kernel) rfl rfl rfl (by decide +kernel)
set_option maxRecDepth 65536 in
theorem w_c9 : (Jvm.Cond.code ({ cls := "com/example/iron_wire/ironwire/definition/QualifierDefinition", name := "typeName", desc := "()Ljava/lang/String;" } : Jvm.MethodName) prog_49_method_7_code (1 : Nat) (Option.some (Jvm.ClassFile.FieldType.object "java/lang/String"))).before args0 about1 = true := code_word (m := ⟨9, 2⟩) (meth := k9m2) (c := k9c2) (by decide +kernel) rfl rfl rfl (by decide +kernel)
set_option maxRecDepth 65536 in
theorem w_c10 : (Jvm.Cond.code ({ cls := "com/example/iron_wire/ironwire/definition/QualifierDefinitionInheritedPinLaw", name := "same", desc := "(Ljava/lang/String;Ljava/lang/String;)Z" } : Jvm.MethodName) method_3_code (2 : Nat) (Option.some Jvm.ClassFile.FieldType.boolean)).before args0 about1 = true := code_word (m := ⟨1, 2⟩) (meth := k1m2) (c := k1c2) (by decide +kernel) rfl rfl rfl (by decide +kernel)
set_option maxRecDepth 65536 in
theorem w_c11 : (Jvm.Cond.code ({ cls := "java/lang/String", name := "equals", desc := "(Ljava/lang/Object;)Z" } : Jvm.MethodName) jdk_42_method_66_code (3 : Nat) (Option.some Jvm.ClassFile.FieldType.boolean)).before args0 about1 = true := code_word (m := ⟨7, 2⟩) (meth := k7m2) (c := k7c2) (by decide +kernel) rfl rfl rfl (by decide +kernel)
set_option maxRecDepth 65536 in
theorem w_c12 : (Jvm.Cond.code ({ cls := "com/example/iron_wire/ironwire/definition/QualifierDefinition", name := "value", desc := "()Ljava/lang/String;" } : Jvm.MethodName) prog_49_method_8_code (1 : Nat) (Option.some (Jvm.ClassFile.FieldType.object "java/lang/String"))).before args0 about1 = true := code_word (m := ⟨9, 3⟩) (meth := k9m3) (c := k9c3) (by decide +kernel) rfl rfl rfl (by decide +kernel)
set_option maxRecDepth 65536 in
theorem w_c13 : (Jvm.Cond.code ({ cls := "com/example/iron_wire/ironwire/definition/QualifierDefinition", name := "inheritedFrom", desc := "()Ljava/lang/String;" } : Jvm.MethodName) prog_49_method_9_code (1 : Nat) (Option.some (Jvm.ClassFile.FieldType.object "java/lang/String"))).before args0 about1 = true := code_word (m := ⟨9, 4⟩) (meth := k9m4) (c := k9c4) (by decide +kernel) rfl rfl rfl (by decide +kernel)
set_option maxRecDepth 65536 in
theorem w_c14 : (Jvm.Cond.code ({ cls := "java/lang/StringUTF16", name := "compress", desc := "([CII)[B" } : Jvm.MethodName) jdk_52_method_16_code (6 : Nat) (Option.some (Jvm.ClassFile.FieldType.array Jvm.ClassFile.FieldType.byte))).before args0 about1 = true := code_word (m := ⟨11, 2⟩) (meth := k11m2) (c := k11c2) (by decide +kernel) rfl rfl rfl (by decide +kernel)
set_option maxRecDepth 65536 in
theorem w_c15 : (Jvm.Cond.code ({ cls := "java/lang/StringUTF16", name := "compress", desc := "([CI[BII)I" } : Jvm.MethodName) jdk_52_method_21_code (7 : Nat) (Option.some Jvm.ClassFile.FieldType.int)).before args0 about1 = true := code_word (m := ⟨11, 3⟩) (meth := k11m3) (c := k11c3) (by decide +kernel) rfl rfl rfl (by decide +kernel)
set_option maxRecDepth 65536 in
theorem w_c16 : (Jvm.Cond.code ({ cls := "java/lang/StringUTF16", name := "coderFromArrayLen", desc := "([BI)B" } : Jvm.MethodName) jdk_52_method_15_code (2 : Nat) (Option.some Jvm.ClassFile.FieldType.byte)).before args0 about1 = true := code_word (m := ⟨11, 1⟩) (meth := k11m1) (c := k11c1) (by decide +kernel) rfl rfl rfl (by decide +kernel)
def codes1 : List Jvm.Cond := [Jvm.Cond.code x code maxLocals ret, Jvm.Cond.code ({ cls := "com/example/iron_wire/ironwire/definition/QualifierDefinitionInheritedPinLaw", name := "str", desc := "(II)Ljava/lang/String;" } : Jvm.MethodName) method_2_code (6 : Nat) (Option.some (Jvm.ClassFile.FieldType.object "java/lang/String")), Jvm.Cond.code ({ cls := "java/lang/String", name := "<init>", desc := "([C)V" } : Jvm.MethodName) jdk_42_method_3_code (2 : Nat) (Option.none : Option Jvm.ClassFile.FieldType), Jvm.Cond.code ({ cls := "java/lang/String", name := "<init>", desc := "([CIILjava/lang/Void;)V" } : Jvm.MethodName) jdk_42_method_149_code (6 : Nat) (Option.none : Option Jvm.ClassFile.FieldType), Jvm.Cond.code ({ cls := "java/lang/Object", name := "<init>", desc := "()V" } : Jvm.MethodName) object_method_1_code (1 : Nat) (Option.none : Option Jvm.ClassFile.FieldType), Jvm.Cond.code ({ cls := "com/example/iron_wire/ironwire/definition/QualifierDefinition", name := "<init>", desc := "(Ljava/lang/String;Ljava/lang/String;Ljava/lang/String;)V" } : Jvm.MethodName) prog_49_method_1_code (4 : Nat) (Option.none : Option Jvm.ClassFile.FieldType), Jvm.Cond.code ({ cls := "java/lang/Record", name := "<init>", desc := "()V" } : Jvm.MethodName) jdk_30_method_1_code (1 : Nat) (Option.none : Option Jvm.ClassFile.FieldType), Jvm.Cond.code ({ cls := "java/util/Objects", name := "requireNonNull", desc := "(Ljava/lang/Object;Ljava/lang/String;)Ljava/lang/Object;" } : Jvm.MethodName) jdk_31_method_11_code (2 : Nat) (Option.some (Jvm.ClassFile.FieldType.object "java/lang/Object")), Jvm.Cond.code ({ cls := "com/example/iron_wire/ironwire/definition/QualifierDefinition", name := "inherited", desc := "(Ljava/lang/String;)Lcom/example/iron_wire/ironwire/definition/QualifierDefinition;" } : Jvm.MethodName) prog_49_method_3_code (2 : Nat) (Option.some (Jvm.ClassFile.FieldType.object "com/example/iron_wire/ironwire/definition/QualifierDefinition")), Jvm.Cond.code ({ cls := "com/example/iron_wire/ironwire/definition/QualifierDefinition", name := "typeName", desc := "()Ljava/lang/String;" } : Jvm.MethodName) prog_49_method_7_code (1 : Nat) (Option.some (Jvm.ClassFile.FieldType.object "java/lang/String")), Jvm.Cond.code ({ cls := "com/example/iron_wire/ironwire/definition/QualifierDefinitionInheritedPinLaw", name := "same", desc := "(Ljava/lang/String;Ljava/lang/String;)Z" } : Jvm.MethodName) method_3_code (2 : Nat) (Option.some Jvm.ClassFile.FieldType.boolean), Jvm.Cond.code ({ cls := "java/lang/String", name := "equals", desc := "(Ljava/lang/Object;)Z" } : Jvm.MethodName) jdk_42_method_66_code (3 : Nat) (Option.some Jvm.ClassFile.FieldType.boolean), Jvm.Cond.code ({ cls := "com/example/iron_wire/ironwire/definition/QualifierDefinition", name := "value", desc := "()Ljava/lang/String;" } : Jvm.MethodName) prog_49_method_8_code (1 : Nat) (Option.some (Jvm.ClassFile.FieldType.object "java/lang/String")), Jvm.Cond.code ({ cls := "com/example/iron_wire/ironwire/definition/QualifierDefinition", name := "inheritedFrom", desc := "()Ljava/lang/String;" } : Jvm.MethodName) prog_49_method_9_code (1 : Nat) (Option.some (Jvm.ClassFile.FieldType.object "java/lang/String")), Jvm.Cond.code ({ cls := "java/lang/StringUTF16", name := "compress", desc := "([CII)[B" } : Jvm.MethodName) jdk_52_method_16_code (6 : Nat) (Option.some (Jvm.ClassFile.FieldType.array Jvm.ClassFile.FieldType.byte)), Jvm.Cond.code ({ cls := "java/lang/StringUTF16", name := "compress", desc := "([CI[BII)I" } : Jvm.MethodName) jdk_52_method_21_code (7 : Nat) (Option.some Jvm.ClassFile.FieldType.int), Jvm.Cond.code ({ cls := "java/lang/StringUTF16", name := "coderFromArrayLen", desc := "([BI)B" } : Jvm.MethodName) jdk_52_method_15_code (2 : Nat) (Option.some Jvm.ClassFile.FieldType.byte)]
set_option maxRecDepth 65536 in
theorem codes_eq : words1.filter isCode = codes1 := rfl
theorem w_codes : ∀ c ∈ words1.filter isCode, c.before args0 about1 = true := by
  rw [codes_eq]
  intro c hc
  simp only [codes1, List.mem_cons, List.not_mem_nil, or_false] at hc
  rcases hc with rfl | rfl | rfl | rfl | rfl | rfl | rfl | rfl | rfl | rfl | rfl | rfl | rfl | rfl | rfl | rfl | rfl
  · exact w_c0
  · exact w_c1
  · exact w_c2
  · exact w_c3
  · exact w_c4
  · exact w_c5
  · exact w_c6
  · exact w_c7
  · exact w_c8
  · exact w_c9
  · exact w_c10
  · exact w_c11
  · exact w_c12
  · exact w_c13
  · exact w_c14
  · exact w_c15
  · exact w_c16
set_option maxRecDepth 65536 in
theorem w_t1 : (words1.take 24).all (fun c => isCode c || c.before args0 about1) = true := by decide +kernel
set_option maxRecDepth 65536 in
theorem w_t2 : ((words1.drop 24).take 24).all (fun c => isCode c || c.before args0 about1) = true := by decide +kernel
set_option maxRecDepth 65536 in
theorem w_t3 : (((words1.drop 24).drop 24).take 24).all (fun c => isCode c || c.before args0 about1) = true := by decide +kernel
set_option maxRecDepth 65536 in
theorem w_t4 : (((words1.drop 24).drop 24).drop 24).all (fun c => isCode c || c.before args0 about1) = true := by decide +kernel
theorem w_tables : (allAtoms (Jvm.Cond.code x code maxLocals ret :: tables_1)).before args0 about1 = true := by
  rw [allAtoms_all]
  show words1.all (fun c => c.before args0 about1) = true
  refine all_split ?_ w_codes
  rw [← List.take_append_drop 24 words1, List.all_append, w_t1, ← List.take_append_drop 24 (words1.drop 24), List.all_append, w_t2, ← List.take_append_drop 24 ((words1.drop 24).drop 24), List.all_append, w_t3, w_t4]
  rfl
set_option maxRecDepth 65536 in
theorem w_rest : rest_1_c.before args0 about1 = true := by decide +kernel
set_option maxRecDepth 65536 in
theorem w_case : (Jvm.Cond.and given_1 narrow_1).before args0 about1 = true := by decide +kernel
set_option maxRecDepth 65536 in
theorem w_consts : constsHeld consts_1 about1 := Jvm.Lit.constsHeldB_iff.mp (by decide +kernel)
theorem w_applies : (headSpec (Jvm.Cond.code x code maxLocals ret :: tables_1) room_1).applies x e0.platform about1 = true :=
  (Spec.applies_iff w_frames).mpr ⟨w_running, w_runnable, w_alone, w_named, w_hears, w_ripe, w_room, w_tables⟩
theorem atStart : AtStart classFile x code maxLocals ret World_1 tables_1 room_1 Calls_1 rest_1 Pre_1 launch0 p0 e0 about1 theMethod args0 below0 :=
  ⟨lists_1, trivial, launch0.admits_env _ _ _, launch0.least_env, fairChoices_fair.cas, fairChoices_fair.clock, w_frames, w_args, w_heap, w_applies, ⟨w_consts, trivial⟩, w_rest, w_case⟩
end start1
theorem witness_1 : WitnessClaimed_1 := ⟨start1.p0, start1.e0, start1.about1, start1.theMethod, start1.args0, start1.below0, start1.atStart⟩
end Jvm.Pilot.@@N@@
