import JvmDerived
import JvmDerived.Pilot.@@N@@Statement
import JvmDerived.Pilot.@@N@@Code
set_option linter.unusedVariables false
set_option linter.unusedSimpArgs false
namespace Jvm.RoadKit
open Sem ClassFile Op Lib Jvm.Stand Jvm.Free Jvm.LawKit
section New
variable {p : Program} {l : Launch} {e : Env} {R : Room} {s : State} {m : MethodId} {args : Array Value} {below : List Frame} {meth : Method} {c : Code} {T : State} {locs : List Loc} {cells slots : Nat}
theorem retI (X : Stand p l e R s m args below meth c T locs cells slots) (hx : p.tables.exec = Jvm.exec) {pc : Nat} {Ls : Array Slot} {z : Int32} {rest : List Value} (hret : meth.sig.returnType = some .int) (hd : decode c.code pc = .ok (.ireturn, 1)) {fs : List Frame}
    (hl : ∀ (f : JFrame) (acts : List Action), f.method = m → f.locked = none → f.entered = [] → (doReturn e (T.setTop f) acts (some (.int z))).1 = T.setFrames fs) : Steps p.tables e below (T.setTop (mkF m pc Ls (.int z :: rest))) (T.setFrames fs) := by
  have hm' : T.vm.method? m = some meth := X.method'
  have hn : narrow .int (.int z) = .int z := rfl
  show Steps p.tables e below (T.setTop { method := m, pc := pc, locals := Ls, stack := _ :: rest, locked := none }) _
  jvm_step X.here [X.here.top, hx, hd, hm', hret, hn]
  first | (intro acts; rw [hl _ acts rfl rfl rfl]) | rw [hl _ _ rfl rfl rfl]
  exact Steps.refl _
end New
end Jvm.RoadKit
/- laws to paste: Road.backV (cut by pick.py; bodies as the Statement names them) -/
namespace Jvm.Pilot.@@N@@
namespace StrChars
open Jvm Sem ClassFile Op Lib Jvm.Stand Jvm.Free.XT Jvm.Free.ALB Jvm.Free.JM Jvm.Free
open Jvm.Lib.Cold (StaticIs)
/-- a char array whose places are chars -/
def Ch (a : Addr) (A : Cell) (U : State) : Prop := Arr .char a A U ∧ Typed .char A
theorem Ch.mv {a : Addr} {A : Cell} {U U' : State} (h : Ch a A U) (hal : U.vm.Alike U'.vm) (hh : U'.heap = U.heap) : Ch a A U' := ⟨h.1.mv hal hh, h.2⟩
theorem Ch.keep {a : Addr} {A : Cell} {U U' : State} (h : Ch a A U) (hal : U.vm.Alike U'.vm) (hk : U'.heap[a]? = some A) : Ch a A U' := ⟨h.1.keep hal hk, h.2⟩
/-- what place i of a char[]'s cell holds -/
def cv (A : Cell) (i : Nat) : Int32 := match A.slots[i]? with | some (.int x) => x | _ => 0
theorem Ch.get {a : Addr} {A : Cell} {U : State} (h : Ch a A U) {i : Nat} (hi : i < A.slots.size) : A.slots[i]? = some (.int (cv A i)) := by
  have e := Array.getElem?_eq_getElem hi
  have f := h.2 i _ e
  unfold cv; rw [e]
  generalize A.slots[i] = v at f
  cases v <;> simp [fits] at f ⊢
/-- the byte that i2b leaves of a char -/
def lo8 (x : Int32) : Int32 := x.toInt8.toInt32
theorem fits_lo8 (y : Int32) : fits .byte (.int (lo8 y)) = true := by
  have h1 := y.toInt8.le_toInt
  have h2 := y.toInt8.toInt_lt
  simp only [lo8, fits, Bool.and_eq_true, decide_eq_true_eq, Int32.le_iff_toInt_le, Int8.toInt_toInt32, show (-128 : Int32).toInt = -128 from by decide, show (127 : Int32).toInt = 127 from by decide]
  omega
/-- A' is A but that each place j of lo .. hi - 1 holds f j -/
def Laid (A A' : Cell) (lo hi : Nat) (f : Nat → Value) : Prop := A'.cls = A.cls ∧ A'.vm = A.vm ∧ A'.slots.size = A.slots.size ∧ ∀ i, A'.slots[i]? = if lo ≤ i ∧ i < hi then some (f i) else A.slots[i]?
theorem Laid.zero (A : Cell) (lo : Nat) (f : Nat → Value) : Laid A A lo (lo + 0) f := ⟨rfl, rfl, rfl, fun i => by rw [if_neg (by omega)]⟩
theorem Laid.step {A Ak : Cell} {lo k : Nat} {f : Nat → Value} {v : Value} (h : Laid A Ak lo k f) (hlo : lo ≤ k) (hk : k < Ak.slots.size) (hv : v = f k) : Laid A (Ak.setSlot k v) lo (k + 1) f := by
  refine ⟨h.1, h.2.1, by simpa [Cell.setSlot] using h.2.2.1, fun i => ?_⟩
  by_cases e : k = i
  · subst e; rw [Cell.slots_setSlot_self v hk, if_pos (by omega), hv]
  · rw [Cell.slots_setSlot_ne v e, h.2.2.2 i]
    by_cases q : lo ≤ i ∧ i < k
    · rw [if_pos q, if_pos (by omega)]
    · rw [if_neg q, if_neg (by omega)]
def U16 : String := "java/lang/StringUTF16"
namespace Cmp5
def yN : MethodName := ⟨"java/lang/StringUTF16", "compress", "([CI[BII)I"⟩
abbrev yB : ByteArray := jdk_52_method_21_code
theorem d0 : decode yB 0 = .ok (.iconst 0, 1) := by decide +kernel
theorem d1 : decode yB 1 = .ok (.istore 5, 2) := by decide +kernel
theorem d3 : decode yB 3 = .ok (.iload 5, 2) := by decide +kernel
theorem d5 : decode yB 5 = .ok (.iload 4, 2) := by decide +kernel
theorem d7 : decode yB 7 = .ok (.if_icmp (.ge) 37, 3) := by decide +kernel
theorem d10 : decode yB 10 = .ok (.aload_n 0, 1) := by decide +kernel
theorem d11 : decode yB 11 = .ok (.iload_n 1, 1) := by decide +kernel
theorem d12 : decode yB 12 = .ok (.caload, 1) := by decide +kernel
theorem d13 : decode yB 13 = .ok (.istore 6, 2) := by decide +kernel
theorem d15 : decode yB 15 = .ok (.iload 6, 2) := by decide +kernel
theorem d17 : decode yB 17 = .ok (.sipush 255, 3) := by decide +kernel
theorem d20 : decode yB 20 = .ok (.if_icmp (.le) 6, 3) := by decide +kernel
theorem d26 : decode yB 26 = .ok (.aload_n 2, 1) := by decide +kernel
theorem d27 : decode yB 27 = .ok (.iload_n 3, 1) := by decide +kernel
theorem d28 : decode yB 28 = .ok (.iload 6, 2) := by decide +kernel
theorem d30 : decode yB 30 = .ok (.i2b, 1) := by decide +kernel
theorem d31 : decode yB 31 = .ok (.bastore, 1) := by decide +kernel
theorem d32 : decode yB 32 = .ok (.iinc 1 1, 3) := by decide +kernel
theorem d35 : decode yB 35 = .ok (.iinc 3 1, 3) := by decide +kernel
theorem d38 : decode yB 38 = .ok (.iinc 5 1, 3) := by decide +kernel
theorem d41 : decode yB 41 = .ok (.goto (-38), 3) := by decide +kernel
theorem d44 : decode yB 44 = .ok (.iload 4, 2) := by decide +kernel
theorem d46 : decode yB 46 = .ok (.ireturn, 1) := by decide +kernel
def site : List Cond := []
def tab : Cond := tabOf yN yB 7 (some .int) site
def P (b : Addr) (A : Cell) (d : Addr) (B : Cell) (o q len : Nat) (args : Array Value) (s : State) : Prop := args = #[.ref b, .int (Int32.ofNat o), .ref d, .int (Int32.ofNat q), .int (Int32.ofNat len)] ∧ Ch b A s ∧ Arr .byte d B s ∧ b ≠ d ∧ o + len ≤ A.slots.size ∧ q + len ≤ B.slots.size ∧ ∀ i, i < len → ¬ 255 < cv A (o + i)
def E (b : Addr) (A : Cell) (d : Addr) (B : Cell) (o q len : Nat) (r : Option Value) (s u : State) : Prop := r = some (.int (Int32.ofNat len)) ∧ ∃ B', Put d B' s u ∧ Laid B B' q (q + len) (fun j => Value.int (lo8 (cv A (o + (j - q)))))
/-- no char of the range above 255: len; the places written hold each char's low byte -/
theorem law (l : Launch) (b : Addr) (A : Cell) (d : Addr) (B : Cell) (o q len : Nat) : Law l yN 5 5 0 0 yB 7 (some .int) site (P b A d B o q len) (E b A d B o q len) (copyLocs d q len) 0 0 := by
  refine Law.of_walk (plainFor_of_name (by decide +kernel)) (by decide +kernel) (by decide +kernel) (by decide) (fun _ _ h => by rw [h.1]; rfl) (fun _ U U' hal hh h => ⟨h.1, h.2.1.mv hal hh, h.2.2.1.mv hal hh, h.2.2.2⟩) (fun r U U' V V' h1 hal h2 h => ⟨h.1, h.2.elim fun B' q => ⟨B', q.1.mv h1 h2, q.2⟩⟩) ?_
  intro p e s m args below meth c s₁ X0 hexec hbytes hml hret hlk hnm hown hh0 W hP
  obtain ⟨rfl, hA, hB, hne, l1, l2, hp⟩ := hP
  have c1 : Steps p.tables e below (s₁.setTop (entryFrame m #[.ref b, .int (Int32.ofNat o), .ref d, .int (Int32.ofNat q), .int (Int32.ofNat len)] 7)) (s₁.setTop (mkF m 0 #[.val (.ref b), .val (.int (Int32.ofNat o)), .val (.ref d), .val (.int (Int32.ofNat q)), .val (.int (Int32.ofNat len)), .unset, .unset] [])) := entry rfl
  have hA0 := hA.1.mv X0.warmed.alike hh0
  have hB0 := hB.mv X0.warmed.alike hh0
  have a31 := hA.1.2.2.2
  have c2 : Steps p.tables e below (s₁.setTop (entryFrame m #[.ref b, .int (Int32.ofNat o), .ref d, .int (Int32.ofNat q), .int (Int32.ofNat len)] 7)) (s₁.setTop (mkF m 3 #[.val (.ref b), .val (.int (Int32.ofNat o)), .val (.ref d), .val (.int (Int32.ofNat q)), .val (.int (Int32.ofNat len)), .val (.int 0), .unset] [])) := c1.trans (by
    refine iconstV X0.here hexec rfl 0 (hb hbytes d0) (by decide) ?_
    refine XS.istore X0.here hexec rfl (hb hbytes d1) rfl rfl ?_
    exact Steps.refl _)
  have loop : ∀ (r i : Nat), i + r = len → ∀ (z : Slot), (z = .unset ∨ ∃ w, z = .val w ∧ w.category = 1) → ∀ (Tl : State) (Bk : Cell), Stand p l e { frames := 0, locals := 0, cells := 0, slots := 0 } s m #[.ref b, .int (Int32.ofNat o), .ref d, .int (Int32.ofNat q), .int (Int32.ofNat len)] below meth c Tl ([] ++ copyLocs d q i) 0 0 → Put d Bk s₁ Tl → Laid B Bk q (q + i) (fun j => Value.int (lo8 (cv A (o + (j - q))))) →
      Steps p.tables e below (s₁.setTop (entryFrame m #[.ref b, .int (Int32.ofNat o), .ref d, .int (Int32.ofNat q), .int (Int32.ofNat len)] 7)) (Tl.setTop (mkF m 3 #[.val (.ref b), .val (.int (Int32.ofNat (o + i))), .val (.ref d), .val (.int (Int32.ofNat (q + i))), .val (.int (Int32.ofNat len)), .val (.int (Int32.ofNat i)), z] [])) → ∃ (T' : State) (B' : Cell) (z' : Slot), Stand p l e { frames := 0, locals := 0, cells := 0, slots := 0 } s m #[.ref b, .int (Int32.ofNat o), .ref d, .int (Int32.ofNat q), .int (Int32.ofNat len)] below meth c T' ([] ++ copyLocs d q len) 0 0 ∧ Put d B' s₁ T' ∧ Laid B B' q (q + len) (fun j => Value.int (lo8 (cv A (o + (j - q))))) ∧
      Steps p.tables e below (s₁.setTop (entryFrame m #[.ref b, .int (Int32.ofNat o), .ref d, .int (Int32.ofNat q), .int (Int32.ofNat len)] 7)) (T'.setTop (mkF m 3 #[.val (.ref b), .val (.int (Int32.ofNat (o + len))), .val (.ref d), .val (.int (Int32.ofNat (q + len))), .val (.int (Int32.ofNat len)), .val (.int (Int32.ofNat len)), z'] [])) := by
    intro r
    induction r with
    | zero =>
      intro i hi z hz Tl Bk Xl pl fl cl
      have hil : i = len := by omega
      rw [hil] at Xl fl cl
      exact ⟨Tl, Bk, z, Xl, pl, fl, cl⟩
    | succ r ih =>
      intro i hi z hz Tl Bk Xl pl fl cl
      have all := X0.warmed.alike.symm.trans Xl.warmed.alike
      have hAl := hA0.keep all (pl.other hne hA0.1)
      have hBk := hB0.like all pl.1 fl.1 fl.2.1 fl.2.2.1
      have hlt : q + i < Bk.slots.size := by rw [fl.2.2.1]; omega
      have c3 : Steps p.tables e below (s₁.setTop (entryFrame m #[.ref b, .int (Int32.ofNat o), .ref d, .int (Int32.ofNat q), .int (Int32.ofNat len)] 7)) (Tl.setTop (mkF m 12 #[.val (.ref b), .val (.int (Int32.ofNat (o + i))), .val (.ref d), .val (.int (Int32.ofNat (q + i))), .val (.int (Int32.ofNat len)), .val (.int (Int32.ofNat i)), z] [.int (Int32.ofNat (o + i)), .ref b])) := cl.trans (by
        refine XS.iload Xl.here hexec rfl (hb hbytes d3) rfl ?_
        refine XS.iload Xl.here hexec rfl (hb hbytes d5) rfl ?_
        refine XS.icmpNo Xl.here hexec rfl (hb hbytes d7) rfl (ii_ge_f (lt32 (by omega) (by omega))) ?_
        refine XS.aloadN Xl.here hexec rfl (hb hbytes d10) rfl rfl ?_
        refine XS.iloadN Xl.here hexec rfl (hb hbytes d11) rfl ?_
        exact Steps.refl _)
      have c4 : Steps p.tables e below (s₁.setTop (entryFrame m #[.ref b, .int (Int32.ofNat o), .ref d, .int (Int32.ofNat q), .int (Int32.ofNat len)] 7)) (Tl.setTop (mkF m 13 #[.val (.ref b), .val (.int (Int32.ofNat (o + i))), .val (.ref d), .val (.int (Int32.ofNat (q + i))), .val (.int (Int32.ofNat len)), .val (.int (Int32.ofNat i)), z] [.int (cv A (o + i))])) := c3.trans (by
        refine Xl.aget hexec hAl rfl (hA.get (i := o + i) (by omega)) rfl rfl (hb hbytes d12) ?_
        exact Steps.refl _)
      have c5 : Steps p.tables e below (s₁.setTop (entryFrame m #[.ref b, .int (Int32.ofNat o), .ref d, .int (Int32.ofNat q), .int (Int32.ofNat len)] 7)) (Tl.setTop (mkF m 15 #[.val (.ref b), .val (.int (Int32.ofNat (o + i))), .val (.ref d), .val (.int (Int32.ofNat (q + i))), .val (.int (Int32.ofNat len)), .val (.int (Int32.ofNat i)), .val (.int (cv A (o + i)))] [])) := c4.trans (by
        refine XS.istoreS Xl.here hexec rfl (hb hbytes d13) rfl rfl hz ?_
        exact Steps.refl _)
      have c6 : Steps p.tables e below (s₁.setTop (entryFrame m #[.ref b, .int (Int32.ofNat o), .ref d, .int (Int32.ofNat q), .int (Int32.ofNat len)] 7)) (Tl.setTop (mkF m 31 #[.val (.ref b), .val (.int (Int32.ofNat (o + i))), .val (.ref d), .val (.int (Int32.ofNat (q + i))), .val (.int (Int32.ofNat len)), .val (.int (Int32.ofNat i)), .val (.int (cv A (o + i)))] [.int (lo8 (cv A (o + i))), .int (Int32.ofNat (q + i)), .ref d])) := c5.trans (by
        refine XS.iload Xl.here hexec rfl (hb hbytes d15) rfl ?_
        refine sipushV Xl.here hexec rfl 255 (hb hbytes d17) (by decide) ?_
        refine XS.icmpYes Xl.here hexec rfl (pc0 := 20) rfl (hb hbytes d20) rfl (ii_le_t (hp i (by omega))) (by decide) rfl ?_
        refine XS.aloadN Xl.here hexec rfl (hb hbytes d26) rfl rfl ?_
        refine XS.iloadN Xl.here hexec rfl (hb hbytes d27) rfl ?_
        refine XS.iload Xl.here hexec rfl (hb hbytes d28) rfl ?_
        refine i2b Xl.here hexec rfl (hb hbytes d30) rfl ?_
        exact Steps.refl _)
      obtain ⟨T7, X7, p7, st7⟩ := Xl.aput hexec hBk rfl hlt rfl (fits_lo8 (cv A (o + i))) (g := (mkF m 31 #[.val (.ref b), .val (.int (Int32.ofNat (o + i))), .val (.ref d), .val (.int (Int32.ofNat (q + i))), .val (.int (Int32.ofNat len)), .val (.int (Int32.ofNat i)), .val (.int (cv A (o + i)))] [.int (lo8 (cv A (o + i))), .int (Int32.ofNat (q + i)), .ref d])) rfl (rest := []) rfl (hb hbytes d31)
      have c8 : Steps p.tables e below (s₁.setTop (entryFrame m #[.ref b, .int (Int32.ofNat o), .ref d, .int (Int32.ofNat q), .int (Int32.ofNat len)] 7)) (T7.setTop (mkF m 32 #[.val (.ref b), .val (.int (Int32.ofNat (o + i))), .val (.ref d), .val (.int (Int32.ofNat (q + i))), .val (.int (Int32.ofNat len)), .val (.int (Int32.ofNat i)), .val (.int (cv A (o + i)))] [])) := c6.trans (st7 _ (Steps.refl _))
      have c9 : Steps p.tables e below (s₁.setTop (entryFrame m #[.ref b, .int (Int32.ofNat o), .ref d, .int (Int32.ofNat q), .int (Int32.ofNat len)] 7)) (T7.setTop (mkF m 3 #[.val (.ref b), .val (.int (Int32.ofNat (o + i) + 1)), .val (.ref d), .val (.int (Int32.ofNat (q + i) + 1)), .val (.int (Int32.ofNat len)), .val (.int (Int32.ofNat i + 1)), .val (.int (cv A (o + i)))] [])) := c8.trans (by
        refine iincV X7.here hexec rfl 1 (hb hbytes d32) (by decide) rfl rfl ?_
        refine iincV X7.here hexec rfl 1 (hb hbytes d35) (by decide) rfl rfl ?_
        refine iincV X7.here hexec rfl 1 (hb hbytes d38) (by decide) rfl rfl ?_
        refine XS.goto X7.here hexec rfl (pc0 := 41) rfl (hb hbytes d41) (by decide) rfl ?_
        exact Steps.refl _)
      have c10 : Steps p.tables e below (s₁.setTop (entryFrame m #[.ref b, .int (Int32.ofNat o), .ref d, .int (Int32.ofNat q), .int (Int32.ofNat len)] 7)) (T7.setTop (mkF m 3 #[.val (.ref b), .val (.int (Int32.ofNat (o + (i + 1)))), .val (.ref d), .val (.int (Int32.ofNat (q + (i + 1)))), .val (.int (Int32.ofNat len)), .val (.int (Int32.ofNat (i + 1))), .val (.int (cv A (o + i)))] [])) := by
        have := c9
        rw [succ32, succ32, succ32] at this
        exact this
      exact ih (i + 1) (by omega) _ (Or.inr ⟨_, rfl, rfl⟩) T7 _ (by rw [copyLocs_step, ← List.append_assoc]; exact X7) (pl.trans p7) (fl.step (by omega) hlt (by simp)) c10
  obtain ⟨T9, B9, z9, X9, p9, f9, g9⟩ := loop len 0 (by omega) .unset (Or.inl rfl) s₁ B (by simpa [copyLocs] using X0) ⟨hB0.1, fun _ _ => rfl, rfl⟩ (Laid.zero _ _ _) c2
  have c11 : Steps p.tables e below (s₁.setTop (entryFrame m #[.ref b, .int (Int32.ofNat o), .ref d, .int (Int32.ofNat q), .int (Int32.ofNat len)] 7)) (T9.setTop (mkF m 46 #[.val (.ref b), .val (.int (Int32.ofNat (o + len))), .val (.ref d), .val (.int (Int32.ofNat (q + len))), .val (.int (Int32.ofNat len)), .val (.int (Int32.ofNat len)), z9] [.int (Int32.ofNat len)])) := g9.trans (by
    refine XS.iload X9.here hexec rfl (hb hbytes d3) rfl ?_
    refine XS.iload X9.here hexec rfl (hb hbytes d5) rfl ?_
    refine XS.icmpYes X9.here hexec rfl (pc0 := 7) rfl (hb hbytes d7) rfl (ii_ge_t (nlt32 (by omega) (Nat.le_refl _))) (by decide) rfl ?_
    refine XS.iload X9.here hexec rfl (hb hbytes d44) rfl ?_
    exact Steps.refl _)
  exact ⟨T9, some (.int (Int32.ofNat len)), _, _, _, X9, by simp, rfl, rfl, (fun h => by cases h), ⟨rfl, B9, p9.from hh0, f9⟩, fun fs hl => c11.trans (X9.ireturnOut hexec hret rfl (Or.inl rfl) (hb hbytes d46) hl)⟩
end Cmp5
namespace Cmp3
def yN : MethodName := ⟨"java/lang/StringUTF16", "compress", "([CII)[B"⟩
abbrev yB : ByteArray := jdk_52_method_16_code
theorem d0 : decode yB 0 = .ok (.iload_n 2, 1) := by decide +kernel
theorem d1 : decode yB 1 = .ok (.newarray .byte, 2) := by decide +kernel
theorem d3 : decode yB 3 = .ok (.astore_n 3, 1) := by decide +kernel
theorem d4 : decode yB 4 = .ok (.aload_n 0, 1) := by decide +kernel
theorem d5 : decode yB 5 = .ok (.iload_n 1, 1) := by decide +kernel
theorem d6 : decode yB 6 = .ok (.aload_n 3, 1) := by decide +kernel
theorem d7 : decode yB 7 = .ok (.iconst 0, 1) := by decide +kernel
theorem d8 : decode yB 8 = .ok (.iload_n 2, 1) := by decide +kernel
theorem d9 : decode yB 9 = .ok (.invokestatic 115, 3) := by decide +kernel
theorem d12 : decode yB 12 = .ok (.istore 4, 2) := by decide +kernel
theorem d14 : decode yB 14 = .ok (.iload 4, 2) := by decide +kernel
theorem d16 : decode yB 16 = .ok (.iload_n 2, 1) := by decide +kernel
theorem d17 : decode yB 17 = .ok (.if_icmp (.eq) 40, 3) := by decide +kernel
theorem d57 : decode yB 57 = .ok (.aload_n 3, 1) := by decide +kernel
theorem d58 : decode yB 58 = .ok (.areturn, 1) := by decide +kernel
def site : List Cond := [.arrayClass .byte, Cmp5.tab] ++ staticW U16 115 Cmp5.yN
def tab : Cond := tabOf yN yB 6 (some (.array .byte)) site
def P (b : Addr) (A : Cell) (o len : Nat) (args : Array Value) (s : State) : Prop := args = #[.ref b, .int (Int32.ofNat o), .int (Int32.ofNat len)] ∧ Ch b A s ∧ o + len ≤ A.slots.size ∧ len ≤ 536870912 ∧ ∀ i, i < len → ¬ 255 < cv A (o + i)
def E (b : Addr) (A : Cell) (o len : Nat) (r : Option Value) (s u : State) : Prop := NewArr .byte "[B" len (fun j => .int (lo8 (cv A (o + j)))) r s u ∧ u.heap.size = s.heap.size + 1
/-- no char of the range above 255: a new byte[] of their low bytes -/
theorem law (l : Launch) (b : Addr) (A : Cell) (o len : Nat) : Law l yN 3 3 1 18 yB 6 (some (.array .byte)) site (P b A o len) (E b A o len) [] 1 len := by
  refine Law.of_walk (plainFor_of_name (by decide +kernel)) (by decide +kernel) (by decide +kernel) (by decide) (fun _ _ h => by rw [h.1]; rfl) (fun _ U U' hal hh h => ⟨h.1, h.2.1.mv hal hh, h.2.2⟩) (fun r U U' V V' h1 hal h2 h => ⟨NewArr.mv r U U' V V' h1 hal h2 h.1, by rw [h1, h2]; exact h.2⟩) ?_
  intro p e s m args below meth c s₁ X0 hexec hbytes hml hret hlk hnm hown hh0 W hP
  obtain ⟨rfl, hA, l1, l2, hp⟩ := hP
  have a31 := hA.1.2.2.2
  have c1 : Steps p.tables e below (s₁.setTop (entryFrame m #[.ref b, .int (Int32.ofNat o), .int (Int32.ofNat len)] 6)) (s₁.setTop (mkF m 0 #[.val (.ref b), .val (.int (Int32.ofNat o)), .val (.int (Int32.ofNat len)), .unset, .unset, .unset] [])) := entry rfl
  have c2 : Steps p.tables e below (s₁.setTop (entryFrame m #[.ref b, .int (Int32.ofNat o), .int (Int32.ofNat len)] 6)) (s₁.setTop (mkF m 1 #[.val (.ref b), .val (.int (Int32.ofNat o)), .val (.int (Int32.ofNat len)), .unset, .unset, .unset] [.int (Int32.ofNat len)])) := c1.trans (by
    refine XS.iloadN X0.here hexec rfl (hb hbytes d0) rfl ?_
    exact Steps.refl _)
  obtain ⟨T3, B3, X3, ba3, bs3, bv3, bh3, bf3, st3⟩ := X0.anew hexec (atype := .byte) (wk W (.arrayClass .byte)) rfl (by show len * 1 ≤ _; omega) (by omega) (g := (mkF m 1 #[.val (.ref b), .val (.int (Int32.ofNat o)), .val (.int (Int32.ofNat len)), .unset, .unset, .unset] [.int (Int32.ofNat len)])) rfl (hb hbytes d1) (rest := []) rfl (Nat.le_refl _) (by show 0 + len ≤ len; omega)
  rw [hh0] at ba3 st3
  have kp3 : XT.Kept s T3 := (XT.Kept.of_eq hh0).push bh3
  have hA3 := hA.keep X3.warmed.alike (kp3 _ _ hA.1.1)
  have hne : b ≠ s.heap.size := hA.1.ne
  have c4 : Steps p.tables e below (s₁.setTop (entryFrame m #[.ref b, .int (Int32.ofNat o), .int (Int32.ofNat len)] 6)) (T3.setTop (mkF m 3 #[.val (.ref b), .val (.int (Int32.ofNat o)), .val (.int (Int32.ofNat len)), .unset, .unset, .unset] [.ref s.heap.size])) := c2.trans (st3 _ (Steps.refl _))
  have c5 : Steps p.tables e below (s₁.setTop (entryFrame m #[.ref b, .int (Int32.ofNat o), .int (Int32.ofNat len)] 6)) (T3.setTop (mkF m 9 #[.val (.ref b), .val (.int (Int32.ofNat o)), .val (.int (Int32.ofNat len)), .val (.ref s.heap.size), .unset, .unset] [.int (Int32.ofNat len), .int 0, .ref s.heap.size, .int (Int32.ofNat o), .ref b])) := c4.trans (by
    refine XS.astoreN X3.here hexec rfl (hb hbytes d3) rfl rfl rfl ?_
    refine XS.aloadN X3.here hexec rfl (hb hbytes d4) rfl rfl ?_
    refine XS.iloadN X3.here hexec rfl (hb hbytes d5) rfl ?_
    refine XS.aloadN X3.here hexec rfl (hb hbytes d6) rfl rfl ?_
    refine iconstV X3.here hexec rfl 0 (hb hbytes d7) (by decide) ?_
    refine XS.iloadN X3.here hexec rfl (hb hbytes d8) rfl ?_
    exact Steps.refl _)
  obtain ⟨v6, T6, X6, E6, g6⟩ := X3.callS hexec (Cmp5.law l b A s.heap.size B3 o 0 len) hown (wks W (staticW U16 115 Cmp5.yN)) (wk W Cmp5.tab) (W := 0) (Nat.le_of_ble_eq_true rfl) (Nat.le_of_ble_eq_true rfl) (Nat.le_refl _) (by show 0 + len + 0 ≤ len; omega) (g := (mkF m 9 #[.val (.ref b), .val (.int (Int32.ofNat o)), .val (.int (Int32.ofNat len)), .val (.ref s.heap.size), .unset, .unset] [.int (Int32.ofNat len), .int (Int32.ofNat 0), .ref s.heap.size, .int (Int32.ofNat o), .ref b])) rfl (by rw [hml]; rfl) c5 (argsL := [.ref b, .int (Int32.ofNat o), .ref s.heap.size, .int (Int32.ofNat 0), .int (Int32.ofNat len)]) (rest := []) rfl rfl (by show 2 * 0 + 0 ≤ _; decide) (hb hbytes d9) (⟨rfl, hA3, ba3, hne, l1, by rw [bs3]; simp, hp⟩)
  obtain ⟨rfl, B6, p6, f6⟩ := E6
  have c7 : Steps p.tables e below (s₁.setTop (entryFrame m #[.ref b, .int (Int32.ofNat o), .int (Int32.ofNat len)] 6)) (T6.setTop (mkF m 12 #[.val (.ref b), .val (.int (Int32.ofNat o)), .val (.int (Int32.ofNat len)), .val (.ref s.heap.size), .unset, .unset] [.int (Int32.ofNat len)])) := g6
  have c8 : Steps p.tables e below (s₁.setTop (entryFrame m #[.ref b, .int (Int32.ofNat o), .int (Int32.ofNat len)] 6)) (T6.setTop (mkF m 58 #[.val (.ref b), .val (.int (Int32.ofNat o)), .val (.int (Int32.ofNat len)), .val (.ref s.heap.size), .val (.int (Int32.ofNat len)), .unset] [.ref s.heap.size])) := c7.trans (by
    refine XS.istore X6.here hexec rfl (hb hbytes d12) rfl rfl ?_
    refine XS.iload X6.here hexec rfl (hb hbytes d14) rfl ?_
    refine XS.iloadN X6.here hexec rfl (hb hbytes d16) rfl ?_
    refine XS.icmpYes X6.here hexec rfl (pc0 := 17) rfl (hb hbytes d17) rfl (ii_eq_t rfl) (by decide) rfl ?_
    refine XS.aloadN X6.here hexec rfl (hb hbytes d57) rfl rfl ?_
    exact Steps.refl _)
  have X8 := X6.wide (L' := []) (cells' := 1) (slots' := len) (fun x hx hlt => by
    simp only [List.nil_append, copyLocs, List.mem_map, List.mem_range] at hx
    obtain ⟨i, -, rfl⟩ := hx
    exact absurd hlt (Nat.lt_irrefl _)) (Nat.le_refl _) (by omega)
  exact ⟨T6, some (.ref s.heap.size), _, _, _, X8, rfl, rfl, rfl, (fun h => by cases h), ⟨⟨rfl, B6, ba3.like (X3.warmed.alike.symm.trans X6.warmed.alike) p6.1 f6.1 f6.2.1 f6.2.2.1, f6.2.1.trans bv3, by rw [X6.warmed.alike.findClass, f6.1]; exact bf3, by rw [f6.2.2.1, bs3]; simp, fun j hj => by rw [f6.2.2.2 j, if_pos (by omega)]; rfl, kp3.put p6 (Nat.le_refl _)⟩, by rw [p6.2.2, bh3, hh0]; simp⟩, fun fs hl => c8.trans (X8.areturnOut hexec rfl hret rfl (hb hbytes d58) hl)⟩
end Cmp3
namespace CodL
def yN : MethodName := ⟨"java/lang/StringUTF16", "coderFromArrayLen", "([BI)B"⟩
abbrev yB : ByteArray := jdk_52_method_15_code
theorem d0 : decode yB 0 = .ok (.iload_n 1, 1) := by decide +kernel
theorem d1 : decode yB 1 = .ok (.aload_n 0, 1) := by decide +kernel
theorem d2 : decode yB 2 = .ok (.arraylength, 1) := by decide +kernel
theorem d3 : decode yB 3 = .ok (.isub, 1) := by decide +kernel
theorem d4 : decode yB 4 = .ok (.bipush 31, 2) := by decide +kernel
theorem d6 : decode yB 6 = .ok (.iushr, 1) := by decide +kernel
theorem d7 : decode yB 7 = .ok (.i2b, 1) := by decide +kernel
theorem d8 : decode yB 8 = .ok (.ireturn, 1) := by decide +kernel
def site : List Cond := []
def tab : Cond := tabOf yN yB 2 (some .byte) site
def P (d : Addr) (B : Cell) (args : Array Value) (s : State) : Prop := args = #[.ref d, .int (Int32.ofNat B.slots.size)] ∧ Arr .byte d B s
def E (r : Option Value) (s u : State) : Prop := XT.PureE (some (.int 0)) r s u
/-- an array as long as the number of chars: LATIN1 -/
theorem law (l : Launch) (d : Addr) (B : Cell) : Law l yN 2 2 0 0 yB 2 (some .byte) site (P d B) E [] 0 0 := by
  refine Law.of_walk (plainFor_of_name (by decide +kernel)) (by decide +kernel) (by decide +kernel) (by decide) (fun _ _ h => by rw [h.1]; rfl) (fun _ U U' hal hh h => ⟨h.1, h.2.mv hal hh⟩) (fun r U U' V V' h1 hal h2 h => XT.PureE.mv r U U' V V' h1 hal h2 h) ?_
  intro p e s m args below meth c s₁ X0 hexec hbytes hml hret hlk hnm hown hh0 W hP
  obtain ⟨rfl, hB⟩ := hP
  have hB0 := hB.mv X0.warmed.alike hh0
  have c1 : Steps p.tables e below (s₁.setTop (entryFrame m #[.ref d, .int (Int32.ofNat B.slots.size)] 2)) (s₁.setTop (mkF m 0 #[.val (.ref d), .val (.int (Int32.ofNat B.slots.size))] [])) := entry rfl
  have c2 : Steps p.tables e below (s₁.setTop (entryFrame m #[.ref d, .int (Int32.ofNat B.slots.size)] 2)) (s₁.setTop (mkF m 2 #[.val (.ref d), .val (.int (Int32.ofNat B.slots.size))] [.ref d, .int (Int32.ofNat B.slots.size)])) := c1.trans (by
    refine XS.iloadN X0.here hexec rfl (hb hbytes d0) rfl ?_
    refine XS.aloadN X0.here hexec rfl (hb hbytes d1) rfl rfl ?_
    exact Steps.refl _)
  have c3 : Steps p.tables e below (s₁.setTop (entryFrame m #[.ref d, .int (Int32.ofNat B.slots.size)] 2)) (s₁.setTop (mkF m 8 #[.val (.ref d), .val (.int (Int32.ofNat B.slots.size))] [.int (lo8 (ushr (Int32.ofNat B.slots.size - Int32.ofNat B.slots.size) 31))])) := c2.trans (by
    refine X0.alen hexec hB0 rfl rfl (hb hbytes d2) ?_
    refine XS.isub X0.here hexec rfl (hb hbytes d3) rfl ?_
    refine bipushV X0.here hexec rfl 31 (hb hbytes d4) (by decide) ?_
    refine iushr X0.here hexec rfl (hb hbytes d6) rfl ?_
    refine i2b X0.here hexec rfl (hb hbytes d7) rfl ?_
    exact Steps.refl _)
  have e0 : lo8 (ushr (Int32.ofNat B.slots.size - Int32.ofNat B.slots.size) 31) = 0 := by rw [Int32.sub_self]; decide
  rw [e0] at c3
  exact ⟨s₁, some (.int 0), _, _, _, X0, rfl, rfl, rfl, (fun h => by cases h), ⟨rfl, hh0⟩, fun fs hl => c3.trans (X0.ireturnOut hexec hret rfl (Or.inr (Or.inr (Or.inl rfl))) (hb hbytes d8) hl)⟩
end CodL
/-- the String at a is Latin-1 over a new byte[] (the heap's one new cell): the low bytes of the len chars of A from o on; every cell but a is kept -/
def Got (a : Addr) (D : Cell) (fV fC : Field) (A : Cell) (o len : Nat) (r : Option Value) (s u : State) : Prop := r = none ∧ ∃ D' V : Cell, Blank "java/lang/String" a D' u ∧ Same D D' [fV.slot, fC.slot] ∧ D'.slots[fV.slot]? = some (.ref s.heap.size) ∧ D'.slots[fC.slot]? = some (.int 0) ∧ Arr .byte s.heap.size V u ∧ V.vm = .none ∧ u.vm.findClass "[B" = some V.cls ∧ V.slots.size = len ∧ (∀ j, j < len → V.slots[j]? = some (.int (lo8 (cv A (o + j))))) ∧ (∀ (y : Addr) (c : Cell), y ≠ a → s.heap[y]? = some c → u.heap[y]? = some c) ∧ u.heap.size = s.heap.size + 1
theorem Got.mv {a : Addr} {D A : Cell} {fV fC : Field} {o len : Nat} : ∀ r (U U' V V' : State), U'.heap = U.heap → V.vm.Alike V'.vm → V'.heap = V.heap → Got a D fV fC A o len r U V → Got a D fV fC A o len r U' V' :=
  fun r U U' V V' h1 hal h2 ⟨e0, D', X, a1, a2, a3, a4, a5, a6, a7, a8, a9, a10, a11⟩ => ⟨e0, D', X, a1.mv hal h2, a2, by rw [h1]; exact a3, a4, by rw [h1]; exact a5.mv hal h2, a6, by rw [hal.findClass]; exact a7, a8, a9, by rw [h1, h2]; exact a10, by rw [h1, h2]; exact a11⟩
namespace New4
def yN : MethodName := ⟨"java/lang/String", "<init>", "([CIILjava/lang/Void;)V"⟩
abbrev yB : ByteArray := jdk_42_method_149_code
theorem d0 : decode yB 0 = .ok (.aload_n 0, 1) := by decide +kernel
theorem d1 : decode yB 1 = .ok (.invokespecial 1, 3) := by decide +kernel
theorem d4 : decode yB 4 = .ok (.iload_n 3, 1) := by decide +kernel
theorem d5 : decode yB 5 = .ok (.ifCond (.ne) 22, 3) := by decide +kernel
theorem d27 : decode yB 27 = .ok (.getstatic 38, 3) := by decide +kernel
theorem d30 : decode yB 30 = .ok (.ifCond (.eq) 28, 3) := by decide +kernel
theorem d33 : decode yB 33 = .ok (.aload_n 1, 1) := by decide +kernel
theorem d34 : decode yB 34 = .ok (.iload_n 2, 1) := by decide +kernel
theorem d35 : decode yB 35 = .ok (.iload_n 3, 1) := by decide +kernel
theorem d36 : decode yB 36 = .ok (.invokestatic 177, 3) := by decide +kernel
theorem d39 : decode yB 39 = .ok (.astore 5, 2) := by decide +kernel
theorem d41 : decode yB 41 = .ok (.aload_n 0, 1) := by decide +kernel
theorem d42 : decode yB 42 = .ok (.aload 5, 2) := by decide +kernel
theorem d44 : decode yB 44 = .ok (.iload_n 3, 1) := by decide +kernel
theorem d45 : decode yB 45 = .ok (.invokestatic 47, 3) := by decide +kernel
theorem d48 : decode yB 48 = .ok (.putfield 15, 3) := by decide +kernel
theorem d51 : decode yB 51 = .ok (.aload_n 0, 1) := by decide +kernel
theorem d52 : decode yB 52 = .ok (.aload 5, 2) := by decide +kernel
theorem d54 : decode yB 54 = .ok (.putfield 9, 3) := by decide +kernel
theorem d57 : decode yB 57 = .ok (.return_, 1) := by decide +kernel
def site : List Cond := [.fieldLink "java/lang/String" 38 "java/lang/String" "COMPACT_STRINGS" "Z", Cmp3.tab, CodL.tab, .laysFinal "java/lang/String" "java/lang/String" "value" "[B", .fieldLink "java/lang/String" 9 "java/lang/String" "value" "[B", .laysFinal "java/lang/String" "java/lang/String" "coder" "B", .fieldLink "java/lang/String" 15 "java/lang/String" "coder" "B"] ++ objW "java/lang/String" 1 ++ staticW "java/lang/String" 177 Cmp3.yN ++ staticW "java/lang/String" 47 CodL.yN
def tab : Cond := tabOf yN yB 6 none site
def P (a : Addr) (D : Cell) (fV fC : Field) (b : Addr) (A : Cell) (z : Int32) (o len : Nat) (args : Array Value) (s : State) : Prop := args = #[.ref a, .ref b, .int (Int32.ofNat o), .int (Int32.ofNat len), .null] ∧ Blank "java/lang/String" a D s ∧ Found "java/lang/String" "value" "[B" fV s ∧ Found "java/lang/String" "coder" "B" fC s ∧ Ch b A s ∧ StaticIs s "java/lang/String" "COMPACT_STRINGS" "Z" (.int z) ∧ ¬ z = 0 ∧ 0 < len ∧ o + len ≤ A.slots.size ∧ len ≤ 536870912 ∧ ∀ i, i < len → ¬ 255 < cv A (o + i)
def E (a : Addr) (D : Cell) (fV fC : Field) (A : Cell) (o len : Nat) (r : Option Value) (s u : State) : Prop := Got a D fV fC A o len r s u
/-- len > 0, no char of the range above 255: a Latin-1 String of their low bytes -/
theorem law (l : Launch) (a : Addr) (D : Cell) (fV fC : Field) (b : Addr) (A : Cell) (z : Int32) (o len : Nat) : Law l yN 5 4 2 35 yB 6 none site (P a D fV fC b A z o len) (E a D fV fC A o len) [⟨a, fC.slot⟩, ⟨a, fV.slot⟩] 1 len := by
  refine Law.of_walk (plainFor_of_name (by decide +kernel)) (by decide +kernel) (by decide +kernel) (by decide) (fun _ _ h => by rw [h.1]; rfl) (fun _ U U' hal hh h => ⟨h.1, h.2.1.mv hal hh, h.2.2.1.al hal, h.2.2.2.1.al hal, h.2.2.2.2.1.mv hal hh, h.2.2.2.2.2.1.there hal hh, h.2.2.2.2.2.2⟩) (fun r U U' V V' h1 hal h2 h => Got.mv r U U' V V' h1 hal h2 h) ?_
  intro p e s m args below meth c s₁ X0 hexec hbytes hml hret hlk hnm hown hh0 W hP
  obtain ⟨rfl, hB, f1, f2, hA, s1, hz, l0, l1, l2, hp⟩ := hP
  have a31 := hA.1.2.2.2
  have c1 : Steps p.tables e below (s₁.setTop (entryFrame m #[.ref a, .ref b, .int (Int32.ofNat o), .int (Int32.ofNat len), .null] 6)) (s₁.setTop (mkF m 0 #[.val (.ref a), .val (.ref b), .val (.int (Int32.ofNat o)), .val (.int (Int32.ofNat len)), .val .null, .unset] [])) := entry rfl
  have c2 : Steps p.tables e below (s₁.setTop (entryFrame m #[.ref a, .ref b, .int (Int32.ofNat o), .int (Int32.ofNat len), .null] 6)) (s₁.setTop (mkF m 1 #[.val (.ref a), .val (.ref b), .val (.int (Int32.ofNat o)), .val (.int (Int32.ofNat len)), .val .null, .unset] [.ref a])) := c1.trans (by
    refine XS.aloadN X0.here hexec rfl (hb hbytes d0) rfl rfl ?_
    exact Steps.refl _)
  obtain ⟨T3, X3, q3, st3⟩ := X0.oinit hexec hown (wks W (objW "java/lang/String" 1)) (g := (mkF m 1 #[.val (.ref a), .val (.ref b), .val (.int (Int32.ofNat o)), .val (.int (Int32.ofNat len)), .val .null, .unset] [.ref a])) rfl (by rw [hml]; rfl) (rest := []) rfl (hb hbytes d1) (W := 0) (by show 2 * 0 + 0 ≤ _; decide) (Nat.le_of_ble_eq_true rfl) (Nat.le_of_ble_eq_true rfl)
  have hh3 := q3.trans hh0
  have c4 : Steps p.tables e below (s₁.setTop (entryFrame m #[.ref a, .ref b, .int (Int32.ofNat o), .int (Int32.ofNat len), .null] 6)) (T3.setTop (mkF m 27 #[.val (.ref a), .val (.ref b), .val (.int (Int32.ofNat o)), .val (.int (Int32.ofNat len)), .val .null, .unset] [])) := (c2.trans (st3 _ (Steps.refl _))).trans (by
    refine XS.iloadN X3.here hexec rfl (hb hbytes d4) rfl ?_
    refine XS.ifYes X3.here hexec rfl (pc0 := 5) rfl (hb hbytes d5) rfl (i0_ne_t (nz32 (by omega) l0)) (by decide) rfl ?_
    exact Steps.refl _)
  obtain ⟨T5, X5, q5, st5⟩ := X3.sget hexec hown (wk W (.fieldLink "java/lang/String" 38 "java/lang/String" "COMPACT_STRINGS" "Z")) s1 (fun _ _ h => by rw [hh3]; exact h) (g := (mkF m 27 #[.val (.ref a), .val (.ref b), .val (.int (Int32.ofNat o)), .val (.int (Int32.ofNat len)), .val .null, .unset] [])) rfl (hb hbytes d27)
  have hh5 := q5.trans hh3
  have c6 : Steps p.tables e below (s₁.setTop (entryFrame m #[.ref a, .ref b, .int (Int32.ofNat o), .int (Int32.ofNat len), .null] 6)) (T5.setTop (mkF m 30 #[.val (.ref a), .val (.ref b), .val (.int (Int32.ofNat o)), .val (.int (Int32.ofNat len)), .val .null, .unset] [.int z])) := c4.trans (st5 _ (Steps.refl _))
  have c7 : Steps p.tables e below (s₁.setTop (entryFrame m #[.ref a, .ref b, .int (Int32.ofNat o), .int (Int32.ofNat len), .null] 6)) (T5.setTop (mkF m 36 #[.val (.ref a), .val (.ref b), .val (.int (Int32.ofNat o)), .val (.int (Int32.ofNat len)), .val .null, .unset] [.int (Int32.ofNat len), .int (Int32.ofNat o), .ref b])) := c6.trans (by
    refine XS.ifNo X5.here hexec rfl (hb hbytes d30) rfl (i0_eq_f hz) ?_
    refine XS.aloadN X5.here hexec rfl (hb hbytes d33) rfl rfl ?_
    refine XS.iloadN X5.here hexec rfl (hb hbytes d34) rfl ?_
    refine XS.iloadN X5.here hexec rfl (hb hbytes d35) rfl ?_
    exact Steps.refl _)
  obtain ⟨v8, T8, X8, E8, g8⟩ := X5.callS hexec (Cmp3.law l b A o len) hown (wks W (staticW "java/lang/String" 177 Cmp3.yN)) (wk W Cmp3.tab) (W := 0) (Nat.le_of_ble_eq_true rfl) (Nat.le_of_ble_eq_true rfl) (Nat.le_refl _) (by show 0 + len ≤ len; omega) (g := (mkF m 36 #[.val (.ref a), .val (.ref b), .val (.int (Int32.ofNat o)), .val (.int (Int32.ofNat len)), .val .null, .unset] [.int (Int32.ofNat len), .int (Int32.ofNat o), .ref b])) rfl (by rw [hml]; rfl) c7 (argsL := [.ref b, .int (Int32.ofNat o), .int (Int32.ofNat len)]) (rest := []) rfl rfl (by show 2 * 0 + 0 ≤ _; decide) (hb hbytes d36) (⟨rfl, hA.mv X5.warmed.alike hh5, l1, l2, hp⟩)
  obtain ⟨e8, z8⟩ := E8
  obtain ⟨rfl, N, n1, n2, n3, n4, n5, n6⟩ := NewArr.mv _ T5 s _ _ hh5.symm (Vm.Alike.refl _) rfl e8
  rw [hh5] at z8
  have hB1 := hB.keep X8.warmed.alike (n6 _ _ hB.1)
  have hne : s.heap.size ≠ a := (Nat.ne_of_lt (Array.getElem?_eq_some_iff.mp hB.1).1).symm
  have c9 : Steps p.tables e below (s₁.setTop (entryFrame m #[.ref a, .ref b, .int (Int32.ofNat o), .int (Int32.ofNat len), .null] 6)) (T8.setTop (mkF m 39 #[.val (.ref a), .val (.ref b), .val (.int (Int32.ofNat o)), .val (.int (Int32.ofNat len)), .val .null, .unset] [.ref s.heap.size])) := g8
  have c10 : Steps p.tables e below (s₁.setTop (entryFrame m #[.ref a, .ref b, .int (Int32.ofNat o), .int (Int32.ofNat len), .null] 6)) (T8.setTop (mkF m 45 #[.val (.ref a), .val (.ref b), .val (.int (Int32.ofNat o)), .val (.int (Int32.ofNat len)), .val .null, .val (.ref s.heap.size)] [.int (Int32.ofNat N.slots.size), .ref s.heap.size, .ref a])) := by
    have hc : Steps p.tables e below (s₁.setTop (entryFrame m #[.ref a, .ref b, .int (Int32.ofNat o), .int (Int32.ofNat len), .null] 6)) (T8.setTop (mkF m 45 #[.val (.ref a), .val (.ref b), .val (.int (Int32.ofNat o)), .val (.int (Int32.ofNat len)), .val .null, .val (.ref s.heap.size)] [.int (Int32.ofNat len), .ref s.heap.size, .ref a])) := c9.trans (by
      refine XS.astore X8.here hexec rfl (hb hbytes d39) rfl rfl rfl ?_
      refine XS.aloadN X8.here hexec rfl (hb hbytes d41) rfl rfl ?_
      refine XS.aload X8.here hexec rfl (hb hbytes d42) rfl rfl ?_
      refine XS.iloadN X8.here hexec rfl (hb hbytes d44) rfl ?_
      exact Steps.refl _)
    rw [n4]; exact hc
  obtain ⟨v11, T11, X11, E11, g11⟩ := X8.callS hexec (CodL.law l s.heap.size N) hown (wks W (staticW "java/lang/String" 47 CodL.yN)) (wk W CodL.tab) (W := 1) (Nat.le_of_ble_eq_true rfl) (Nat.le_of_ble_eq_true rfl) (Nat.le_refl _) (by show 0 + len + 0 ≤ len; omega) (g := (mkF m 45 #[.val (.ref a), .val (.ref b), .val (.int (Int32.ofNat o)), .val (.int (Int32.ofNat len)), .val .null, .val (.ref s.heap.size)] [.int (Int32.ofNat N.slots.size), .ref s.heap.size, .ref a])) rfl (by rw [hml]; rfl) c10 (argsL := [.ref s.heap.size, .int (Int32.ofNat N.slots.size)]) (rest := [.ref a]) rfl rfl (by show 2 * 0 + (1 + 0) ≤ _; decide) (hb hbytes d45) (⟨rfl, n1⟩)
  obtain ⟨rfl, q11⟩ := E11
  have hB11 := hB1.mv (X8.warmed.alike.symm.trans X11.warmed.alike) q11
  have c12 : Steps p.tables e below (s₁.setTop (entryFrame m #[.ref a, .ref b, .int (Int32.ofNat o), .int (Int32.ofNat len), .null] 6)) (T11.setTop (mkF m 48 #[.val (.ref a), .val (.ref b), .val (.int (Int32.ofNat o)), .val (.int (Int32.ofNat len)), .val .null, .val (.ref s.heap.size)] [.int 0, .ref a])) := g11
  obtain ⟨T13, X13, p13, bl13, sl13, st13⟩ := X11.finit hexec hown (wk W (.fieldLink "java/lang/String" 15 "java/lang/String" "coder" "B")) (Or.inr ⟨_, (wk W (.laysFinal "java/lang/String" "java/lang/String" "coder" "B"))⟩) (Or.inl ⟨rfl, hnm⟩) f2 (Or.inl rfl) hB11 (t := .byte) (by decide +kernel) rfl (g := (mkF m 48 #[.val (.ref a), .val (.ref b), .val (.int (Int32.ofNat o)), .val (.int (Int32.ofNat len)), .val .null, .val (.ref s.heap.size)] [.int 0, .ref a])) rfl (rest := []) rfl (hb hbytes d48)
  have c14 : Steps p.tables e below (s₁.setTop (entryFrame m #[.ref a, .ref b, .int (Int32.ofNat o), .int (Int32.ofNat len), .null] 6)) (T13.setTop (mkF m 54 #[.val (.ref a), .val (.ref b), .val (.int (Int32.ofNat o)), .val (.int (Int32.ofNat len)), .val .null, .val (.ref s.heap.size)] [.ref s.heap.size, .ref a])) := (c12.trans (st13 _ (Steps.refl _))).trans (by
    refine XS.aloadN X13.here hexec rfl (hb hbytes d51) rfl rfl ?_
    refine XS.aload X13.here hexec rfl (hb hbytes d52) rfl rfl ?_
    exact Steps.refl _)
  obtain ⟨T15, X15, p15, bl15, sl15, st15⟩ := X13.finit hexec hown (wk W (.fieldLink "java/lang/String" 9 "java/lang/String" "value" "[B")) (Or.inr ⟨_, (wk W (.laysFinal "java/lang/String" "java/lang/String" "value" "[B"))⟩) (Or.inl ⟨rfl, hnm⟩) f1 (Or.inl rfl) bl13 (t := (.array .byte)) (by decide +kernel) rfl (g := (mkF m 54 #[.val (.ref a), .val (.ref b), .val (.int (Int32.ofNat o)), .val (.int (Int32.ofNat len)), .val .null, .val (.ref s.heap.size)] [.ref s.heap.size, .ref a])) rfl (rest := []) rfl (hb hbytes d54)
  have c16 : Steps p.tables e below (s₁.setTop (entryFrame m #[.ref a, .ref b, .int (Int32.ofNat o), .int (Int32.ofNat len), .null] 6)) (T15.setTop (mkF m 57 #[.val (.ref a), .val (.ref b), .val (.int (Int32.ofNat o)), .val (.int (Int32.ofNat len)), .val .null, .val (.ref s.heap.size)] [])) := c14.trans (st15 _ (Steps.refl _))
  have ap := apart (Or.inr ⟨_, (wk W (.laysFinal "java/lang/String" "java/lang/String" "value" "[B"))⟩) (Or.inr ⟨_, (wk W (.laysFinal "java/lang/String" "java/lang/String" "coder" "B"))⟩) f1 f2 (t₁ := .array .byte) (t₂ := .byte) (by decide +kernel) (by decide +kernel) (by decide)
  have al := X8.warmed.alike.symm.trans X15.warmed.alike
  have n7 : T11.heap[s.heap.size]? = some N := by rw [q11]; exact n1.1
  exact ⟨T15, none, _, _, _, X15, by simp, rfl, by omega, (fun _ => rfl), ⟨rfl, _, N, bl15, ((Same.refl D _).set _ (by simp)).set _ (by simp), sl15, (Cell.slots_setSlot_ne _ ap).trans sl13, n1.keep al (p15.other hne (p13.other hne n7)), n2, by rw [al.findClass]; exact n3, n4, n5, fun y c h1 h2 => p15.other h1 (p13.other h1 (by rw [q11]; exact n6 y c h2)), by rw [p15.2.2, p13.2.2, q11]; exact z8⟩, fun fs hl => c16.trans (X15.returnOut hexec hret (hb hbytes d57) hl)⟩
end New4
namespace New1
def yN : MethodName := ⟨"java/lang/String", "<init>", "([C)V"⟩
abbrev yB : ByteArray := jdk_42_method_3_code
theorem d0 : decode yB 0 = .ok (.aload_n 0, 1) := by decide +kernel
theorem d1 : decode yB 1 = .ok (.aload_n 1, 1) := by decide +kernel
theorem d2 : decode yB 2 = .ok (.iconst 0, 1) := by decide +kernel
theorem d3 : decode yB 3 = .ok (.aload_n 1, 1) := by decide +kernel
theorem d4 : decode yB 4 = .ok (.arraylength, 1) := by decide +kernel
theorem d5 : decode yB 5 = .ok (.aconst_null, 1) := by decide +kernel
theorem d6 : decode yB 6 = .ok (.invokespecial 27, 3) := by decide +kernel
theorem d9 : decode yB 9 = .ok (.return_, 1) := by decide +kernel
def site : List Cond := [New4.tab] ++ initW "java/lang/String" 27 New4.yN
def tab : Cond := tabOf yN yB 2 none site
def P (a : Addr) (D : Cell) (fV fC : Field) (b : Addr) (A : Cell) (z : Int32) (args : Array Value) (s : State) : Prop := args = #[.ref a, .ref b] ∧ Blank "java/lang/String" a D s ∧ Found "java/lang/String" "value" "[B" fV s ∧ Found "java/lang/String" "coder" "B" fC s ∧ Ch b A s ∧ StaticIs s "java/lang/String" "COMPACT_STRINGS" "Z" (.int z) ∧ ¬ z = 0 ∧ 0 < A.slots.size ∧ A.slots.size ≤ 536870912 ∧ ∀ i, i < A.slots.size → ¬ 255 < cv A i
def E (a : Addr) (D : Cell) (fV fC : Field) (A : Cell) (r : Option Value) (s u : State) : Prop := Got a D fV fC A 0 A.slots.size r s u
/-- new String(chars), not empty, no char above 255: a Latin-1 String of their low bytes -/
theorem law (l : Launch) (a : Addr) (D : Cell) (fV fC : Field) (b : Addr) (A : Cell) (z : Int32) : Law l yN 2 1 3 52 yB 2 none site (P a D fV fC b A z) (E a D fV fC A) [⟨a, fC.slot⟩, ⟨a, fV.slot⟩] 1 A.slots.size := by
  refine Law.of_walk (plainFor_of_name (by decide +kernel)) (by decide +kernel) (by decide +kernel) (by decide) (fun _ _ h => by rw [h.1]; rfl) (fun _ U U' hal hh h => ⟨h.1, h.2.1.mv hal hh, h.2.2.1.al hal, h.2.2.2.1.al hal, h.2.2.2.2.1.mv hal hh, h.2.2.2.2.2.1.there hal hh, h.2.2.2.2.2.2⟩) (fun r U U' V V' h1 hal h2 h => Got.mv r U U' V V' h1 hal h2 h) ?_
  intro p e s m args below meth c s₁ X0 hexec hbytes hml hret hlk hnm hown hh0 W hP
  obtain ⟨rfl, hB, f1, f2, hA, s1, hz, l0, l2, hp⟩ := hP
  have c1 : Steps p.tables e below (s₁.setTop (entryFrame m #[.ref a, .ref b] 2)) (s₁.setTop (mkF m 0 #[.val (.ref a), .val (.ref b)] [])) := entry rfl
  have c2 : Steps p.tables e below (s₁.setTop (entryFrame m #[.ref a, .ref b] 2)) (s₁.setTop (mkF m 6 #[.val (.ref a), .val (.ref b)] [.null, .int (Int32.ofNat A.slots.size), .int 0, .ref b, .ref a])) := c1.trans (by
    refine XS.aloadN X0.here hexec rfl (hb hbytes d0) rfl rfl ?_
    refine XS.aloadN X0.here hexec rfl (hb hbytes d1) rfl rfl ?_
    refine iconstV X0.here hexec rfl 0 (hb hbytes d2) (by decide) ?_
    refine XS.aloadN X0.here hexec rfl (hb hbytes d3) rfl rfl ?_
    refine X0.alen hexec (hA.1.mv X0.warmed.alike hh0) rfl rfl (hb hbytes d4) ?_
    refine XS.aconstNull X0.here hexec rfl (hb hbytes d5) ?_
    exact Steps.refl _)
  obtain ⟨v3, T3, X3, E3, g3⟩ := X0.callN hexec (New4.law l a D fV fC b A z 0 A.slots.size) rfl hown (wks W (initW "java/lang/String" 27 New4.yN)) (W New4.tab (by simp only [site, List.mem_cons, List.mem_append, true_or, or_true])) (W := 0) (Nat.le_of_ble_eq_true rfl) (Nat.le_of_ble_eq_true rfl) (Nat.le_refl _) (by show 0 + A.slots.size ≤ A.slots.size; omega) (g := (mkF m 6 #[.val (.ref a), .val (.ref b)] [.null, .int (Int32.ofNat A.slots.size), .int (Int32.ofNat 0), .ref b, .ref a])) rfl (by rw [hml]; rfl) c2 (argsL := [.ref b, .int (Int32.ofNat 0), .int (Int32.ofNat A.slots.size), .null]) (rest := []) rfl rfl (by show 2 * 0 + 0 ≤ _; decide) (hb hbytes d6) (⟨rfl, hB.mv X0.warmed.alike hh0, f1.al X0.warmed.alike, f2.al X0.warmed.alike, hA.mv X0.warmed.alike hh0, s1.there X0.warmed.alike hh0, hz, l0, by omega, l2, fun i hi => by rw [Nat.zero_add]; exact hp i hi⟩)
  have e0 := Got.mv _ s₁ s _ _ hh0.symm (Vm.Alike.refl _) rfl E3
  obtain rfl := e0.1
  have c4 : Steps p.tables e below (s₁.setTop (entryFrame m #[.ref a, .ref b] 2)) (T3.setTop (mkF m 9 #[.val (.ref a), .val (.ref b)] [])) := g3
  exact ⟨T3, none, _, _, _, X3, by simp, rfl, by omega, (fun _ => rfl), e0, fun fs hl => c4.trans (X3.returnOut hexec hret (hb hbytes d9) hl)⟩
theorem pays {l : Launch} {R : Room} {p : Program} {e : Env} {below : List Frame} {s : State} {sargs : Array Value} {len W : Nat} (a : Addr) (D : Cell) (fV fC : Field) (b : Addr) (A : Cell) (z : Int32) (htab : tab.before sargs s = true) (hfr : 4 ≤ R.frames) (hlo : W + 65 ≤ R.locals) :
    Back l R p e below s sargs yN len W (fun A₁ a₁ => A₁.cells + 1 ≤ R.cells ∧ A₁.slots + A.slots.size ≤ R.slots ∧ P a D fV fC b A z a₁ A₁.U) (fun A₁ _ v₁ B₁ => E a D fV fC A v₁ A₁.U B₁.U ∧ B₁.locs = A₁.locs ++ [⟨a, fC.slot⟩, ⟨a, fV.slot⟩] ∧ B₁.cells = A₁.cells + 1 ∧ B₁.slots = A₁.slots + A.slots.size) :=
  (law l a D fV fC b A z).pays htab hfr (by omega)
end New1
end StrChars
namespace StrChars.Road
open Jvm Sem ClassFile Op Lib Jvm.Stand Jvm.Free Jvm.Free.XT
open Jvm.Lib.Cold (StaticIs)
abbrev ST : String := "java/lang/String"
/-- every table word that New1's law asks, flat -/
abbrev words : List Jvm.Cond := [.code New1.yN New1.yB 2 none, .initialized ST, .methodLink ST 27 New4.yN, .instanceMethod New4.yN,
  .code New4.yN New4.yB 6 none, .fieldLink ST 38 ST "COMPACT_STRINGS" "Z", .laysFinal ST ST "value" "[B", .fieldLink ST 9 ST "value" "[B", .laysFinal ST ST "coder" "B", .fieldLink ST 15 ST "coder" "B",
  .methodLink ST 1 Lib.objectInit, .instanceMethod Lib.objectInit, .code Lib.objectInit ⟨#[0xb1]⟩ 1 none, .methodLink ST 177 Cmp3.yN, .static Cmp3.yN, .methodLink ST 47 CodL.yN, .static CodL.yN,
  .code Cmp3.yN Cmp3.yB 6 (some (.array .byte)), .initialized U16, .arrayClass .byte, .methodLink U16 115 Cmp5.yN, .static Cmp5.yN, .code Cmp5.yN Cmp5.yB 7 (some .int), .code CodL.yN CodL.yB 2 (some .byte)]
theorem tab_of {a : Array Value} {s : State} (h : ∀ w ∈ words, w.before a s = true) : New1.tab.before a s = true := by
  have h5 : Cmp5.tab.before a s = true := unparts (wk h (.code Cmp5.yN Cmp5.yB 7 (some .int))) (wks h (.initialized Cmp5.yN.cls :: Cmp5.site))
  have hc : CodL.tab.before a s = true := unparts (wk h (.code CodL.yN CodL.yB 2 (some .byte))) (wks h (.initialized CodL.yN.cls :: CodL.site))
  have q5 : ∀ w ∈ Cmp5.tab :: words, w.before a s = true := fun w hw => (List.mem_cons.mp hw).elim (fun e => e ▸ h5) (h w)
  have h3 : Cmp3.tab.before a s = true := unparts (wk q5 (.code Cmp3.yN Cmp3.yB 6 (some (.array .byte)))) (wks q5 (.initialized Cmp3.yN.cls :: Cmp3.site))
  have q3 : ∀ w ∈ Cmp3.tab :: CodL.tab :: words, w.before a s = true := fun w hw => (List.mem_cons.mp hw).elim (fun e => e ▸ h3) fun hw => (List.mem_cons.mp hw).elim (fun e => e ▸ hc) (h w)
  have h4 : New4.tab.before a s = true := unparts (wk q3 (.code New4.yN New4.yB 6 none)) (wks q3 (.initialized New4.yN.cls :: New4.site))
  have q4 : ∀ w ∈ New4.tab :: words, w.before a s = true := fun w hw => (List.mem_cons.mp hw).elim (fun e => e ▸ h4) (h w)
  exact unparts (wk q4 (.code New1.yN New1.yB 2 none)) (wks q4 (.initialized New1.yN.cls :: New1.site))
/-- the words ride from the start Z to the walk's own state -/
theorem moved {Z s : State} {a0 args : Array Value} (hZ : Z.Warmed39 s.vm) (hw : ∀ d ∈ words, d.before a0 Z = true) : ∀ d ∈ words, d.before args s = true := fun d hd => by
  have q := hw d hd
  have t : ∀ d ∈ words, d = .arrayClass .byte ∨ (d.onTables && d.keepsFace) = true := by decide +kernel
  rcases t d hd with rfl | t
  · exact RoadKit.mvA hZ q
  · exact RoadKit.mv hZ q t
/-- WHAT COMES BACK, over the tables of the start Z: h the heap at the call, h' behind it -/
def Q (Z : State) (x : Addr) (A : Cell) (h : Heap) (v : Option Value) (h' : Heap) (L : List Loc) : Prop := v = none ∧ (∀ y ∈ L, y.base = x) ∧ RoadKit.Keep h h' [x] ∧ h'.size = h.size + 1 ∧ RoadKit.Exa Z h' x ST ∧ RoadKit.Fld Z h' x ST "value" "[B" (.ref h.size) ∧ RoadKit.Fld Z h' x ST "coder" "B" (.int 0) ∧
  (∃ V : Cell, RoadKit.Arr Z h' h.size V .byte ∧ V.vm = .none ∧ Z.vm.findClass "[B" = some V.cls ∧ V.slots.size = A.slots.size ∧ ∀ j, j < A.slots.size → V.slots[j]? = some (.int (lo8 (cv A j)))) ∧
  ∀ (O n d : String) (w : Value), RoadKit.Fld Z h x O n d w → RoadKit.slotOf Z O n d ≠ RoadKit.slotOf Z ST "value" "[B" → RoadKit.slotOf Z O n d ≠ RoadKit.slotOf Z ST "coder" "B" → RoadKit.Fld Z h' x O n d w
/-- **new String(chars) AT A CALL, IN THE ROAD'S FORM**: for specialBack behind newO: x the fresh String, b the char[] with the cell A -/
theorem back {p : Program} {l : Launch} {e : Env} {R : Room} {s : State} {args : Array Value} {below : List Frame} {len W : Nat} {Z : State} {a0 : Array Value} {h : Heap} (hZ : Z.Warmed39 s.vm) (hw : ∀ d ∈ words, d.before a0 Z = true) {kI : Nat} (wi : (Jvm.Cond.instantiable ST kI).before a0 Z = true)
    {x b : Addr} {A : Cell} {z : Int32} {v0 c0 : Value} (E : RoadKit.Exa Z h x ST) (V : RoadKit.Fld Z h x ST "value" "[B" v0) (C : RoadKit.Fld Z h x ST "coder" "B" c0) (K : RoadKit.Arr Z h b A .char) (hty : Typed .char A) (S : RoadKit.Sta Z h ST "COMPACT_STRINGS" "Z" (.int z)) (hz : ¬ z = 0)
    (l0 : 0 < A.slots.size) (l2 : A.slots.size ≤ 536870912) (hp : ∀ i, i < A.slots.size → ¬ 255 < cv A i) (hfr : 4 ≤ R.frames) (hlo : W + 65 ≤ R.locals) :
    Back l R p e below s args New1.yN len W (fun P a => a = #[.ref x, .ref b] ∧ P.U.heap = h ∧ P.cells + 1 ≤ R.cells ∧ P.slots + A.slots.size ≤ R.slots)
      (fun P _ v B => ∃ L, Q Z x A h v B.U.heap L ∧ B.locs = P.locs ++ L ∧ B.cells = P.cells + 1 ∧ B.slots = P.slots + A.slots.size) := by
  intro m meth c P g ig mk a X hg hsize hdg hW hn hp'
  obtain ⟨rfl, rfl, r1, r2⟩ := hp'
  have al : Z.vm.Alike P.U.vm := hZ.alike.trans X.warmed.alike
  obtain ⟨D, cfV, kV, iV, fV, hD, gV, stV, knV, obV, asV, slV⟩ := id V
  obtain ⟨D', cfC, kC, iC, fC, hD', gC, stC, -, -, asC, slC⟩ := id C
  cases hD.symm.trans hD'
  obtain ⟨D2, kD, e1, e2, e3, e4, e5⟩ := id E
  cases hD.symm.trans e1
  obtain ⟨c2, k2, i1, i2, i3, -⟩ := Cond.instantiable_spec wi
  cases e2.symm.trans i1
  cases e3.symm.trans i2
  obtain ⟨kU, u1, u2⟩ := al.2.2 _ _ e3
  have hB : Blank ST x D P.U := ⟨hD, ⟨knV, fun q hq => by rw [hq] at obV; cases obV⟩, by rw [al.findClass]; exact e2, kU, u1, by rw [u2]; exact i3, by rw [u2]; exact e5 i3⟩
  have F1 : Found ST "value" "[B" fV P.U := ⟨SBG.found_only al ⟨cfV, kV, iV, gV⟩, stV⟩
  have F2 : Found ST "coder" "B" fC P.U := ⟨SBG.found_only al ⟨cfC, kC, iC, gC⟩, stC⟩
  have hA : Ch b A P.U := ⟨⟨K.1, State.isArrayOf_alike al K.2.1, K.2.2, by omega⟩, hty⟩
  have hS : StaticIs P.U ST "COMPACT_STRINGS" "Z" (.int z) := by
    obtain ⟨cfS, iS, kS, fS, st, cS, t1, t2, t3, t4, t5, t6, t7⟩ := S
    exact StaticIs.there (s := { Z with heap := P.U.heap }) ⟨cfS, iS, kS, fS, st, cS, t1, t2, t3, t4, t5, (fun q => by rw [q] at t6; cases t6), t7⟩ al rfl
  obtain ⟨v, B, X', ⟨⟨hv, E', V', q1, q2, q3, q4, q5, q6, q7, q8, q9, q10, q11⟩, hl, hc, hs⟩, st⟩ := New1.pays x D fV fC b A z (tab_of (moved hZ hw)) hfr hlo m meth c P g ig mk _ X hg hsize hdg hW hn ⟨r1, r2, rfl, hB, F1, F2, hA, hS, hz, l0, l2, hp⟩
  have al' : Z.vm.Alike B.U.vm := hZ.alike.trans X'.warmed.alike
  have hsz : E'.slots.size = D.slots.size := by
    obtain ⟨-, -, -, kB, w1, w2, w3⟩ := q1
    obtain ⟨kB', y1, y2⟩ := al'.2.2 _ _ e3
    rw [q2.2.1] at w1
    cases w1.symm.trans y1
    rw [w3, e5 i3, y2]
  refine ⟨v, B, X', ⟨_, ⟨hv, ?_, ⟨by omega, fun y cy hy hn' => q10 y cy (by simpa using hn') hy, fun y cy hy => ?_⟩, q11, ⟨E', _, q1.1, by rw [q2.2.1]; exact e2, by rw [q2.2.1]; exact e3, by rw [q2.1]; exact obV, fun _ => by rw [hsz]; exact e5 i3⟩,
    ⟨E', cfV, kV, iV, fV, q1.1, gV, stV, by rw [q2.1]; exact knV, by rw [q2.1]; exact obV, by rw [q2.2.1]; exact asV, q3⟩, ⟨E', cfC, kC, iC, fC, q1.1, gC, stC, by rw [q2.1]; exact knV, by rw [q2.1]; exact obV, by rw [q2.2.1]; exact asC, q4⟩,
    ⟨V', ⟨q5.1, State.isArrayOf_alike al'.symm q5.2.1, q5.2.2.1⟩, q6, by rw [← al'.findClass]; exact q7, q8, fun j hj => by have := q9 j hj; rwa [Nat.zero_add] at this⟩, fun O n d w F n1 n2 => ?_⟩, hl, hc, hs⟩, st⟩
  · intro y hy
    simp only [List.mem_cons, List.not_mem_nil, or_false] at hy
    rcases hy with rfl | rfl <;> rfl
  · by_cases q : y = x
    · subst q
      cases hD.symm.trans hy
      exact ⟨E', q1.1, q2.2.1, q2.1, hsz⟩
    · exact ⟨cy, q10 y cy q hy, rfl, rfl, rfl⟩
  · obtain ⟨D3, cf, k, i, f, g1, g2, g3, g4, g5, g6, g7⟩ := F
    cases hD.symm.trans g1
    simp only [RoadKit.slotOf, g2, gV, gC, Option.map_some, Option.getD_some] at n1 n2
    exact ⟨E', cf, k, i, f, q1.1, g2, g3, by rw [q2.1]; exact g4, by rw [q2.1]; exact g5, by rw [q2.2.1]; exact g6, by rw [q2.2.2 f.slot (by simp [n1, n2])]; exact g7⟩
end StrChars.Road
namespace StrChars.Road
open Jvm Sem ClassFile Op Lib Jvm.Stand Jvm.Free Jvm.Free.XT
/-- WHAT COMES BACK, the byte[] as a list of values -/
def QA (Z : State) (x : Addr) (zn : Int32) (cs : List Int32) (h : Heap) (v : Option Value) (h' : Heap) (L : List Loc) : Prop := v = none ∧ (∀ y ∈ L, y.base = x) ∧ RoadKit.Keep h h' [x] ∧ h'.size = h.size + 1 ∧ RoadKit.Exa Z h' x ST ∧ RoadKit.Fld Z h' x ST "value" "[B" (.ref h.size) ∧ RoadKit.Fld Z h' x ST "coder" "B" (.int 0) ∧
  (∃ kb, Z.vm.findClass "[B" = some kb ∧ RoadKit.Arv Z h' h.size kb .byte zn (cs.map fun c => .int (lo8 c)) (.int 0)) ∧
  ∀ (O n d : String) (w : Value), RoadKit.Fld Z h x O n d w → RoadKit.slotOf Z O n d ≠ RoadKit.slotOf Z ST "value" "[B" → RoadKit.slotOf Z O n d ≠ RoadKit.slotOf Z ST "coder" "B" → RoadKit.Fld Z h' x O n d w
/-- **new String(chars) AT A CALL, THE ARRAYS AS LISTS**: the char[] at b holds cs, not empty, no char above 255 -/
theorem backArv {p : Program} {l : Launch} {e : Env} {R : Room} {s : State} {args : Array Value} {below : List Frame} {len W : Nat} {Z : State} {a0 : Array Value} {h : Heap} (hZ : Z.Warmed39 s.vm) (hw : ∀ d ∈ words, d.before a0 Z = true) {kI : Nat} (wi : (Jvm.Cond.instantiable ST kI).before a0 Z = true)
    {x b : Addr} {k : ClassId} {zn z : Int32} {cs : List Int32} {dv v0 c0 : Value} (E : RoadKit.Exa Z h x ST) (V : RoadKit.Fld Z h x ST "value" "[B" v0) (C : RoadKit.Fld Z h x ST "coder" "B" c0) (K : RoadKit.Arv Z h b k .char zn (cs.map Value.int) dv) (S : RoadKit.Sta Z h ST "COMPACT_STRINGS" "Z" (.int z)) (hz : ¬ z = 0)
    (hlen : zn.toNatClampNeg = cs.length) (h0 : 0 < cs.length) (hbig : cs.length ≤ 536870912) (hall : ∀ c ∈ cs, ¬ 255 < c) (hfr : 4 ≤ R.frames) (hlo : W + 65 ≤ R.locals) :
    Back l R p e below s args New1.yN len W (fun P a => a = #[.ref x, .ref b] ∧ P.U.heap = h ∧ P.cells + 1 ≤ R.cells ∧ P.slots + cs.length ≤ R.slots)
      (fun P _ v B => ∃ L, QA Z x zn cs h v B.U.heap L ∧ B.locs = P.locs ++ L ∧ B.cells = P.cells + 1 ∧ B.slots = P.slots + cs.length) := by
  obtain ⟨A, K1, K2, K3, K4, K5, K6⟩ := K
  have e : A.slots.size = cs.length := K3.trans hlen
  have hat : ∀ (i : Nat) (hi : i < cs.length), A.slots[i]? = some (.int cs[i]) := fun i hi => by rw [K5 i (by omega)]; simp [List.getD_eq_getElem?_getD, hi]
  have hcv : ∀ (i : Nat) (hi : i < cs.length), cv A i = cs[i] := fun i hi => by unfold cv; rw [hat i hi]
  have hty : Typed .char A := fun i v hv => by
    have hi : i < A.slots.size := (Array.getElem?_eq_some_iff.mp hv).1
    have q := K5 i hi
    rw [hv] at q
    rw [Option.some.inj q]
    exact K6 i hi
  refine Back.mono (back hZ hw wi E V C K1 hty S hz (by omega) (by omega) (fun i hi => by rw [hcv i (by omega)]; exact hall _ (List.getElem_mem _)) hfr hlo) (fun P a hp => ⟨hp.1, hp.2.1, hp.2.2.1, by rw [e]; exact hp.2.2.2⟩) (fun P a v B hp hq => ?_)
  obtain ⟨L, ⟨q1, q2, q3, q4, q5, q6, q7, ⟨V', v1, v2, v3, v4, v5⟩, q9⟩, hl, hc, hs⟩ := hq
  refine ⟨L, ⟨q1, q2, q3, q4, q5, q6, q7, ⟨V'.cls, v3, V', v1, rfl, by rw [v4, e, hlen], K4, fun i hi => ?_, fun i hi => ?_⟩, q9⟩, hl, hc, by rw [hs, e]⟩
  · have hi' : i < cs.length := by omega
    rw [v5 i (by omega), hcv i hi']; simp [List.getD_eq_getElem?_getD, hi']
  · have hi' : i < cs.length := by omega
    simp only [List.getD_eq_getElem?_getD, List.getElem?_map, List.getElem?_eq_getElem hi', Option.map_some, Option.getD_some]
    exact fits_lo8 _
end StrChars.Road
namespace StrChars.Road
open Jvm Sem ClassFile Op Lib Jvm.Stand Jvm.Free Jvm.Free.XT
/-- WHAT COMES BACK, in the writer's own shape -/
def QV (Z : State) (x : Addr) (N : Int32) (bs : List Int32) (h : Heap) (n0 : Nat) (v : Option Value) (h' : Heap) (L : List Loc) : Prop := v = none ∧ RoadKit.Fr n0 L ∧ RoadKit.Keep h h' [x] ∧ RoadKit.Exa Z h' x ST ∧ RoadKit.Fld Z h' x ST "coder" "B" (.int 0) ∧
  ∃ (t : Addr) (kb : ClassId), n0 ≤ t ∧ h.size ≤ t ∧ ¬ t = x ∧ RoadKit.Fld Z h' x ST "value" "[B" (.ref t) ∧ RoadKit.Arv Z h' t kb .byte N (bs.map Value.int) (.int 0)
/-- **new String(chars) AT A CALL, FOR THE WRITER**: a char[] of n known ints, each 0 to 255 -/
theorem backV {p : Program} {l : Launch} {e : Env} {R : Room} {s : State} {args : Array Value} {below : List Frame} {len W : Nat} {Z : State} {a0 : Array Value} {h : Heap} (hZ : Z.Warmed39 s.vm) (hw : ∀ d ∈ words, d.before a0 Z = true) {kI : Nat} (wi : (Jvm.Cond.instantiable ST kI).before a0 Z = true)
    {x b : Addr} {kC : ClassId} {cs bs : List Int32} {d v0 c0 : Value} {z N : Int32} {n n0 : Nat} (hx0 : n0 ≤ x) (hh0 : n0 ≤ h.size) (E : RoadKit.Exa Z h x ST) (V : RoadKit.Fld Z h x ST "value" "[B" v0) (C : RoadKit.Fld Z h x ST "coder" "B" c0) (K : RoadKit.Arv Z h b kC .char N (cs.map Value.int) d) (S : RoadKit.Sta Z h ST "COMPACT_STRINGS" "Z" (.int z)) (hz : ¬ z = 0)
    (hn : cs.length = n) (hN : N = Int32.ofNat n) (l0 : 0 < n) (l2 : n ≤ 4000) (hp : ∀ c ∈ cs, ¬ c < 0 ∧ ¬ (255 : Int32) < c) (hb : bs = cs.map (fun c => c.toInt8.toInt32)) (hfr : 4 ≤ R.frames) (hlo : W + 65 ≤ R.locals) :
    Back l R p e below s args (⟨"java/lang/String", "<init>", "([C)V"⟩ : MethodName) len W (fun P a => a = #[.ref x, .ref b] ∧ P.U.heap = h ∧ P.cells + 1 ≤ R.cells ∧ P.slots + n ≤ R.slots)
      (fun P _ v B => ∃ L, QV Z x N bs h n0 v B.U.heap L ∧ B.locs = P.locs ++ L ∧ B.cells = P.cells + 1 ∧ B.slots = P.slots + n) := by
  subst hn hN hb
  refine Back.mono (backArv hZ hw wi E V C K S hz (n32 (by omega)) l0 (by omega) (fun c hc => (hp c hc).2) hfr hlo) (fun P a hp => hp) (fun P a v B hp hq => ?_)
  obtain ⟨L, ⟨q1, q2, q3, q4, q5, q6, q7, ⟨kb, v1, v2⟩, q9⟩, hl, hc, hs⟩ := hq
  exact ⟨L, ⟨q1, fun y hy => by rw [q2 y hy]; exact hx0, q3, q5, q7, h.size, kb, hh0, Nat.le_refl _, Nat.ne_of_gt E.lt, q6, by rw [List.map_map]; exact v2⟩, hl, hc, hs⟩
end StrChars.Road
end Jvm.Pilot.@@N@@
namespace Jvm.Pilot.@@N@@
open Jvm Jvm.ClassFile Sem Op Lib Jvm.Free Jvm.Stand Jvm.LawKit Jvm.RoadKit Bundle Jvm.Pilot.@@N@@.Jvm.D
/-- two slots that hold nothing, or one double or long -/
def own_Two (s t : Slot) : Prop := (s = .unset ∧ t = .unset) ∨ (∃ d, s = .val (.double d) ∧ t = .second) ∨ ∃ d, s = .val (.long d) ∧ t = .second
theorem own_pad {p : Program} {l : Launch} {e : Env} {R : Room} {s : State} {m : MethodId} {args : Array Value} {below : List Frame} {meth : Method} {c : Code} {T : State} {locs : List Loc} {k n k' n' : Nat} (X : Stand p l e R s m args below meth c T locs k n) (hk : k ≤ k') (hn : n ≤ n') : Stand p l e R s m args below meth c T locs k' n' := { X with same := X.same.mono hk hn }
/-- the walk from S on comes to an end of which Q is true -/
def own_End (p : Program) (e : Env) (below : List Frame) (Q : Outcome → State → Prop) (S : State) : Prop := ∃ s₂ o, Steps p.tables e below S s₂ ∧ s₂.status = .running ∧ Ended s₂ below o ∧ Q o s₂
theorem own_go {p : Program} {e : Env} {below : List Frame} {Q : Outcome → State → Prop} {S S' : State} (h : ∀ t, Steps p.tables e below S' t → Steps p.tables e below S t) (k : own_End p e below Q S') : own_End p e below Q S := by
  obtain ⟨s₂, o, h1, h2⟩ := k
  exact ⟨s₂, o, h s₂ h1, h2⟩
/-- an array of z places, of which the j-th holds f j -/
def own_Ar (Z : State) (h : Heap) (a : Addr) (ty : FieldType) (z : Int32) (f : Nat → Value) : Prop := ∃ cl : Cell, Arr Z h a cl ty ∧ cl.slots.size = z.toNatClampNeg ∧ ¬ z < 0 ∧ ∀ j, j < z.toNatClampNeg → cl.slots[j]? = some (f j)
section OwnAr
variable {Z : State} {h h' : Heap} {a b : Addr} {ty : FieldType} {z : Int32} {f g : Nat → Value} {ws : List Addr} {sl : Nat} {v : Value}
theorem own_Ar.lt (F : own_Ar Z h a ty z f) : a < h.size := by obtain ⟨c, A, -⟩ := F; exact A.lt
theorem own_Ar.ext (F : own_Ar Z h a ty z f) (E : Ext h h') : own_Ar Z h' a ty z f := by obtain ⟨c, A, r⟩ := F; exact ⟨c, A.ext E, r⟩
theorem own_Ar.other (F : own_Ar Z h b ty z f) (W : Wr h h' a sl v) (q : b ≠ a) : own_Ar Z h' b ty z f := by obtain ⟨c, A, r⟩ := F; exact ⟨c, A.other W q, r⟩
theorem own_Ar.keep (F : own_Ar Z h a ty z f) (K : Keep h h' ws) (q : a ∉ ws) : own_Ar Z h' a ty z f := by obtain ⟨c, A, r⟩ := F; exact ⟨c, ⟨K.2.1 a c A.1 q, A.2⟩, r⟩
theorem own_Ar.turn (F : own_Ar Z h a ty z f) (q : ∀ j, j < z.toNatClampNeg → f j = g j) : own_Ar Z h a ty z g := by obtain ⟨c, A, r1, r2, r3⟩ := F; exact ⟨c, A, r1, r2, fun j hj => by rw [r3 j hj, q j hj]⟩
theorem own_Ar.new {k : ClassId} (A : Arr Z h a (newA k ty z) ty) (q : ¬ z < 0) : own_Ar Z h a ty z (fun _ => defaultValue ty) := ⟨_, A, sz_new _ _ _, q, fun j hj => by simp [newA, hj]⟩
theorem own_Ar_set {c : Cell} (A : Arr Z h a c ty) (S : c.slots.size = z.toNatClampNeg) (M : ¬ z < 0) (H : ∀ j, j < z.toNatClampNeg → c.slots[j]? = some (f j)) (W : Wr h h' a sl v) : own_Ar Z h' a ty z (fun j => if j = sl then v else f j) := by
  refine ⟨_, A.same W, (sz_set _ _ _).trans S, M, fun j hj => ?_⟩
  show (c.setSlot sl v).slots[j]? = some (if j = sl then v else f j)
  by_cases e : j = sl
  · subst e; simp [Cell.setSlot, S, hj]
  · have e' : ¬ sl = j := fun q => e q.symm
    simp [Cell.setSlot, e, e', Array.getElem?_setIfInBounds, H j hj]
theorem own_in {c : Cell} {z j : Int32} (S : c.slots.size = z.toNatClampNeg) (q : ¬ (j < 0 ∨ c.slots.size ≤ j.toNatClampNeg)) : j.toNatClampNeg < z.toNatClampNeg := by
  rw [← S]; exact Nat.lt_of_not_le fun y => q (Or.inr y)
/-- the same of an array of references, whose class is known -/
def own_Rr (Z : State) (h : Heap) (a : Addr) (C : String) (z : Int32) (f : Nat → Value) : Prop := ∃ cl : Cell, Arr Z h a cl (.object C) ∧ cl.slots.size = z.toNatClampNeg ∧ ¬ z < 0 ∧ (∀ j, j < z.toNatClampNeg → cl.slots[j]? = some (f j)) ∧ Ovr Z cl.cls C
variable {C : String}
theorem own_Rr.lt (F : own_Rr Z h a C z f) : a < h.size := by obtain ⟨c, A, -⟩ := F; exact A.lt
theorem own_Rr.ext (F : own_Rr Z h a C z f) (E : Ext h h') : own_Rr Z h' a C z f := by obtain ⟨c, A, r⟩ := F; exact ⟨c, A.ext E, r⟩
theorem own_Rr.other (F : own_Rr Z h b C z f) (W : Wr h h' a sl v) (q : b ≠ a) : own_Rr Z h' b C z f := by obtain ⟨c, A, r⟩ := F; exact ⟨c, A.other W q, r⟩
theorem own_Rr.keep (F : own_Rr Z h a C z f) (K : Keep h h' ws) (q : a ∉ ws) : own_Rr Z h' a C z f := by obtain ⟨c, A, r⟩ := F; exact ⟨c, ⟨K.2.1 a c A.1 q, A.2⟩, r⟩
theorem own_Rr.turn (F : own_Rr Z h a C z f) (q : ∀ j, j < z.toNatClampNeg → f j = g j) : own_Rr Z h a C z g := by obtain ⟨c, A, r1, r2, r3, r4⟩ := F; exact ⟨c, A, r1, r2, fun j hj => by rw [r3 j hj, q j hj], r4⟩
theorem own_Rr.new {k : ClassId} (A : Arr Z h a (newA k (.object C) z) (.object C)) (O : Ovr Z k C) (q : ¬ z < 0) : own_Rr Z h a C z (fun _ => .null) := ⟨_, A, sz_new _ _ _, q, fun j hj => by simp [newA, hj, defaultValue], O⟩
theorem own_Rr_set {c : Cell} (A : Arr Z h a c (.object C)) (S : c.slots.size = z.toNatClampNeg) (M : ¬ z < 0) (H : ∀ j, j < z.toNatClampNeg → c.slots[j]? = some (f j)) (O : Ovr Z c.cls C) (W : Wr h h' a sl v) : own_Rr Z h' a C z (fun j => if j = sl then v else f j) := by
  refine ⟨_, A.same W, (sz_set _ _ _).trans S, M, fun j hj => ?_, O⟩
  show (c.setSlot sl v).slots[j]? = some (if j = sl then v else f j)
  by_cases e : j = sl
  · subst e; simp [Cell.setSlot, S, hj]
  · have e' : ¬ sl = j := fun q => e q.symm
    simp [Cell.setSlot, e, e', Array.getElem?_setIfInBounds, H j hj]
end OwnAr
theorem own_small {n : Nat} (h : n < 2147483648) : n.toInt32.toInt = n := Int32.toInt_ofNat_small h
theorem own_clamp {i : Int32} {n : Nat} (h : i.toInt = n) : i.toNatClampNeg = n := by rw [← Int32.toNat_toInt, h]; rfl
theorem own_num {i : Int32} {n : Nat} (h : i.toInt = n) : n.toInt32 = i := by
  rw [← Int32.toInt_inj, own_small (by have := (rng32 i).2; omega), h]
theorem own_lt_of {i z : Int32} {n N : Nat} (h : i.toInt = n) (hz : z.toInt = N) : i < z ↔ n < N := by rw [Int32.lt_iff_toInt_lt, h, hz]; omega
theorem own_eq_of {i z : Int32} {n N : Nat} (h : i.toInt = n) (hz : z.toInt = N) : i = z ↔ n = N := by rw [← Int32.toInt_inj, h, hz]; omega
theorem own_nn {i : Int32} {n : Nat} (h : i.toInt = n) : ¬ i < 0 := by
  rw [Int32.lt_iff_toInt_lt]; have : (0 : Int32).toInt = 0 := by decide
  omega
theorem own_inc {i : Int32} {n : Nat} (h : i.toInt = n) (q : n < 2147483647) : (i + 1).toInt = ((n + 1 : Nat) : Int) := by
  have a := c_iadd i 1; have b := rng32 (i + 1); have : (1 : Int32).toInt = 1 := by decide
  omega
theorem own_Ar.of_arv {Z : State} {h : Heap} {a : Addr} {k : ClassId} {ty : FieldType} {z : Int32} {vs : List Value} {d : Value} (F : Arv Z h a k ty z vs d) : own_Ar Z h a ty z (fun j => vs.getD j d) := by
  obtain ⟨c, A, q, S, M, H, G⟩ := F
  exact ⟨c, A, S, M, fun j hj => H j (by rw [S]; exact hj)⟩
theorem own_Ar.arv {Z : State} {h : Heap} {a : Addr} {ty : FieldType} {z : Int32} {f : Nat → Value} {vs : List Value} {d : Value} (F : own_Ar Z h a ty z f) (q : ∀ j, j < z.toNatClampNeg → f j = vs.getD j d) (g : ∀ j, j < z.toNatClampNeg → fits ty (vs.getD j d) = true) : ∃ k, Arv Z h a k ty z vs d := by
  obtain ⟨c, A, S, M, H⟩ := F
  exact ⟨c.cls, c, A, rfl, S, M, fun j hj => by rw [H j (by rw [← S]; exact hj), q j (by rw [← S]; exact hj)], fun j hj => g j (by rw [← S]; exact hj)⟩
theorem own_chr {c : Int32} (h0 : ¬ c < 0) (h1 : ¬ (255 : Int32) < c) : nar .char ((c.toInt8.toInt32 &&& (255 : Int32)).toUInt32.toUInt16.toUInt32.toInt32) = c := by
  have t : ∀ k : Fin 256, nar .char (((Int32.ofNat k.val).toInt8.toInt32 &&& (255 : Int32)).toUInt32.toUInt16.toUInt32.toInt32) = Int32.ofNat k.val := by decide +kernel
  rw [Int32.lt_iff_toInt_lt] at h0 h1
  have e0 : (0 : Int32).toInt = 0 := by decide
  have e1 : (255 : Int32).toInt = 255 := by decide
  have e : c = Int32.ofNat c.toInt.toNat := by
    rw [← Int32.toInt_inj, show (Int32.ofNat c.toInt.toNat).toInt = ((c.toInt.toNat : Nat) : Int) from Int32.toInt_ofNat_small (by omega)]
    omega
  rw [e]
  exact t ⟨c.toInt.toNat, by omega⟩
/-- what charAt makes of a byte -/
def own_ch (b : Int32) : Int32 := nar .char ((b &&& (255 : Int32)).toUInt32.toUInt16.toUInt32.toInt32)
theorem own_ch_of {c : Int32} (h0 : ¬ c < 0) (h1 : ¬ (255 : Int32) < c) : own_ch c.toInt8.toInt32 = c := own_chr h0 h1
theorem own_sh0 (x : Int32) : x >>> ((0 : Int32) &&& 31) = x := by
  rw [show ((0 : Int32) &&& 31) = 0 by decide]; rw [← Int32.toInt_inj, show (0 : Int32) = (0 : Int32) &&& 31 by decide, c_ishr x 0 0 (by decide)]; simp
theorem own_narch (b : Int32) : nar .char (own_ch b) = own_ch b := by
  unfold own_ch
  simp only [nar, UInt32.toUInt32_toInt32, UInt16.toUInt16_toUInt32]
def own_EL : List (String × Nat) := [("com/example/grant3/grant3/ExplanationAllowedPinLaw", 8)]
def own_c (c : Int32) : Prop := ¬ c < 0 ∧ ¬ (255 : Int32) < c
theorem own_c_of {c : Int32} (h0 : 0 ≤ c.toInt) (h1 : c.toInt ≤ 255) : own_c c := by
  unfold own_c
  have z0 : (0 : Int32).toInt = 0 := by decide
  have z1 : (255 : Int32).toInt = 255 := by decide
  rw [Int32.lt_iff_toInt_lt, Int32.lt_iff_toInt_lt, z0, z1]; omega
theorem own_c_b {c : Int32} (h : own_c c) : 0 ≤ c.toInt ∧ c.toInt ≤ 255 := by
  unfold own_c at h
  have z0 : (0 : Int32).toInt = 0 := by decide
  have z1 : (255 : Int32).toInt = 255 := by decide
  rw [Int32.lt_iff_toInt_lt, Int32.lt_iff_toInt_lt, z0, z1] at h; omega
theorem own_fin256 {P : Int32 → Prop} (t : ∀ k : Fin 256, P (Int32.ofNat k.val)) {c : Int32} (h : own_c c) : P c := by
  have b := own_c_b h
  have e : c = Int32.ofNat c.toInt.toNat := by
    rw [← Int32.toInt_inj, show (Int32.ofNat c.toInt.toNat).toInt = ((c.toInt.toNat : Nat) : Int) from Int32.toInt_ofNat_small (by omega)]
    omega
  rw [e]
  exact t ⟨c.toInt.toNat, by omega⟩
theorem own_c_nar {c : Int32} (h : own_c c) : nar .char c = c := own_fin256 (P := fun c => nar .char c = c) (by decide +kernel) h
theorem own_fit {c : Int32} (h : own_c c) : fits .char (.int c) = true := by
  have := fits_nar_char c
  rw [own_c_nar h] at this; exact this
theorem own_role (x : Int32) : ∃ c, own_c c ∧ nar .char ((x &&& (255 : Int32)).toUInt32.toUInt16.toUInt32.toInt32) = c := by
  refine ⟨_, ?_, rfl⟩
  have a := c_mask x (255 : Int32) 8 (by decide) (by decide)
  have q : own_c (x &&& (255 : Int32)) := own_c_of (by omega) (by omega)
  have e : nar .char ((x &&& (255 : Int32)).toUInt32.toUInt16.toUInt32.toInt32) = x &&& (255 : Int32) := by
    rw [i2c_mask]; exact own_c_nar q
  rw [e]; exact q
theorem own_cnt (x : Int32) : ((x &&& (2147483647 : Int32)) % (3 : Int32)) = 0 ∨ ((x &&& (2147483647 : Int32)) % (3 : Int32)) = 1 ∨ ((x &&& (2147483647 : Int32)) % (3 : Int32)) = 2 := by
  have a := c_and x (2147483647 : Int32) (by decide)
  have b := (c_irem (x &&& (2147483647 : Int32)) (3 : Int32) 3 (by decide)).1 a.1
  generalize (x &&& (2147483647 : Int32)) % (3 : Int32) = z at b ⊢
  have o0 : (0 : Int32).toInt = 0 := by decide
  have o1 : (1 : Int32).toInt = 1 := by decide
  have o2 : (2 : Int32).toInt = 2 := by decide
  have h : z.toInt = 0 ∨ z.toInt = 1 ∨ z.toInt = 2 := by omega
  rcases h with h | h | h
  · exact Or.inl (Int32.toInt_inj.mp (by omega))
  · exact Or.inr (Or.inl (Int32.toInt_inj.mp (by omega)))
  · exact Or.inr (Or.inr (Int32.toInt_inj.mp (by omega)))
theorem own_len0 {args : Array Value} {s : State} {t : Term} {a : Addr} {c : Cell} {ty : FieldType} (h : (Cond.eq (Term.length t) (Term.int (0 : Int32))).value args s none s [] = some true) (ht : t.eval args s none [] s = some (.ref a)) (A : Arr s s.heap a c ty) : c.slots.size = 0 := by
  have ha : s.arrayAt? a = some c := Arr.fin (Vm.Alike.refl _) A
  obtain ⟨x, y, hx, -, -, -⟩ := cmp_v (Or.inl h)
  have hl : c.slots.size < 2 ^ 31 := by
    rcases Nat.lt_or_ge c.slots.size (2 ^ 31) with q | q
    · exact q
    · exfalso; simp [Term.eval, ht, ha, Nat.not_lt.mpr q] at hx
  have e := len_f ht ha hl
  have r := gotT (Cond.eq_ints e (Term.int_eval (0))) h
  have u := congrArg Int32.toInt r
  rw [len_toInt hl] at u
  have z : (0 : Int32).toInt = 0 := by decide
  omega
section OwnCls
variable {Z : State} {a0 : Array Value}
theorem own_root {O K : String} {t : ClassId} (w : (Cond.noSuperclass O).before a0 Z = true) (g1 : Z.vm.findClass K = some t) (hn : O ≠ K) : NS Z O K := by
  obtain ⟨c, k, h1, h2, h3, -, -⟩ := Cond.noSuperclass_spec w
  have ne := ids_ne h1 g1 hn
  refine ⟨c, t, h1, g1, fun fuel => ?_⟩
  cases fuel with
  | zero => rfl
  | succ f => simp [Vm.isSubclassAux, ne, h2, h3]
theorem own_face {K : String} {x y : MethodName} (w : (Cond.selects K x y).before a0 Z = true) (hy : y.cls = K) : ∃ t kt, Z.vm.findClass K = some t ∧ Z.vm.classes[t]? = some kt ∧ kt.isInterface = false := by
  obtain ⟨c, r, m, q1, q2, q3, q4, mk, q5, q6⟩ := Cond.selects_spec w
  have f := findClass_of_methodNamed q3
  rw [hy] at f
  exact ⟨m.cls, mk, f, q5, q6⟩
theorem own_no {C S K : String} (w : (Cond.superclass C S).before a0 Z = true) (n : NS Z C K) (hn : C ≠ K) (hk : ∃ t kt, Z.vm.findClass K = some t ∧ Z.vm.classes[t]? = some kt ∧ kt.isInterface = false) : ∃ c t, Z.vm.findClass C = some c ∧ Z.vm.findClass K = some t ∧ Z.vm.assignable c t = false := by
  obtain ⟨c, t, h0, g0, n3⟩ := n
  obtain ⟨p, k, kp, h1, h2, h3, h4, h5, -, h7⟩ := Cond.superclass_spec h0 w
  obtain ⟨t', kt, g1, g2, g3⟩ := hk
  cases g0.symm.trans g1
  have ne := ids_ne h0 g0 hn
  refine ⟨c, t, h0, g0, ?_⟩
  show Z.vm.assignableAux (255 + 1) c t = false
  cases hkind : kt.kind <;> simp [Vm.assignableAux, ne, h2, g2, h5, hkind, g3, Vm.isSubclass, n3]
theorem own_mir {args : Array Value} {s : State} {K : String} {mr : Addr} (hZ : Z.Warmed39 s.vm) (M : Mir Z K mr) : (Term.mirror K).eval args s none [] s = some (.ref mr) := by
  obtain ⟨cc, kc, m1, m2, m3, -⟩ := M
  obtain ⟨k', q, ek⟩ := hZ.alike.2.2 _ _ m2
  have f : s.vm.findClass K = some cc := by rw [hZ.alike.findClass]; exact m1
  have g : k'.mirror = some mr := by rw [ek]; exact m3
  simp [Term.eval, f, q, g]
theorem own_Rr.arv {h : Heap} {a : Addr} {K : String} {z : Int32} {f : Nat → Value} {vs : List Value} {d : Value} (F : own_Rr Z h a K z f) (q : ∀ j, j < z.toNatClampNeg → f j = vs.getD j d) (g : ∀ j, j < z.toNatClampNeg → fits (.object K) (vs.getD j d) = true) : ∃ k, Arv Z h a k (.object K) z vs d ∧ Ovr Z k K := by
  obtain ⟨c, A, S, M, H, O⟩ := F
  exact ⟨c.cls, ⟨c, A, rfl, S, M, fun j hj => by rw [H j (by rw [← S]; exact hj), q j (by rw [← S]; exact hj)], fun j hj => g j (by rw [← S]; exact hj)⟩, O⟩
theorem own_Rr.of_arv {h : Heap} {a : Addr} {K : String} {k : ClassId} {z : Int32} {vs : List Value} {d : Value} {f : Nat → Value} (F : Arv Z h a k (.object K) z vs d) (O : Ovr Z k K) (q : ∀ j, j < z.toNatClampNeg → vs.getD j d = f j) : own_Rr Z h a K z f := by
  obtain ⟨c, A, e, S, M, H, G⟩ := F
  exact ⟨c, A, S, M, fun j hj => by rw [H j (by rw [S]; exact hj), q j hj], by rw [e]; exact O⟩
theorem own_getm (f : Nat → Value) (N j : Nat) (d : Value) (h : j < N) : ((List.range N).map f).getD j d = f j := by
  simp [List.getD_eq_getElem?_getD, h]
end OwnCls
theorem own_exa {args : Array Value} {s : State} {t : Term} {K : String} (h : (Cond.exactly t K).value args s none s [] = some true) : ∃ a, t.eval args s none [] s = some (.ref a) := by
  obtain ⟨a', c', cell, k, e1, -⟩ := Cond.exactly_spec (Cond.before_iff.mpr h)
  exact ⟨a', e1⟩
theorem own_fst {args : Array Value} {s : State} {t : Term} {a b : Addr} {K n d : String} (ht : t.eval args s none [] s = some (.ref a)) (hf : (Term.field t K n d).eval args s none [] s = some (.ref b)) : Fld s s.heap a K n d (.ref b) := by
  refine Fld.start ?_
  simpa [Term.eval, ht] using hf
theorem dR_0 : decode jdk_30_method_1_code 0 = .ok (.aload_n 0, 1) := by decide +kernel
theorem dR_1 : decode jdk_30_method_1_code 1 = .ok (.invokespecial 1, 3) := by decide +kernel
theorem dR_4 : decode jdk_30_method_1_code 4 = .ok (.return_, 1) := by decide +kernel
theorem pn_0 : plainName "java/lang/Record" = true := by first | (simp [plainName, overriddenIn]; done) | decide +kernel
theorem ef_R (m : MethodId) (x0 : Addr) : entryFrame m #[(.ref x0)] 1 = mkF m 0 #[.val (.ref x0)] [] := by first | (simp [entryFrame, mkF, argsToLocals, Value.category]; done) | rfl
def QR (Z : State) (a : Addr) (h0 : Heap) (n0 : Nat) (v : Option Value) (h : Heap) (L : List Loc) : Prop := v = none ∧ Fr n0 L ∧ h = h0
def PR (Z : State) (a : Addr) (h0 : Heap) (n0 : Nat) (s : State) (oQ : Outcome) (U : State) : Prop := ∃ v L, oQ = .returned v ∧ QR Z a h0 n0 v U.heap L ∧ FrameEnd s oQ U L ({ frames := 1, cells := 0, slots := 0, locals := 12 } : Room).cells ({ frames := 1, cells := 0, slots := 0, locals := 12 } : Room).slots
set_option maxRecDepth 65536 in
set_option maxHeartbeats 40000000 in
theorem rmR (l : Launch) (Z : State) (a0 : Array Value) (hw : ∀ d ∈ tables_1, d.before a0 Z = true) (ws : List Jvm.Cond) (a : Addr) (h0 : Heap) (n0 : Nat) (Z0 : n0 ≤ h0.size)  :
    MetFree l (⟨"java/lang/Record", "<init>", "()V"⟩ : MethodName) (head1 (Jvm.Cond.code (⟨"java/lang/Record", "<init>", "()V"⟩ : MethodName) jdk_30_method_1_code 1 none :: ws) ({ frames := 1, cells := 0, slots := 0, locals := 12 } : Room)) (fun aQ U => aQ = #[(.ref a)] ∧ Z.Warmed39 U.vm ∧ U.heap = h0) (fun _ _ _ _ _ => True) (fun _ U oQ U' => ∃ v L, oQ = .returned v ∧ QR Z a h0 n0 v U'.heap L ∧ FrameEnd U oQ U' L ({ frames := 1, cells := 0, slots := 0, locals := 12 } : Room).cells ({ frames := 1, cells := 0, slots := 0, locals := 12 } : Room).slots) := by
  refine MetFree.of_bodySF (plainFor_of_name pn_0) hisR ?_
  intro p e s m args below meth c s₁ Bd hml0 hP hK
  obtain ⟨rfl, hZ, hh⟩ := hP
  have hx := Bd.exec
  have hby := Bd.bytes
  have hml : c.maxLocals = 1 := hml0
  have hown : s.vm.findClass "java/lang/Record" = some m.cls := findClass_of_methodNamed Bd.named
  have hnm := (name_of_methodNamed Bd.named Bd.method).1
  have X0 : Stand p l e ({ frames := 1, cells := 0, slots := 0, locals := 12 } : Room) s m #[(.ref a)] below meth c s₁ [] 0 0 := Stand.of_body Bd
  have e0 : s₁.heap = h0 := by rw [← hh, Bd.state]; rfl
  have Nf := Fr.nil n0
  have Zs : n0 ≤ h0.size := Z0
  have Kp : Keep h0 h0 [] := Keep.refl _ _
  have szr : h0.size ≤ h0.size := Nat.le_refl _
  show own_End p e below (PR Z a h0 n0 s) (s₁.setTop (entryFrame m #[(.ref a)] 1))
  rw [ef_R]
  refine own_go (fun tQ kQ => XS.aloadN X0.here hx rfl (hb hby dR_0) rfl rfl kQ) ?_
  show own_End p e below _ (s₁.setTop (mkF m 1 #[.val (.ref a)] [(.ref a)]))
  obtain ⟨T1, X1, e1, st1⟩ := initO X0 hx hZ hown (hw _ (List.mem_of_getElem? (i := 137) rfl)) (hw _ (List.mem_of_getElem? (i := 74) rfl)) (hw _ (List.mem_of_getElem? (i := 75) rfl)) e0 (g := (mkF m 1 #[.val (.ref a)] [(.ref a)])) rfl (by rw [hml]; rfl) rfl (hb hby dR_1) (by decide) (W := 0) (by show 2 * 0 + _ ≤ _; exact Nat.le_of_eq rfl) (by decide)
  refine own_go (fun tQ kQ => st1 tQ kQ) ?_
  show own_End p e below _ (T1.setTop (mkF m 4 #[.val (.ref a)] []))
  obtain ⟨fs, hr, hrun, hended, hW, hsame⟩ := X1.leave (v := none) (fun _ => rfl)
  refine ⟨_, _, X1.returnOut hx Bd.returns (hb hby dR_4) hr, hrun, hended, _, _, rfl, ?_, ⟨_, rfl⟩, hW, hsame.mono (by decide) (by decide)⟩
  show QR Z a h0 n0 _ T1.heap _
  rw [e1]
  exact ⟨rfl, Nf, rfl⟩
theorem dAC_0 : decode jdk_22_method_1_code 0 = .ok (.aload_n 0, 1) := by decide +kernel
theorem dAC_1 : decode jdk_22_method_1_code 1 = .ok (.invokespecial 1, 3) := by decide +kernel
theorem dAC_4 : decode jdk_22_method_1_code 4 = .ok (.return_, 1) := by decide +kernel
theorem pn_1 : plainName "java/util/AbstractCollection" = true := by first | (simp [plainName, overriddenIn]; done) | decide +kernel
theorem ef_AC (m : MethodId) (x0 : Addr) : entryFrame m #[(.ref x0)] 1 = mkF m 0 #[.val (.ref x0)] [] := by first | (simp [entryFrame, mkF, argsToLocals, Value.category]; done) | rfl
def QAC (Z : State) (a : Addr) (h0 : Heap) (n0 : Nat) (v : Option Value) (h : Heap) (L : List Loc) : Prop := v = none ∧ Fr n0 L ∧ h = h0
def PAC (Z : State) (a : Addr) (h0 : Heap) (n0 : Nat) (s : State) (oQ : Outcome) (U : State) : Prop := ∃ v L, oQ = .returned v ∧ QAC Z a h0 n0 v U.heap L ∧ FrameEnd s oQ U L ({ frames := 1, cells := 0, slots := 0, locals := 12 } : Room).cells ({ frames := 1, cells := 0, slots := 0, locals := 12 } : Room).slots
set_option maxRecDepth 65536 in
set_option maxHeartbeats 40000000 in
theorem rmAC (l : Launch) (Z : State) (a0 : Array Value) (hw : ∀ d ∈ tables_1, d.before a0 Z = true) (ws : List Jvm.Cond) (a : Addr) (h0 : Heap) (n0 : Nat) (Z0 : n0 ≤ h0.size)  :
    MetFree l (⟨"java/util/AbstractCollection", "<init>", "()V"⟩ : MethodName) (head1 (Jvm.Cond.code (⟨"java/util/AbstractCollection", "<init>", "()V"⟩ : MethodName) jdk_22_method_1_code 1 none :: ws) ({ frames := 1, cells := 0, slots := 0, locals := 12 } : Room)) (fun aQ U => aQ = #[(.ref a)] ∧ Z.Warmed39 U.vm ∧ U.heap = h0) (fun _ _ _ _ _ => True) (fun _ U oQ U' => ∃ v L, oQ = .returned v ∧ QAC Z a h0 n0 v U'.heap L ∧ FrameEnd U oQ U' L ({ frames := 1, cells := 0, slots := 0, locals := 12 } : Room).cells ({ frames := 1, cells := 0, slots := 0, locals := 12 } : Room).slots) := by
  refine MetFree.of_bodySF (plainFor_of_name pn_1) hisR ?_
  intro p e s m args below meth c s₁ Bd hml0 hP hK
  obtain ⟨rfl, hZ, hh⟩ := hP
  have hx := Bd.exec
  have hby := Bd.bytes
  have hml : c.maxLocals = 1 := hml0
  have hown : s.vm.findClass "java/util/AbstractCollection" = some m.cls := findClass_of_methodNamed Bd.named
  have hnm := (name_of_methodNamed Bd.named Bd.method).1
  have X0 : Stand p l e ({ frames := 1, cells := 0, slots := 0, locals := 12 } : Room) s m #[(.ref a)] below meth c s₁ [] 0 0 := Stand.of_body Bd
  have e0 : s₁.heap = h0 := by rw [← hh, Bd.state]; rfl
  have Nf := Fr.nil n0
  have Zs : n0 ≤ h0.size := Z0
  have Kp : Keep h0 h0 [] := Keep.refl _ _
  have szr : h0.size ≤ h0.size := Nat.le_refl _
  show own_End p e below (PAC Z a h0 n0 s) (s₁.setTop (entryFrame m #[(.ref a)] 1))
  rw [ef_AC]
  refine own_go (fun tQ kQ => XS.aloadN X0.here hx rfl (hb hby dAC_0) rfl rfl kQ) ?_
  show own_End p e below _ (s₁.setTop (mkF m 1 #[.val (.ref a)] [(.ref a)]))
  obtain ⟨T1, X1, e1, st1⟩ := initO X0 hx hZ hown (hw _ (List.mem_of_getElem? (i := 123) rfl)) (hw _ (List.mem_of_getElem? (i := 74) rfl)) (hw _ (List.mem_of_getElem? (i := 75) rfl)) e0 (g := (mkF m 1 #[.val (.ref a)] [(.ref a)])) rfl (by rw [hml]; rfl) rfl (hb hby dAC_1) (by decide) (W := 0) (by show 2 * 0 + _ ≤ _; exact Nat.le_of_eq rfl) (by decide)
  refine own_go (fun tQ kQ => st1 tQ kQ) ?_
  show own_End p e below _ (T1.setTop (mkF m 4 #[.val (.ref a)] []))
  obtain ⟨fs, hr, hrun, hended, hW, hsame⟩ := X1.leave (v := none) (fun _ => rfl)
  refine ⟨_, _, X1.returnOut hx Bd.returns (hb hby dAC_4) hr, hrun, hended, _, _, rfl, ?_, ⟨_, rfl⟩, hW, hsame.mono (by decide) (by decide)⟩
  show QAC Z a h0 n0 _ T1.heap _
  rw [e1]
  exact ⟨rfl, Nf, rfl⟩
theorem pd_2 : parseMethodDescriptor "()V" = some ⟨[], none⟩ := by decide +kernel
theorem dIC_0 : decode jdk_47_method_1_code 0 = .ok (.aload_n 0, 1) := by decide +kernel
theorem dIC_1 : decode jdk_47_method_1_code 1 = .ok (.invokespecial 1, 3) := by decide +kernel
theorem dIC_4 : decode jdk_47_method_1_code 4 = .ok (.return_, 1) := by decide +kernel
theorem pn_3 : plainName "java/util/ImmutableCollections$AbstractImmutableCollection" = true := by first | (simp [plainName, overriddenIn]; done) | decide +kernel
theorem ef_IC (m : MethodId) (x0 : Addr) : entryFrame m #[(.ref x0)] 1 = mkF m 0 #[.val (.ref x0)] [] := by first | (simp [entryFrame, mkF, argsToLocals, Value.category]; done) | rfl
def QIC (Z : State) (a : Addr) (h0 : Heap) (n0 : Nat) (v : Option Value) (h : Heap) (L : List Loc) : Prop := v = none ∧ Fr n0 L ∧ h = h0
def PIC (Z : State) (a : Addr) (h0 : Heap) (n0 : Nat) (s : State) (oQ : Outcome) (U : State) : Prop := ∃ v L, oQ = .returned v ∧ QIC Z a h0 n0 v U.heap L ∧ FrameEnd s oQ U L ({ frames := 2, cells := 0, slots := 0, locals := 24 } : Room).cells ({ frames := 2, cells := 0, slots := 0, locals := 24 } : Room).slots
set_option maxRecDepth 65536 in
set_option maxHeartbeats 40000000 in
theorem rmIC (l : Launch) (Z : State) (a0 : Array Value) (hw : ∀ d ∈ tables_1, d.before a0 Z = true) (ws : List Jvm.Cond) (a : Addr) (h0 : Heap) (n0 : Nat) (Z0 : n0 ≤ h0.size)  :
    MetFree l (⟨"java/util/ImmutableCollections$AbstractImmutableCollection", "<init>", "()V"⟩ : MethodName) (head1 (Jvm.Cond.code (⟨"java/util/ImmutableCollections$AbstractImmutableCollection", "<init>", "()V"⟩ : MethodName) jdk_47_method_1_code 1 none :: ws) ({ frames := 2, cells := 0, slots := 0, locals := 24 } : Room)) (fun aQ U => aQ = #[(.ref a)] ∧ Z.Warmed39 U.vm ∧ U.heap = h0) (fun _ _ _ _ _ => True) (fun _ U oQ U' => ∃ v L, oQ = .returned v ∧ QIC Z a h0 n0 v U'.heap L ∧ FrameEnd U oQ U' L ({ frames := 2, cells := 0, slots := 0, locals := 24 } : Room).cells ({ frames := 2, cells := 0, slots := 0, locals := 24 } : Room).slots) := by
  refine MetFree.of_bodySF (plainFor_of_name pn_3) hisR ?_
  intro p e s m args below meth c s₁ Bd hml0 hP hK
  obtain ⟨rfl, hZ, hh⟩ := hP
  have hx := Bd.exec
  have hby := Bd.bytes
  have hml : c.maxLocals = 1 := hml0
  have hown : s.vm.findClass "java/util/ImmutableCollections$AbstractImmutableCollection" = some m.cls := findClass_of_methodNamed Bd.named
  have hnm := (name_of_methodNamed Bd.named Bd.method).1
  have X0 : Stand p l e ({ frames := 2, cells := 0, slots := 0, locals := 24 } : Room) s m #[(.ref a)] below meth c s₁ [] 0 0 := Stand.of_body Bd
  have e0 : s₁.heap = h0 := by rw [← hh, Bd.state]; rfl
  have Nf := Fr.nil n0
  have Zs : n0 ≤ h0.size := Z0
  have Kp : Keep h0 h0 [] := Keep.refl _ _
  have szr : h0.size ≤ h0.size := Nat.le_refl _
  show own_End p e below (PIC Z a h0 n0 s) (s₁.setTop (entryFrame m #[(.ref a)] 1))
  rw [ef_IC]
  refine own_go (fun tQ kQ => XS.aloadN X0.here hx rfl (hb hby dIC_0) rfl rfl kQ) ?_
  show own_End p e below _ (s₁.setTop (mkF m 1 #[.val (.ref a)] [(.ref a)]))
  obtain ⟨_, _, ⟨T1, L1, k1, n1⟩, -, X1, ⟨Lc1, hQ1, l1, y1, z1⟩, st1⟩ := X0.specialBack hx (y := (⟨"java/util/AbstractCollection", "<init>", "()V"⟩ : MethodName)) rfl hown (mvT hZ (hw _ (List.mem_of_getElem? (i := 286) rfl))) (mvT hZ (hw _ (List.mem_of_getElem? (i := 118) rfl))) (mvT hZ (hw _ (List.mem_of_getElem? (i := 122) rfl))) (by decide) (backOf (W := 0) (rmAC l Z a0 hw [] a h0 n0 Zs ) hZ (hw _ (List.mem_of_getElem? (i := 122) rfl)) (hw _ (List.mem_of_getElem? (i := 121) rfl)) (by decide) (by decide)) (g := (mkF m 1 #[.val (.ref a)] [(.ref a)])) rfl (by rw [hml]; rfl) (Steps.refl _) (a := a) (argsL := []) (rest := []) (lenOf pd_2 rfl) rfl (by show 2 * 0 + _ ≤ _; exact Nat.le_of_eq rfl) (hb hby dIC_1) (fun _ _ => ⟨rfl, e0, (Nat.le_of_ble_eq_true rfl), (Nat.le_of_ble_eq_true rfl)⟩)
  dsimp only [Pt.U, Pt.locs, Pt.cells, Pt.slots] at X1 l1 y1 z1 st1 hQ1
  rw [l1, y1, z1] at X1
  obtain ⟨rfl, N1q, e1⟩ := hQ1
  have Nf := Fr.app Nf N1q
  have X1 := own_pad (k' := 0) (n' := 0) X1 (by decide) (by decide)
  refine own_go (fun tQ kQ => st1.trans kQ) ?_
  show own_End p e below _ (T1.setTop (mkF m 4 #[.val (.ref a)] []))
  obtain ⟨fs, hr, hrun, hended, hW, hsame⟩ := X1.leave (v := none) (fun _ => rfl)
  refine ⟨_, _, X1.returnOut hx Bd.returns (hb hby dIC_4) hr, hrun, hended, _, _, rfl, ?_, ⟨_, rfl⟩, hW, hsame.mono (by decide) (by decide)⟩
  show QIC Z a h0 n0 _ T1.heap _
  rw [e1]
  exact ⟨rfl, Nf, rfl⟩
theorem dIL_0 : decode jdk_46_method_1_code 0 = .ok (.aload_n 0, 1) := by decide +kernel
theorem dIL_1 : decode jdk_46_method_1_code 1 = .ok (.invokespecial 1, 3) := by decide +kernel
theorem dIL_4 : decode jdk_46_method_1_code 4 = .ok (.return_, 1) := by decide +kernel
theorem pn_4 : plainName "java/util/ImmutableCollections$AbstractImmutableList" = true := by first | (simp [plainName, overriddenIn]; done) | decide +kernel
theorem ef_IL (m : MethodId) (x0 : Addr) : entryFrame m #[(.ref x0)] 1 = mkF m 0 #[.val (.ref x0)] [] := by first | (simp [entryFrame, mkF, argsToLocals, Value.category]; done) | rfl
def QIL (Z : State) (a : Addr) (h0 : Heap) (n0 : Nat) (v : Option Value) (h : Heap) (L : List Loc) : Prop := v = none ∧ Fr n0 L ∧ h = h0
def PIL (Z : State) (a : Addr) (h0 : Heap) (n0 : Nat) (s : State) (oQ : Outcome) (U : State) : Prop := ∃ v L, oQ = .returned v ∧ QIL Z a h0 n0 v U.heap L ∧ FrameEnd s oQ U L ({ frames := 3, cells := 0, slots := 0, locals := 36 } : Room).cells ({ frames := 3, cells := 0, slots := 0, locals := 36 } : Room).slots
set_option maxRecDepth 65536 in
set_option maxHeartbeats 40000000 in
theorem rmIL (l : Launch) (Z : State) (a0 : Array Value) (hw : ∀ d ∈ tables_1, d.before a0 Z = true) (ws : List Jvm.Cond) (a : Addr) (h0 : Heap) (n0 : Nat) (Z0 : n0 ≤ h0.size)  :
    MetFree l (⟨"java/util/ImmutableCollections$AbstractImmutableList", "<init>", "()V"⟩ : MethodName) (head1 (Jvm.Cond.code (⟨"java/util/ImmutableCollections$AbstractImmutableList", "<init>", "()V"⟩ : MethodName) jdk_46_method_1_code 1 none :: ws) ({ frames := 3, cells := 0, slots := 0, locals := 36 } : Room)) (fun aQ U => aQ = #[(.ref a)] ∧ Z.Warmed39 U.vm ∧ U.heap = h0) (fun _ _ _ _ _ => True) (fun _ U oQ U' => ∃ v L, oQ = .returned v ∧ QIL Z a h0 n0 v U'.heap L ∧ FrameEnd U oQ U' L ({ frames := 3, cells := 0, slots := 0, locals := 36 } : Room).cells ({ frames := 3, cells := 0, slots := 0, locals := 36 } : Room).slots) := by
  refine MetFree.of_bodySF (plainFor_of_name pn_4) hisR ?_
  intro p e s m args below meth c s₁ Bd hml0 hP hK
  obtain ⟨rfl, hZ, hh⟩ := hP
  have hx := Bd.exec
  have hby := Bd.bytes
  have hml : c.maxLocals = 1 := hml0
  have hown : s.vm.findClass "java/util/ImmutableCollections$AbstractImmutableList" = some m.cls := findClass_of_methodNamed Bd.named
  have hnm := (name_of_methodNamed Bd.named Bd.method).1
  have X0 : Stand p l e ({ frames := 3, cells := 0, slots := 0, locals := 36 } : Room) s m #[(.ref a)] below meth c s₁ [] 0 0 := Stand.of_body Bd
  have e0 : s₁.heap = h0 := by rw [← hh, Bd.state]; rfl
  have Nf := Fr.nil n0
  have Zs : n0 ≤ h0.size := Z0
  have Kp : Keep h0 h0 [] := Keep.refl _ _
  have szr : h0.size ≤ h0.size := Nat.le_refl _
  show own_End p e below (PIL Z a h0 n0 s) (s₁.setTop (entryFrame m #[(.ref a)] 1))
  rw [ef_IL]
  refine own_go (fun tQ kQ => XS.aloadN X0.here hx rfl (hb hby dIL_0) rfl rfl kQ) ?_
  show own_End p e below _ (s₁.setTop (mkF m 1 #[.val (.ref a)] [(.ref a)]))
  obtain ⟨_, _, ⟨T1, L1, k1, n1⟩, -, X1, ⟨Lc1, hQ1, l1, y1, z1⟩, st1⟩ := X0.specialBack hx (y := (⟨"java/util/ImmutableCollections$AbstractImmutableCollection", "<init>", "()V"⟩ : MethodName)) rfl hown (mvT hZ (hw _ (List.mem_of_getElem? (i := 280) rfl))) (mvT hZ (hw _ (List.mem_of_getElem? (i := 281) rfl))) (mvT hZ (hw _ (List.mem_of_getElem? (i := 285) rfl))) (by decide) (backOf (W := 0) (rmIC l Z a0 hw [] a h0 n0 Zs ) hZ (hw _ (List.mem_of_getElem? (i := 285) rfl)) (hw _ (List.mem_of_getElem? (i := 284) rfl)) (by decide) (by decide)) (g := (mkF m 1 #[.val (.ref a)] [(.ref a)])) rfl (by rw [hml]; rfl) (Steps.refl _) (a := a) (argsL := []) (rest := []) (lenOf pd_2 rfl) rfl (by show 2 * 0 + _ ≤ _; exact Nat.le_of_eq rfl) (hb hby dIL_1) (fun _ _ => ⟨rfl, e0, (Nat.le_of_ble_eq_true rfl), (Nat.le_of_ble_eq_true rfl)⟩)
  dsimp only [Pt.U, Pt.locs, Pt.cells, Pt.slots] at X1 l1 y1 z1 st1 hQ1
  rw [l1, y1, z1] at X1
  obtain ⟨rfl, N1q, e1⟩ := hQ1
  have Nf := Fr.app Nf N1q
  have X1 := own_pad (k' := 0) (n' := 0) X1 (by decide) (by decide)
  refine own_go (fun tQ kQ => st1.trans kQ) ?_
  show own_End p e below _ (T1.setTop (mkF m 4 #[.val (.ref a)] []))
  obtain ⟨fs, hr, hrun, hended, hW, hsame⟩ := X1.leave (v := none) (fun _ => rfl)
  refine ⟨_, _, X1.returnOut hx Bd.returns (hb hby dIL_4) hr, hrun, hended, _, _, rfl, ?_, ⟨_, rfl⟩, hW, hsame.mono (by decide) (by decide)⟩
  show QIL Z a h0 n0 _ T1.heap _
  rw [e1]
  exact ⟨rfl, Nf, rfl⟩
theorem dAbL_0 : decode jdk_39_method_1_code 0 = .ok (.aload_n 0, 1) := by decide +kernel
theorem dAbL_1 : decode jdk_39_method_1_code 1 = .ok (.invokespecial 1, 3) := by decide +kernel
theorem dAbL_4 : decode jdk_39_method_1_code 4 = .ok (.aload_n 0, 1) := by decide +kernel
theorem dAbL_5 : decode jdk_39_method_1_code 5 = .ok (.iconst 0, 1) := by decide +kernel
theorem dAbL_6 : decode jdk_39_method_1_code 6 = .ok (.putfield 7, 3) := by decide +kernel
theorem dAbL_9 : decode jdk_39_method_1_code 9 = .ok (.return_, 1) := by decide +kernel
theorem pn_5 : plainName "java/util/AbstractList" = true := by first | (simp [plainName, overriddenIn]; done) | decide +kernel
theorem ef_AbL (m : MethodId) (x0 : Addr) : entryFrame m #[(.ref x0)] 1 = mkF m 0 #[.val (.ref x0)] [] := by first | (simp [entryFrame, mkF, argsToLocals, Value.category]; done) | rfl
def QAbL (Z : State) (a : Addr) (h0 : Heap) (n0 : Nat) (v : Option Value) (h : Heap) (L : List Loc) : Prop := v = none ∧ Fr n0 L ∧ Keep h0 h [a] ∧ Fld Z h a "java/util/AbstractList" "modCount" "I" (.int (0 : Int32)) ∧ Fld Z h a "java/util/ArrayList" "elementData" "[Ljava/lang/Object;" .null ∧ Fld Z h a "java/util/ArrayList" "size" "I" (.int (0 : Int32))
def PAbL (Z : State) (a : Addr) (h0 : Heap) (n0 : Nat) (s : State) (oQ : Outcome) (U : State) : Prop := ∃ v L, oQ = .returned v ∧ QAbL Z a h0 n0 v U.heap L ∧ FrameEnd s oQ U L ({ frames := 2, cells := 0, slots := 0, locals := 24 } : Room).cells ({ frames := 2, cells := 0, slots := 0, locals := 24 } : Room).slots
set_option maxRecDepth 65536 in
set_option maxHeartbeats 40000000 in
theorem rmAbL (l : Launch) (Z : State) (a0 : Array Value) (hw : ∀ d ∈ tables_1, d.before a0 Z = true) (ws : List Jvm.Cond) (a : Addr) (h0 : Heap) (n0 : Nat) (Z0 : n0 ≤ h0.size) (E_a : Exa Z h0 a "java/util/ArrayList") (F_modCount_a : Fld Z h0 a "java/util/AbstractList" "modCount" "I" (.int (0 : Int32))) (F_elementData_a : Fld Z h0 a "java/util/ArrayList" "elementData" "[Ljava/lang/Object;" .null) (F_size_a : Fld Z h0 a "java/util/ArrayList" "size" "I" (.int (0 : Int32))) (g_a : n0 ≤ a) :
    MetFree l (⟨"java/util/AbstractList", "<init>", "()V"⟩ : MethodName) (head1 (Jvm.Cond.code (⟨"java/util/AbstractList", "<init>", "()V"⟩ : MethodName) jdk_39_method_1_code 1 none :: ws) ({ frames := 2, cells := 0, slots := 0, locals := 24 } : Room)) (fun aQ U => aQ = #[(.ref a)] ∧ Z.Warmed39 U.vm ∧ U.heap = h0) (fun _ _ _ _ _ => True) (fun _ U oQ U' => ∃ v L, oQ = .returned v ∧ QAbL Z a h0 n0 v U'.heap L ∧ FrameEnd U oQ U' L ({ frames := 2, cells := 0, slots := 0, locals := 24 } : Room).cells ({ frames := 2, cells := 0, slots := 0, locals := 24 } : Room).slots) := by
  refine MetFree.of_bodySF (plainFor_of_name pn_5) hisR ?_
  intro p e s m args below meth c s₁ Bd hml0 hP hK
  obtain ⟨rfl, hZ, hh⟩ := hP
  have hx := Bd.exec
  have hby := Bd.bytes
  have hml : c.maxLocals = 1 := hml0
  have hown : s.vm.findClass "java/util/AbstractList" = some m.cls := findClass_of_methodNamed Bd.named
  have hnm := (name_of_methodNamed Bd.named Bd.method).1
  have X0 : Stand p l e ({ frames := 2, cells := 0, slots := 0, locals := 24 } : Room) s m #[(.ref a)] below meth c s₁ [] 0 0 := Stand.of_body Bd
  have e0 : s₁.heap = h0 := by rw [← hh, Bd.state]; rfl
  have Nf := Fr.nil n0
  have Zs : n0 ≤ h0.size := Z0
  have Kp : Keep h0 h0 [a] := Keep.refl _ _
  have szr : h0.size ≤ h0.size := Nat.le_refl _
  show own_End p e below (PAbL Z a h0 n0 s) (s₁.setTop (entryFrame m #[(.ref a)] 1))
  rw [ef_AbL]
  refine own_go (fun tQ kQ => XS.aloadN X0.here hx rfl (hb hby dAbL_0) rfl rfl kQ) ?_
  show own_End p e below _ (s₁.setTop (mkF m 1 #[.val (.ref a)] [(.ref a)]))
  obtain ⟨_, _, ⟨T1, L1, k1, n1⟩, -, X1, ⟨Lc1, hQ1, l1, y1, z1⟩, st1⟩ := X0.specialBack hx (y := (⟨"java/util/AbstractCollection", "<init>", "()V"⟩ : MethodName)) rfl hown (mvT hZ (hw _ (List.mem_of_getElem? (i := 117) rfl))) (mvT hZ (hw _ (List.mem_of_getElem? (i := 118) rfl))) (mvT hZ (hw _ (List.mem_of_getElem? (i := 122) rfl))) (by decide) (backOf (W := 0) (rmAC l Z a0 hw [] a h0 n0 Zs ) hZ (hw _ (List.mem_of_getElem? (i := 122) rfl)) (hw _ (List.mem_of_getElem? (i := 121) rfl)) (by decide) (by decide)) (g := (mkF m 1 #[.val (.ref a)] [(.ref a)])) rfl (by rw [hml]; rfl) (Steps.refl _) (a := a) (argsL := []) (rest := []) (lenOf pd_2 rfl) rfl (by show 2 * 0 + _ ≤ _; exact Nat.le_of_eq rfl) (hb hby dAbL_1) (fun _ _ => ⟨rfl, e0, (Nat.le_of_ble_eq_true rfl), (Nat.le_of_ble_eq_true rfl)⟩)
  dsimp only [Pt.U, Pt.locs, Pt.cells, Pt.slots] at X1 l1 y1 z1 st1 hQ1
  rw [l1, y1, z1] at X1
  obtain ⟨rfl, N1q, e1⟩ := hQ1
  have Nf := Fr.app Nf N1q
  have X1 := own_pad (k' := 0) (n' := 0) X1 (by decide) (by decide)
  refine own_go (fun tQ kQ => st1.trans kQ) ?_
  show own_End p e below _ (T1.setTop (mkF m 4 #[.val (.ref a)] []))
  refine own_go (fun tQ kQ => XS.aloadN X1.here hx rfl (hb hby dAbL_4) rfl rfl kQ) ?_
  show own_End p e below _ (T1.setTop (mkF m 5 #[.val (.ref a)] [(.ref a)]))
  refine own_go (fun tQ kQ => XS.iconst X1.here hx rfl (hb hby dAbL_5) kQ) ?_
  show own_End p e below _ (T1.setTop (mkF m 6 #[.val (.ref a)] [(.int (0 : Int32)), (.ref a)]))
  obtain ⟨T2, h2, X2, e2, W2, st2⟩ := putF X1 hx hZ hown (host := "") (Or.inl (hw _ (List.mem_of_getElem? (i := 124) rfl))) Via.refl e1 F_modCount_a E_a (Or.inl (hw _ (List.mem_of_getElem? (i := 125) rfl))) (hw _ (List.mem_of_getElem? (i := 106) rfl)) (ty := .int) (by decide) rfl rfl (g := (mkF m 6 #[.val (.ref a)] [(.int (0 : Int32)), (.ref a)])) rfl rfl (hb hby dAbL_6)
  have F_modCount_a := F_modCount_a.same W2
  have E_a := E_a.wr W2
  have F_elementData_a := F_elementData_a.other W2 (Or.inr (slot_ne (Or.inl (hw _ (List.mem_of_getElem? (i := 128) rfl))) (Or.inl (hw _ (List.mem_of_getElem? (i := 125) rfl))) (by decide) (t := (.array (.object "java/lang/Object"))) (t' := .int) (by decide) (by decide)))
  have F_size_a := F_size_a.other W2 (Or.inr (slot_ne (Or.inl (hw _ (List.mem_of_getElem? (i := 165) rfl))) (Or.inl (hw _ (List.mem_of_getElem? (i := 125) rfl))) (by decide) (t := .int) (t' := .int) (by decide) (by decide)))
  have Kp := Kp.wr W2 (Or.inl (List.mem_of_getElem? (i := 0) rfl))
  have Nf := Fr.snoc X2 Nf g_a
  have Zs := Nat.le_trans Zs (Keep.of_wr W2).1
  have szr := Nat.le_trans szr (Keep.of_wr W2).1
  refine own_go (fun tQ kQ => st2 tQ kQ) ?_
  show own_End p e below _ (T2.setTop (mkF m 9 #[.val (.ref a)] []))
  obtain ⟨fs, hr, hrun, hended, hW, hsame⟩ := X2.leave (v := none) (fun _ => rfl)
  refine ⟨_, _, X2.returnOut hx Bd.returns (hb hby dAbL_9) hr, hrun, hended, _, _, rfl, ?_, ⟨_, rfl⟩, hW, hsame.mono (by decide) (by decide)⟩
  show QAbL Z a h0 n0 _ T2.heap _
  rw [e2]
  exact ⟨rfl, Nf, Kp, F_modCount_a, F_elementData_a, F_size_a⟩
theorem dAlI_0 : decode jdk_38_method_2_code 0 = .ok (.aload_n 0, 1) := by decide +kernel
theorem dAlI_1 : decode jdk_38_method_2_code 1 = .ok (.invokespecial 1, 3) := by decide +kernel
theorem dAlI_4 : decode jdk_38_method_2_code 4 = .ok (.aload_n 0, 1) := by decide +kernel
theorem dAlI_5 : decode jdk_38_method_2_code 5 = .ok (.getstatic 39, 3) := by decide +kernel
theorem dAlI_8 : decode jdk_38_method_2_code 8 = .ok (.putfield 9, 3) := by decide +kernel
theorem dAlI_11 : decode jdk_38_method_2_code 11 = .ok (.return_, 1) := by decide +kernel
theorem pn_6 : plainName "java/util/ArrayList" = true := by first | (simp [plainName, overriddenIn]; done) | decide +kernel
theorem ef_AlI (m : MethodId) (x0 : Addr) : entryFrame m #[(.ref x0)] 1 = mkF m 0 #[.val (.ref x0)] [] := by first | (simp [entryFrame, mkF, argsToLocals, Value.category]; done) | rfl
def QAlI (Z : State) (a : Addr) (de : Addr) (h0 : Heap) (n0 : Nat) (v : Option Value) (h : Heap) (L : List Loc) : Prop := v = none ∧ Fr n0 L ∧ Keep h0 h [a] ∧ Fld Z h a "java/util/AbstractList" "modCount" "I" (.int (0 : Int32)) ∧ Fld Z h a "java/util/ArrayList" "elementData" "[Ljava/lang/Object;" (.ref de) ∧ Fld Z h a "java/util/ArrayList" "size" "I" (.int (0 : Int32))
def PAlI (Z : State) (a : Addr) (de : Addr) (h0 : Heap) (n0 : Nat) (s : State) (oQ : Outcome) (U : State) : Prop := ∃ v L, oQ = .returned v ∧ QAlI Z a de h0 n0 v U.heap L ∧ FrameEnd s oQ U L ({ frames := 3, cells := 0, slots := 0, locals := 36 } : Room).cells ({ frames := 3, cells := 0, slots := 0, locals := 36 } : Room).slots
set_option maxRecDepth 65536 in
set_option maxHeartbeats 40000000 in
theorem rmAlI (l : Launch) (Z : State) (a0 : Array Value) (hw : ∀ d ∈ tables_1, d.before a0 Z = true) (ws : List Jvm.Cond) (a : Addr) (de : Addr) (h0 : Heap) (n0 : Nat) (Z0 : n0 ≤ h0.size) (E_a : Exa Z h0 a "java/util/ArrayList") (F_modCount_a : Fld Z h0 a "java/util/AbstractList" "modCount" "I" (.int (0 : Int32))) (F_elementData_a : Fld Z h0 a "java/util/ArrayList" "elementData" "[Ljava/lang/Object;" .null) (F_size_a : Fld Z h0 a "java/util/ArrayList" "size" "I" (.int (0 : Int32))) (g_a : n0 ≤ a) (Ol : Old Z n0 h0) (S_de : Sta Z Z.heap "java/util/ArrayList" "DEFAULTCAPACITY_EMPTY_ELEMENTDATA" "[Ljava/lang/Object;" (.ref de)) :
    MetFree l (⟨"java/util/ArrayList", "<init>", "()V"⟩ : MethodName) (head1 (Jvm.Cond.code (⟨"java/util/ArrayList", "<init>", "()V"⟩ : MethodName) jdk_38_method_2_code 1 none :: ws) ({ frames := 3, cells := 0, slots := 0, locals := 36 } : Room)) (fun aQ U => aQ = #[(.ref a)] ∧ Z.Warmed39 U.vm ∧ U.heap = h0) (fun _ _ _ _ _ => True) (fun _ U oQ U' => ∃ v L, oQ = .returned v ∧ QAlI Z a de h0 n0 v U'.heap L ∧ FrameEnd U oQ U' L ({ frames := 3, cells := 0, slots := 0, locals := 36 } : Room).cells ({ frames := 3, cells := 0, slots := 0, locals := 36 } : Room).slots) := by
  refine MetFree.of_bodySF (plainFor_of_name pn_6) hisR ?_
  intro p e s m args below meth c s₁ Bd hml0 hP hK
  obtain ⟨rfl, hZ, hh⟩ := hP
  have hx := Bd.exec
  have hby := Bd.bytes
  have hml : c.maxLocals = 1 := hml0
  have hown : s.vm.findClass "java/util/ArrayList" = some m.cls := findClass_of_methodNamed Bd.named
  have hnm := (name_of_methodNamed Bd.named Bd.method).1
  have X0 : Stand p l e ({ frames := 3, cells := 0, slots := 0, locals := 36 } : Room) s m #[(.ref a)] below meth c s₁ [] 0 0 := Stand.of_body Bd
  have e0 : s₁.heap = h0 := by rw [← hh, Bd.state]; rfl
  have Nf := Fr.nil n0
  have Zs : n0 ≤ h0.size := Z0
  have Kp : Keep h0 h0 [a] := Keep.refl _ _
  have szr : h0.size ≤ h0.size := Nat.le_refl _
  show own_End p e below (PAlI Z a de h0 n0 s) (s₁.setTop (entryFrame m #[(.ref a)] 1))
  rw [ef_AlI]
  refine own_go (fun tQ kQ => XS.aloadN X0.here hx rfl (hb hby dAlI_0) rfl rfl kQ) ?_
  show own_End p e below _ (s₁.setTop (mkF m 1 #[.val (.ref a)] [(.ref a)]))
  obtain ⟨_, _, ⟨T1, L1, k1, n1⟩, -, X1, ⟨Lc1, hQ1, l1, y1, z1⟩, st1⟩ := X0.specialBack hx (y := (⟨"java/util/AbstractList", "<init>", "()V"⟩ : MethodName)) rfl hown (mvT hZ (hw _ (List.mem_of_getElem? (i := 111) rfl))) (mvT hZ (hw _ (List.mem_of_getElem? (i := 112) rfl))) (mvT hZ (hw _ (List.mem_of_getElem? (i := 116) rfl))) (by decide) (backOf (W := 0) (rmAbL l Z a0 hw [] a h0 n0 Zs E_a F_modCount_a F_elementData_a F_size_a g_a) hZ (hw _ (List.mem_of_getElem? (i := 116) rfl)) (hw _ (List.mem_of_getElem? (i := 115) rfl)) (by decide) (by decide)) (g := (mkF m 1 #[.val (.ref a)] [(.ref a)])) rfl (by rw [hml]; rfl) (Steps.refl _) (a := a) (argsL := []) (rest := []) (lenOf pd_2 rfl) rfl (by show 2 * 0 + _ ≤ _; exact Nat.le_of_eq rfl) (hb hby dAlI_1) (fun _ _ => ⟨rfl, e0, (Nat.le_of_ble_eq_true rfl), (Nat.le_of_ble_eq_true rfl)⟩)
  dsimp only [Pt.U, Pt.locs, Pt.cells, Pt.slots] at X1 l1 y1 z1 st1 hQ1
  rw [l1, y1, z1] at X1
  obtain ⟨rfl, N1q, K1, F_modCount_a, F_elementData_a, F_size_a⟩ := hQ1
  have Nf := Fr.app Nf N1q
  have E_a := E_a.keep K1
  have Ol := Ol.keep K1 (allS g_a all0)
  have Kp := Kp.trans K1 (allS (Or.inl (List.mem_of_getElem? (i := 0) rfl)) all0)
  have Zs := Nat.le_trans Zs K1.1
  have szr := Nat.le_trans szr K1.1
  have X1 := own_pad (k' := 0) (n' := 0) X1 (by decide) (by decide)
  refine own_go (fun tQ kQ => st1.trans kQ) ?_
  show own_End p e below _ (T1.setTop (mkF m 4 #[.val (.ref a)] []))
  refine own_go (fun tQ kQ => XS.aloadN X1.here hx rfl (hb hby dAlI_4) rfl rfl kQ) ?_
  show own_End p e below _ (T1.setTop (mkF m 5 #[.val (.ref a)] [(.ref a)]))
  obtain ⟨T2, X2, e2, st2⟩ := getS2 X1 hx hZ hown (host := "") (Or.inl (hw _ (List.mem_of_getElem? (i := 126) rfl))) Via.refl rfl (S_de.ext Ol.2) (g := (mkF m 5 #[.val (.ref a)] [(.ref a)])) rfl (hb hby dAlI_5)
  refine own_go (fun tQ kQ => st2 tQ kQ) ?_
  show own_End p e below _ (T2.setTop (mkF m 8 #[.val (.ref a)] [(.ref de), (.ref a)]))
  obtain ⟨T3, h3, X3, e3, W3, st3⟩ := putF X2 hx hZ hown (host := "") (Or.inl (hw _ (List.mem_of_getElem? (i := 127) rfl))) Via.refl e2 F_elementData_a E_a (Or.inl (hw _ (List.mem_of_getElem? (i := 128) rfl))) (hw _ (List.mem_of_getElem? (i := 106) rfl)) (ty := (.array (.object "java/lang/Object"))) (by decide) rfl rfl (g := (mkF m 8 #[.val (.ref a)] [(.ref de), (.ref a)])) rfl rfl (hb hby dAlI_8)
  have F_elementData_a := F_elementData_a.same W3
  have E_a := E_a.wr W3
  have Ol := Ol.wr W3 g_a
  have F_modCount_a := F_modCount_a.other W3 (Or.inr (slot_ne (Or.inl (hw _ (List.mem_of_getElem? (i := 125) rfl))) (Or.inl (hw _ (List.mem_of_getElem? (i := 128) rfl))) (by decide) (t := .int) (t' := (.array (.object "java/lang/Object"))) (by decide) (by decide)))
  have F_size_a := F_size_a.other W3 (Or.inr (slot_ne (Or.inl (hw _ (List.mem_of_getElem? (i := 165) rfl))) (Or.inl (hw _ (List.mem_of_getElem? (i := 128) rfl))) (by decide) (t := .int) (t' := (.array (.object "java/lang/Object"))) (by decide) (by decide)))
  have Kp := Kp.wr W3 (Or.inl (List.mem_of_getElem? (i := 0) rfl))
  have Nf := Fr.snoc X3 Nf g_a
  have Zs := Nat.le_trans Zs (Keep.of_wr W3).1
  have szr := Nat.le_trans szr (Keep.of_wr W3).1
  refine own_go (fun tQ kQ => st3 tQ kQ) ?_
  show own_End p e below _ (T3.setTop (mkF m 11 #[.val (.ref a)] []))
  obtain ⟨fs, hr, hrun, hended, hW, hsame⟩ := X3.leave (v := none) (fun _ => rfl)
  refine ⟨_, _, X3.returnOut hx Bd.returns (hb hby dAlI_11) hr, hrun, hended, _, _, rfl, ?_, ⟨_, rfl⟩, hW, hsame.mono (by decide) (by decide)⟩
  show QAlI Z a de h0 n0 _ T3.heap _
  rw [e3]
  exact ⟨rfl, Nf, Kp, F_modCount_a, F_elementData_a, F_size_a⟩
theorem dmx_0 : decode jdk_29_method_65_code 0 = .ok (.iload_n 0, 1) := by decide +kernel
theorem dmx_1 : decode jdk_29_method_65_code 1 = .ok (.iload_n 1, 1) := by decide +kernel
theorem dmx_2 : decode jdk_29_method_65_code 2 = .ok (.if_icmp .lt 7, 3) := by decide +kernel
theorem dmx_5 : decode jdk_29_method_65_code 5 = .ok (.iload_n 0, 1) := by decide +kernel
theorem dmx_6 : decode jdk_29_method_65_code 6 = .ok (.goto 4, 3) := by decide +kernel
theorem dmx_10 : decode jdk_29_method_65_code 10 = .ok (.ireturn, 1) := by decide +kernel
theorem ef_mx (m : MethodId) (x0 : Int32) (x1 : Int32) : entryFrame m #[(.int x0), (.int x1)] 2 = mkF m 0 #[.val (.int x0), .val (.int x1)] [] := by first | (simp [entryFrame, mkF, argsToLocals, Value.category]; done) | rfl
def Qmx (Z : State) (i1 : Int32) (i2 : Int32) (h0 : Heap) (n0 : Nat) (v : Option Value) (h : Heap) (L : List Loc) : Prop := v = some (.int i1) ∧ Fr n0 L ∧ h = h0
def Pmx (Z : State) (i1 : Int32) (i2 : Int32) (h0 : Heap) (n0 : Nat) (s : State) (oQ : Outcome) (U : State) : Prop := ∃ v L, oQ = .returned v ∧ Qmx Z i1 i2 h0 n0 v U.heap L ∧ FrameEnd s oQ U L ({ frames := 0, cells := 0, slots := 0, locals := 0 } : Room).cells ({ frames := 0, cells := 0, slots := 0, locals := 0 } : Room).slots
set_option maxRecDepth 65536 in
set_option maxHeartbeats 40000000 in
theorem rmmx (l : Launch) (Z : State) (a0 : Array Value) (hw : ∀ d ∈ tables_1, d.before a0 Z = true) (ws : List Jvm.Cond) (i1 : Int32) (i2 : Int32) (h0 : Heap) (n0 : Nat) (Z0 : n0 ≤ h0.size) (hm : ¬ i1 < i2) :
    MetFree l (⟨"java/lang/Math", "max", "(II)I"⟩ : MethodName) (head1 (Jvm.Cond.code (⟨"java/lang/Math", "max", "(II)I"⟩ : MethodName) jdk_29_method_65_code 2 (some .int) :: ws) ({ frames := 0, cells := 0, slots := 0, locals := 0 } : Room)) (fun aQ U => aQ = #[(.int i1), (.int i2)] ∧ Z.Warmed39 U.vm ∧ U.heap = h0) (fun _ _ _ _ _ => True) (fun _ U oQ U' => ∃ v L, oQ = .returned v ∧ Qmx Z i1 i2 h0 n0 v U'.heap L ∧ FrameEnd U oQ U' L ({ frames := 0, cells := 0, slots := 0, locals := 0 } : Room).cells ({ frames := 0, cells := 0, slots := 0, locals := 0 } : Room).slots) := by
  refine MetFree.of_bodySF (Jvm.Free.JP.mathPlain rfl (by decide +kernel)) hisR ?_
  intro p e s m args below meth c s₁ Bd hml0 hP hK
  obtain ⟨rfl, hZ, hh⟩ := hP
  have hx := Bd.exec
  have hby := Bd.bytes
  have hml : c.maxLocals = 2 := hml0
  have hown : s.vm.findClass "java/lang/Math" = some m.cls := findClass_of_methodNamed Bd.named
  have hnm := (name_of_methodNamed Bd.named Bd.method).1
  have X0 : Stand p l e ({ frames := 0, cells := 0, slots := 0, locals := 0 } : Room) s m #[(.int i1), (.int i2)] below meth c s₁ [] 0 0 := Stand.of_body Bd
  have e0 : s₁.heap = h0 := by rw [← hh, Bd.state]; rfl
  have Nf := Fr.nil n0
  have Zs : n0 ≤ h0.size := Z0
  have Kp : Keep h0 h0 [] := Keep.refl _ _
  have szr : h0.size ≤ h0.size := Nat.le_refl _
  show own_End p e below (Pmx Z i1 i2 h0 n0 s) (s₁.setTop (entryFrame m #[(.int i1), (.int i2)] 2))
  rw [ef_mx]
  refine own_go (fun tQ kQ => XS.iloadN X0.here hx rfl (hb hby dmx_0) rfl kQ) ?_
  show own_End p e below _ (s₁.setTop (mkF m 1 #[.val (.int i1), .val (.int i2)] [(.int i1)]))
  refine own_go (fun tQ kQ => XS.iloadN X0.here hx rfl (hb hby dmx_1) rfl kQ) ?_
  show own_End p e below _ (s₁.setTop (mkF m 2 #[.val (.int i1), .val (.int i2)] [(.int i2), (.int i1)]))
  refine own_go (fun tQ kQ => XS.icmpNo X0.here hx rfl (hb hby dmx_2) rfl (flt hm).1 kQ) ?_
  show own_End p e below _ (s₁.setTop (mkF m 5 #[.val (.int i1), .val (.int i2)] []))
  refine own_go (fun tQ kQ => XS.iloadN X0.here hx rfl (hb hby dmx_5) rfl kQ) ?_
  show own_End p e below _ (s₁.setTop (mkF m 6 #[.val (.int i1), .val (.int i2)] [(.int i1)]))
  refine own_go (fun tQ kQ => XS.goto X0.here hx rfl (pc0 := 6) (pc' := 10) rfl (hb hby dmx_6) (by decide) (by decide) kQ) ?_
  show own_End p e below _ (s₁.setTop (mkF m 10 #[.val (.int i1), .val (.int i2)] [(.int i1)]))
  obtain ⟨fs, hr, hrun, hended, hW, hsame⟩ := X0.leave (v := some (.int i1)) (fun h => by rw [Bd.returns] at h; cases h)
  refine ⟨_, _, (retI X0 hx Bd.returns (hb hby dmx_10) hr), hrun, hended, _, _, rfl, ?_, ⟨_, rfl⟩, hW, hsame.mono (by decide) (by decide)⟩
  show Qmx Z i1 i2 h0 n0 _ s₁.heap _
  rw [e0]
  exact ⟨rfl, Nf, rfl⟩
theorem dmn_0 : decode jdk_29_method_69_code 0 = .ok (.iload_n 0, 1) := by decide +kernel
theorem dmn_1 : decode jdk_29_method_69_code 1 = .ok (.iload_n 1, 1) := by decide +kernel
theorem dmn_2 : decode jdk_29_method_69_code 2 = .ok (.if_icmp .gt 7, 3) := by decide +kernel
theorem dmn_9 : decode jdk_29_method_69_code 9 = .ok (.iload_n 1, 1) := by decide +kernel
theorem dmn_10 : decode jdk_29_method_69_code 10 = .ok (.ireturn, 1) := by decide +kernel
theorem ef_mn (m : MethodId) (x0 : Int32) (x1 : Int32) : entryFrame m #[(.int x0), (.int x1)] 2 = mkF m 0 #[.val (.int x0), .val (.int x1)] [] := by first | (simp [entryFrame, mkF, argsToLocals, Value.category]; done) | rfl
def Qmn (Z : State) (i1 : Int32) (i2 : Int32) (h0 : Heap) (n0 : Nat) (v : Option Value) (h : Heap) (L : List Loc) : Prop := v = some (.int i2) ∧ Fr n0 L ∧ h = h0
def Pmn (Z : State) (i1 : Int32) (i2 : Int32) (h0 : Heap) (n0 : Nat) (s : State) (oQ : Outcome) (U : State) : Prop := ∃ v L, oQ = .returned v ∧ Qmn Z i1 i2 h0 n0 v U.heap L ∧ FrameEnd s oQ U L ({ frames := 0, cells := 0, slots := 0, locals := 0 } : Room).cells ({ frames := 0, cells := 0, slots := 0, locals := 0 } : Room).slots
set_option maxRecDepth 65536 in
set_option maxHeartbeats 40000000 in
theorem rmmn (l : Launch) (Z : State) (a0 : Array Value) (hw : ∀ d ∈ tables_1, d.before a0 Z = true) (ws : List Jvm.Cond) (i1 : Int32) (i2 : Int32) (h0 : Heap) (n0 : Nat) (Z0 : n0 ≤ h0.size) (hm : i2 < i1) :
    MetFree l (⟨"java/lang/Math", "min", "(II)I"⟩ : MethodName) (head1 (Jvm.Cond.code (⟨"java/lang/Math", "min", "(II)I"⟩ : MethodName) jdk_29_method_69_code 2 (some .int) :: ws) ({ frames := 0, cells := 0, slots := 0, locals := 0 } : Room)) (fun aQ U => aQ = #[(.int i1), (.int i2)] ∧ Z.Warmed39 U.vm ∧ U.heap = h0) (fun _ _ _ _ _ => True) (fun _ U oQ U' => ∃ v L, oQ = .returned v ∧ Qmn Z i1 i2 h0 n0 v U'.heap L ∧ FrameEnd U oQ U' L ({ frames := 0, cells := 0, slots := 0, locals := 0 } : Room).cells ({ frames := 0, cells := 0, slots := 0, locals := 0 } : Room).slots) := by
  refine MetFree.of_bodySF (Jvm.Free.JP.mathPlain rfl (by decide +kernel)) hisR ?_
  intro p e s m args below meth c s₁ Bd hml0 hP hK
  obtain ⟨rfl, hZ, hh⟩ := hP
  have hx := Bd.exec
  have hby := Bd.bytes
  have hml : c.maxLocals = 2 := hml0
  have hown : s.vm.findClass "java/lang/Math" = some m.cls := findClass_of_methodNamed Bd.named
  have hnm := (name_of_methodNamed Bd.named Bd.method).1
  have X0 : Stand p l e ({ frames := 0, cells := 0, slots := 0, locals := 0 } : Room) s m #[(.int i1), (.int i2)] below meth c s₁ [] 0 0 := Stand.of_body Bd
  have e0 : s₁.heap = h0 := by rw [← hh, Bd.state]; rfl
  have Nf := Fr.nil n0
  have Zs : n0 ≤ h0.size := Z0
  have Kp : Keep h0 h0 [] := Keep.refl _ _
  have szr : h0.size ≤ h0.size := Nat.le_refl _
  show own_End p e below (Pmn Z i1 i2 h0 n0 s) (s₁.setTop (entryFrame m #[(.int i1), (.int i2)] 2))
  rw [ef_mn]
  refine own_go (fun tQ kQ => XS.iloadN X0.here hx rfl (hb hby dmn_0) rfl kQ) ?_
  show own_End p e below _ (s₁.setTop (mkF m 1 #[.val (.int i1), .val (.int i2)] [(.int i1)]))
  refine own_go (fun tQ kQ => XS.iloadN X0.here hx rfl (hb hby dmn_1) rfl kQ) ?_
  show own_End p e below _ (s₁.setTop (mkF m 2 #[.val (.int i1), .val (.int i2)] [(.int i2), (.int i1)]))
  refine own_go (fun tQ kQ => XS.icmpYes X0.here hx rfl (pc0 := 2) (pc' := 9) rfl (hb hby dmn_2) rfl (tlt hm).2.2.1 (by decide) (by decide) kQ) ?_
  show own_End p e below _ (s₁.setTop (mkF m 9 #[.val (.int i1), .val (.int i2)] []))
  refine own_go (fun tQ kQ => XS.iloadN X0.here hx rfl (hb hby dmn_9) rfl kQ) ?_
  show own_End p e below _ (s₁.setTop (mkF m 10 #[.val (.int i1), .val (.int i2)] [(.int i2)]))
  obtain ⟨fs, hr, hrun, hended, hW, hsame⟩ := X0.leave (v := some (.int i2)) (fun h => by rw [Bd.returns] at h; cases h)
  refine ⟨_, _, (retI X0 hx Bd.returns (hb hby dmn_10) hr), hrun, hended, _, _, rfl, ?_, ⟨_, rfl⟩, hW, hsame.mono (by decide) (by decide)⟩
  show Qmn Z i1 i2 h0 n0 _ s₁.heap _
  rw [e0]
  exact ⟨rfl, Nf, rfl⟩
theorem pd_7 : parseMethodDescriptor "(II)I" = some ⟨[.int, .int], some .int⟩ := by decide +kernel
theorem dgr_0 : decode jdk_38_method_6_code 0 = .ok (.aload_n 0, 1) := by decide +kernel
theorem dgr_1 : decode jdk_38_method_6_code 1 = .ok (.getfield 9, 3) := by decide +kernel
theorem dgr_4 : decode jdk_38_method_6_code 4 = .ok (.arraylength, 1) := by decide +kernel
theorem dgr_5 : decode jdk_38_method_6_code 5 = .ok (.istore_n 2, 1) := by decide +kernel
theorem dgr_6 : decode jdk_38_method_6_code 6 = .ok (.iload_n 2, 1) := by decide +kernel
theorem dgr_7 : decode jdk_38_method_6_code 7 = .ok (.ifCond .gt 13, 3) := by decide +kernel
theorem dgr_10 : decode jdk_38_method_6_code 10 = .ok (.aload_n 0, 1) := by decide +kernel
theorem dgr_11 : decode jdk_38_method_6_code 11 = .ok (.getfield 9, 3) := by decide +kernel
theorem dgr_14 : decode jdk_38_method_6_code 14 = .ok (.getstatic 39, 3) := by decide +kernel
theorem dgr_17 : decode jdk_38_method_6_code 17 = .ok (.if_acmp .eq 28, 3) := by decide +kernel
theorem dgr_45 : decode jdk_38_method_6_code 45 = .ok (.aload_n 0, 1) := by decide +kernel
theorem dgr_46 : decode jdk_38_method_6_code 46 = .ok (.bipush 10, 2) := by decide +kernel
theorem dgr_48 : decode jdk_38_method_6_code 48 = .ok (.iload_n 1, 1) := by decide +kernel
theorem dgr_49 : decode jdk_38_method_6_code 49 = .ok (.invokestatic 79, 3) := by decide +kernel
theorem dgr_52 : decode jdk_38_method_6_code 52 = .ok (.anewarray 7, 3) := by decide +kernel
theorem dgr_55 : decode jdk_38_method_6_code 55 = .ok (.dup_x1, 1) := by decide +kernel
theorem dgr_56 : decode jdk_38_method_6_code 56 = .ok (.putfield 9, 3) := by decide +kernel
theorem dgr_59 : decode jdk_38_method_6_code 59 = .ok (.areturn, 1) := by decide +kernel
theorem ef_gr (m : MethodId) (x0 : Addr) (x1 : Int32) : entryFrame m #[(.ref x0), (.int x1)] 4 = mkF m 0 #[.val (.ref x0), .val (.int x1), .unset, .unset] [] := by first | (simp [entryFrame, mkF, argsToLocals, Value.category]; done) | rfl
def Qgr (Z : State) (a : Addr) (de : Addr) (fd : Nat → Value) (mc : Int32) (mi : Int32) (h0 : Heap) (n0 : Nat) (v : Option Value) (h : Heap) (L : List Loc) : Prop := ∃ b, v = some (.ref b) ∧ Fr n0 L ∧ Keep h0 h [a] ∧ h0.size ≤ b ∧ Fld Z h a "java/util/AbstractList" "modCount" "I" (.int mc) ∧ Fld Z h a "java/util/ArrayList" "elementData" "[Ljava/lang/Object;" (.ref b) ∧ Fld Z h a "java/util/ArrayList" "size" "I" (.int (0 : Int32)) ∧ Exa Z h b "[Ljava/lang/Object;" ∧ own_Rr Z h b "java/lang/Object" (10 : Int32) (fun _ => .null)
def Pgr (Z : State) (a : Addr) (de : Addr) (fd : Nat → Value) (mc : Int32) (mi : Int32) (h0 : Heap) (n0 : Nat) (s : State) (oQ : Outcome) (U : State) : Prop := ∃ v L, oQ = .returned v ∧ Qgr Z a de fd mc mi h0 n0 v U.heap L ∧ FrameEnd s oQ U L ({ frames := 1, cells := 1, slots := 10, locals := 14 } : Room).cells ({ frames := 1, cells := 1, slots := 10, locals := 14 } : Room).slots
set_option maxRecDepth 65536 in
set_option maxHeartbeats 40000000 in
theorem rmgr (l : Launch) (Z : State) (a0 : Array Value) (hw : ∀ d ∈ tables_1, d.before a0 Z = true) (ws : List Jvm.Cond) (a : Addr) (de : Addr) (fd : Nat → Value) (mc : Int32) (mi : Int32) (h0 : Heap) (n0 : Nat) (Z0 : n0 ≤ h0.size) (E_a : Exa Z h0 a "java/util/ArrayList") (F_modCount_a : Fld Z h0 a "java/util/AbstractList" "modCount" "I" (.int mc)) (F_elementData_a : Fld Z h0 a "java/util/ArrayList" "elementData" "[Ljava/lang/Object;" (.ref de)) (F_size_a : Fld Z h0 a "java/util/ArrayList" "size" "I" (.int (0 : Int32))) (g_a : n0 ≤ a) (Ol : Old Z n0 h0) (S_de : Sta Z Z.heap "java/util/ArrayList" "DEFAULTCAPACITY_EMPTY_ELEMENTDATA" "[Ljava/lang/Object;" (.ref de)) (V_de : own_Ar Z Z.heap de (.object "java/lang/Object") (0 : Int32) fd) (hmn : ¬ (10 : Int32) < mi) :
    MetFree l (⟨"java/util/ArrayList", "grow", "(I)[Ljava/lang/Object;"⟩ : MethodName) (head1 (Jvm.Cond.code (⟨"java/util/ArrayList", "grow", "(I)[Ljava/lang/Object;"⟩ : MethodName) jdk_38_method_6_code 4 (some (.array (.object "java/lang/Object"))) :: ws) ({ frames := 1, cells := 1, slots := 10, locals := 14 } : Room)) (fun aQ U => aQ = #[(.ref a), (.int mi)] ∧ Z.Warmed39 U.vm ∧ U.heap = h0) (fun _ _ _ _ _ => True) (fun _ U oQ U' => ∃ v L, oQ = .returned v ∧ Qgr Z a de fd mc mi h0 n0 v U'.heap L ∧ FrameEnd U oQ U' L ({ frames := 1, cells := 1, slots := 10, locals := 14 } : Room).cells ({ frames := 1, cells := 1, slots := 10, locals := 14 } : Room).slots) := by
  refine MetFree.of_bodySF (plainFor_of_name pn_6) hisR ?_
  intro p e s m args below meth c s₁ Bd hml0 hP hK
  obtain ⟨rfl, hZ, hh⟩ := hP
  have hx := Bd.exec
  have hby := Bd.bytes
  have hml : c.maxLocals = 4 := hml0
  have hown : s.vm.findClass "java/util/ArrayList" = some m.cls := findClass_of_methodNamed Bd.named
  have hnm := (name_of_methodNamed Bd.named Bd.method).1
  have X0 : Stand p l e ({ frames := 1, cells := 1, slots := 10, locals := 14 } : Room) s m #[(.ref a), (.int mi)] below meth c s₁ [] 0 0 := Stand.of_body Bd
  have e0 : s₁.heap = h0 := by rw [← hh, Bd.state]; rfl
  have Nf := Fr.nil n0
  have Zs : n0 ≤ h0.size := Z0
  have Kp : Keep h0 h0 [a] := Keep.refl _ _
  have szr : h0.size ≤ h0.size := Nat.le_refl _
  show own_End p e below (Pgr Z a de fd mc mi h0 n0 s) (s₁.setTop (entryFrame m #[(.ref a), (.int mi)] 4))
  rw [ef_gr]
  have V_d := V_de.ext Ol.2
  refine own_go (fun tQ kQ => XS.aloadN X0.here hx rfl (hb hby dgr_0) rfl rfl kQ) ?_
  show own_End p e below _ (s₁.setTop (mkF m 1 #[.val (.ref a), .val (.int mi), .unset, .unset] [(.ref a)]))
  obtain ⟨T1, X1, e1, st1⟩ := getF X0 hx hZ hown (host := "") (Or.inl (hw _ (List.mem_of_getElem? (i := 127) rfl))) Via.refl e0 F_elementData_a (g := (mkF m 1 #[.val (.ref a), .val (.int mi), .unset, .unset] [(.ref a)])) rfl rfl (hb hby dgr_1)
  refine own_go (fun tQ kQ => st1 tQ kQ) ?_
  show own_End p e below _ (T1.setTop (mkF m 4 #[.val (.ref a), .val (.int mi), .unset, .unset] [(.ref de)]))
  obtain ⟨cl2, Ar2, S2, M2, H2⟩ := id V_d
  refine own_go (fun tQ kQ => X1.arraylength hx (by rw [e1]; exact Ar2.1) (State.isArrayOf_alike hZ.alike Ar2.2.1) (g := (mkF m 4 #[.val (.ref a), .val (.int mi), .unset, .unset] [(.ref de)])) rfl rfl (hb hby dgr_4) _ kQ) ?_
  rw [len_of S2 M2]
  show own_End p e below _ (T1.setTop (mkF m 5 #[.val (.ref a), .val (.int mi), .unset, .unset] [(.int (0 : Int32))]))
  refine own_go (fun tQ kQ => XS.istoreN X1.here hx rfl (hb hby dgr_5) rfl (l' := #[.val (.ref a), .val (.int mi), .val (.int (0 : Int32)), .unset]) rfl kQ) ?_
  show own_End p e below _ (T1.setTop (mkF m 6 #[.val (.ref a), .val (.int mi), .val (.int (0 : Int32)), .unset] []))
  refine own_go (fun tQ kQ => XS.iloadN X1.here hx rfl (hb hby dgr_6) rfl kQ) ?_
  show own_End p e below _ (T1.setTop (mkF m 7 #[.val (.ref a), .val (.int mi), .val (.int (0 : Int32)), .unset] [(.int (0 : Int32))]))
  refine own_go (fun tQ kQ => XS.ifNo X1.here hx rfl (hb hby dgr_7) rfl ((if0 _ _).trans (flt (by decide)).2.2.1) kQ) ?_
  show own_End p e below _ (T1.setTop (mkF m 10 #[.val (.ref a), .val (.int mi), .val (.int (0 : Int32)), .unset] []))
  refine own_go (fun tQ kQ => XS.aloadN X1.here hx rfl (hb hby dgr_10) rfl rfl kQ) ?_
  show own_End p e below _ (T1.setTop (mkF m 11 #[.val (.ref a), .val (.int mi), .val (.int (0 : Int32)), .unset] [(.ref a)]))
  obtain ⟨T3, X3, e3, st3⟩ := getF X1 hx hZ hown (host := "") (Or.inl (hw _ (List.mem_of_getElem? (i := 127) rfl))) Via.refl e1 F_elementData_a (g := (mkF m 11 #[.val (.ref a), .val (.int mi), .val (.int (0 : Int32)), .unset] [(.ref a)])) rfl rfl (hb hby dgr_11)
  refine own_go (fun tQ kQ => st3 tQ kQ) ?_
  show own_End p e below _ (T3.setTop (mkF m 14 #[.val (.ref a), .val (.int mi), .val (.int (0 : Int32)), .unset] [(.ref de)]))
  obtain ⟨T4, X4, e4, st4⟩ := getS2 X3 hx hZ hown (host := "") (Or.inl (hw _ (List.mem_of_getElem? (i := 126) rfl))) Via.refl e3 (S_de.ext Ol.2) (g := (mkF m 14 #[.val (.ref a), .val (.int mi), .val (.int (0 : Int32)), .unset] [(.ref de)])) rfl (hb hby dgr_14)
  refine own_go (fun tQ kQ => st4 tQ kQ) ?_
  show own_End p e below _ (T4.setTop (mkF m 17 #[.val (.ref a), .val (.int mi), .val (.int (0 : Int32)), .unset] [(.ref de), (.ref de)]))
  refine own_go (fun tQ kQ => Jvm.RoadKit.acmp (g := (mkF m 17 #[.val (.ref a), .val (.int mi), .val (.int (0 : Int32)), .unset] [(.ref de), (.ref de)])) X4 hx rfl rfl rfl (pc0 := 17) (pc' := 45) (same := true) rfl (hb hby dgr_17) rfl (decide_eq_true rfl) (by decide) (by decide) kQ) ?_
  show own_End p e below _ (T4.setTop (mkF m 45 #[.val (.ref a), .val (.int mi), .val (.int (0 : Int32)), .unset] []))
  refine own_go (fun tQ kQ => XS.aloadN X4.here hx rfl (hb hby dgr_45) rfl rfl kQ) ?_
  show own_End p e below _ (T4.setTop (mkF m 46 #[.val (.ref a), .val (.int mi), .val (.int (0 : Int32)), .unset] [(.ref a)]))
  refine own_go (fun tQ kQ => XS.bipush X4.here hx rfl (hb hby dgr_46) kQ) ?_
  show own_End p e below _ (T4.setTop (mkF m 48 #[.val (.ref a), .val (.int mi), .val (.int (0 : Int32)), .unset] [(.int (10 : Int32)), (.ref a)]))
  refine own_go (fun tQ kQ => XS.iloadN X4.here hx rfl (hb hby dgr_48) rfl kQ) ?_
  show own_End p e below _ (T4.setTop (mkF m 49 #[.val (.ref a), .val (.int mi), .val (.int (0 : Int32)), .unset] [(.int mi), (.int (10 : Int32)), (.ref a)]))
  obtain ⟨_, _, ⟨T5, L5, k5, n5⟩, -, X5, ⟨Lc5, hQ5, l5, y5, z5⟩, st5⟩ := Jvm.LawKit.callS X4 hx (y := (⟨"java/lang/Math", "max", "(II)I"⟩ : MethodName)) hown (mvT hZ (hw _ (List.mem_of_getElem? (i := 210) rfl))) (mvT hZ (hw _ (List.mem_of_getElem? (i := 211) rfl))) (mvT hZ (hw _ (List.mem_of_getElem? (i := 212) rfl))) (mvT hZ (hw _ (List.mem_of_getElem? (i := 213) rfl))) (by decide) (backOf (W := 1) (rmmx l Z a0 hw [] (10 : Int32) mi h0 n0 Zs hmn) hZ (hw _ (List.mem_of_getElem? (i := 213) rfl)) (hw _ (List.mem_of_getElem? (i := 212) rfl)) (by decide) (by decide)) (g := (mkF m 49 #[.val (.ref a), .val (.int mi), .val (.int (0 : Int32)), .unset] [(.int mi), (.int (10 : Int32)), (.ref a)])) rfl (by rw [hml]; rfl) (argsL := [(.int (10 : Int32)), (.int mi)]) (rest := [(.ref a)]) (lenOf pd_7 rfl) rfl (by show 2 * 0 + _ ≤ _; exact Nat.le_of_eq rfl) (hb hby dgr_49) (fun _ _ => ⟨rfl, e4, (Nat.le_of_ble_eq_true rfl), (Nat.le_of_ble_eq_true rfl)⟩)
  dsimp only [Pt.U, Pt.locs, Pt.cells, Pt.slots] at X5 l5 y5 z5 st5 hQ5
  rw [l5, y5, z5] at X5
  obtain ⟨rfl, N5q, e5⟩ := hQ5
  have Nf := Fr.app Nf N5q
  have X5 := own_pad (k' := 0) (n' := 0) X5 (by decide) (by decide)
  refine own_go (fun tQ kQ => st5 tQ kQ) ?_
  show own_End p e below _ (T5.setTop (mkF m 52 #[.val (.ref a), .val (.int mi), .val (.int (0 : Int32)), .unset] [(.int (10 : Int32)), (.ref a)]))
  obtain ⟨T6, h6, k6, X6, e6, E6, A6, Ex6, O6, st6⟩ := newRE X5 hx hZ hown (hw _ (List.mem_of_getElem? (i := 214) rfl)) (hw _ (List.mem_of_getElem? (i := 215) rfl)) e5 (g := (mkF m 52 #[.val (.ref a), .val (.int mi), .val (.int (0 : Int32)), .unset] [(.int (10 : Int32)), (.ref a)])) rfl (hb hby dgr_52) rfl (by decide) (cap := 10) (by decide) (by decide) (by decide) (by decide) (ad := "[Ljava/lang/Object;") (by decide)
  obtain ⟨b, g6⟩ : ∃ z, z = h0.size := ⟨_, rfl⟩
  rw [← g6] at A6 Ex6 st6
  have ne_a_b : a ≠ b := Nat.ne_of_lt (Nat.lt_of_lt_of_le E_a.lt (Nat.le_of_eq g6.symm))
  have g_b : n0 ≤ b := Nat.le_trans Zs (Nat.le_of_eq g6.symm)
  have sz_b : h0.size ≤ b := Nat.le_trans szr (Nat.le_of_eq g6.symm)
  have E_a := E_a.ext E6
  have F_modCount_a := F_modCount_a.ext E6
  have F_elementData_a := F_elementData_a.ext E6
  have F_size_a := F_size_a.ext E6
  have Ol := Ol.ext E6
  have Kp := Kp.ext E6
  have Zs := Nat.le_trans Zs E6.1
  have szr := Nat.le_trans szr E6.1
  have E_b := Ex6
  have V_b : own_Rr Z h6 b "java/lang/Object" (10 : Int32) (fun _ => .null) := own_Rr.new A6 O6 (by decide)
  have X6 := own_pad (k' := 1) (n' := 10) X6 (by decide) (by decide)
  refine own_go (fun tQ kQ => st6 tQ kQ) ?_
  show own_End p e below _ (T6.setTop (mkF m 55 #[.val (.ref a), .val (.int mi), .val (.int (0 : Int32)), .unset] [(.ref b), (.ref a)]))
  refine own_go (fun tQ kQ => XS.dupX1 X6.here hx rfl (hb hby dgr_55) rfl rfl rfl kQ) ?_
  show own_End p e below _ (T6.setTop (mkF m 56 #[.val (.ref a), .val (.int mi), .val (.int (0 : Int32)), .unset] [(.ref b), (.ref a), (.ref b)]))
  obtain ⟨T7, h7, X7, e7, W7, st7⟩ := putF X6 hx hZ hown (host := "") (Or.inl (hw _ (List.mem_of_getElem? (i := 127) rfl))) Via.refl e6 F_elementData_a E_a (Or.inl (hw _ (List.mem_of_getElem? (i := 128) rfl))) (hw _ (List.mem_of_getElem? (i := 106) rfl)) (ty := (.array (.object "java/lang/Object"))) (by decide) rfl rfl (g := (mkF m 56 #[.val (.ref a), .val (.int mi), .val (.int (0 : Int32)), .unset] [(.ref b), (.ref a), (.ref b)])) rfl rfl (hb hby dgr_56)
  have F_elementData_a := F_elementData_a.same W7
  have E_a := E_a.wr W7
  have F_modCount_a := F_modCount_a.other W7 (Or.inr (slot_ne (Or.inl (hw _ (List.mem_of_getElem? (i := 125) rfl))) (Or.inl (hw _ (List.mem_of_getElem? (i := 128) rfl))) (by decide) (t := .int) (t' := (.array (.object "java/lang/Object"))) (by decide) (by decide)))
  have F_size_a := F_size_a.other W7 (Or.inr (slot_ne (Or.inl (hw _ (List.mem_of_getElem? (i := 165) rfl))) (Or.inl (hw _ (List.mem_of_getElem? (i := 128) rfl))) (by decide) (t := .int) (t' := (.array (.object "java/lang/Object"))) (by decide) (by decide)))
  have Ol := Ol.wr W7 g_a
  have E_b := E_b.wr W7
  have V_b := V_b.other W7 (Ne.symm ne_a_b)
  have Kp := Kp.wr W7 (Or.inl (List.mem_of_getElem? (i := 0) rfl))
  have Nf := Fr.snoc X7 Nf g_a
  have Zs := Nat.le_trans Zs (Keep.of_wr W7).1
  have szr := Nat.le_trans szr (Keep.of_wr W7).1
  refine own_go (fun tQ kQ => st7 tQ kQ) ?_
  show own_End p e below _ (T7.setTop (mkF m 59 #[.val (.ref a), .val (.int mi), .val (.int (0 : Int32)), .unset] [(.ref b)]))
  obtain ⟨fs, hr, hrun, hended, hW, hsame⟩ := X7.leave (v := some (.ref b)) (fun h => by rw [Bd.returns] at h; cases h)
  refine ⟨_, _, ?_, hrun, hended, _, _, rfl, ?_, ⟨_, rfl⟩, hW, hsame.mono (by decide) (by decide)⟩
  · exact (by
      jvm_step X7.here [X7.here.top, hx, (hb hby dgr_59), X7.method', Bd.returns, Value.isRef, FieldType.isReference, narrow]
      first | (intro acts; rw [hr _ acts rfl rfl rfl]) | rw [hr _ _ rfl rfl rfl]
      exact Steps.refl _)
  · show Qgr Z a de fd mc mi h0 n0 _ T7.heap _
    rw [e7]
    exact ⟨b, rfl, Nf, Kp, sz_b, F_modCount_a, F_elementData_a, F_size_a, E_b, V_b⟩
theorem pd_8 : parseMethodDescriptor "(I)[Ljava/lang/Object;" = some ⟨[.int], some (.array (.object "java/lang/Object"))⟩ := by decide +kernel
theorem dgr0_0 : decode jdk_38_method_7_code 0 = .ok (.aload_n 0, 1) := by decide +kernel
theorem dgr0_1 : decode jdk_38_method_7_code 1 = .ok (.aload_n 0, 1) := by decide +kernel
theorem dgr0_2 : decode jdk_38_method_7_code 2 = .ok (.getfield 48, 3) := by decide +kernel
theorem dgr0_5 : decode jdk_38_method_7_code 5 = .ok (.iconst 1, 1) := by decide +kernel
theorem dgr0_6 : decode jdk_38_method_7_code 6 = .ok (.iadd, 1) := by decide +kernel
theorem dgr0_7 : decode jdk_38_method_7_code 7 = .ok (.invokevirtual 69, 3) := by decide +kernel
theorem dgr0_10 : decode jdk_38_method_7_code 10 = .ok (.areturn, 1) := by decide +kernel
theorem ef_gr0 (m : MethodId) (x0 : Addr) : entryFrame m #[(.ref x0)] 1 = mkF m 0 #[.val (.ref x0)] [] := by first | (simp [entryFrame, mkF, argsToLocals, Value.category]; done) | rfl
def Qgr0 (Z : State) (a : Addr) (de : Addr) (fd : Nat → Value) (mc : Int32) (h0 : Heap) (n0 : Nat) (v : Option Value) (h : Heap) (L : List Loc) : Prop := ∃ b, v = some (.ref b) ∧ Fr n0 L ∧ Keep h0 h [a] ∧ h0.size ≤ b ∧ Fld Z h a "java/util/AbstractList" "modCount" "I" (.int mc) ∧ Fld Z h a "java/util/ArrayList" "elementData" "[Ljava/lang/Object;" (.ref b) ∧ Fld Z h a "java/util/ArrayList" "size" "I" (.int (0 : Int32)) ∧ Exa Z h b "[Ljava/lang/Object;" ∧ own_Rr Z h b "java/lang/Object" (10 : Int32) (fun _ => .null)
def Pgr0 (Z : State) (a : Addr) (de : Addr) (fd : Nat → Value) (mc : Int32) (h0 : Heap) (n0 : Nat) (s : State) (oQ : Outcome) (U : State) : Prop := ∃ v L, oQ = .returned v ∧ Qgr0 Z a de fd mc h0 n0 v U.heap L ∧ FrameEnd s oQ U L ({ frames := 2, cells := 1, slots := 10, locals := 29 } : Room).cells ({ frames := 2, cells := 1, slots := 10, locals := 29 } : Room).slots
set_option maxRecDepth 65536 in
set_option maxHeartbeats 40000000 in
theorem rmgr0 (l : Launch) (Z : State) (a0 : Array Value) (hw : ∀ d ∈ tables_1, d.before a0 Z = true) (ws : List Jvm.Cond) (a : Addr) (de : Addr) (fd : Nat → Value) (mc : Int32) (h0 : Heap) (n0 : Nat) (Z0 : n0 ≤ h0.size) (E_a : Exa Z h0 a "java/util/ArrayList") (F_modCount_a : Fld Z h0 a "java/util/AbstractList" "modCount" "I" (.int mc)) (F_elementData_a : Fld Z h0 a "java/util/ArrayList" "elementData" "[Ljava/lang/Object;" (.ref de)) (F_size_a : Fld Z h0 a "java/util/ArrayList" "size" "I" (.int (0 : Int32))) (g_a : n0 ≤ a) (Ol : Old Z n0 h0) (S_de : Sta Z Z.heap "java/util/ArrayList" "DEFAULTCAPACITY_EMPTY_ELEMENTDATA" "[Ljava/lang/Object;" (.ref de)) (V_de : own_Ar Z Z.heap de (.object "java/lang/Object") (0 : Int32) fd) :
    MetFree l (⟨"java/util/ArrayList", "grow", "()[Ljava/lang/Object;"⟩ : MethodName) (head1 (Jvm.Cond.code (⟨"java/util/ArrayList", "grow", "()[Ljava/lang/Object;"⟩ : MethodName) jdk_38_method_7_code 1 (some (.array (.object "java/lang/Object"))) :: ws) ({ frames := 2, cells := 1, slots := 10, locals := 29 } : Room)) (fun aQ U => aQ = #[(.ref a)] ∧ Z.Warmed39 U.vm ∧ U.heap = h0) (fun _ _ _ _ _ => True) (fun _ U oQ U' => ∃ v L, oQ = .returned v ∧ Qgr0 Z a de fd mc h0 n0 v U'.heap L ∧ FrameEnd U oQ U' L ({ frames := 2, cells := 1, slots := 10, locals := 29 } : Room).cells ({ frames := 2, cells := 1, slots := 10, locals := 29 } : Room).slots) := by
  refine MetFree.of_bodySF (plainFor_of_name pn_6) hisR ?_
  intro p e s m args below meth c s₁ Bd hml0 hP hK
  obtain ⟨rfl, hZ, hh⟩ := hP
  have hx := Bd.exec
  have hby := Bd.bytes
  have hml : c.maxLocals = 1 := hml0
  have hown : s.vm.findClass "java/util/ArrayList" = some m.cls := findClass_of_methodNamed Bd.named
  have hnm := (name_of_methodNamed Bd.named Bd.method).1
  have X0 : Stand p l e ({ frames := 2, cells := 1, slots := 10, locals := 29 } : Room) s m #[(.ref a)] below meth c s₁ [] 0 0 := Stand.of_body Bd
  have e0 : s₁.heap = h0 := by rw [← hh, Bd.state]; rfl
  have Nf := Fr.nil n0
  have Zs : n0 ≤ h0.size := Z0
  have Kp : Keep h0 h0 [a] := Keep.refl _ _
  have szr : h0.size ≤ h0.size := Nat.le_refl _
  show own_End p e below (Pgr0 Z a de fd mc h0 n0 s) (s₁.setTop (entryFrame m #[(.ref a)] 1))
  rw [ef_gr0]
  refine own_go (fun tQ kQ => XS.aloadN X0.here hx rfl (hb hby dgr0_0) rfl rfl kQ) ?_
  show own_End p e below _ (s₁.setTop (mkF m 1 #[.val (.ref a)] [(.ref a)]))
  refine own_go (fun tQ kQ => XS.aloadN X0.here hx rfl (hb hby dgr0_1) rfl rfl kQ) ?_
  show own_End p e below _ (s₁.setTop (mkF m 2 #[.val (.ref a)] [(.ref a), (.ref a)]))
  obtain ⟨T1, X1, e1, st1⟩ := getF X0 hx hZ hown (host := "") (Or.inl (hw _ (List.mem_of_getElem? (i := 164) rfl))) Via.refl e0 F_size_a (g := (mkF m 2 #[.val (.ref a)] [(.ref a), (.ref a)])) rfl rfl (hb hby dgr0_2)
  refine own_go (fun tQ kQ => st1 tQ kQ) ?_
  show own_End p e below _ (T1.setTop (mkF m 5 #[.val (.ref a)] [(.int (0 : Int32)), (.ref a)]))
  refine own_go (fun tQ kQ => XS.iconst X1.here hx rfl (hb hby dgr0_5) kQ) ?_
  show own_End p e below _ (T1.setTop (mkF m 6 #[.val (.ref a)] [(.int (1 : Int32)), (.int (0 : Int32)), (.ref a)]))
  refine own_go (fun tQ kQ => XS.iadd X1.here hx rfl (hb hby dgr0_6) rfl kQ) ?_
  show own_End p e below _ (T1.setTop (mkF m 7 #[.val (.ref a)] [(.int ((0 : Int32) + (1 : Int32))), (.ref a)]))
  obtain ⟨cq2, q2, q2'⟩ := E_a.cell
  obtain ⟨_, _, ⟨T2, L2, k2, n2⟩, -, X2, ⟨Lc2, hQ2, l2, y2, z2⟩, st2⟩ := X1.privateBack hx (y := (⟨"java/util/ArrayList", "grow", "(I)[Ljava/lang/Object;"⟩ : MethodName)) hown (mvT hZ (hw _ (List.mem_of_getElem? (i := 205) rfl))) (mvT hZ (hw _ (List.mem_of_getElem? (i := 206) rfl))) (mvT hZ (hw _ (List.mem_of_getElem? (i := 208) rfl))) (Cond.privateMethod_at (mvP hZ (hw _ (List.mem_of_getElem? (i := 207) rfl)) (args := #[]))) (mvT hZ (hw _ (List.mem_of_getElem? (i := 209) rfl))) (by decide) (backOf (W := 0) (rmgr l Z a0 hw [] a de fd mc ((0 : Int32) + (1 : Int32)) h0 n0 Zs E_a F_modCount_a F_elementData_a F_size_a g_a Ol S_de V_de (by decide)) hZ (hw _ (List.mem_of_getElem? (i := 209) rfl)) (hw _ (List.mem_of_getElem? (i := 107) rfl)) (by decide) (by decide)) (g := (mkF m 7 #[.val (.ref a)] [(.int ((0 : Int32) + (1 : Int32))), (.ref a)])) rfl (by rw [hml]; rfl) (Steps.refl _) (a := a) (by rw [e1]; exact q2) q2' (argsL := [(.int ((0 : Int32) + (1 : Int32)))]) (rest := []) (lenOf pd_8 rfl) rfl (by show 2 * 0 + _ ≤ _; exact Nat.le_of_eq rfl) (hb hby dgr0_7) (fun _ _ => ⟨rfl, e1, (Nat.le_of_ble_eq_true rfl), (Nat.le_of_ble_eq_true rfl)⟩)
  dsimp only [Pt.U, Pt.locs, Pt.cells, Pt.slots] at X2 l2 y2 z2 st2 hQ2
  rw [l2, y2, z2] at X2
  obtain ⟨b, rfl, N2q, K2, hb2, F_modCount_a, F_elementData_a, F_size_a, E_b, V_b⟩ := hQ2
  have Nf := Fr.app Nf N2q
  have ne_a_b : a ≠ b := Nat.ne_of_lt (Nat.lt_of_lt_of_le E_a.lt hb2)
  have g_b : n0 ≤ b := Nat.le_trans Zs hb2
  have sz_b : h0.size ≤ b := Nat.le_trans szr hb2
  have E_a := E_a.keep K2
  have Ol := Ol.keep K2 (allS g_a all0)
  have Kp := Kp.trans K2 (allS (Or.inl (List.mem_of_getElem? (i := 0) rfl)) all0)
  have Zs := Nat.le_trans Zs K2.1
  have szr := Nat.le_trans szr K2.1
  have X2 := own_pad (k' := 1) (n' := 10) X2 (by decide) (by decide)
  refine own_go (fun tQ kQ => st2.trans kQ) ?_
  show own_End p e below _ (T2.setTop (mkF m 10 #[.val (.ref a)] [(.ref b)]))
  obtain ⟨fs, hr, hrun, hended, hW, hsame⟩ := X2.leave (v := some (.ref b)) (fun h => by rw [Bd.returns] at h; cases h)
  refine ⟨_, _, ?_, hrun, hended, _, _, rfl, ?_, ⟨_, rfl⟩, hW, hsame.mono (by decide) (by decide)⟩
  · exact (by
      jvm_step X2.here [X2.here.top, hx, (hb hby dgr0_10), X2.method', Bd.returns, Value.isRef, FieldType.isReference, narrow]
      first | (intro acts; rw [hr _ acts rfl rfl rfl]) | rw [hr _ _ rfl rfl rfl]
      exact Steps.refl _)
  · show Qgr0 Z a de fd mc h0 n0 _ T2.heap _
    exact ⟨b, rfl, Nf, Kp, sz_b, F_modCount_a, F_elementData_a, F_size_a, E_b, V_b⟩
theorem pd_9 : parseMethodDescriptor "()[Ljava/lang/Object;" = some ⟨[], some (.array (.object "java/lang/Object"))⟩ := by decide +kernel
theorem dh1_0 : decode jdk_38_method_24_code 0 = .ok (.iload_n 3, 1) := by decide +kernel
theorem dh1_1 : decode jdk_38_method_24_code 1 = .ok (.aload_n 2, 1) := by decide +kernel
theorem dh1_2 : decode jdk_38_method_24_code 2 = .ok (.arraylength, 1) := by decide +kernel
theorem dh1_3 : decode jdk_38_method_24_code 3 = .ok (.if_icmp .ne 8, 3) := by decide +kernel
theorem dh1_6 : decode jdk_38_method_24_code 6 = .ok (.aload_n 0, 1) := by decide +kernel
theorem dh1_7 : decode jdk_38_method_24_code 7 = .ok (.invokevirtual 129, 3) := by decide +kernel
theorem dh1_10 : decode jdk_38_method_24_code 10 = .ok (.astore_n 2, 1) := by decide +kernel
theorem dh1_11 : decode jdk_38_method_24_code 11 = .ok (.aload_n 2, 1) := by decide +kernel
theorem dh1_12 : decode jdk_38_method_24_code 12 = .ok (.iload_n 3, 1) := by decide +kernel
theorem dh1_13 : decode jdk_38_method_24_code 13 = .ok (.aload_n 1, 1) := by decide +kernel
theorem dh1_14 : decode jdk_38_method_24_code 14 = .ok (.aastore, 1) := by decide +kernel
theorem dh1_15 : decode jdk_38_method_24_code 15 = .ok (.aload_n 0, 1) := by decide +kernel
theorem dh1_16 : decode jdk_38_method_24_code 16 = .ok (.iload_n 3, 1) := by decide +kernel
theorem dh1_17 : decode jdk_38_method_24_code 17 = .ok (.iconst 1, 1) := by decide +kernel
theorem dh1_18 : decode jdk_38_method_24_code 18 = .ok (.iadd, 1) := by decide +kernel
theorem dh1_19 : decode jdk_38_method_24_code 19 = .ok (.putfield 48, 3) := by decide +kernel
theorem dh1_22 : decode jdk_38_method_24_code 22 = .ok (.return_, 1) := by decide +kernel
theorem ef_h1 (m : MethodId) (x0 : Addr) (x1 : Addr) (x2 : Addr) (x3 : Int32) : entryFrame m #[(.ref x0), (.ref x1), (.ref x2), (.int x3)] 4 = mkF m 0 #[.val (.ref x0), .val (.ref x1), .val (.ref x2), .val (.int x3)] [] := by first | (simp [entryFrame, mkF, argsToLocals, Value.category]; done) | rfl
def Qh1 (Z : State) (a : Addr) (de : Addr) (fd : Nat → Value) (mc : Int32) (x1 : Addr) (h0 : Heap) (n0 : Nat) (v : Option Value) (h : Heap) (L : List Loc) : Prop := ∃ b, v = none ∧ Fr n0 L ∧ Keep h0 h [a] ∧ h0.size ≤ b ∧ Fld Z h a "java/util/AbstractList" "modCount" "I" (.int mc) ∧ Fld Z h a "java/util/ArrayList" "elementData" "[Ljava/lang/Object;" (.ref b) ∧ Fld Z h a "java/util/ArrayList" "size" "I" (.int (1 : Int32)) ∧ Exa Z h b "[Ljava/lang/Object;" ∧ own_Rr Z h b "java/lang/Object" (10 : Int32) (fun j => if j = (0 : Int32).toNatClampNeg then .ref x1 else .null)
def Ph1 (Z : State) (a : Addr) (de : Addr) (fd : Nat → Value) (mc : Int32) (x1 : Addr) (h0 : Heap) (n0 : Nat) (s : State) (oQ : Outcome) (U : State) : Prop := ∃ v L, oQ = .returned v ∧ Qh1 Z a de fd mc x1 h0 n0 v U.heap L ∧ FrameEnd s oQ U L ({ frames := 3, cells := 1, slots := 10, locals := 41 } : Room).cells ({ frames := 3, cells := 1, slots := 10, locals := 41 } : Room).slots
set_option maxRecDepth 65536 in
set_option maxHeartbeats 40000000 in
theorem rmh1 (l : Launch) (Z : State) (a0 : Array Value) (hw : ∀ d ∈ tables_1, d.before a0 Z = true) (ws : List Jvm.Cond) (a : Addr) (de : Addr) (fd : Nat → Value) (mc : Int32) (x1 : Addr) (h0 : Heap) (n0 : Nat) (Z0 : n0 ≤ h0.size) (E_a : Exa Z h0 a "java/util/ArrayList") (F_modCount_a : Fld Z h0 a "java/util/AbstractList" "modCount" "I" (.int mc)) (F_elementData_a : Fld Z h0 a "java/util/ArrayList" "elementData" "[Ljava/lang/Object;" (.ref de)) (F_size_a : Fld Z h0 a "java/util/ArrayList" "size" "I" (.int (0 : Int32))) (g_a : n0 ≤ a) (Ol : Old Z n0 h0) (S_de : Sta Z Z.heap "java/util/ArrayList" "DEFAULTCAPACITY_EMPTY_ELEMENTDATA" "[Ljava/lang/Object;" (.ref de)) (V_de : own_Ar Z Z.heap de (.object "java/lang/Object") (0 : Int32) fd) (E_x1 : Exa Z h0 x1 "com/example/grant3/grant3/Explanation$Reason") :
    MetFree l (⟨"java/util/ArrayList", "add", "(Ljava/lang/Object;[Ljava/lang/Object;I)V"⟩ : MethodName) (head1 (Jvm.Cond.code (⟨"java/util/ArrayList", "add", "(Ljava/lang/Object;[Ljava/lang/Object;I)V"⟩ : MethodName) jdk_38_method_24_code 4 none :: ws) ({ frames := 3, cells := 1, slots := 10, locals := 41 } : Room)) (fun aQ U => aQ = #[(.ref a), (.ref x1), (.ref de), (.int (0 : Int32))] ∧ Z.Warmed39 U.vm ∧ U.heap = h0) (fun _ _ _ _ _ => True) (fun _ U oQ U' => ∃ v L, oQ = .returned v ∧ Qh1 Z a de fd mc x1 h0 n0 v U'.heap L ∧ FrameEnd U oQ U' L ({ frames := 3, cells := 1, slots := 10, locals := 41 } : Room).cells ({ frames := 3, cells := 1, slots := 10, locals := 41 } : Room).slots) := by
  refine MetFree.of_bodySF (plainFor_of_name pn_6) hisR ?_
  intro p e s m args below meth c s₁ Bd hml0 hP hK
  obtain ⟨rfl, hZ, hh⟩ := hP
  have hx := Bd.exec
  have hby := Bd.bytes
  have hml : c.maxLocals = 4 := hml0
  have hown : s.vm.findClass "java/util/ArrayList" = some m.cls := findClass_of_methodNamed Bd.named
  have hnm := (name_of_methodNamed Bd.named Bd.method).1
  have X0 : Stand p l e ({ frames := 3, cells := 1, slots := 10, locals := 41 } : Room) s m #[(.ref a), (.ref x1), (.ref de), (.int (0 : Int32))] below meth c s₁ [] 0 0 := Stand.of_body Bd
  have e0 : s₁.heap = h0 := by rw [← hh, Bd.state]; rfl
  have Nf := Fr.nil n0
  have Zs : n0 ≤ h0.size := Z0
  have Kp : Keep h0 h0 [a] := Keep.refl _ _
  have szr : h0.size ≤ h0.size := Nat.le_refl _
  show own_End p e below (Ph1 Z a de fd mc x1 h0 n0 s) (s₁.setTop (entryFrame m #[(.ref a), (.ref x1), (.ref de), (.int (0 : Int32))] 4))
  rw [ef_h1]
  have ne_a_x1 : a ≠ x1 := ne_exa E_a E_x1 (by decide)
  have V_d := V_de.ext Ol.2
  refine own_go (fun tQ kQ => XS.iloadN X0.here hx rfl (hb hby dh1_0) rfl kQ) ?_
  show own_End p e below _ (s₁.setTop (mkF m 1 #[.val (.ref a), .val (.ref x1), .val (.ref de), .val (.int (0 : Int32))] [(.int (0 : Int32))]))
  refine own_go (fun tQ kQ => XS.aloadN X0.here hx rfl (hb hby dh1_1) rfl rfl kQ) ?_
  show own_End p e below _ (s₁.setTop (mkF m 2 #[.val (.ref a), .val (.ref x1), .val (.ref de), .val (.int (0 : Int32))] [(.ref de), (.int (0 : Int32))]))
  obtain ⟨cl1, Ar1, S1, M1, H1⟩ := id V_d
  refine own_go (fun tQ kQ => X0.arraylength hx (by rw [e0]; exact Ar1.1) (State.isArrayOf_alike hZ.alike Ar1.2.1) (g := (mkF m 2 #[.val (.ref a), .val (.ref x1), .val (.ref de), .val (.int (0 : Int32))] [(.ref de), (.int (0 : Int32))])) rfl rfl (hb hby dh1_2) _ kQ) ?_
  rw [len_of S1 M1]
  show own_End p e below _ (s₁.setTop (mkF m 3 #[.val (.ref a), .val (.ref x1), .val (.ref de), .val (.int (0 : Int32))] [(.int (0 : Int32)), (.int (0 : Int32))]))
  refine own_go (fun tQ kQ => XS.icmpNo X0.here hx rfl (hb hby dh1_3) rfl (teq (rfl : (0 : Int32) = (0 : Int32))).2 kQ) ?_
  show own_End p e below _ (s₁.setTop (mkF m 6 #[.val (.ref a), .val (.ref x1), .val (.ref de), .val (.int (0 : Int32))] []))
  refine own_go (fun tQ kQ => XS.aloadN X0.here hx rfl (hb hby dh1_6) rfl rfl kQ) ?_
  show own_End p e below _ (s₁.setTop (mkF m 7 #[.val (.ref a), .val (.ref x1), .val (.ref de), .val (.int (0 : Int32))] [(.ref a)]))
  obtain ⟨cq2, q2, q2'⟩ := E_a.cell
  obtain ⟨_, _, ⟨T2, L2, k2, n2⟩, -, X2, ⟨Lc2, hQ2, l2, y2, z2⟩, st2⟩ := X0.privateBack hx (y := (⟨"java/util/ArrayList", "grow", "()[Ljava/lang/Object;"⟩ : MethodName)) hown (mvT hZ (hw _ (List.mem_of_getElem? (i := 200) rfl))) (mvT hZ (hw _ (List.mem_of_getElem? (i := 201) rfl))) (mvT hZ (hw _ (List.mem_of_getElem? (i := 203) rfl))) (Cond.privateMethod_at (mvP hZ (hw _ (List.mem_of_getElem? (i := 202) rfl)) (args := #[]))) (mvT hZ (hw _ (List.mem_of_getElem? (i := 204) rfl))) (by decide) (backOf (W := 0) (rmgr0 l Z a0 hw [] a de fd mc h0 n0 Zs E_a F_modCount_a F_elementData_a F_size_a g_a Ol S_de V_de) hZ (hw _ (List.mem_of_getElem? (i := 204) rfl)) (hw _ (List.mem_of_getElem? (i := 107) rfl)) (by decide) (by decide)) (g := (mkF m 7 #[.val (.ref a), .val (.ref x1), .val (.ref de), .val (.int (0 : Int32))] [(.ref a)])) rfl (by rw [hml]; rfl) (Steps.refl _) (a := a) (by rw [e0]; exact q2) q2' (argsL := []) (rest := []) (lenOf pd_9 rfl) rfl (by show 2 * 0 + _ ≤ _; exact Nat.le_of_eq rfl) (hb hby dh1_7) (fun _ _ => ⟨rfl, e0, (Nat.le_of_ble_eq_true rfl), (Nat.le_of_ble_eq_true rfl)⟩)
  dsimp only [Pt.U, Pt.locs, Pt.cells, Pt.slots] at X2 l2 y2 z2 st2 hQ2
  rw [l2, y2, z2] at X2
  obtain ⟨b, rfl, N2q, K2, hb2, F_modCount_a, F_elementData_a, F_size_a, E_b, V_b⟩ := hQ2
  have Nf := Fr.app Nf N2q
  have ne_a_b : a ≠ b := Nat.ne_of_lt (Nat.lt_of_lt_of_le E_a.lt hb2)
  have ne_x1_b : x1 ≠ b := Nat.ne_of_lt (Nat.lt_of_lt_of_le E_x1.lt hb2)
  have g_b : n0 ≤ b := Nat.le_trans Zs hb2
  have sz_b : h0.size ≤ b := Nat.le_trans szr hb2
  have E_a := E_a.keep K2
  have Ol := Ol.keep K2 (allS g_a all0)
  have E_x1 := E_x1.keep K2
  have Kp := Kp.trans K2 (allS (Or.inl (List.mem_of_getElem? (i := 0) rfl)) all0)
  have Zs := Nat.le_trans Zs K2.1
  have szr := Nat.le_trans szr K2.1
  have X2 := own_pad (k' := 1) (n' := 10) X2 (by decide) (by decide)
  refine own_go (fun tQ kQ => st2.trans kQ) ?_
  show own_End p e below _ (T2.setTop (mkF m 10 #[.val (.ref a), .val (.ref x1), .val (.ref de), .val (.int (0 : Int32))] [(.ref b)]))
  refine own_go (fun tQ kQ => XS.astoreN X2.here hx rfl (hb hby dh1_10) rfl rfl (l' := #[.val (.ref a), .val (.ref x1), .val (.ref b), .val (.int (0 : Int32))]) rfl kQ) ?_
  show own_End p e below _ (T2.setTop (mkF m 11 #[.val (.ref a), .val (.ref x1), .val (.ref b), .val (.int (0 : Int32))] []))
  refine own_go (fun tQ kQ => XS.aloadN X2.here hx rfl (hb hby dh1_11) rfl rfl kQ) ?_
  show own_End p e below _ (T2.setTop (mkF m 12 #[.val (.ref a), .val (.ref x1), .val (.ref b), .val (.int (0 : Int32))] [(.ref b)]))
  refine own_go (fun tQ kQ => XS.iloadN X2.here hx rfl (hb hby dh1_12) rfl kQ) ?_
  show own_End p e below _ (T2.setTop (mkF m 13 #[.val (.ref a), .val (.ref x1), .val (.ref b), .val (.int (0 : Int32))] [(.int (0 : Int32)), (.ref b)]))
  refine own_go (fun tQ kQ => XS.aloadN X2.here hx rfl (hb hby dh1_13) rfl rfl kQ) ?_
  show own_End p e below _ (T2.setTop (mkF m 14 #[.val (.ref a), .val (.ref x1), .val (.ref b), .val (.int (0 : Int32))] [(.ref x1), (.int (0 : Int32)), (.ref b)]))
  obtain ⟨cl3, Ar3, S3, M3, H3, O3⟩ := id V_b
  have hin3 := inb_of (j := (0 : Int32)) S3 ⟨(by decide), (by decide)⟩
  obtain ⟨T4, h4, X4, e4, W4, st4⟩ := stR X2 hx hZ rfl Ar3 (j := (0 : Int32)) hin3 rfl (Sto.of Ar3 O3 (Ins.of_exa E_x1 (hw _ (List.mem_of_getElem? (i := 216) rfl)))) (g := (mkF m 14 #[.val (.ref a), .val (.ref x1), .val (.ref b), .val (.int (0 : Int32))] [(.ref x1), (.int (0 : Int32)), (.ref b)])) rfl rfl (hb hby dh1_14)
  have V_b := own_Rr_set Ar3 S3 M3 H3 O3 W4
  have E_a := E_a.wr W4
  have Ol := Ol.wr W4 g_b
  have E_x1 := E_x1.wr W4
  have F_modCount_a := F_modCount_a.other W4 (Or.inl ne_a_b)
  have F_elementData_a := F_elementData_a.other W4 (Or.inl ne_a_b)
  have F_size_a := F_size_a.other W4 (Or.inl ne_a_b)
  have E_b := E_b.wr W4
  have Kp := Kp.wr W4 (Or.inr sz_b)
  have Nf := Fr.snoc X4 Nf g_b
  have Zs := Nat.le_trans Zs (Keep.of_wr W4).1
  have szr := Nat.le_trans szr (Keep.of_wr W4).1
  refine own_go (fun tQ kQ => st4 tQ kQ) ?_
  show own_End p e below _ (T4.setTop (mkF m 15 #[.val (.ref a), .val (.ref x1), .val (.ref b), .val (.int (0 : Int32))] []))
  refine own_go (fun tQ kQ => XS.aloadN X4.here hx rfl (hb hby dh1_15) rfl rfl kQ) ?_
  show own_End p e below _ (T4.setTop (mkF m 16 #[.val (.ref a), .val (.ref x1), .val (.ref b), .val (.int (0 : Int32))] [(.ref a)]))
  refine own_go (fun tQ kQ => XS.iloadN X4.here hx rfl (hb hby dh1_16) rfl kQ) ?_
  show own_End p e below _ (T4.setTop (mkF m 17 #[.val (.ref a), .val (.ref x1), .val (.ref b), .val (.int (0 : Int32))] [(.int (0 : Int32)), (.ref a)]))
  refine own_go (fun tQ kQ => XS.iconst X4.here hx rfl (hb hby dh1_17) kQ) ?_
  show own_End p e below _ (T4.setTop (mkF m 18 #[.val (.ref a), .val (.ref x1), .val (.ref b), .val (.int (0 : Int32))] [(.int (1 : Int32)), (.int (0 : Int32)), (.ref a)]))
  refine own_go (fun tQ kQ => XS.iadd X4.here hx rfl (hb hby dh1_18) rfl kQ) ?_
  show own_End p e below _ (T4.setTop (mkF m 19 #[.val (.ref a), .val (.ref x1), .val (.ref b), .val (.int (0 : Int32))] [(.int ((0 : Int32) + (1 : Int32))), (.ref a)]))
  obtain ⟨T5, h5, X5, e5, W5, st5⟩ := putF X4 hx hZ hown (host := "") (Or.inl (hw _ (List.mem_of_getElem? (i := 164) rfl))) Via.refl e4 F_size_a E_a (Or.inl (hw _ (List.mem_of_getElem? (i := 165) rfl))) (hw _ (List.mem_of_getElem? (i := 106) rfl)) (ty := .int) (by decide) rfl rfl (g := (mkF m 19 #[.val (.ref a), .val (.ref x1), .val (.ref b), .val (.int (0 : Int32))] [(.int ((0 : Int32) + (1 : Int32))), (.ref a)])) rfl rfl (hb hby dh1_19)
  have F_size_a := F_size_a.same W5
  have E_a := E_a.wr W5
  have Ol := Ol.wr W5 g_a
  have E_x1 := E_x1.wr W5
  have F_modCount_a := F_modCount_a.other W5 (Or.inr (slot_ne (Or.inl (hw _ (List.mem_of_getElem? (i := 125) rfl))) (Or.inl (hw _ (List.mem_of_getElem? (i := 165) rfl))) (by decide) (t := .int) (t' := .int) (by decide) (by decide)))
  have F_elementData_a := F_elementData_a.other W5 (Or.inr (slot_ne (Or.inl (hw _ (List.mem_of_getElem? (i := 128) rfl))) (Or.inl (hw _ (List.mem_of_getElem? (i := 165) rfl))) (by decide) (t := (.array (.object "java/lang/Object"))) (t' := .int) (by decide) (by decide)))
  have E_b := E_b.wr W5
  have V_b := V_b.other W5 (Ne.symm ne_a_b)
  have Kp := Kp.wr W5 (Or.inl (List.mem_of_getElem? (i := 0) rfl))
  have Nf := Fr.snoc X5 Nf g_a
  have Zs := Nat.le_trans Zs (Keep.of_wr W5).1
  have szr := Nat.le_trans szr (Keep.of_wr W5).1
  refine own_go (fun tQ kQ => st5 tQ kQ) ?_
  show own_End p e below _ (T5.setTop (mkF m 22 #[.val (.ref a), .val (.ref x1), .val (.ref b), .val (.int (0 : Int32))] []))
  rw [show ((0 : Int32) + (1 : Int32)) = (1 : Int32) by decide] at F_size_a
  obtain ⟨fs, hr, hrun, hended, hW, hsame⟩ := X5.leave (v := none) (fun _ => rfl)
  refine ⟨_, _, X5.returnOut hx Bd.returns (hb hby dh1_22) hr, hrun, hended, _, _, rfl, ?_, ⟨_, rfl⟩, hW, hsame.mono (by decide) (by decide)⟩
  show Qh1 Z a de fd mc x1 h0 n0 _ T5.heap _
  rw [e5]
  exact ⟨b, rfl, Nf, Kp, sz_b, F_modCount_a, F_elementData_a, F_size_a, E_b, V_b⟩
theorem dh2_0 : decode jdk_38_method_24_code 0 = .ok (.iload_n 3, 1) := by decide +kernel
theorem dh2_1 : decode jdk_38_method_24_code 1 = .ok (.aload_n 2, 1) := by decide +kernel
theorem dh2_2 : decode jdk_38_method_24_code 2 = .ok (.arraylength, 1) := by decide +kernel
theorem dh2_3 : decode jdk_38_method_24_code 3 = .ok (.if_icmp .ne 8, 3) := by decide +kernel
theorem dh2_11 : decode jdk_38_method_24_code 11 = .ok (.aload_n 2, 1) := by decide +kernel
theorem dh2_12 : decode jdk_38_method_24_code 12 = .ok (.iload_n 3, 1) := by decide +kernel
theorem dh2_13 : decode jdk_38_method_24_code 13 = .ok (.aload_n 1, 1) := by decide +kernel
theorem dh2_14 : decode jdk_38_method_24_code 14 = .ok (.aastore, 1) := by decide +kernel
theorem dh2_15 : decode jdk_38_method_24_code 15 = .ok (.aload_n 0, 1) := by decide +kernel
theorem dh2_16 : decode jdk_38_method_24_code 16 = .ok (.iload_n 3, 1) := by decide +kernel
theorem dh2_17 : decode jdk_38_method_24_code 17 = .ok (.iconst 1, 1) := by decide +kernel
theorem dh2_18 : decode jdk_38_method_24_code 18 = .ok (.iadd, 1) := by decide +kernel
theorem dh2_19 : decode jdk_38_method_24_code 19 = .ok (.putfield 48, 3) := by decide +kernel
theorem dh2_22 : decode jdk_38_method_24_code 22 = .ok (.return_, 1) := by decide +kernel
theorem ef_h2 (m : MethodId) (x0 : Addr) (x1 : Addr) (x2 : Addr) (x3 : Int32) : entryFrame m #[(.ref x0), (.ref x1), (.ref x2), (.int x3)] 4 = mkF m 0 #[.val (.ref x0), .val (.ref x1), .val (.ref x2), .val (.int x3)] [] := by first | (simp [entryFrame, mkF, argsToLocals, Value.category]; done) | rfl
def Qh2 (Z : State) (a : Addr) (b : Addr) (ff : Nat → Value) (mc : Int32) (k : Int32) (x1 : Addr) (h0 : Heap) (n0 : Nat) (v : Option Value) (h : Heap) (L : List Loc) : Prop := v = none ∧ Fr n0 L ∧ Keep h0 h [a, b] ∧ Fld Z h a "java/util/AbstractList" "modCount" "I" (.int mc) ∧ Fld Z h a "java/util/ArrayList" "elementData" "[Ljava/lang/Object;" (.ref b) ∧ Fld Z h a "java/util/ArrayList" "size" "I" (.int (k + (1 : Int32))) ∧ own_Rr Z h b "java/lang/Object" (10 : Int32) (fun j => if j = k.toNatClampNeg then .ref x1 else ff j)
def Ph2 (Z : State) (a : Addr) (b : Addr) (ff : Nat → Value) (mc : Int32) (k : Int32) (x1 : Addr) (h0 : Heap) (n0 : Nat) (s : State) (oQ : Outcome) (U : State) : Prop := ∃ v L, oQ = .returned v ∧ Qh2 Z a b ff mc k x1 h0 n0 v U.heap L ∧ FrameEnd s oQ U L ({ frames := 0, cells := 0, slots := 0, locals := 0 } : Room).cells ({ frames := 0, cells := 0, slots := 0, locals := 0 } : Room).slots
set_option maxRecDepth 65536 in
set_option maxHeartbeats 40000000 in
theorem rmh2 (l : Launch) (Z : State) (a0 : Array Value) (hw : ∀ d ∈ tables_1, d.before a0 Z = true) (ws : List Jvm.Cond) (a : Addr) (b : Addr) (ff : Nat → Value) (mc : Int32) (k : Int32) (x1 : Addr) (h0 : Heap) (n0 : Nat) (Z0 : n0 ≤ h0.size) (E_a : Exa Z h0 a "java/util/ArrayList") (F_modCount_a : Fld Z h0 a "java/util/AbstractList" "modCount" "I" (.int mc)) (F_elementData_a : Fld Z h0 a "java/util/ArrayList" "elementData" "[Ljava/lang/Object;" (.ref b)) (F_size_a : Fld Z h0 a "java/util/ArrayList" "size" "I" (.int k)) (g_a : n0 ≤ a) (V_b : own_Rr Z h0 b "java/lang/Object" (10 : Int32) (ff)) (g_b : n0 ≤ b) (ne_a_b : a ≠ b) (hk0 : ¬ k < 0) (hk1 : k < 10) (E_x1 : Exa Z h0 x1 "com/example/grant3/grant3/Explanation$Reason") :
    MetFree l (⟨"java/util/ArrayList", "add", "(Ljava/lang/Object;[Ljava/lang/Object;I)V"⟩ : MethodName) (head1 (Jvm.Cond.code (⟨"java/util/ArrayList", "add", "(Ljava/lang/Object;[Ljava/lang/Object;I)V"⟩ : MethodName) jdk_38_method_24_code 4 none :: ws) ({ frames := 0, cells := 0, slots := 0, locals := 0 } : Room)) (fun aQ U => aQ = #[(.ref a), (.ref x1), (.ref b), (.int k)] ∧ Z.Warmed39 U.vm ∧ U.heap = h0) (fun _ _ _ _ _ => True) (fun _ U oQ U' => ∃ v L, oQ = .returned v ∧ Qh2 Z a b ff mc k x1 h0 n0 v U'.heap L ∧ FrameEnd U oQ U' L ({ frames := 0, cells := 0, slots := 0, locals := 0 } : Room).cells ({ frames := 0, cells := 0, slots := 0, locals := 0 } : Room).slots) := by
  refine MetFree.of_bodySF (plainFor_of_name pn_6) hisR ?_
  intro p e s m args below meth c s₁ Bd hml0 hP hK
  obtain ⟨rfl, hZ, hh⟩ := hP
  have hx := Bd.exec
  have hby := Bd.bytes
  have hml : c.maxLocals = 4 := hml0
  have hown : s.vm.findClass "java/util/ArrayList" = some m.cls := findClass_of_methodNamed Bd.named
  have hnm := (name_of_methodNamed Bd.named Bd.method).1
  have X0 : Stand p l e ({ frames := 0, cells := 0, slots := 0, locals := 0 } : Room) s m #[(.ref a), (.ref x1), (.ref b), (.int k)] below meth c s₁ [] 0 0 := Stand.of_body Bd
  have e0 : s₁.heap = h0 := by rw [← hh, Bd.state]; rfl
  have Nf := Fr.nil n0
  have Zs : n0 ≤ h0.size := Z0
  have Kp : Keep h0 h0 [a, b] := Keep.refl _ _
  have szr : h0.size ≤ h0.size := Nat.le_refl _
  show own_End p e below (Ph2 Z a b ff mc k x1 h0 n0 s) (s₁.setTop (entryFrame m #[(.ref a), (.ref x1), (.ref b), (.int k)] 4))
  rw [ef_h2]
  have ne_a_x1 : a ≠ x1 := ne_exa E_a E_x1 (by decide)
  refine own_go (fun tQ kQ => XS.iloadN X0.here hx rfl (hb hby dh2_0) rfl kQ) ?_
  show own_End p e below _ (s₁.setTop (mkF m 1 #[.val (.ref a), .val (.ref x1), .val (.ref b), .val (.int k)] [(.int k)]))
  refine own_go (fun tQ kQ => XS.aloadN X0.here hx rfl (hb hby dh2_1) rfl rfl kQ) ?_
  show own_End p e below _ (s₁.setTop (mkF m 2 #[.val (.ref a), .val (.ref x1), .val (.ref b), .val (.int k)] [(.ref b), (.int k)]))
  obtain ⟨cl1, Ar1, S1, M1, H1, -⟩ := id V_b
  refine own_go (fun tQ kQ => X0.arraylength hx (by rw [e0]; exact Ar1.1) (State.isArrayOf_alike hZ.alike Ar1.2.1) (g := (mkF m 2 #[.val (.ref a), .val (.ref x1), .val (.ref b), .val (.int k)] [(.ref b), (.int k)])) rfl rfl (hb hby dh2_2) _ kQ) ?_
  rw [len_of S1 M1]
  show own_End p e below _ (s₁.setTop (mkF m 3 #[.val (.ref a), .val (.ref x1), .val (.ref b), .val (.int k)] [(.int (10 : Int32)), (.int k)]))
  refine own_go (fun tQ kQ => XS.icmpYes X0.here hx rfl (pc0 := 3) (pc' := 11) rfl (hb hby dh2_3) rfl (feq (fun q => absurd hk1 (by rw [q]; decide))).2 (by decide) (by decide) kQ) ?_
  show own_End p e below _ (s₁.setTop (mkF m 11 #[.val (.ref a), .val (.ref x1), .val (.ref b), .val (.int k)] []))
  refine own_go (fun tQ kQ => XS.aloadN X0.here hx rfl (hb hby dh2_11) rfl rfl kQ) ?_
  show own_End p e below _ (s₁.setTop (mkF m 12 #[.val (.ref a), .val (.ref x1), .val (.ref b), .val (.int k)] [(.ref b)]))
  refine own_go (fun tQ kQ => XS.iloadN X0.here hx rfl (hb hby dh2_12) rfl kQ) ?_
  show own_End p e below _ (s₁.setTop (mkF m 13 #[.val (.ref a), .val (.ref x1), .val (.ref b), .val (.int k)] [(.int k), (.ref b)]))
  refine own_go (fun tQ kQ => XS.aloadN X0.here hx rfl (hb hby dh2_13) rfl rfl kQ) ?_
  show own_End p e below _ (s₁.setTop (mkF m 14 #[.val (.ref a), .val (.ref x1), .val (.ref b), .val (.int k)] [(.ref x1), (.int k), (.ref b)]))
  obtain ⟨cl2, Ar2, S2, M2, H2, O2⟩ := id V_b
  have hin2 := inb_of (j := k) S2 ⟨hk0, hk1⟩
  obtain ⟨T3, h3, X3, e3, W3, st3⟩ := stR X0 hx hZ e0 Ar2 (j := k) hin2 rfl (Sto.of Ar2 O2 (Ins.of_exa E_x1 (hw _ (List.mem_of_getElem? (i := 216) rfl)))) (g := (mkF m 14 #[.val (.ref a), .val (.ref x1), .val (.ref b), .val (.int k)] [(.ref x1), (.int k), (.ref b)])) rfl rfl (hb hby dh2_14)
  have V_b := own_Rr_set Ar2 S2 M2 H2 O2 W3
  have E_a := E_a.wr W3
  have F_modCount_a := F_modCount_a.other W3 (Or.inl ne_a_b)
  have F_elementData_a := F_elementData_a.other W3 (Or.inl ne_a_b)
  have F_size_a := F_size_a.other W3 (Or.inl ne_a_b)
  have E_x1 := E_x1.wr W3
  have Kp := Kp.wr W3 (Or.inl (List.mem_of_getElem? (i := 1) rfl))
  have Nf := Fr.snoc X3 Nf g_b
  have Zs := Nat.le_trans Zs (Keep.of_wr W3).1
  have szr := Nat.le_trans szr (Keep.of_wr W3).1
  refine own_go (fun tQ kQ => st3 tQ kQ) ?_
  show own_End p e below _ (T3.setTop (mkF m 15 #[.val (.ref a), .val (.ref x1), .val (.ref b), .val (.int k)] []))
  refine own_go (fun tQ kQ => XS.aloadN X3.here hx rfl (hb hby dh2_15) rfl rfl kQ) ?_
  show own_End p e below _ (T3.setTop (mkF m 16 #[.val (.ref a), .val (.ref x1), .val (.ref b), .val (.int k)] [(.ref a)]))
  refine own_go (fun tQ kQ => XS.iloadN X3.here hx rfl (hb hby dh2_16) rfl kQ) ?_
  show own_End p e below _ (T3.setTop (mkF m 17 #[.val (.ref a), .val (.ref x1), .val (.ref b), .val (.int k)] [(.int k), (.ref a)]))
  refine own_go (fun tQ kQ => XS.iconst X3.here hx rfl (hb hby dh2_17) kQ) ?_
  show own_End p e below _ (T3.setTop (mkF m 18 #[.val (.ref a), .val (.ref x1), .val (.ref b), .val (.int k)] [(.int (1 : Int32)), (.int k), (.ref a)]))
  refine own_go (fun tQ kQ => XS.iadd X3.here hx rfl (hb hby dh2_18) rfl kQ) ?_
  show own_End p e below _ (T3.setTop (mkF m 19 #[.val (.ref a), .val (.ref x1), .val (.ref b), .val (.int k)] [(.int (k + (1 : Int32))), (.ref a)]))
  obtain ⟨T4, h4, X4, e4, W4, st4⟩ := putF X3 hx hZ hown (host := "") (Or.inl (hw _ (List.mem_of_getElem? (i := 164) rfl))) Via.refl e3 F_size_a E_a (Or.inl (hw _ (List.mem_of_getElem? (i := 165) rfl))) (hw _ (List.mem_of_getElem? (i := 106) rfl)) (ty := .int) (by decide) rfl rfl (g := (mkF m 19 #[.val (.ref a), .val (.ref x1), .val (.ref b), .val (.int k)] [(.int (k + (1 : Int32))), (.ref a)])) rfl rfl (hb hby dh2_19)
  have F_size_a := F_size_a.same W4
  have E_a := E_a.wr W4
  have F_modCount_a := F_modCount_a.other W4 (Or.inr (slot_ne (Or.inl (hw _ (List.mem_of_getElem? (i := 125) rfl))) (Or.inl (hw _ (List.mem_of_getElem? (i := 165) rfl))) (by decide) (t := .int) (t' := .int) (by decide) (by decide)))
  have F_elementData_a := F_elementData_a.other W4 (Or.inr (slot_ne (Or.inl (hw _ (List.mem_of_getElem? (i := 128) rfl))) (Or.inl (hw _ (List.mem_of_getElem? (i := 165) rfl))) (by decide) (t := (.array (.object "java/lang/Object"))) (t' := .int) (by decide) (by decide)))
  have E_x1 := E_x1.wr W4
  have V_b := V_b.other W4 (Ne.symm ne_a_b)
  have Kp := Kp.wr W4 (Or.inl (List.mem_of_getElem? (i := 0) rfl))
  have Nf := Fr.snoc X4 Nf g_a
  have Zs := Nat.le_trans Zs (Keep.of_wr W4).1
  have szr := Nat.le_trans szr (Keep.of_wr W4).1
  refine own_go (fun tQ kQ => st4 tQ kQ) ?_
  show own_End p e below _ (T4.setTop (mkF m 22 #[.val (.ref a), .val (.ref x1), .val (.ref b), .val (.int k)] []))
  obtain ⟨fs, hr, hrun, hended, hW, hsame⟩ := X4.leave (v := none) (fun _ => rfl)
  refine ⟨_, _, X4.returnOut hx Bd.returns (hb hby dh2_22) hr, hrun, hended, _, _, rfl, ?_, ⟨_, rfl⟩, hW, hsame.mono (by decide) (by decide)⟩
  show Qh2 Z a b ff mc k x1 h0 n0 _ T4.heap _
  rw [e4]
  exact ⟨rfl, Nf, Kp, F_modCount_a, F_elementData_a, F_size_a, V_b⟩
theorem pd_10 : parseMethodDescriptor "(Ljava/lang/Object;[Ljava/lang/Object;I)V" = some ⟨[(.object "java/lang/Object"), (.array (.object "java/lang/Object")), .int], none⟩ := by decide +kernel
theorem da1_0 : decode jdk_38_method_25_code 0 = .ok (.aload_n 0, 1) := by decide +kernel
theorem da1_1 : decode jdk_38_method_25_code 1 = .ok (.dup, 1) := by decide +kernel
theorem da1_2 : decode jdk_38_method_25_code 2 = .ok (.getfield 63, 3) := by decide +kernel
theorem da1_5 : decode jdk_38_method_25_code 5 = .ok (.iconst 1, 1) := by decide +kernel
theorem da1_6 : decode jdk_38_method_25_code 6 = .ok (.iadd, 1) := by decide +kernel
theorem da1_7 : decode jdk_38_method_25_code 7 = .ok (.putfield 63, 3) := by decide +kernel
theorem da1_10 : decode jdk_38_method_25_code 10 = .ok (.aload_n 0, 1) := by decide +kernel
theorem da1_11 : decode jdk_38_method_25_code 11 = .ok (.aload_n 1, 1) := by decide +kernel
theorem da1_12 : decode jdk_38_method_25_code 12 = .ok (.aload_n 0, 1) := by decide +kernel
theorem da1_13 : decode jdk_38_method_25_code 13 = .ok (.getfield 9, 3) := by decide +kernel
theorem da1_16 : decode jdk_38_method_25_code 16 = .ok (.aload_n 0, 1) := by decide +kernel
theorem da1_17 : decode jdk_38_method_25_code 17 = .ok (.getfield 48, 3) := by decide +kernel
theorem da1_20 : decode jdk_38_method_25_code 20 = .ok (.invokevirtual 131, 3) := by decide +kernel
theorem da1_23 : decode jdk_38_method_25_code 23 = .ok (.iconst 1, 1) := by decide +kernel
theorem da1_24 : decode jdk_38_method_25_code 24 = .ok (.ireturn, 1) := by decide +kernel
theorem ef_a1 (m : MethodId) (x0 : Addr) (x1 : Addr) : entryFrame m #[(.ref x0), (.ref x1)] 2 = mkF m 0 #[.val (.ref x0), .val (.ref x1)] [] := by first | (simp [entryFrame, mkF, argsToLocals, Value.category]; done) | rfl
def Qa1 (Z : State) (a : Addr) (de : Addr) (fd : Nat → Value) (mc : Int32) (x1 : Addr) (h0 : Heap) (n0 : Nat) (v : Option Value) (h : Heap) (L : List Loc) : Prop := ∃ b, v = some (.int 1) ∧ Fr n0 L ∧ Keep h0 h [a] ∧ h0.size ≤ b ∧ Fld Z h a "java/util/AbstractList" "modCount" "I" (.int (mc + (1 : Int32))) ∧ Fld Z h a "java/util/ArrayList" "elementData" "[Ljava/lang/Object;" (.ref b) ∧ Fld Z h a "java/util/ArrayList" "size" "I" (.int (1 : Int32)) ∧ Exa Z h b "[Ljava/lang/Object;" ∧ own_Rr Z h b "java/lang/Object" (10 : Int32) (fun j => if j = (0 : Int32).toNatClampNeg then .ref x1 else .null)
def Pa1 (Z : State) (a : Addr) (de : Addr) (fd : Nat → Value) (mc : Int32) (x1 : Addr) (h0 : Heap) (n0 : Nat) (s : State) (oQ : Outcome) (U : State) : Prop := ∃ v L, oQ = .returned v ∧ Qa1 Z a de fd mc x1 h0 n0 v U.heap L ∧ FrameEnd s oQ U L ({ frames := 4, cells := 1, slots := 10, locals := 56 } : Room).cells ({ frames := 4, cells := 1, slots := 10, locals := 56 } : Room).slots
set_option maxRecDepth 65536 in
set_option maxHeartbeats 40000000 in
theorem rma1 (l : Launch) (Z : State) (a0 : Array Value) (hw : ∀ d ∈ tables_1, d.before a0 Z = true) (ws : List Jvm.Cond) (a : Addr) (de : Addr) (fd : Nat → Value) (mc : Int32) (x1 : Addr) (h0 : Heap) (n0 : Nat) (Z0 : n0 ≤ h0.size) (E_a : Exa Z h0 a "java/util/ArrayList") (F_modCount_a : Fld Z h0 a "java/util/AbstractList" "modCount" "I" (.int mc)) (F_elementData_a : Fld Z h0 a "java/util/ArrayList" "elementData" "[Ljava/lang/Object;" (.ref de)) (F_size_a : Fld Z h0 a "java/util/ArrayList" "size" "I" (.int (0 : Int32))) (g_a : n0 ≤ a) (Ol : Old Z n0 h0) (S_de : Sta Z Z.heap "java/util/ArrayList" "DEFAULTCAPACITY_EMPTY_ELEMENTDATA" "[Ljava/lang/Object;" (.ref de)) (V_de : own_Ar Z Z.heap de (.object "java/lang/Object") (0 : Int32) fd) (E_x1 : Exa Z h0 x1 "com/example/grant3/grant3/Explanation$Reason") :
    MetFree l (⟨"java/util/ArrayList", "add", "(Ljava/lang/Object;)Z"⟩ : MethodName) (head1 (Jvm.Cond.code (⟨"java/util/ArrayList", "add", "(Ljava/lang/Object;)Z"⟩ : MethodName) jdk_38_method_25_code 2 (some .boolean) :: ws) ({ frames := 4, cells := 1, slots := 10, locals := 56 } : Room)) (fun aQ U => aQ = #[(.ref a), (.ref x1)] ∧ Z.Warmed39 U.vm ∧ U.heap = h0) (fun _ _ _ _ _ => True) (fun _ U oQ U' => ∃ v L, oQ = .returned v ∧ Qa1 Z a de fd mc x1 h0 n0 v U'.heap L ∧ FrameEnd U oQ U' L ({ frames := 4, cells := 1, slots := 10, locals := 56 } : Room).cells ({ frames := 4, cells := 1, slots := 10, locals := 56 } : Room).slots) := by
  refine MetFree.of_bodySF (plainFor_of_name pn_6) hisR ?_
  intro p e s m args below meth c s₁ Bd hml0 hP hK
  obtain ⟨rfl, hZ, hh⟩ := hP
  have hx := Bd.exec
  have hby := Bd.bytes
  have hml : c.maxLocals = 2 := hml0
  have hown : s.vm.findClass "java/util/ArrayList" = some m.cls := findClass_of_methodNamed Bd.named
  have hnm := (name_of_methodNamed Bd.named Bd.method).1
  have X0 : Stand p l e ({ frames := 4, cells := 1, slots := 10, locals := 56 } : Room) s m #[(.ref a), (.ref x1)] below meth c s₁ [] 0 0 := Stand.of_body Bd
  have e0 : s₁.heap = h0 := by rw [← hh, Bd.state]; rfl
  have Nf := Fr.nil n0
  have Zs : n0 ≤ h0.size := Z0
  have Kp : Keep h0 h0 [a] := Keep.refl _ _
  have szr : h0.size ≤ h0.size := Nat.le_refl _
  show own_End p e below (Pa1 Z a de fd mc x1 h0 n0 s) (s₁.setTop (entryFrame m #[(.ref a), (.ref x1)] 2))
  rw [ef_a1]
  refine own_go (fun tQ kQ => XS.aloadN X0.here hx rfl (hb hby da1_0) rfl rfl kQ) ?_
  show own_End p e below _ (s₁.setTop (mkF m 1 #[.val (.ref a), .val (.ref x1)] [(.ref a)]))
  refine own_go (fun tQ kQ => XS.dup X0.here hx rfl (hb hby da1_1) rfl rfl kQ) ?_
  show own_End p e below _ (s₁.setTop (mkF m 2 #[.val (.ref a), .val (.ref x1)] [(.ref a), (.ref a)]))
  obtain ⟨T1, X1, e1, st1⟩ := getF X0 hx hZ hown (host := "") (Or.inl (hw _ (List.mem_of_getElem? (i := 193) rfl))) (Via.of (hw _ (List.mem_of_getElem? (i := 194) rfl))) e0 F_modCount_a (g := (mkF m 2 #[.val (.ref a), .val (.ref x1)] [(.ref a), (.ref a)])) rfl rfl (hb hby da1_2)
  refine own_go (fun tQ kQ => st1 tQ kQ) ?_
  show own_End p e below _ (T1.setTop (mkF m 5 #[.val (.ref a), .val (.ref x1)] [(.int mc), (.ref a)]))
  refine own_go (fun tQ kQ => XS.iconst X1.here hx rfl (hb hby da1_5) kQ) ?_
  show own_End p e below _ (T1.setTop (mkF m 6 #[.val (.ref a), .val (.ref x1)] [(.int (1 : Int32)), (.int mc), (.ref a)]))
  refine own_go (fun tQ kQ => XS.iadd X1.here hx rfl (hb hby da1_6) rfl kQ) ?_
  show own_End p e below _ (T1.setTop (mkF m 7 #[.val (.ref a), .val (.ref x1)] [(.int (mc + (1 : Int32))), (.ref a)]))
  obtain ⟨T2, h2, X2, e2, W2, st2⟩ := putF X1 hx hZ hown (host := "") (Or.inl (hw _ (List.mem_of_getElem? (i := 193) rfl))) (Via.of (hw _ (List.mem_of_getElem? (i := 194) rfl))) e1 F_modCount_a E_a (Or.inl (hw _ (List.mem_of_getElem? (i := 125) rfl))) (hw _ (List.mem_of_getElem? (i := 106) rfl)) (ty := .int) (by decide) rfl rfl (g := (mkF m 7 #[.val (.ref a), .val (.ref x1)] [(.int (mc + (1 : Int32))), (.ref a)])) rfl rfl (hb hby da1_7)
  have F_modCount_a := F_modCount_a.same W2
  have E_a := E_a.wr W2
  have F_elementData_a := F_elementData_a.other W2 (Or.inr (slot_ne (Or.inl (hw _ (List.mem_of_getElem? (i := 128) rfl))) (Or.inl (hw _ (List.mem_of_getElem? (i := 125) rfl))) (by decide) (t := (.array (.object "java/lang/Object"))) (t' := .int) (by decide) (by decide)))
  have F_size_a := F_size_a.other W2 (Or.inr (slot_ne (Or.inl (hw _ (List.mem_of_getElem? (i := 165) rfl))) (Or.inl (hw _ (List.mem_of_getElem? (i := 125) rfl))) (by decide) (t := .int) (t' := .int) (by decide) (by decide)))
  have Ol := Ol.wr W2 g_a
  have E_x1 := E_x1.wr W2
  have Kp := Kp.wr W2 (Or.inl (List.mem_of_getElem? (i := 0) rfl))
  have Nf := Fr.snoc X2 Nf g_a
  have Zs := Nat.le_trans Zs (Keep.of_wr W2).1
  have szr := Nat.le_trans szr (Keep.of_wr W2).1
  refine own_go (fun tQ kQ => st2 tQ kQ) ?_
  show own_End p e below _ (T2.setTop (mkF m 10 #[.val (.ref a), .val (.ref x1)] []))
  refine own_go (fun tQ kQ => XS.aloadN X2.here hx rfl (hb hby da1_10) rfl rfl kQ) ?_
  show own_End p e below _ (T2.setTop (mkF m 11 #[.val (.ref a), .val (.ref x1)] [(.ref a)]))
  refine own_go (fun tQ kQ => XS.aloadN X2.here hx rfl (hb hby da1_11) rfl rfl kQ) ?_
  show own_End p e below _ (T2.setTop (mkF m 12 #[.val (.ref a), .val (.ref x1)] [(.ref x1), (.ref a)]))
  refine own_go (fun tQ kQ => XS.aloadN X2.here hx rfl (hb hby da1_12) rfl rfl kQ) ?_
  show own_End p e below _ (T2.setTop (mkF m 13 #[.val (.ref a), .val (.ref x1)] [(.ref a), (.ref x1), (.ref a)]))
  obtain ⟨T3, X3, e3, st3⟩ := getF X2 hx hZ hown (host := "") (Or.inl (hw _ (List.mem_of_getElem? (i := 127) rfl))) Via.refl e2 F_elementData_a (g := (mkF m 13 #[.val (.ref a), .val (.ref x1)] [(.ref a), (.ref x1), (.ref a)])) rfl rfl (hb hby da1_13)
  refine own_go (fun tQ kQ => st3 tQ kQ) ?_
  show own_End p e below _ (T3.setTop (mkF m 16 #[.val (.ref a), .val (.ref x1)] [(.ref de), (.ref x1), (.ref a)]))
  refine own_go (fun tQ kQ => XS.aloadN X3.here hx rfl (hb hby da1_16) rfl rfl kQ) ?_
  show own_End p e below _ (T3.setTop (mkF m 17 #[.val (.ref a), .val (.ref x1)] [(.ref a), (.ref de), (.ref x1), (.ref a)]))
  obtain ⟨T4, X4, e4, st4⟩ := getF X3 hx hZ hown (host := "") (Or.inl (hw _ (List.mem_of_getElem? (i := 164) rfl))) Via.refl e3 F_size_a (g := (mkF m 17 #[.val (.ref a), .val (.ref x1)] [(.ref a), (.ref de), (.ref x1), (.ref a)])) rfl rfl (hb hby da1_17)
  refine own_go (fun tQ kQ => st4 tQ kQ) ?_
  show own_End p e below _ (T4.setTop (mkF m 20 #[.val (.ref a), .val (.ref x1)] [(.int (0 : Int32)), (.ref de), (.ref x1), (.ref a)]))
  obtain ⟨cq5, q5, q5'⟩ := E_a.cell
  obtain ⟨_, _, ⟨T5, L5, k5, n5⟩, -, X5, ⟨Lc5, hQ5, l5, y5, z5⟩, st5⟩ := X4.privateBack hx (y := (⟨"java/util/ArrayList", "add", "(Ljava/lang/Object;[Ljava/lang/Object;I)V"⟩ : MethodName)) hown (mvT hZ (hw _ (List.mem_of_getElem? (i := 195) rfl))) (mvT hZ (hw _ (List.mem_of_getElem? (i := 196) rfl))) (mvT hZ (hw _ (List.mem_of_getElem? (i := 198) rfl))) (Cond.privateMethod_at (mvP hZ (hw _ (List.mem_of_getElem? (i := 197) rfl)) (args := #[]))) (mvT hZ (hw _ (List.mem_of_getElem? (i := 199) rfl))) (by decide) (backOf (W := 0) (rmh1 l Z a0 hw [] a de fd (mc + (1 : Int32)) x1 h2 n0 Zs E_a F_modCount_a F_elementData_a F_size_a g_a Ol S_de V_de E_x1) hZ (hw _ (List.mem_of_getElem? (i := 199) rfl)) (hw _ (List.mem_of_getElem? (i := 107) rfl)) (by decide) (by decide)) (g := (mkF m 20 #[.val (.ref a), .val (.ref x1)] [(.int (0 : Int32)), (.ref de), (.ref x1), (.ref a)])) rfl (by rw [hml]; rfl) (Steps.refl _) (a := a) (by rw [e4]; exact q5) q5' (argsL := [(.ref x1), (.ref de), (.int (0 : Int32))]) (rest := []) (lenOf pd_10 rfl) rfl (by show 2 * 0 + _ ≤ _; exact Nat.le_of_eq rfl) (hb hby da1_20) (fun _ _ => ⟨rfl, e4, (Nat.le_of_ble_eq_true rfl), (Nat.le_of_ble_eq_true rfl)⟩)
  dsimp only [Pt.U, Pt.locs, Pt.cells, Pt.slots] at X5 l5 y5 z5 st5 hQ5
  rw [l5, y5, z5] at X5
  obtain ⟨b, rfl, N5q, K5, hb5, F_modCount_a, F_elementData_a, F_size_a, E_b, V_b⟩ := hQ5
  have Nf := Fr.app Nf N5q
  have ne_a_b : a ≠ b := Nat.ne_of_lt (Nat.lt_of_lt_of_le E_a.lt hb5)
  have ne_x1_b : x1 ≠ b := Nat.ne_of_lt (Nat.lt_of_lt_of_le E_x1.lt hb5)
  have g_b : n0 ≤ b := Nat.le_trans Zs hb5
  have sz_b : h0.size ≤ b := Nat.le_trans szr hb5
  have E_a := E_a.keep K5
  have Ol := Ol.keep K5 (allS g_a all0)
  have E_x1 := E_x1.keep K5
  have Kp := Kp.trans K5 (allS (Or.inl (List.mem_of_getElem? (i := 0) rfl)) all0)
  have Zs := Nat.le_trans Zs K5.1
  have szr := Nat.le_trans szr K5.1
  have X5 := own_pad (k' := 1) (n' := 10) X5 (by decide) (by decide)
  refine own_go (fun tQ kQ => st5.trans kQ) ?_
  show own_End p e below _ (T5.setTop (mkF m 23 #[.val (.ref a), .val (.ref x1)] []))
  refine own_go (fun tQ kQ => XS.iconst X5.here hx rfl (hb hby da1_23) kQ) ?_
  show own_End p e below _ (T5.setTop (mkF m 24 #[.val (.ref a), .val (.ref x1)] [(.int (1 : Int32))]))
  obtain ⟨fs, hr, hrun, hended, hW, hsame⟩ := X5.leave (v := some (.int (1 : Int32))) (fun h => by rw [Bd.returns] at h; cases h)
  refine ⟨_, _, (retN X5 hx (t := .boolean) Bd.returns (by simp) (hb hby da1_24) hr), hrun, hended, _, _, rfl, ?_, ⟨_, rfl⟩, hW, hsame.mono (by decide) (by decide)⟩
  show Qa1 Z a de fd mc x1 h0 n0 _ T5.heap _
  exact ⟨b, rfl, Nf, Kp, sz_b, F_modCount_a, F_elementData_a, F_size_a, E_b, V_b⟩
theorem da2_0 : decode jdk_38_method_25_code 0 = .ok (.aload_n 0, 1) := by decide +kernel
theorem da2_1 : decode jdk_38_method_25_code 1 = .ok (.dup, 1) := by decide +kernel
theorem da2_2 : decode jdk_38_method_25_code 2 = .ok (.getfield 63, 3) := by decide +kernel
theorem da2_5 : decode jdk_38_method_25_code 5 = .ok (.iconst 1, 1) := by decide +kernel
theorem da2_6 : decode jdk_38_method_25_code 6 = .ok (.iadd, 1) := by decide +kernel
theorem da2_7 : decode jdk_38_method_25_code 7 = .ok (.putfield 63, 3) := by decide +kernel
theorem da2_10 : decode jdk_38_method_25_code 10 = .ok (.aload_n 0, 1) := by decide +kernel
theorem da2_11 : decode jdk_38_method_25_code 11 = .ok (.aload_n 1, 1) := by decide +kernel
theorem da2_12 : decode jdk_38_method_25_code 12 = .ok (.aload_n 0, 1) := by decide +kernel
theorem da2_13 : decode jdk_38_method_25_code 13 = .ok (.getfield 9, 3) := by decide +kernel
theorem da2_16 : decode jdk_38_method_25_code 16 = .ok (.aload_n 0, 1) := by decide +kernel
theorem da2_17 : decode jdk_38_method_25_code 17 = .ok (.getfield 48, 3) := by decide +kernel
theorem da2_20 : decode jdk_38_method_25_code 20 = .ok (.invokevirtual 131, 3) := by decide +kernel
theorem da2_23 : decode jdk_38_method_25_code 23 = .ok (.iconst 1, 1) := by decide +kernel
theorem da2_24 : decode jdk_38_method_25_code 24 = .ok (.ireturn, 1) := by decide +kernel
theorem ef_a2 (m : MethodId) (x0 : Addr) (x1 : Addr) : entryFrame m #[(.ref x0), (.ref x1)] 2 = mkF m 0 #[.val (.ref x0), .val (.ref x1)] [] := by first | (simp [entryFrame, mkF, argsToLocals, Value.category]; done) | rfl
def Qa2 (Z : State) (a : Addr) (b : Addr) (ff : Nat → Value) (mc : Int32) (k : Int32) (x1 : Addr) (h0 : Heap) (n0 : Nat) (v : Option Value) (h : Heap) (L : List Loc) : Prop := v = some (.int 1) ∧ Fr n0 L ∧ Keep h0 h [a, b] ∧ Fld Z h a "java/util/AbstractList" "modCount" "I" (.int (mc + (1 : Int32))) ∧ Fld Z h a "java/util/ArrayList" "elementData" "[Ljava/lang/Object;" (.ref b) ∧ Fld Z h a "java/util/ArrayList" "size" "I" (.int (k + (1 : Int32))) ∧ own_Rr Z h b "java/lang/Object" (10 : Int32) (fun j => if j = k.toNatClampNeg then .ref x1 else ff j)
def Pa2 (Z : State) (a : Addr) (b : Addr) (ff : Nat → Value) (mc : Int32) (k : Int32) (x1 : Addr) (h0 : Heap) (n0 : Nat) (s : State) (oQ : Outcome) (U : State) : Prop := ∃ v L, oQ = .returned v ∧ Qa2 Z a b ff mc k x1 h0 n0 v U.heap L ∧ FrameEnd s oQ U L ({ frames := 1, cells := 0, slots := 0, locals := 15 } : Room).cells ({ frames := 1, cells := 0, slots := 0, locals := 15 } : Room).slots
set_option maxRecDepth 65536 in
set_option maxHeartbeats 40000000 in
theorem rma2 (l : Launch) (Z : State) (a0 : Array Value) (hw : ∀ d ∈ tables_1, d.before a0 Z = true) (ws : List Jvm.Cond) (a : Addr) (b : Addr) (ff : Nat → Value) (mc : Int32) (k : Int32) (x1 : Addr) (h0 : Heap) (n0 : Nat) (Z0 : n0 ≤ h0.size) (E_a : Exa Z h0 a "java/util/ArrayList") (F_modCount_a : Fld Z h0 a "java/util/AbstractList" "modCount" "I" (.int mc)) (F_elementData_a : Fld Z h0 a "java/util/ArrayList" "elementData" "[Ljava/lang/Object;" (.ref b)) (F_size_a : Fld Z h0 a "java/util/ArrayList" "size" "I" (.int k)) (g_a : n0 ≤ a) (V_b : own_Rr Z h0 b "java/lang/Object" (10 : Int32) (ff)) (g_b : n0 ≤ b) (ne_a_b : a ≠ b) (hk0 : ¬ k < 0) (hk1 : k < 10) (E_x1 : Exa Z h0 x1 "com/example/grant3/grant3/Explanation$Reason") :
    MetFree l (⟨"java/util/ArrayList", "add", "(Ljava/lang/Object;)Z"⟩ : MethodName) (head1 (Jvm.Cond.code (⟨"java/util/ArrayList", "add", "(Ljava/lang/Object;)Z"⟩ : MethodName) jdk_38_method_25_code 2 (some .boolean) :: ws) ({ frames := 1, cells := 0, slots := 0, locals := 15 } : Room)) (fun aQ U => aQ = #[(.ref a), (.ref x1)] ∧ Z.Warmed39 U.vm ∧ U.heap = h0) (fun _ _ _ _ _ => True) (fun _ U oQ U' => ∃ v L, oQ = .returned v ∧ Qa2 Z a b ff mc k x1 h0 n0 v U'.heap L ∧ FrameEnd U oQ U' L ({ frames := 1, cells := 0, slots := 0, locals := 15 } : Room).cells ({ frames := 1, cells := 0, slots := 0, locals := 15 } : Room).slots) := by
  refine MetFree.of_bodySF (plainFor_of_name pn_6) hisR ?_
  intro p e s m args below meth c s₁ Bd hml0 hP hK
  obtain ⟨rfl, hZ, hh⟩ := hP
  have hx := Bd.exec
  have hby := Bd.bytes
  have hml : c.maxLocals = 2 := hml0
  have hown : s.vm.findClass "java/util/ArrayList" = some m.cls := findClass_of_methodNamed Bd.named
  have hnm := (name_of_methodNamed Bd.named Bd.method).1
  have X0 : Stand p l e ({ frames := 1, cells := 0, slots := 0, locals := 15 } : Room) s m #[(.ref a), (.ref x1)] below meth c s₁ [] 0 0 := Stand.of_body Bd
  have e0 : s₁.heap = h0 := by rw [← hh, Bd.state]; rfl
  have Nf := Fr.nil n0
  have Zs : n0 ≤ h0.size := Z0
  have Kp : Keep h0 h0 [a, b] := Keep.refl _ _
  have szr : h0.size ≤ h0.size := Nat.le_refl _
  show own_End p e below (Pa2 Z a b ff mc k x1 h0 n0 s) (s₁.setTop (entryFrame m #[(.ref a), (.ref x1)] 2))
  rw [ef_a2]
  have ne_a_x1 : a ≠ x1 := ne_exa E_a E_x1 (by decide)
  refine own_go (fun tQ kQ => XS.aloadN X0.here hx rfl (hb hby da2_0) rfl rfl kQ) ?_
  show own_End p e below _ (s₁.setTop (mkF m 1 #[.val (.ref a), .val (.ref x1)] [(.ref a)]))
  refine own_go (fun tQ kQ => XS.dup X0.here hx rfl (hb hby da2_1) rfl rfl kQ) ?_
  show own_End p e below _ (s₁.setTop (mkF m 2 #[.val (.ref a), .val (.ref x1)] [(.ref a), (.ref a)]))
  obtain ⟨T1, X1, e1, st1⟩ := getF X0 hx hZ hown (host := "") (Or.inl (hw _ (List.mem_of_getElem? (i := 193) rfl))) (Via.of (hw _ (List.mem_of_getElem? (i := 194) rfl))) e0 F_modCount_a (g := (mkF m 2 #[.val (.ref a), .val (.ref x1)] [(.ref a), (.ref a)])) rfl rfl (hb hby da2_2)
  refine own_go (fun tQ kQ => st1 tQ kQ) ?_
  show own_End p e below _ (T1.setTop (mkF m 5 #[.val (.ref a), .val (.ref x1)] [(.int mc), (.ref a)]))
  refine own_go (fun tQ kQ => XS.iconst X1.here hx rfl (hb hby da2_5) kQ) ?_
  show own_End p e below _ (T1.setTop (mkF m 6 #[.val (.ref a), .val (.ref x1)] [(.int (1 : Int32)), (.int mc), (.ref a)]))
  refine own_go (fun tQ kQ => XS.iadd X1.here hx rfl (hb hby da2_6) rfl kQ) ?_
  show own_End p e below _ (T1.setTop (mkF m 7 #[.val (.ref a), .val (.ref x1)] [(.int (mc + (1 : Int32))), (.ref a)]))
  obtain ⟨T2, h2, X2, e2, W2, st2⟩ := putF X1 hx hZ hown (host := "") (Or.inl (hw _ (List.mem_of_getElem? (i := 193) rfl))) (Via.of (hw _ (List.mem_of_getElem? (i := 194) rfl))) e1 F_modCount_a E_a (Or.inl (hw _ (List.mem_of_getElem? (i := 125) rfl))) (hw _ (List.mem_of_getElem? (i := 106) rfl)) (ty := .int) (by decide) rfl rfl (g := (mkF m 7 #[.val (.ref a), .val (.ref x1)] [(.int (mc + (1 : Int32))), (.ref a)])) rfl rfl (hb hby da2_7)
  have F_modCount_a := F_modCount_a.same W2
  have E_a := E_a.wr W2
  have F_elementData_a := F_elementData_a.other W2 (Or.inr (slot_ne (Or.inl (hw _ (List.mem_of_getElem? (i := 128) rfl))) (Or.inl (hw _ (List.mem_of_getElem? (i := 125) rfl))) (by decide) (t := (.array (.object "java/lang/Object"))) (t' := .int) (by decide) (by decide)))
  have F_size_a := F_size_a.other W2 (Or.inr (slot_ne (Or.inl (hw _ (List.mem_of_getElem? (i := 165) rfl))) (Or.inl (hw _ (List.mem_of_getElem? (i := 125) rfl))) (by decide) (t := .int) (t' := .int) (by decide) (by decide)))
  have E_x1 := E_x1.wr W2
  have V_b := V_b.other W2 (Ne.symm ne_a_b)
  have Kp := Kp.wr W2 (Or.inl (List.mem_of_getElem? (i := 0) rfl))
  have Nf := Fr.snoc X2 Nf g_a
  have Zs := Nat.le_trans Zs (Keep.of_wr W2).1
  have szr := Nat.le_trans szr (Keep.of_wr W2).1
  refine own_go (fun tQ kQ => st2 tQ kQ) ?_
  show own_End p e below _ (T2.setTop (mkF m 10 #[.val (.ref a), .val (.ref x1)] []))
  refine own_go (fun tQ kQ => XS.aloadN X2.here hx rfl (hb hby da2_10) rfl rfl kQ) ?_
  show own_End p e below _ (T2.setTop (mkF m 11 #[.val (.ref a), .val (.ref x1)] [(.ref a)]))
  refine own_go (fun tQ kQ => XS.aloadN X2.here hx rfl (hb hby da2_11) rfl rfl kQ) ?_
  show own_End p e below _ (T2.setTop (mkF m 12 #[.val (.ref a), .val (.ref x1)] [(.ref x1), (.ref a)]))
  refine own_go (fun tQ kQ => XS.aloadN X2.here hx rfl (hb hby da2_12) rfl rfl kQ) ?_
  show own_End p e below _ (T2.setTop (mkF m 13 #[.val (.ref a), .val (.ref x1)] [(.ref a), (.ref x1), (.ref a)]))
  obtain ⟨T3, X3, e3, st3⟩ := getF X2 hx hZ hown (host := "") (Or.inl (hw _ (List.mem_of_getElem? (i := 127) rfl))) Via.refl e2 F_elementData_a (g := (mkF m 13 #[.val (.ref a), .val (.ref x1)] [(.ref a), (.ref x1), (.ref a)])) rfl rfl (hb hby da2_13)
  refine own_go (fun tQ kQ => st3 tQ kQ) ?_
  show own_End p e below _ (T3.setTop (mkF m 16 #[.val (.ref a), .val (.ref x1)] [(.ref b), (.ref x1), (.ref a)]))
  refine own_go (fun tQ kQ => XS.aloadN X3.here hx rfl (hb hby da2_16) rfl rfl kQ) ?_
  show own_End p e below _ (T3.setTop (mkF m 17 #[.val (.ref a), .val (.ref x1)] [(.ref a), (.ref b), (.ref x1), (.ref a)]))
  obtain ⟨T4, X4, e4, st4⟩ := getF X3 hx hZ hown (host := "") (Or.inl (hw _ (List.mem_of_getElem? (i := 164) rfl))) Via.refl e3 F_size_a (g := (mkF m 17 #[.val (.ref a), .val (.ref x1)] [(.ref a), (.ref b), (.ref x1), (.ref a)])) rfl rfl (hb hby da2_17)
  refine own_go (fun tQ kQ => st4 tQ kQ) ?_
  show own_End p e below _ (T4.setTop (mkF m 20 #[.val (.ref a), .val (.ref x1)] [(.int k), (.ref b), (.ref x1), (.ref a)]))
  obtain ⟨cq5, q5, q5'⟩ := E_a.cell
  obtain ⟨_, _, ⟨T5, L5, k5, n5⟩, -, X5, ⟨Lc5, hQ5, l5, y5, z5⟩, st5⟩ := X4.privateBack hx (y := (⟨"java/util/ArrayList", "add", "(Ljava/lang/Object;[Ljava/lang/Object;I)V"⟩ : MethodName)) hown (mvT hZ (hw _ (List.mem_of_getElem? (i := 195) rfl))) (mvT hZ (hw _ (List.mem_of_getElem? (i := 196) rfl))) (mvT hZ (hw _ (List.mem_of_getElem? (i := 198) rfl))) (Cond.privateMethod_at (mvP hZ (hw _ (List.mem_of_getElem? (i := 197) rfl)) (args := #[]))) (mvT hZ (hw _ (List.mem_of_getElem? (i := 199) rfl))) (by decide) (backOf (W := 0) (rmh2 l Z a0 hw [] a b ff (mc + (1 : Int32)) k x1 h2 n0 Zs E_a F_modCount_a F_elementData_a F_size_a g_a V_b g_b ne_a_b hk0 hk1 E_x1) hZ (hw _ (List.mem_of_getElem? (i := 199) rfl)) (hw _ (List.mem_of_getElem? (i := 107) rfl)) (by decide) (by decide)) (g := (mkF m 20 #[.val (.ref a), .val (.ref x1)] [(.int k), (.ref b), (.ref x1), (.ref a)])) rfl (by rw [hml]; rfl) (Steps.refl _) (a := a) (by rw [e4]; exact q5) q5' (argsL := [(.ref x1), (.ref b), (.int k)]) (rest := []) (lenOf pd_10 rfl) rfl (by show 2 * 0 + _ ≤ _; exact Nat.le_of_eq rfl) (hb hby da2_20) (fun _ _ => ⟨rfl, e4, (Nat.le_of_ble_eq_true rfl), (Nat.le_of_ble_eq_true rfl)⟩)
  dsimp only [Pt.U, Pt.locs, Pt.cells, Pt.slots] at X5 l5 y5 z5 st5 hQ5
  rw [l5, y5, z5] at X5
  obtain ⟨rfl, N5q, K5, F_modCount_a, F_elementData_a, F_size_a, V_b⟩ := hQ5
  have Nf := Fr.app Nf N5q
  have E_a := E_a.keep K5
  have E_x1 := E_x1.keep K5
  have Kp := Kp.trans K5 (allS (Or.inl (List.mem_of_getElem? (i := 0) rfl)) (allS (Or.inl (List.mem_of_getElem? (i := 1) rfl)) all0))
  have Zs := Nat.le_trans Zs K5.1
  have szr := Nat.le_trans szr K5.1
  have X5 := own_pad (k' := 0) (n' := 0) X5 (by decide) (by decide)
  refine own_go (fun tQ kQ => st5.trans kQ) ?_
  show own_End p e below _ (T5.setTop (mkF m 23 #[.val (.ref a), .val (.ref x1)] []))
  refine own_go (fun tQ kQ => XS.iconst X5.here hx rfl (hb hby da2_23) kQ) ?_
  show own_End p e below _ (T5.setTop (mkF m 24 #[.val (.ref a), .val (.ref x1)] [(.int (1 : Int32))]))
  obtain ⟨fs, hr, hrun, hended, hW, hsame⟩ := X5.leave (v := some (.int (1 : Int32))) (fun h => by rw [Bd.returns] at h; cases h)
  refine ⟨_, _, (retN X5 hx (t := .boolean) Bd.returns (by simp) (hb hby da2_24) hr), hrun, hended, _, _, rfl, ?_, ⟨_, rfl⟩, hW, hsame.mono (by decide) (by decide)⟩
  show Qa2 Z a b ff mc k x1 h0 n0 _ T5.heap _
  exact ⟨rfl, Nf, Kp, F_modCount_a, F_elementData_a, F_size_a, V_b⟩
theorem die0_0 : decode jdk_38_method_9_code 0 = .ok (.aload_n 0, 1) := by decide +kernel
theorem die0_1 : decode jdk_38_method_9_code 1 = .ok (.getfield 48, 3) := by decide +kernel
theorem die0_4 : decode jdk_38_method_9_code 4 = .ok (.ifCond .ne 7, 3) := by decide +kernel
theorem die0_7 : decode jdk_38_method_9_code 7 = .ok (.iconst 1, 1) := by decide +kernel
theorem die0_8 : decode jdk_38_method_9_code 8 = .ok (.goto 4, 3) := by decide +kernel
theorem die0_12 : decode jdk_38_method_9_code 12 = .ok (.ireturn, 1) := by decide +kernel
theorem ef_ie0 (m : MethodId) (x0 : Addr) : entryFrame m #[(.ref x0)] 1 = mkF m 0 #[.val (.ref x0)] [] := by first | (simp [entryFrame, mkF, argsToLocals, Value.category]; done) | rfl
def Qie0 (Z : State) (a : Addr) (h0 : Heap) (n0 : Nat) (v : Option Value) (h : Heap) (L : List Loc) : Prop := v = some (.int 1) ∧ Fr n0 L ∧ h = h0
def Pie0 (Z : State) (a : Addr) (h0 : Heap) (n0 : Nat) (s : State) (oQ : Outcome) (U : State) : Prop := ∃ v L, oQ = .returned v ∧ Qie0 Z a h0 n0 v U.heap L ∧ FrameEnd s oQ U L ({ frames := 0, cells := 0, slots := 0, locals := 0 } : Room).cells ({ frames := 0, cells := 0, slots := 0, locals := 0 } : Room).slots
set_option maxRecDepth 65536 in
set_option maxHeartbeats 40000000 in
theorem rmie0 (l : Launch) (Z : State) (a0 : Array Value) (hw : ∀ d ∈ tables_1, d.before a0 Z = true) (ws : List Jvm.Cond) (a : Addr) (h0 : Heap) (n0 : Nat) (Z0 : n0 ≤ h0.size) (F_size_a : Fld Z h0 a "java/util/ArrayList" "size" "I" (.int (0 : Int32))) :
    MetFree l (⟨"java/util/ArrayList", "isEmpty", "()Z"⟩ : MethodName) (head1 (Jvm.Cond.code (⟨"java/util/ArrayList", "isEmpty", "()Z"⟩ : MethodName) jdk_38_method_9_code 1 (some .boolean) :: ws) ({ frames := 0, cells := 0, slots := 0, locals := 0 } : Room)) (fun aQ U => aQ = #[(.ref a)] ∧ Z.Warmed39 U.vm ∧ U.heap = h0) (fun _ _ _ _ _ => True) (fun _ U oQ U' => ∃ v L, oQ = .returned v ∧ Qie0 Z a h0 n0 v U'.heap L ∧ FrameEnd U oQ U' L ({ frames := 0, cells := 0, slots := 0, locals := 0 } : Room).cells ({ frames := 0, cells := 0, slots := 0, locals := 0 } : Room).slots) := by
  refine MetFree.of_bodySF (plainFor_of_name pn_6) hisR ?_
  intro p e s m args below meth c s₁ Bd hml0 hP hK
  obtain ⟨rfl, hZ, hh⟩ := hP
  have hx := Bd.exec
  have hby := Bd.bytes
  have hml : c.maxLocals = 1 := hml0
  have hown : s.vm.findClass "java/util/ArrayList" = some m.cls := findClass_of_methodNamed Bd.named
  have hnm := (name_of_methodNamed Bd.named Bd.method).1
  have X0 : Stand p l e ({ frames := 0, cells := 0, slots := 0, locals := 0 } : Room) s m #[(.ref a)] below meth c s₁ [] 0 0 := Stand.of_body Bd
  have e0 : s₁.heap = h0 := by rw [← hh, Bd.state]; rfl
  have Nf := Fr.nil n0
  have Zs : n0 ≤ h0.size := Z0
  have Kp : Keep h0 h0 [] := Keep.refl _ _
  have szr : h0.size ≤ h0.size := Nat.le_refl _
  show own_End p e below (Pie0 Z a h0 n0 s) (s₁.setTop (entryFrame m #[(.ref a)] 1))
  rw [ef_ie0]
  refine own_go (fun tQ kQ => XS.aloadN X0.here hx rfl (hb hby die0_0) rfl rfl kQ) ?_
  show own_End p e below _ (s₁.setTop (mkF m 1 #[.val (.ref a)] [(.ref a)]))
  obtain ⟨T1, X1, e1, st1⟩ := getF X0 hx hZ hown (host := "") (Or.inl (hw _ (List.mem_of_getElem? (i := 164) rfl))) Via.refl e0 F_size_a (g := (mkF m 1 #[.val (.ref a)] [(.ref a)])) rfl rfl (hb hby die0_1)
  refine own_go (fun tQ kQ => st1 tQ kQ) ?_
  show own_End p e below _ (T1.setTop (mkF m 4 #[.val (.ref a)] [(.int (0 : Int32))]))
  refine own_go (fun tQ kQ => XS.ifNo X1.here hx rfl (hb hby die0_4) rfl ((if0 _ _).trans (teq (by decide)).2) kQ) ?_
  show own_End p e below _ (T1.setTop (mkF m 7 #[.val (.ref a)] []))
  refine own_go (fun tQ kQ => XS.iconst X1.here hx rfl (hb hby die0_7) kQ) ?_
  show own_End p e below _ (T1.setTop (mkF m 8 #[.val (.ref a)] [(.int (1 : Int32))]))
  refine own_go (fun tQ kQ => XS.goto X1.here hx rfl (pc0 := 8) (pc' := 12) rfl (hb hby die0_8) (by decide) (by decide) kQ) ?_
  show own_End p e below _ (T1.setTop (mkF m 12 #[.val (.ref a)] [(.int (1 : Int32))]))
  obtain ⟨fs, hr, hrun, hended, hW, hsame⟩ := X1.leave (v := some (.int (1 : Int32))) (fun h => by rw [Bd.returns] at h; cases h)
  refine ⟨_, _, (retN X1 hx (t := .boolean) Bd.returns (by simp) (hb hby die0_12) hr), hrun, hended, _, _, rfl, ?_, ⟨_, rfl⟩, hW, hsame.mono (by decide) (by decide)⟩
  show Qie0 Z a h0 n0 _ T1.heap _
  rw [e1]
  exact ⟨rfl, Nf, rfl⟩
theorem die1_0 : decode jdk_38_method_9_code 0 = .ok (.aload_n 0, 1) := by decide +kernel
theorem die1_1 : decode jdk_38_method_9_code 1 = .ok (.getfield 48, 3) := by decide +kernel
theorem die1_4 : decode jdk_38_method_9_code 4 = .ok (.ifCond .ne 7, 3) := by decide +kernel
theorem die1_11 : decode jdk_38_method_9_code 11 = .ok (.iconst 0, 1) := by decide +kernel
theorem die1_12 : decode jdk_38_method_9_code 12 = .ok (.ireturn, 1) := by decide +kernel
theorem ef_ie1 (m : MethodId) (x0 : Addr) : entryFrame m #[(.ref x0)] 1 = mkF m 0 #[.val (.ref x0)] [] := by first | (simp [entryFrame, mkF, argsToLocals, Value.category]; done) | rfl
def Qie1 (Z : State) (a : Addr) (h0 : Heap) (n0 : Nat) (v : Option Value) (h : Heap) (L : List Loc) : Prop := v = some (.int 0) ∧ Fr n0 L ∧ h = h0
def Pie1 (Z : State) (a : Addr) (h0 : Heap) (n0 : Nat) (s : State) (oQ : Outcome) (U : State) : Prop := ∃ v L, oQ = .returned v ∧ Qie1 Z a h0 n0 v U.heap L ∧ FrameEnd s oQ U L ({ frames := 0, cells := 0, slots := 0, locals := 0 } : Room).cells ({ frames := 0, cells := 0, slots := 0, locals := 0 } : Room).slots
set_option maxRecDepth 65536 in
set_option maxHeartbeats 40000000 in
theorem rmie1 (l : Launch) (Z : State) (a0 : Array Value) (hw : ∀ d ∈ tables_1, d.before a0 Z = true) (ws : List Jvm.Cond) (a : Addr) (h0 : Heap) (n0 : Nat) (Z0 : n0 ≤ h0.size) (F_size_a : Fld Z h0 a "java/util/ArrayList" "size" "I" (.int (1 : Int32))) :
    MetFree l (⟨"java/util/ArrayList", "isEmpty", "()Z"⟩ : MethodName) (head1 (Jvm.Cond.code (⟨"java/util/ArrayList", "isEmpty", "()Z"⟩ : MethodName) jdk_38_method_9_code 1 (some .boolean) :: ws) ({ frames := 0, cells := 0, slots := 0, locals := 0 } : Room)) (fun aQ U => aQ = #[(.ref a)] ∧ Z.Warmed39 U.vm ∧ U.heap = h0) (fun _ _ _ _ _ => True) (fun _ U oQ U' => ∃ v L, oQ = .returned v ∧ Qie1 Z a h0 n0 v U'.heap L ∧ FrameEnd U oQ U' L ({ frames := 0, cells := 0, slots := 0, locals := 0 } : Room).cells ({ frames := 0, cells := 0, slots := 0, locals := 0 } : Room).slots) := by
  refine MetFree.of_bodySF (plainFor_of_name pn_6) hisR ?_
  intro p e s m args below meth c s₁ Bd hml0 hP hK
  obtain ⟨rfl, hZ, hh⟩ := hP
  have hx := Bd.exec
  have hby := Bd.bytes
  have hml : c.maxLocals = 1 := hml0
  have hown : s.vm.findClass "java/util/ArrayList" = some m.cls := findClass_of_methodNamed Bd.named
  have hnm := (name_of_methodNamed Bd.named Bd.method).1
  have X0 : Stand p l e ({ frames := 0, cells := 0, slots := 0, locals := 0 } : Room) s m #[(.ref a)] below meth c s₁ [] 0 0 := Stand.of_body Bd
  have e0 : s₁.heap = h0 := by rw [← hh, Bd.state]; rfl
  have Nf := Fr.nil n0
  have Zs : n0 ≤ h0.size := Z0
  have Kp : Keep h0 h0 [] := Keep.refl _ _
  have szr : h0.size ≤ h0.size := Nat.le_refl _
  show own_End p e below (Pie1 Z a h0 n0 s) (s₁.setTop (entryFrame m #[(.ref a)] 1))
  rw [ef_ie1]
  refine own_go (fun tQ kQ => XS.aloadN X0.here hx rfl (hb hby die1_0) rfl rfl kQ) ?_
  show own_End p e below _ (s₁.setTop (mkF m 1 #[.val (.ref a)] [(.ref a)]))
  obtain ⟨T1, X1, e1, st1⟩ := getF X0 hx hZ hown (host := "") (Or.inl (hw _ (List.mem_of_getElem? (i := 164) rfl))) Via.refl e0 F_size_a (g := (mkF m 1 #[.val (.ref a)] [(.ref a)])) rfl rfl (hb hby die1_1)
  refine own_go (fun tQ kQ => st1 tQ kQ) ?_
  show own_End p e below _ (T1.setTop (mkF m 4 #[.val (.ref a)] [(.int (1 : Int32))]))
  refine own_go (fun tQ kQ => XS.ifYes X1.here hx rfl (pc0 := 4) (pc' := 11) rfl (hb hby die1_4) rfl ((if0 _ _).trans (feq (by decide)).2) (by decide) (by decide) kQ) ?_
  show own_End p e below _ (T1.setTop (mkF m 11 #[.val (.ref a)] []))
  refine own_go (fun tQ kQ => XS.iconst X1.here hx rfl (hb hby die1_11) kQ) ?_
  show own_End p e below _ (T1.setTop (mkF m 12 #[.val (.ref a)] [(.int (0 : Int32))]))
  obtain ⟨fs, hr, hrun, hended, hW, hsame⟩ := X1.leave (v := some (.int (0 : Int32))) (fun h => by rw [Bd.returns] at h; cases h)
  refine ⟨_, _, (retN X1 hx (t := .boolean) Bd.returns (by simp) (hb hby die1_12) hr), hrun, hended, _, _, rfl, ?_, ⟨_, rfl⟩, hW, hsame.mono (by decide) (by decide)⟩
  show Qie1 Z a h0 n0 _ T1.heap _
  rw [e1]
  exact ⟨rfl, Nf, rfl⟩
theorem die2_0 : decode jdk_38_method_9_code 0 = .ok (.aload_n 0, 1) := by decide +kernel
theorem die2_1 : decode jdk_38_method_9_code 1 = .ok (.getfield 48, 3) := by decide +kernel
theorem die2_4 : decode jdk_38_method_9_code 4 = .ok (.ifCond .ne 7, 3) := by decide +kernel
theorem die2_11 : decode jdk_38_method_9_code 11 = .ok (.iconst 0, 1) := by decide +kernel
theorem die2_12 : decode jdk_38_method_9_code 12 = .ok (.ireturn, 1) := by decide +kernel
theorem ef_ie2 (m : MethodId) (x0 : Addr) : entryFrame m #[(.ref x0)] 1 = mkF m 0 #[.val (.ref x0)] [] := by first | (simp [entryFrame, mkF, argsToLocals, Value.category]; done) | rfl
def Qie2 (Z : State) (a : Addr) (h0 : Heap) (n0 : Nat) (v : Option Value) (h : Heap) (L : List Loc) : Prop := v = some (.int 0) ∧ Fr n0 L ∧ h = h0
def Pie2 (Z : State) (a : Addr) (h0 : Heap) (n0 : Nat) (s : State) (oQ : Outcome) (U : State) : Prop := ∃ v L, oQ = .returned v ∧ Qie2 Z a h0 n0 v U.heap L ∧ FrameEnd s oQ U L ({ frames := 0, cells := 0, slots := 0, locals := 0 } : Room).cells ({ frames := 0, cells := 0, slots := 0, locals := 0 } : Room).slots
set_option maxRecDepth 65536 in
set_option maxHeartbeats 40000000 in
theorem rmie2 (l : Launch) (Z : State) (a0 : Array Value) (hw : ∀ d ∈ tables_1, d.before a0 Z = true) (ws : List Jvm.Cond) (a : Addr) (h0 : Heap) (n0 : Nat) (Z0 : n0 ≤ h0.size) (F_size_a : Fld Z h0 a "java/util/ArrayList" "size" "I" (.int (2 : Int32))) :
    MetFree l (⟨"java/util/ArrayList", "isEmpty", "()Z"⟩ : MethodName) (head1 (Jvm.Cond.code (⟨"java/util/ArrayList", "isEmpty", "()Z"⟩ : MethodName) jdk_38_method_9_code 1 (some .boolean) :: ws) ({ frames := 0, cells := 0, slots := 0, locals := 0 } : Room)) (fun aQ U => aQ = #[(.ref a)] ∧ Z.Warmed39 U.vm ∧ U.heap = h0) (fun _ _ _ _ _ => True) (fun _ U oQ U' => ∃ v L, oQ = .returned v ∧ Qie2 Z a h0 n0 v U'.heap L ∧ FrameEnd U oQ U' L ({ frames := 0, cells := 0, slots := 0, locals := 0 } : Room).cells ({ frames := 0, cells := 0, slots := 0, locals := 0 } : Room).slots) := by
  refine MetFree.of_bodySF (plainFor_of_name pn_6) hisR ?_
  intro p e s m args below meth c s₁ Bd hml0 hP hK
  obtain ⟨rfl, hZ, hh⟩ := hP
  have hx := Bd.exec
  have hby := Bd.bytes
  have hml : c.maxLocals = 1 := hml0
  have hown : s.vm.findClass "java/util/ArrayList" = some m.cls := findClass_of_methodNamed Bd.named
  have hnm := (name_of_methodNamed Bd.named Bd.method).1
  have X0 : Stand p l e ({ frames := 0, cells := 0, slots := 0, locals := 0 } : Room) s m #[(.ref a)] below meth c s₁ [] 0 0 := Stand.of_body Bd
  have e0 : s₁.heap = h0 := by rw [← hh, Bd.state]; rfl
  have Nf := Fr.nil n0
  have Zs : n0 ≤ h0.size := Z0
  have Kp : Keep h0 h0 [] := Keep.refl _ _
  have szr : h0.size ≤ h0.size := Nat.le_refl _
  show own_End p e below (Pie2 Z a h0 n0 s) (s₁.setTop (entryFrame m #[(.ref a)] 1))
  rw [ef_ie2]
  refine own_go (fun tQ kQ => XS.aloadN X0.here hx rfl (hb hby die2_0) rfl rfl kQ) ?_
  show own_End p e below _ (s₁.setTop (mkF m 1 #[.val (.ref a)] [(.ref a)]))
  obtain ⟨T1, X1, e1, st1⟩ := getF X0 hx hZ hown (host := "") (Or.inl (hw _ (List.mem_of_getElem? (i := 164) rfl))) Via.refl e0 F_size_a (g := (mkF m 1 #[.val (.ref a)] [(.ref a)])) rfl rfl (hb hby die2_1)
  refine own_go (fun tQ kQ => st1 tQ kQ) ?_
  show own_End p e below _ (T1.setTop (mkF m 4 #[.val (.ref a)] [(.int (2 : Int32))]))
  refine own_go (fun tQ kQ => XS.ifYes X1.here hx rfl (pc0 := 4) (pc' := 11) rfl (hb hby die2_4) rfl ((if0 _ _).trans (feq (by decide)).2) (by decide) (by decide) kQ) ?_
  show own_End p e below _ (T1.setTop (mkF m 11 #[.val (.ref a)] []))
  refine own_go (fun tQ kQ => XS.iconst X1.here hx rfl (hb hby die2_11) kQ) ?_
  show own_End p e below _ (T1.setTop (mkF m 12 #[.val (.ref a)] [(.int (0 : Int32))]))
  obtain ⟨fs, hr, hrun, hended, hW, hsame⟩ := X1.leave (v := some (.int (0 : Int32))) (fun h => by rw [Bd.returns] at h; cases h)
  refine ⟨_, _, (retN X1 hx (t := .boolean) Bd.returns (by simp) (hb hby die2_12) hr), hrun, hended, _, _, rfl, ?_, ⟨_, rfl⟩, hW, hsame.mono (by decide) (by decide)⟩
  show Qie2 Z a h0 n0 _ T1.heap _
  rw [e1]
  exact ⟨rfl, Nf, rfl⟩
theorem dlo0_0 : decode jdk_40_method_36_code 0 = .ok (.getstatic 90, 3) := by decide +kernel
theorem dlo0_3 : decode jdk_40_method_36_code 3 = .ok (.areturn, 1) := by decide +kernel
theorem pn_11 : plainName "java/util/List" = true := by first | (simp [plainName, overriddenIn]; done) | decide +kernel
theorem ef_lo0 (m : MethodId)  : entryFrame m #[] 0 = mkF m 0 #[] [] := by first | (simp [entryFrame, mkF, argsToLocals, Value.category]; done) | rfl
def Qlo0 (Z : State) (el : Addr) (h0 : Heap) (n0 : Nat) (v : Option Value) (h : Heap) (L : List Loc) : Prop := v = some (.ref el) ∧ Fr n0 L ∧ h = h0
def Plo0 (Z : State) (el : Addr) (h0 : Heap) (n0 : Nat) (s : State) (oQ : Outcome) (U : State) : Prop := ∃ v L, oQ = .returned v ∧ Qlo0 Z el h0 n0 v U.heap L ∧ FrameEnd s oQ U L ({ frames := 0, cells := 0, slots := 0, locals := 0 } : Room).cells ({ frames := 0, cells := 0, slots := 0, locals := 0 } : Room).slots
set_option maxRecDepth 65536 in
set_option maxHeartbeats 40000000 in
theorem rmlo0 (l : Launch) (Z : State) (a0 : Array Value) (hw : ∀ d ∈ tables_1, d.before a0 Z = true) (ws : List Jvm.Cond) (el : Addr) (h0 : Heap) (n0 : Nat) (Z0 : n0 ≤ h0.size) (Ol : Old Z n0 h0) (S_el : Sta Z Z.heap "java/util/ImmutableCollections" "EMPTY_LIST" "Ljava/util/ImmutableCollections$ListN;" (.ref el)) :
    MetFree l (⟨"java/util/List", "of", "()Ljava/util/List;"⟩ : MethodName) (head1 (Jvm.Cond.code (⟨"java/util/List", "of", "()Ljava/util/List;"⟩ : MethodName) jdk_40_method_36_code 0 (some (.object "java/util/List")) :: ws) ({ frames := 0, cells := 0, slots := 0, locals := 0 } : Room)) (fun aQ U => aQ = #[] ∧ Z.Warmed39 U.vm ∧ U.heap = h0) (fun _ _ _ _ _ => True) (fun _ U oQ U' => ∃ v L, oQ = .returned v ∧ Qlo0 Z el h0 n0 v U'.heap L ∧ FrameEnd U oQ U' L ({ frames := 0, cells := 0, slots := 0, locals := 0 } : Room).cells ({ frames := 0, cells := 0, slots := 0, locals := 0 } : Room).slots) := by
  refine MetFree.of_bodySF (plainFor_of_name pn_11) hisR ?_
  intro p e s m args below meth c s₁ Bd hml0 hP hK
  obtain ⟨rfl, hZ, hh⟩ := hP
  have hx := Bd.exec
  have hby := Bd.bytes
  have hml : c.maxLocals = 0 := hml0
  have hown : s.vm.findClass "java/util/List" = some m.cls := findClass_of_methodNamed Bd.named
  have hnm := (name_of_methodNamed Bd.named Bd.method).1
  have X0 : Stand p l e ({ frames := 0, cells := 0, slots := 0, locals := 0 } : Room) s m #[] below meth c s₁ [] 0 0 := Stand.of_body Bd
  have e0 : s₁.heap = h0 := by rw [← hh, Bd.state]; rfl
  have Nf := Fr.nil n0
  have Zs : n0 ≤ h0.size := Z0
  have Kp : Keep h0 h0 [] := Keep.refl _ _
  have szr : h0.size ≤ h0.size := Nat.le_refl _
  show own_End p e below (Plo0 Z el h0 n0 s) (s₁.setTop (entryFrame m #[] 0))
  rw [ef_lo0]
  obtain ⟨T1, X1, e1, st1⟩ := getS2 X0 hx hZ hown (host := "") (Or.inl (hw _ (List.mem_of_getElem? (i := 169) rfl))) Via.refl e0 (S_el.ext Ol.2) (g := (mkF m 0 #[] [])) rfl (hb hby dlo0_0)
  refine own_go (fun tQ kQ => st1 tQ kQ) ?_
  show own_End p e below _ (T1.setTop (mkF m 3 #[] [(.ref el)]))
  obtain ⟨fs, hr, hrun, hended, hW, hsame⟩ := X1.leave (v := some (.ref el)) (fun h => by rw [Bd.returns] at h; cases h)
  refine ⟨_, _, ?_, hrun, hended, _, _, rfl, ?_, ⟨_, rfl⟩, hW, hsame.mono (by decide) (by decide)⟩
  · exact (by
      jvm_step X1.here [X1.here.top, hx, (hb hby dlo0_3), X1.method', Bd.returns, Value.isRef, FieldType.isReference, narrow]
      first | (intro acts; rw [hr _ acts rfl rfl rfl]) | rw [hr _ _ rfl rfl rfl]
      exact Steps.refl _)
  · show Qlo0 Z el h0 n0 _ T1.heap _
    rw [e1]
    exact ⟨rfl, Nf, rfl⟩
theorem drn_0 : decode jdk_31_method_11_code 0 = .ok (.aload_n 0, 1) := by decide +kernel
theorem drn_1 : decode jdk_31_method_11_code 1 = .ok (.ifnonnull 12, 3) := by decide +kernel
theorem drn_13 : decode jdk_31_method_11_code 13 = .ok (.aload_n 0, 1) := by decide +kernel
theorem drn_14 : decode jdk_31_method_11_code 14 = .ok (.areturn, 1) := by decide +kernel
theorem pn_12 : plainName "java/util/Objects" = true := by first | (simp [plainName, overriddenIn]; done) | decide +kernel
theorem ef_rn (m : MethodId) (x0 : Addr) (x1 : Addr) : entryFrame m #[(.ref x0), (.ref x1)] 2 = mkF m 0 #[.val (.ref x0), .val (.ref x1)] [] := by first | (simp [entryFrame, mkF, argsToLocals, Value.category]; done) | rfl
def Qrn (Z : State) (a : Addr) (mg : Addr) (h0 : Heap) (n0 : Nat) (v : Option Value) (h : Heap) (L : List Loc) : Prop := v = some (.ref a) ∧ Fr n0 L ∧ h = h0
def Prn (Z : State) (a : Addr) (mg : Addr) (h0 : Heap) (n0 : Nat) (s : State) (oQ : Outcome) (U : State) : Prop := ∃ v L, oQ = .returned v ∧ Qrn Z a mg h0 n0 v U.heap L ∧ FrameEnd s oQ U L ({ frames := 0, cells := 0, slots := 0, locals := 0 } : Room).cells ({ frames := 0, cells := 0, slots := 0, locals := 0 } : Room).slots
set_option maxRecDepth 65536 in
set_option maxHeartbeats 40000000 in
theorem rmrn (l : Launch) (Z : State) (a0 : Array Value) (hw : ∀ d ∈ tables_1, d.before a0 Z = true) (ws : List Jvm.Cond) (a : Addr) (mg : Addr) (h0 : Heap) (n0 : Nat) (Z0 : n0 ≤ h0.size)  :
    MetFree l (⟨"java/util/Objects", "requireNonNull", "(Ljava/lang/Object;Ljava/lang/String;)Ljava/lang/Object;"⟩ : MethodName) (head1 (Jvm.Cond.code (⟨"java/util/Objects", "requireNonNull", "(Ljava/lang/Object;Ljava/lang/String;)Ljava/lang/Object;"⟩ : MethodName) jdk_31_method_11_code 2 (some (.object "java/lang/Object")) :: ws) ({ frames := 0, cells := 0, slots := 0, locals := 0 } : Room)) (fun aQ U => aQ = #[(.ref a), (.ref mg)] ∧ Z.Warmed39 U.vm ∧ U.heap = h0) (fun _ _ _ _ _ => True) (fun _ U oQ U' => ∃ v L, oQ = .returned v ∧ Qrn Z a mg h0 n0 v U'.heap L ∧ FrameEnd U oQ U' L ({ frames := 0, cells := 0, slots := 0, locals := 0 } : Room).cells ({ frames := 0, cells := 0, slots := 0, locals := 0 } : Room).slots) := by
  refine MetFree.of_bodySF (plainFor_of_name pn_12) hisR ?_
  intro p e s m args below meth c s₁ Bd hml0 hP hK
  obtain ⟨rfl, hZ, hh⟩ := hP
  have hx := Bd.exec
  have hby := Bd.bytes
  have hml : c.maxLocals = 2 := hml0
  have hown : s.vm.findClass "java/util/Objects" = some m.cls := findClass_of_methodNamed Bd.named
  have hnm := (name_of_methodNamed Bd.named Bd.method).1
  have X0 : Stand p l e ({ frames := 0, cells := 0, slots := 0, locals := 0 } : Room) s m #[(.ref a), (.ref mg)] below meth c s₁ [] 0 0 := Stand.of_body Bd
  have e0 : s₁.heap = h0 := by rw [← hh, Bd.state]; rfl
  have Nf := Fr.nil n0
  have Zs : n0 ≤ h0.size := Z0
  have Kp : Keep h0 h0 [] := Keep.refl _ _
  have szr : h0.size ≤ h0.size := Nat.le_refl _
  show own_End p e below (Prn Z a mg h0 n0 s) (s₁.setTop (entryFrame m #[(.ref a), (.ref mg)] 2))
  rw [ef_rn]
  refine own_go (fun tQ kQ => XS.aloadN X0.here hx rfl (hb hby drn_0) rfl rfl kQ) ?_
  show own_End p e below _ (s₁.setTop (mkF m 1 #[.val (.ref a), .val (.ref mg)] [(.ref a)]))
  refine own_go (fun tQ kQ => XS.ifnonnullYes X0.here hx rfl (pc0 := 1) (pc' := 13) rfl (hb hby drn_1) rfl (by decide) (by decide) kQ) ?_
  show own_End p e below _ (s₁.setTop (mkF m 13 #[.val (.ref a), .val (.ref mg)] []))
  refine own_go (fun tQ kQ => XS.aloadN X0.here hx rfl (hb hby drn_13) rfl rfl kQ) ?_
  show own_End p e below _ (s₁.setTop (mkF m 14 #[.val (.ref a), .val (.ref mg)] [(.ref a)]))
  obtain ⟨fs, hr, hrun, hended, hW, hsame⟩ := X0.leave (v := some (.ref a)) (fun h => by rw [Bd.returns] at h; cases h)
  refine ⟨_, _, ?_, hrun, hended, _, _, rfl, ?_, ⟨_, rfl⟩, hW, hsame.mono (by decide) (by decide)⟩
  · exact (by
      jvm_step X0.here [X0.here.top, hx, (hb hby drn_14), X0.method', Bd.returns, Value.isRef, FieldType.isReference, narrow]
      first | (intro acts; rw [hr _ acts rfl rfl rfl]) | rw [hr _ _ rfl rfl rfl]
      exact Steps.refl _)
  · show Qrn Z a mg h0 n0 _ s₁.heap _
    rw [e0]
    exact ⟨rfl, Nf, rfl⟩
theorem drn1_0 : decode jdk_31_method_10_code 0 = .ok (.aload_n 0, 1) := by decide +kernel
theorem drn1_1 : decode jdk_31_method_10_code 1 = .ok (.ifnonnull 11, 3) := by decide +kernel
theorem drn1_12 : decode jdk_31_method_10_code 12 = .ok (.aload_n 0, 1) := by decide +kernel
theorem drn1_13 : decode jdk_31_method_10_code 13 = .ok (.areturn, 1) := by decide +kernel
theorem ef_rn1 (m : MethodId) (x0 : Addr) : entryFrame m #[(.ref x0)] 1 = mkF m 0 #[.val (.ref x0)] [] := by first | (simp [entryFrame, mkF, argsToLocals, Value.category]; done) | rfl
def Qrn1 (Z : State) (a : Addr) (h0 : Heap) (n0 : Nat) (v : Option Value) (h : Heap) (L : List Loc) : Prop := v = some (.ref a) ∧ Fr n0 L ∧ h = h0
def Prn1 (Z : State) (a : Addr) (h0 : Heap) (n0 : Nat) (s : State) (oQ : Outcome) (U : State) : Prop := ∃ v L, oQ = .returned v ∧ Qrn1 Z a h0 n0 v U.heap L ∧ FrameEnd s oQ U L ({ frames := 0, cells := 0, slots := 0, locals := 0 } : Room).cells ({ frames := 0, cells := 0, slots := 0, locals := 0 } : Room).slots
set_option maxRecDepth 65536 in
set_option maxHeartbeats 40000000 in
theorem rmrn1 (l : Launch) (Z : State) (a0 : Array Value) (hw : ∀ d ∈ tables_1, d.before a0 Z = true) (ws : List Jvm.Cond) (a : Addr) (h0 : Heap) (n0 : Nat) (Z0 : n0 ≤ h0.size)  :
    MetFree l (⟨"java/util/Objects", "requireNonNull", "(Ljava/lang/Object;)Ljava/lang/Object;"⟩ : MethodName) (head1 (Jvm.Cond.code (⟨"java/util/Objects", "requireNonNull", "(Ljava/lang/Object;)Ljava/lang/Object;"⟩ : MethodName) jdk_31_method_10_code 1 (some (.object "java/lang/Object")) :: ws) ({ frames := 0, cells := 0, slots := 0, locals := 0 } : Room)) (fun aQ U => aQ = #[(.ref a)] ∧ Z.Warmed39 U.vm ∧ U.heap = h0) (fun _ _ _ _ _ => True) (fun _ U oQ U' => ∃ v L, oQ = .returned v ∧ Qrn1 Z a h0 n0 v U'.heap L ∧ FrameEnd U oQ U' L ({ frames := 0, cells := 0, slots := 0, locals := 0 } : Room).cells ({ frames := 0, cells := 0, slots := 0, locals := 0 } : Room).slots) := by
  refine MetFree.of_bodySF (plainFor_of_name pn_12) hisR ?_
  intro p e s m args below meth c s₁ Bd hml0 hP hK
  obtain ⟨rfl, hZ, hh⟩ := hP
  have hx := Bd.exec
  have hby := Bd.bytes
  have hml : c.maxLocals = 1 := hml0
  have hown : s.vm.findClass "java/util/Objects" = some m.cls := findClass_of_methodNamed Bd.named
  have hnm := (name_of_methodNamed Bd.named Bd.method).1
  have X0 : Stand p l e ({ frames := 0, cells := 0, slots := 0, locals := 0 } : Room) s m #[(.ref a)] below meth c s₁ [] 0 0 := Stand.of_body Bd
  have e0 : s₁.heap = h0 := by rw [← hh, Bd.state]; rfl
  have Nf := Fr.nil n0
  have Zs : n0 ≤ h0.size := Z0
  have Kp : Keep h0 h0 [] := Keep.refl _ _
  have szr : h0.size ≤ h0.size := Nat.le_refl _
  show own_End p e below (Prn1 Z a h0 n0 s) (s₁.setTop (entryFrame m #[(.ref a)] 1))
  rw [ef_rn1]
  refine own_go (fun tQ kQ => XS.aloadN X0.here hx rfl (hb hby drn1_0) rfl rfl kQ) ?_
  show own_End p e below _ (s₁.setTop (mkF m 1 #[.val (.ref a)] [(.ref a)]))
  refine own_go (fun tQ kQ => XS.ifnonnullYes X0.here hx rfl (pc0 := 1) (pc' := 12) rfl (hb hby drn1_1) rfl (by decide) (by decide) kQ) ?_
  show own_End p e below _ (s₁.setTop (mkF m 12 #[.val (.ref a)] []))
  refine own_go (fun tQ kQ => XS.aloadN X0.here hx rfl (hb hby drn1_12) rfl rfl kQ) ?_
  show own_End p e below _ (s₁.setTop (mkF m 13 #[.val (.ref a)] [(.ref a)]))
  obtain ⟨fs, hr, hrun, hended, hW, hsame⟩ := X0.leave (v := some (.ref a)) (fun h => by rw [Bd.returns] at h; cases h)
  refine ⟨_, _, ?_, hrun, hended, _, _, rfl, ?_, ⟨_, rfl⟩, hW, hsame.mono (by decide) (by decide)⟩
  · exact (by
      jvm_step X0.here [X0.here.top, hx, (hb hby drn1_13), X0.method', Bd.returns, Value.isRef, FieldType.isReference, narrow]
      first | (intro acts; rw [hr _ acts rfl rfl rfl]) | rw [hr _ _ rfl rfl rfl]
      exact Steps.refl _)
  · show Qrn1 Z a h0 n0 _ s₁.heap _
    rw [e0]
    exact ⟨rfl, Nf, rfl⟩
theorem dcpc1_0 : decode jdk_65_method_120_code 0 = .ok (.aload_n 2, 1) := by decide +kernel
theorem dcpc1_1 : decode jdk_65_method_120_code 1 = .ok (.ldc 110, 2) := by decide +kernel
theorem dcpc1_3 : decode jdk_65_method_120_code 3 = .ok (.if_acmp .ne 10, 3) := by decide +kernel
theorem dcpc1_6 : decode jdk_65_method_120_code 6 = .ok (.iload_n 1, 1) := by decide +kernel
theorem dcpc1_7 : decode jdk_65_method_120_code 7 = .ok (.anewarray 2, 3) := by decide +kernel
theorem dcpc1_10 : decode jdk_65_method_120_code 10 = .ok (.goto 14, 3) := by decide +kernel
theorem dcpc1_24 : decode jdk_65_method_120_code 24 = .ok (.astore_n 3, 1) := by decide +kernel
theorem dcpc1_25 : decode jdk_65_method_120_code 25 = .ok (.aload_n 0, 1) := by decide +kernel
theorem dcpc1_26 : decode jdk_65_method_120_code 26 = .ok (.iconst 0, 1) := by decide +kernel
theorem dcpc1_27 : decode jdk_65_method_120_code 27 = .ok (.aload_n 3, 1) := by decide +kernel
theorem dcpc1_28 : decode jdk_65_method_120_code 28 = .ok (.iconst 0, 1) := by decide +kernel
theorem dcpc1_29 : decode jdk_65_method_120_code 29 = .ok (.aload_n 0, 1) := by decide +kernel
theorem dcpc1_30 : decode jdk_65_method_120_code 30 = .ok (.arraylength, 1) := by decide +kernel
theorem dcpc1_31 : decode jdk_65_method_120_code 31 = .ok (.iload_n 1, 1) := by decide +kernel
theorem dcpc1_32 : decode jdk_65_method_120_code 32 = .ok (.invokestatic 304, 3) := by decide +kernel
theorem dcpc1_35 : decode jdk_65_method_120_code 35 = .ok (.invokestatic 150, 3) := by decide +kernel
theorem dcpc1_38 : decode jdk_65_method_120_code 38 = .ok (.aload_n 3, 1) := by decide +kernel
theorem dcpc1_39 : decode jdk_65_method_120_code 39 = .ok (.areturn, 1) := by decide +kernel
theorem pn_13 : plainName "java/util/Arrays" = true := by first | (simp [plainName, overriddenIn]; done) | decide +kernel
theorem ef_cpc1 (m : MethodId) (x0 : Addr) (x1 : Int32) (x2 : Addr) : entryFrame m #[(.ref x0), (.int x1), (.ref x2)] 4 = mkF m 0 #[.val (.ref x0), .val (.int x1), .val (.ref x2), .unset] [] := by first | (simp [entryFrame, mkF, argsToLocals, Value.category]; done) | rfl
def Qcpc1 (Z : State) (b : Addr) (ff : Nat → Value) (mr : Addr) (x1 : Addr) (h0 : Heap) (n0 : Nat) (v : Option Value) (h : Heap) (L : List Loc) : Prop := ∃ tr, v = some (.ref tr) ∧ Fr n0 L ∧ Keep h0 h [] ∧ h0.size ≤ tr ∧ own_Rr Z h tr "java/lang/Object" (1 : Int32) (fun _ => .ref x1)
def Pcpc1 (Z : State) (b : Addr) (ff : Nat → Value) (mr : Addr) (x1 : Addr) (h0 : Heap) (n0 : Nat) (s : State) (oQ : Outcome) (U : State) : Prop := ∃ v L, oQ = .returned v ∧ Qcpc1 Z b ff mr x1 h0 n0 v U.heap L ∧ FrameEnd s oQ U L ({ frames := 1, cells := 1, slots := 1, locals := 60 } : Room).cells ({ frames := 1, cells := 1, slots := 1, locals := 60 } : Room).slots
set_option maxRecDepth 65536 in
set_option maxHeartbeats 40000000 in
theorem rmcpc1 (l : Launch) (Z : State) (a0 : Array Value) (hw : ∀ d ∈ tables_1, d.before a0 Z = true) (ws : List Jvm.Cond) (b : Addr) (ff : Nat → Value) (mr : Addr) (x1 : Addr) (h0 : Heap) (n0 : Nat) (Z0 : n0 ≤ h0.size) (E_b : Exa Z h0 b "[Ljava/lang/Object;") (V_b : own_Rr Z h0 b "java/lang/Object" (10 : Int32) (ff)) (M_r : Mir Z "[Ljava/lang/Object;" mr) (E_x1 : Exa Z h0 x1 "com/example/grant3/grant3/Explanation$Reason") (hff : ∀ j, fits (.object "java/lang/Object") (ff j) = true) (hf : ∀ j, j < 1 → ff j = .ref x1) :
    MetFree l (⟨"java/util/Arrays", "copyOf", "([Ljava/lang/Object;ILjava/lang/Class;)[Ljava/lang/Object;"⟩ : MethodName) (head1 (Jvm.Cond.code (⟨"java/util/Arrays", "copyOf", "([Ljava/lang/Object;ILjava/lang/Class;)[Ljava/lang/Object;"⟩ : MethodName) jdk_65_method_120_code 4 (some (.array (.object "java/lang/Object"))) :: ws) ({ frames := 1, cells := 1, slots := 1, locals := 60 } : Room)) (fun aQ U => aQ = #[(.ref b), (.int (1 : Int32)), (.ref mr)] ∧ Z.Warmed39 U.vm ∧ U.heap = h0) (fun _ _ _ _ _ => True) (fun _ U oQ U' => ∃ v L, oQ = .returned v ∧ Qcpc1 Z b ff mr x1 h0 n0 v U'.heap L ∧ FrameEnd U oQ U' L ({ frames := 1, cells := 1, slots := 1, locals := 60 } : Room).cells ({ frames := 1, cells := 1, slots := 1, locals := 60 } : Room).slots) := by
  refine MetFree.of_bodySF (plainFor_of_name pn_13) hisR ?_
  intro p e s m args below meth c s₁ Bd hml0 hP hK
  obtain ⟨rfl, hZ, hh⟩ := hP
  have hx := Bd.exec
  have hby := Bd.bytes
  have hml : c.maxLocals = 4 := hml0
  have hown : s.vm.findClass "java/util/Arrays" = some m.cls := findClass_of_methodNamed Bd.named
  have hnm := (name_of_methodNamed Bd.named Bd.method).1
  have X0 : Stand p l e ({ frames := 1, cells := 1, slots := 1, locals := 60 } : Room) s m #[(.ref b), (.int (1 : Int32)), (.ref mr)] below meth c s₁ [] 0 0 := Stand.of_body Bd
  have e0 : s₁.heap = h0 := by rw [← hh, Bd.state]; rfl
  have Nf := Fr.nil n0
  have Zs : n0 ≤ h0.size := Z0
  have Kp : Keep h0 h0 [] := Keep.refl _ _
  have szr : h0.size ≤ h0.size := Nat.le_refl _
  show own_End p e below (Pcpc1 Z b ff mr x1 h0 n0 s) (s₁.setTop (entryFrame m #[(.ref b), (.int (1 : Int32)), (.ref mr)] 4))
  rw [ef_cpc1]
  refine own_go (fun tQ kQ => XS.aloadN X0.here hx rfl (hb hby dcpc1_0) rfl rfl kQ) ?_
  show own_End p e below _ (s₁.setTop (mkF m 1 #[.val (.ref b), .val (.int (1 : Int32)), .val (.ref mr), .unset] [(.ref mr)]))
  obtain ⟨vm1, X1, st1⟩ := X0.ldcMirror hx hown (mv hZ (hw _ (List.mem_of_getElem? (i := 255) rfl))) (own_mir hZ M_r) (g := (mkF m 1 #[.val (.ref b), .val (.int (1 : Int32)), .val (.ref mr), .unset] [(.ref mr)])) rfl (hb hby dcpc1_1)
  have e1 : (s₁.setVm vm1).heap = h0 := e0
  refine own_go (fun tQ kQ => st1 tQ kQ) ?_
  show own_End p e below _ ((s₁.setVm vm1).setTop (mkF m 3 #[.val (.ref b), .val (.int (1 : Int32)), .val (.ref mr), .unset] [(.ref mr), (.ref mr)]))
  refine own_go (fun tQ kQ => Jvm.RoadKit.acmp (g := (mkF m 3 #[.val (.ref b), .val (.int (1 : Int32)), .val (.ref mr), .unset] [(.ref mr), (.ref mr)])) X1 hx rfl rfl rfl (pc0 := 3) (pc' := 6) (same := true) rfl (hb hby dcpc1_3) rfl (decide_eq_true rfl) (by decide) (by decide) kQ) ?_
  show own_End p e below _ ((s₁.setVm vm1).setTop (mkF m 6 #[.val (.ref b), .val (.int (1 : Int32)), .val (.ref mr), .unset] []))
  refine own_go (fun tQ kQ => XS.iloadN X1.here hx rfl (hb hby dcpc1_6) rfl kQ) ?_
  show own_End p e below _ ((s₁.setVm vm1).setTop (mkF m 7 #[.val (.ref b), .val (.int (1 : Int32)), .val (.ref mr), .unset] [(.int (1 : Int32))]))
  obtain ⟨T2, h2, k2, X2, e2, E2, A2, Ex2, O2, st2⟩ := newRE X1 hx hZ hown (hw _ (List.mem_of_getElem? (i := 256) rfl)) (hw _ (List.mem_of_getElem? (i := 215) rfl)) e1 (g := (mkF m 7 #[.val (.ref b), .val (.int (1 : Int32)), .val (.ref mr), .unset] [(.int (1 : Int32))])) rfl (hb hby dcpc1_7) rfl (by decide) (cap := 1) (by decide) (by decide) (by decide) (by decide) (ad := "[Ljava/lang/Object;") (by decide)
  obtain ⟨tr, g2⟩ : ∃ z, z = h0.size := ⟨_, rfl⟩
  rw [← g2] at A2 Ex2 st2
  have ne_b_tr : b ≠ tr := Nat.ne_of_lt (Nat.lt_of_lt_of_le E_b.lt (Nat.le_of_eq g2.symm))
  have ne_x1_tr : x1 ≠ tr := Nat.ne_of_lt (Nat.lt_of_lt_of_le E_x1.lt (Nat.le_of_eq g2.symm))
  have g_tr : n0 ≤ tr := Nat.le_trans Zs (Nat.le_of_eq g2.symm)
  have sz_tr : h0.size ≤ tr := Nat.le_trans szr (Nat.le_of_eq g2.symm)
  have E_b := E_b.ext E2
  have V_b := V_b.ext E2
  have E_x1 := E_x1.ext E2
  have Kp := Kp.ext E2
  have Zs := Nat.le_trans Zs E2.1
  have szr := Nat.le_trans szr E2.1
  have E_tr := Ex2
  have V_tr : own_Rr Z h2 tr "java/lang/Object" (1 : Int32) (fun _ => .null) := own_Rr.new A2 O2 (by decide)
  have X2 := own_pad (k' := 1) (n' := 1) X2 (by decide) (by decide)
  refine own_go (fun tQ kQ => st2 tQ kQ) ?_
  show own_End p e below _ (T2.setTop (mkF m 10 #[.val (.ref b), .val (.int (1 : Int32)), .val (.ref mr), .unset] [(.ref tr)]))
  refine own_go (fun tQ kQ => XS.goto X2.here hx rfl (pc0 := 10) (pc' := 24) rfl (hb hby dcpc1_10) (by decide) (by decide) kQ) ?_
  show own_End p e below _ (T2.setTop (mkF m 24 #[.val (.ref b), .val (.int (1 : Int32)), .val (.ref mr), .unset] [(.ref tr)]))
  refine own_go (fun tQ kQ => XS.astoreN X2.here hx rfl (hb hby dcpc1_24) rfl rfl (l' := #[.val (.ref b), .val (.int (1 : Int32)), .val (.ref mr), .val (.ref tr)]) rfl kQ) ?_
  show own_End p e below _ (T2.setTop (mkF m 25 #[.val (.ref b), .val (.int (1 : Int32)), .val (.ref mr), .val (.ref tr)] []))
  refine own_go (fun tQ kQ => XS.aloadN X2.here hx rfl (hb hby dcpc1_25) rfl rfl kQ) ?_
  show own_End p e below _ (T2.setTop (mkF m 26 #[.val (.ref b), .val (.int (1 : Int32)), .val (.ref mr), .val (.ref tr)] [(.ref b)]))
  refine own_go (fun tQ kQ => XS.iconst X2.here hx rfl (hb hby dcpc1_26) kQ) ?_
  show own_End p e below _ (T2.setTop (mkF m 27 #[.val (.ref b), .val (.int (1 : Int32)), .val (.ref mr), .val (.ref tr)] [(.int (0 : Int32)), (.ref b)]))
  refine own_go (fun tQ kQ => XS.aloadN X2.here hx rfl (hb hby dcpc1_27) rfl rfl kQ) ?_
  show own_End p e below _ (T2.setTop (mkF m 28 #[.val (.ref b), .val (.int (1 : Int32)), .val (.ref mr), .val (.ref tr)] [(.ref tr), (.int (0 : Int32)), (.ref b)]))
  refine own_go (fun tQ kQ => XS.iconst X2.here hx rfl (hb hby dcpc1_28) kQ) ?_
  show own_End p e below _ (T2.setTop (mkF m 29 #[.val (.ref b), .val (.int (1 : Int32)), .val (.ref mr), .val (.ref tr)] [(.int (0 : Int32)), (.ref tr), (.int (0 : Int32)), (.ref b)]))
  refine own_go (fun tQ kQ => XS.aloadN X2.here hx rfl (hb hby dcpc1_29) rfl rfl kQ) ?_
  show own_End p e below _ (T2.setTop (mkF m 30 #[.val (.ref b), .val (.int (1 : Int32)), .val (.ref mr), .val (.ref tr)] [(.ref b), (.int (0 : Int32)), (.ref tr), (.int (0 : Int32)), (.ref b)]))
  obtain ⟨cl3, Ar3, S3, M3, H3, -⟩ := id V_b
  refine own_go (fun tQ kQ => X2.arraylength hx (by rw [e2]; exact Ar3.1) (State.isArrayOf_alike hZ.alike Ar3.2.1) (g := (mkF m 30 #[.val (.ref b), .val (.int (1 : Int32)), .val (.ref mr), .val (.ref tr)] [(.ref b), (.int (0 : Int32)), (.ref tr), (.int (0 : Int32)), (.ref b)])) rfl rfl (hb hby dcpc1_30) _ kQ) ?_
  rw [len_of S3 M3]
  show own_End p e below _ (T2.setTop (mkF m 31 #[.val (.ref b), .val (.int (1 : Int32)), .val (.ref mr), .val (.ref tr)] [(.int (10 : Int32)), (.int (0 : Int32)), (.ref tr), (.int (0 : Int32)), (.ref b)]))
  refine own_go (fun tQ kQ => XS.iloadN X2.here hx rfl (hb hby dcpc1_31) rfl kQ) ?_
  show own_End p e below _ (T2.setTop (mkF m 32 #[.val (.ref b), .val (.int (1 : Int32)), .val (.ref mr), .val (.ref tr)] [(.int (1 : Int32)), (.int (10 : Int32)), (.int (0 : Int32)), (.ref tr), (.int (0 : Int32)), (.ref b)]))
  obtain ⟨_, _, ⟨T4, L4, k4, n4⟩, -, X4, ⟨Lc4, hQ4, l4, y4, z4⟩, st4⟩ := Jvm.LawKit.callS X2 hx (y := (⟨"java/lang/Math", "min", "(II)I"⟩ : MethodName)) hown (mvT hZ (hw _ (List.mem_of_getElem? (i := 257) rfl))) (mvT hZ (hw _ (List.mem_of_getElem? (i := 258) rfl))) (mvT hZ (hw _ (List.mem_of_getElem? (i := 212) rfl))) (mvT hZ (hw _ (List.mem_of_getElem? (i := 259) rfl))) (by decide) (backOf (W := 4) (rmmn l Z a0 hw [] (10 : Int32) (1 : Int32) h2 n0 Zs (by decide)) hZ (hw _ (List.mem_of_getElem? (i := 259) rfl)) (hw _ (List.mem_of_getElem? (i := 212) rfl)) (by decide) (by decide)) (g := (mkF m 32 #[.val (.ref b), .val (.int (1 : Int32)), .val (.ref mr), .val (.ref tr)] [(.int (1 : Int32)), (.int (10 : Int32)), (.int (0 : Int32)), (.ref tr), (.int (0 : Int32)), (.ref b)])) rfl (by rw [hml]; rfl) (argsL := [(.int (10 : Int32)), (.int (1 : Int32))]) (rest := [(.int (0 : Int32)), (.ref tr), (.int (0 : Int32)), (.ref b)]) (lenOf pd_7 rfl) rfl (by show 2 * 0 + _ ≤ _; exact Nat.le_of_eq rfl) (hb hby dcpc1_32) (fun _ _ => ⟨rfl, e2, (Nat.le_of_ble_eq_true rfl), (Nat.le_of_ble_eq_true rfl)⟩)
  dsimp only [Pt.U, Pt.locs, Pt.cells, Pt.slots] at X4 l4 y4 z4 st4 hQ4
  rw [l4, y4, z4] at X4
  obtain ⟨rfl, N4q, e4⟩ := hQ4
  have Nf := Fr.app Nf N4q
  have X4 := own_pad (k' := 1) (n' := 1) X4 (by decide) (by decide)
  refine own_go (fun tQ kQ => st4 tQ kQ) ?_
  show own_End p e below _ (T4.setTop (mkF m 35 #[.val (.ref b), .val (.int (1 : Int32)), .val (.ref mr), .val (.ref tr)] [(.int (1 : Int32)), (.int (0 : Int32)), (.ref tr), (.int (0 : Int32)), (.ref b)]))
  obtain ⟨k1_, VA, -⟩ := V_b.arv (vs := (List.range 10).map ff) (d := .null) (fun j hj => (own_getm ff 10 j .null hj).symm) (fun j hj => by rw [own_getm ff 10 j .null hj]; exact hff j)
  obtain ⟨k2_, VB, OB⟩ := V_tr.arv (vs := [.null]) (d := .null) (fun j hj => by
    have hj' : j < 1 := hj
    have hj2 : j = 0 := by omega
    rcases hj2 with rfl <;> rfl) (fun j hj => by
    have hj' : j < 1 := hj
    have hj2 : j = 0 := by omega
    rcases hj2 with rfl <;> rfl)
  obtain ⟨ct_, At_, St_, Mt_, Ht_, Ot_⟩ := id V_tr
  have sto := Sto.of At_ Ot_ (Ins.of_exa E_x1 (hw _ (List.mem_of_getElem? (i := 216) rfl)))
  have hus : ([.ref x1] : List Value) = (List.range ((1 : Int32)).toNatClampNeg).map fun i => ((List.range 10).map ff).getD ((0 : Int32).toNatClampNeg + i) .null := by
    show [.ref x1] = [ff 0]
    rw [hf 0 (by decide)]
  obtain ⟨T5, h5, L5, X5, e5, Nf, K5, VC, st5⟩ := cpA X4 hx hZ hown (hw _ (List.mem_of_getElem? (i := 260) rfl)) (hw _ (List.mem_of_getElem? (i := 263) rfl)) (hw _ (List.mem_of_getElem? (i := 261) rfl)) (hw _ (List.mem_of_getElem? (i := 262) rfl)) e4 VA VB (us := [.ref x1]) (Or.inr ⟨rfl, rfl, ⟨sto, trivial⟩⟩) (sp := (0 : Int32)) (dp := (0 : Int32)) (nn := (1 : Int32)) (by decide) (by decide) (by decide) (by decide) (by decide) hus (by decide) Nf g_tr (g := (mkF m 35 #[.val (.ref b), .val (.int (1 : Int32)), .val (.ref mr), .val (.ref tr)] [(.int (1 : Int32)), (.int (0 : Int32)), (.ref tr), (.int (0 : Int32)), (.ref b)])) rfl (by rw [hml]; rfl) rfl (hb hby dcpc1_35) (by decide) (W := 0) (by show 2 * 0 + _ ≤ _; exact Nat.le_of_eq rfl) (by decide)
  have V_tr : own_Rr Z h5 tr "java/lang/Object" (1 : Int32) (fun _ => .ref x1) := own_Rr.of_arv VC OB (fun j hj => by
    have hj' : j < 1 := hj
    have hj2 : j = 0 := by omega
    rcases hj2 with rfl <;> rfl)
  have Kp := Kp.trans K5 (allS (Or.inr sz_tr) all0)
  have Zs := Nat.le_trans Zs K5.1
  refine own_go (fun tQ kQ => st5 tQ kQ) ?_
  show own_End p e below _ (T5.setTop (mkF m 38 #[.val (.ref b), .val (.int (1 : Int32)), .val (.ref mr), .val (.ref tr)] []))
  refine own_go (fun tQ kQ => XS.aloadN X5.here hx rfl (hb hby dcpc1_38) rfl rfl kQ) ?_
  show own_End p e below _ (T5.setTop (mkF m 39 #[.val (.ref b), .val (.int (1 : Int32)), .val (.ref mr), .val (.ref tr)] [(.ref tr)]))
  obtain ⟨fs, hr, hrun, hended, hW, hsame⟩ := X5.leave (v := some (.ref tr)) (fun h => by rw [Bd.returns] at h; cases h)
  refine ⟨_, _, ?_, hrun, hended, _, _, rfl, ?_, ⟨_, rfl⟩, hW, hsame.mono (by decide) (by decide)⟩
  · exact (by
      jvm_step X5.here [X5.here.top, hx, (hb hby dcpc1_39), X5.method', Bd.returns, Value.isRef, FieldType.isReference, narrow]
      first | (intro acts; rw [hr _ acts rfl rfl rfl]) | rw [hr _ _ rfl rfl rfl]
      exact Steps.refl _)
  · show Qcpc1 Z b ff mr x1 h0 n0 _ T5.heap _
    rw [e5]
    exact ⟨tr, rfl, Nf, Kp, sz_tr, V_tr⟩
theorem pd_14 : parseMethodDescriptor "([Ljava/lang/Object;ILjava/lang/Class;)[Ljava/lang/Object;" = some ⟨[(.array (.object "java/lang/Object")), .int, (.object "java/lang/Class")], some (.array (.object "java/lang/Object"))⟩ := by decide +kernel
theorem dcpa1_0 : decode jdk_65_method_119_code 0 = .ok (.aload_n 0, 1) := by decide +kernel
theorem dcpa1_1 : decode jdk_65_method_119_code 1 = .ok (.iload_n 1, 1) := by decide +kernel
theorem dcpa1_2 : decode jdk_65_method_119_code 2 = .ok (.aload_n 0, 1) := by decide +kernel
theorem dcpa1_3 : decode jdk_65_method_119_code 3 = .ok (.invokevirtual 86, 3) := by decide +kernel
theorem dcpa1_6 : decode jdk_65_method_119_code 6 = .ok (.invokestatic 300, 3) := by decide +kernel
theorem dcpa1_9 : decode jdk_65_method_119_code 9 = .ok (.areturn, 1) := by decide +kernel
theorem ef_cpa1 (m : MethodId) (x0 : Addr) (x1 : Int32) : entryFrame m #[(.ref x0), (.int x1)] 2 = mkF m 0 #[.val (.ref x0), .val (.int x1)] [] := by first | (simp [entryFrame, mkF, argsToLocals, Value.category]; done) | rfl
def Qcpa1 (Z : State) (b : Addr) (ff : Nat → Value) (mr : Addr) (x1 : Addr) (h0 : Heap) (n0 : Nat) (v : Option Value) (h : Heap) (L : List Loc) : Prop := ∃ tr, v = some (.ref tr) ∧ Fr n0 L ∧ Keep h0 h [] ∧ h0.size ≤ tr ∧ own_Rr Z h tr "java/lang/Object" (1 : Int32) (fun _ => .ref x1)
def Pcpa1 (Z : State) (b : Addr) (ff : Nat → Value) (mr : Addr) (x1 : Addr) (h0 : Heap) (n0 : Nat) (s : State) (oQ : Outcome) (U : State) : Prop := ∃ v L, oQ = .returned v ∧ Qcpa1 Z b ff mr x1 h0 n0 v U.heap L ∧ FrameEnd s oQ U L ({ frames := 2, cells := 1, slots := 1, locals := 75 } : Room).cells ({ frames := 2, cells := 1, slots := 1, locals := 75 } : Room).slots
set_option maxRecDepth 65536 in
set_option maxHeartbeats 40000000 in
theorem rmcpa1 (l : Launch) (Z : State) (a0 : Array Value) (hw : ∀ d ∈ tables_1, d.before a0 Z = true) (ws : List Jvm.Cond) (b : Addr) (ff : Nat → Value) (mr : Addr) (x1 : Addr) (h0 : Heap) (n0 : Nat) (Z0 : n0 ≤ h0.size) (E_b : Exa Z h0 b "[Ljava/lang/Object;") (V_b : own_Rr Z h0 b "java/lang/Object" (10 : Int32) (ff)) (M_r : Mir Z "[Ljava/lang/Object;" mr) (E_x1 : Exa Z h0 x1 "com/example/grant3/grant3/Explanation$Reason") (hff : ∀ j, fits (.object "java/lang/Object") (ff j) = true) (hf : ∀ j, j < 1 → ff j = .ref x1) :
    MetFree l (⟨"java/util/Arrays", "copyOf", "([Ljava/lang/Object;I)[Ljava/lang/Object;"⟩ : MethodName) (head1 (Jvm.Cond.code (⟨"java/util/Arrays", "copyOf", "([Ljava/lang/Object;I)[Ljava/lang/Object;"⟩ : MethodName) jdk_65_method_119_code 2 (some (.array (.object "java/lang/Object"))) :: ws) ({ frames := 2, cells := 1, slots := 1, locals := 75 } : Room)) (fun aQ U => aQ = #[(.ref b), (.int (1 : Int32))] ∧ Z.Warmed39 U.vm ∧ U.heap = h0) (fun _ _ _ _ _ => True) (fun _ U oQ U' => ∃ v L, oQ = .returned v ∧ Qcpa1 Z b ff mr x1 h0 n0 v U'.heap L ∧ FrameEnd U oQ U' L ({ frames := 2, cells := 1, slots := 1, locals := 75 } : Room).cells ({ frames := 2, cells := 1, slots := 1, locals := 75 } : Room).slots) := by
  refine MetFree.of_bodySF (plainFor_of_name pn_13) hisR ?_
  intro p e s m args below meth c s₁ Bd hml0 hP hK
  obtain ⟨rfl, hZ, hh⟩ := hP
  have hx := Bd.exec
  have hby := Bd.bytes
  have hml : c.maxLocals = 2 := hml0
  have hown : s.vm.findClass "java/util/Arrays" = some m.cls := findClass_of_methodNamed Bd.named
  have hnm := (name_of_methodNamed Bd.named Bd.method).1
  have X0 : Stand p l e ({ frames := 2, cells := 1, slots := 1, locals := 75 } : Room) s m #[(.ref b), (.int (1 : Int32))] below meth c s₁ [] 0 0 := Stand.of_body Bd
  have e0 : s₁.heap = h0 := by rw [← hh, Bd.state]; rfl
  have Nf := Fr.nil n0
  have Zs : n0 ≤ h0.size := Z0
  have Kp : Keep h0 h0 [] := Keep.refl _ _
  have szr : h0.size ≤ h0.size := Nat.le_refl _
  show own_End p e below (Pcpa1 Z b ff mr x1 h0 n0 s) (s₁.setTop (entryFrame m #[(.ref b), (.int (1 : Int32))] 2))
  rw [ef_cpa1]
  refine own_go (fun tQ kQ => XS.aloadN X0.here hx rfl (hb hby dcpa1_0) rfl rfl kQ) ?_
  show own_End p e below _ (s₁.setTop (mkF m 1 #[.val (.ref b), .val (.int (1 : Int32))] [(.ref b)]))
  refine own_go (fun tQ kQ => XS.iloadN X0.here hx rfl (hb hby dcpa1_1) rfl kQ) ?_
  show own_End p e below _ (s₁.setTop (mkF m 2 #[.val (.ref b), .val (.int (1 : Int32))] [(.int (1 : Int32)), (.ref b)]))
  refine own_go (fun tQ kQ => XS.aloadN X0.here hx rfl (hb hby dcpa1_2) rfl rfl kQ) ?_
  show own_End p e below _ (s₁.setTop (mkF m 3 #[.val (.ref b), .val (.int (1 : Int32))] [(.ref b), (.int (1 : Int32)), (.ref b)]))
  obtain ⟨T1, X1, e1, st1⟩ := gcls X0 hx hZ hown (hw _ (List.mem_of_getElem? (i := 246) rfl)) (hw _ (List.mem_of_getElem? (i := 247) rfl)) (hw _ (List.mem_of_getElem? (i := 153) rfl)) (hw _ (List.mem_of_getElem? (i := 249) rfl)) (hw _ (List.mem_of_getElem? (i := 248) rfl)) (hw _ (List.mem_of_getElem? (i := 250) rfl)) e0 E_b M_r (g := (mkF m 3 #[.val (.ref b), .val (.int (1 : Int32))] [(.ref b), (.int (1 : Int32)), (.ref b)])) rfl (by rw [hml]; rfl) rfl (hb hby dcpa1_3) (by decide) (W := 2) (by show 2 * 0 + _ ≤ _; exact Nat.le_of_eq rfl) (by decide)
  refine own_go (fun tQ kQ => st1 tQ kQ) ?_
  show own_End p e below _ (T1.setTop (mkF m 6 #[.val (.ref b), .val (.int (1 : Int32))] [(.ref mr), (.int (1 : Int32)), (.ref b)]))
  obtain ⟨_, _, ⟨T2, L2, k2, n2⟩, -, X2, ⟨Lc2, hQ2, l2, y2, z2⟩, st2⟩ := Jvm.LawKit.callS X1 hx (y := (⟨"java/util/Arrays", "copyOf", "([Ljava/lang/Object;ILjava/lang/Class;)[Ljava/lang/Object;"⟩ : MethodName)) hown (mvT hZ (hw _ (List.mem_of_getElem? (i := 252) rfl))) (mvT hZ (hw _ (List.mem_of_getElem? (i := 253) rfl))) (mvT hZ (hw _ (List.mem_of_getElem? (i := 244) rfl))) (mvT hZ (hw _ (List.mem_of_getElem? (i := 254) rfl))) (by decide) (backOf (W := 0) (rmcpc1 l Z a0 hw [] b ff mr x1 h0 n0 Zs E_b V_b M_r E_x1 hff hf) hZ (hw _ (List.mem_of_getElem? (i := 254) rfl)) (hw _ (List.mem_of_getElem? (i := 244) rfl)) (by decide) (by decide)) (g := (mkF m 6 #[.val (.ref b), .val (.int (1 : Int32))] [(.ref mr), (.int (1 : Int32)), (.ref b)])) rfl (by rw [hml]; rfl) (argsL := [(.ref b), (.int (1 : Int32)), (.ref mr)]) (rest := []) (lenOf pd_14 rfl) rfl (by show 2 * 0 + _ ≤ _; exact Nat.le_of_eq rfl) (hb hby dcpa1_6) (fun _ _ => ⟨rfl, e1, (Nat.le_of_ble_eq_true rfl), (Nat.le_of_ble_eq_true rfl)⟩)
  dsimp only [Pt.U, Pt.locs, Pt.cells, Pt.slots] at X2 l2 y2 z2 st2 hQ2
  rw [l2, y2, z2] at X2
  obtain ⟨tr, rfl, N2q, K2, hb2, V_tr⟩ := hQ2
  have Nf := Fr.app Nf N2q
  have ne_b_tr : b ≠ tr := Nat.ne_of_lt (Nat.lt_of_lt_of_le E_b.lt hb2)
  have ne_x1_tr : x1 ≠ tr := Nat.ne_of_lt (Nat.lt_of_lt_of_le E_x1.lt hb2)
  have g_tr : n0 ≤ tr := Nat.le_trans Zs hb2
  have sz_tr : h0.size ≤ tr := Nat.le_trans szr hb2
  have E_b := E_b.keep K2
  have V_b := V_b.keep K2 nin0
  have E_x1 := E_x1.keep K2
  have Kp := Kp.trans K2 all0
  have Zs := Nat.le_trans Zs K2.1
  have szr := Nat.le_trans szr K2.1
  have X2 := own_pad (k' := 1) (n' := 1) X2 (by decide) (by decide)
  refine own_go (fun tQ kQ => st2 tQ kQ) ?_
  show own_End p e below _ (T2.setTop (mkF m 9 #[.val (.ref b), .val (.int (1 : Int32))] [(.ref tr)]))
  obtain ⟨fs, hr, hrun, hended, hW, hsame⟩ := X2.leave (v := some (.ref tr)) (fun h => by rw [Bd.returns] at h; cases h)
  refine ⟨_, _, ?_, hrun, hended, _, _, rfl, ?_, ⟨_, rfl⟩, hW, hsame.mono (by decide) (by decide)⟩
  · exact (by
      jvm_step X2.here [X2.here.top, hx, (hb hby dcpa1_9), X2.method', Bd.returns, Value.isRef, FieldType.isReference, narrow]
      first | (intro acts; rw [hr _ acts rfl rfl rfl]) | rw [hr _ _ rfl rfl rfl]
      exact Steps.refl _)
  · show Qcpa1 Z b ff mr x1 h0 n0 _ T2.heap _
    exact ⟨tr, rfl, Nf, Kp, sz_tr, V_tr⟩
theorem pd_15 : parseMethodDescriptor "([Ljava/lang/Object;I)[Ljava/lang/Object;" = some ⟨[(.array (.object "java/lang/Object")), .int], some (.array (.object "java/lang/Object"))⟩ := by decide +kernel
theorem dta1_0 : decode jdk_38_method_16_code 0 = .ok (.aload_n 0, 1) := by decide +kernel
theorem dta1_1 : decode jdk_38_method_16_code 1 = .ok (.getfield 9, 3) := by decide +kernel
theorem dta1_4 : decode jdk_38_method_16_code 4 = .ok (.aload_n 0, 1) := by decide +kernel
theorem dta1_5 : decode jdk_38_method_16_code 5 = .ok (.getfield 48, 3) := by decide +kernel
theorem dta1_8 : decode jdk_38_method_16_code 8 = .ok (.invokestatic 66, 3) := by decide +kernel
theorem dta1_11 : decode jdk_38_method_16_code 11 = .ok (.areturn, 1) := by decide +kernel
theorem ef_ta1 (m : MethodId) (x0 : Addr) : entryFrame m #[(.ref x0)] 1 = mkF m 0 #[.val (.ref x0)] [] := by first | (simp [entryFrame, mkF, argsToLocals, Value.category]; done) | rfl
def Qta1 (Z : State) (a : Addr) (mc : Int32) (b : Addr) (ff : Nat → Value) (mr : Addr) (x1 : Addr) (h0 : Heap) (n0 : Nat) (v : Option Value) (h : Heap) (L : List Loc) : Prop := ∃ tr, v = some (.ref tr) ∧ Fr n0 L ∧ Keep h0 h [] ∧ h0.size ≤ tr ∧ own_Rr Z h tr "java/lang/Object" (1 : Int32) (fun _ => .ref x1)
def Pta1 (Z : State) (a : Addr) (mc : Int32) (b : Addr) (ff : Nat → Value) (mr : Addr) (x1 : Addr) (h0 : Heap) (n0 : Nat) (s : State) (oQ : Outcome) (U : State) : Prop := ∃ v L, oQ = .returned v ∧ Qta1 Z a mc b ff mr x1 h0 n0 v U.heap L ∧ FrameEnd s oQ U L ({ frames := 3, cells := 1, slots := 1, locals := 88 } : Room).cells ({ frames := 3, cells := 1, slots := 1, locals := 88 } : Room).slots
set_option maxRecDepth 65536 in
set_option maxHeartbeats 40000000 in
theorem rmta1 (l : Launch) (Z : State) (a0 : Array Value) (hw : ∀ d ∈ tables_1, d.before a0 Z = true) (ws : List Jvm.Cond) (a : Addr) (mc : Int32) (b : Addr) (ff : Nat → Value) (mr : Addr) (x1 : Addr) (h0 : Heap) (n0 : Nat) (Z0 : n0 ≤ h0.size) (E_a : Exa Z h0 a "java/util/ArrayList") (F_modCount_a : Fld Z h0 a "java/util/AbstractList" "modCount" "I" (.int mc)) (F_elementData_a : Fld Z h0 a "java/util/ArrayList" "elementData" "[Ljava/lang/Object;" (.ref b)) (F_size_a : Fld Z h0 a "java/util/ArrayList" "size" "I" (.int (1 : Int32))) (E_b : Exa Z h0 b "[Ljava/lang/Object;") (V_b : own_Rr Z h0 b "java/lang/Object" (10 : Int32) (ff)) (M_r : Mir Z "[Ljava/lang/Object;" mr) (E_x1 : Exa Z h0 x1 "com/example/grant3/grant3/Explanation$Reason") (hff : ∀ j, fits (.object "java/lang/Object") (ff j) = true) (hf : ∀ j, j < 1 → ff j = .ref x1) :
    MetFree l (⟨"java/util/ArrayList", "toArray", "()[Ljava/lang/Object;"⟩ : MethodName) (head1 (Jvm.Cond.code (⟨"java/util/ArrayList", "toArray", "()[Ljava/lang/Object;"⟩ : MethodName) jdk_38_method_16_code 1 (some (.array (.object "java/lang/Object"))) :: ws) ({ frames := 3, cells := 1, slots := 1, locals := 88 } : Room)) (fun aQ U => aQ = #[(.ref a)] ∧ Z.Warmed39 U.vm ∧ U.heap = h0) (fun _ _ _ _ _ => True) (fun _ U oQ U' => ∃ v L, oQ = .returned v ∧ Qta1 Z a mc b ff mr x1 h0 n0 v U'.heap L ∧ FrameEnd U oQ U' L ({ frames := 3, cells := 1, slots := 1, locals := 88 } : Room).cells ({ frames := 3, cells := 1, slots := 1, locals := 88 } : Room).slots) := by
  refine MetFree.of_bodySF (plainFor_of_name pn_6) hisR ?_
  intro p e s m args below meth c s₁ Bd hml0 hP hK
  obtain ⟨rfl, hZ, hh⟩ := hP
  have hx := Bd.exec
  have hby := Bd.bytes
  have hml : c.maxLocals = 1 := hml0
  have hown : s.vm.findClass "java/util/ArrayList" = some m.cls := findClass_of_methodNamed Bd.named
  have hnm := (name_of_methodNamed Bd.named Bd.method).1
  have X0 : Stand p l e ({ frames := 3, cells := 1, slots := 1, locals := 88 } : Room) s m #[(.ref a)] below meth c s₁ [] 0 0 := Stand.of_body Bd
  have e0 : s₁.heap = h0 := by rw [← hh, Bd.state]; rfl
  have Nf := Fr.nil n0
  have Zs : n0 ≤ h0.size := Z0
  have Kp : Keep h0 h0 [] := Keep.refl _ _
  have szr : h0.size ≤ h0.size := Nat.le_refl _
  show own_End p e below (Pta1 Z a mc b ff mr x1 h0 n0 s) (s₁.setTop (entryFrame m #[(.ref a)] 1))
  rw [ef_ta1]
  refine own_go (fun tQ kQ => XS.aloadN X0.here hx rfl (hb hby dta1_0) rfl rfl kQ) ?_
  show own_End p e below _ (s₁.setTop (mkF m 1 #[.val (.ref a)] [(.ref a)]))
  obtain ⟨T1, X1, e1, st1⟩ := getF X0 hx hZ hown (host := "") (Or.inl (hw _ (List.mem_of_getElem? (i := 127) rfl))) Via.refl e0 F_elementData_a (g := (mkF m 1 #[.val (.ref a)] [(.ref a)])) rfl rfl (hb hby dta1_1)
  refine own_go (fun tQ kQ => st1 tQ kQ) ?_
  show own_End p e below _ (T1.setTop (mkF m 4 #[.val (.ref a)] [(.ref b)]))
  refine own_go (fun tQ kQ => XS.aloadN X1.here hx rfl (hb hby dta1_4) rfl rfl kQ) ?_
  show own_End p e below _ (T1.setTop (mkF m 5 #[.val (.ref a)] [(.ref a), (.ref b)]))
  obtain ⟨T2, X2, e2, st2⟩ := getF X1 hx hZ hown (host := "") (Or.inl (hw _ (List.mem_of_getElem? (i := 164) rfl))) Via.refl e1 F_size_a (g := (mkF m 5 #[.val (.ref a)] [(.ref a), (.ref b)])) rfl rfl (hb hby dta1_5)
  refine own_go (fun tQ kQ => st2 tQ kQ) ?_
  show own_End p e below _ (T2.setTop (mkF m 8 #[.val (.ref a)] [(.int (1 : Int32)), (.ref b)]))
  obtain ⟨_, _, ⟨T3, L3, k3, n3⟩, -, X3, ⟨Lc3, hQ3, l3, y3, z3⟩, st3⟩ := Jvm.LawKit.callS X2 hx (y := (⟨"java/util/Arrays", "copyOf", "([Ljava/lang/Object;I)[Ljava/lang/Object;"⟩ : MethodName)) hown (mvT hZ (hw _ (List.mem_of_getElem? (i := 242) rfl))) (mvT hZ (hw _ (List.mem_of_getElem? (i := 243) rfl))) (mvT hZ (hw _ (List.mem_of_getElem? (i := 244) rfl))) (mvT hZ (hw _ (List.mem_of_getElem? (i := 245) rfl))) (by decide) (backOf (W := 0) (rmcpa1 l Z a0 hw [] b ff mr x1 h0 n0 Zs E_b V_b M_r E_x1 hff hf) hZ (hw _ (List.mem_of_getElem? (i := 245) rfl)) (hw _ (List.mem_of_getElem? (i := 244) rfl)) (by decide) (by decide)) (g := (mkF m 8 #[.val (.ref a)] [(.int (1 : Int32)), (.ref b)])) rfl (by rw [hml]; rfl) (argsL := [(.ref b), (.int (1 : Int32))]) (rest := []) (lenOf pd_15 rfl) rfl (by show 2 * 0 + _ ≤ _; exact Nat.le_of_eq rfl) (hb hby dta1_8) (fun _ _ => ⟨rfl, e2, (Nat.le_of_ble_eq_true rfl), (Nat.le_of_ble_eq_true rfl)⟩)
  dsimp only [Pt.U, Pt.locs, Pt.cells, Pt.slots] at X3 l3 y3 z3 st3 hQ3
  rw [l3, y3, z3] at X3
  obtain ⟨tr, rfl, N3q, K3, hb3, V_tr⟩ := hQ3
  have Nf := Fr.app Nf N3q
  have ne_b_tr : b ≠ tr := Nat.ne_of_lt (Nat.lt_of_lt_of_le E_b.lt hb3)
  have ne_x1_tr : x1 ≠ tr := Nat.ne_of_lt (Nat.lt_of_lt_of_le E_x1.lt hb3)
  have ne_a_tr : a ≠ tr := Nat.ne_of_lt (Nat.lt_of_lt_of_le E_a.lt hb3)
  have g_tr : n0 ≤ tr := Nat.le_trans Zs hb3
  have sz_tr : h0.size ≤ tr := Nat.le_trans szr hb3
  have E_b := E_b.keep K3
  have V_b := V_b.keep K3 nin0
  have E_x1 := E_x1.keep K3
  have E_a := E_a.keep K3
  have F_modCount_a := F_modCount_a.keep K3 nin0
  have F_elementData_a := F_elementData_a.keep K3 nin0
  have F_size_a := F_size_a.keep K3 nin0
  have Kp := Kp.trans K3 all0
  have Zs := Nat.le_trans Zs K3.1
  have szr := Nat.le_trans szr K3.1
  have X3 := own_pad (k' := 1) (n' := 1) X3 (by decide) (by decide)
  refine own_go (fun tQ kQ => st3 tQ kQ) ?_
  show own_End p e below _ (T3.setTop (mkF m 11 #[.val (.ref a)] [(.ref tr)]))
  obtain ⟨fs, hr, hrun, hended, hW, hsame⟩ := X3.leave (v := some (.ref tr)) (fun h => by rw [Bd.returns] at h; cases h)
  refine ⟨_, _, ?_, hrun, hended, _, _, rfl, ?_, ⟨_, rfl⟩, hW, hsame.mono (by decide) (by decide)⟩
  · exact (by
      jvm_step X3.here [X3.here.top, hx, (hb hby dta1_11), X3.method', Bd.returns, Value.isRef, FieldType.isReference, narrow]
      first | (intro acts; rw [hr _ acts rfl rfl rfl]) | rw [hr _ _ rfl rfl rfl]
      exact Steps.refl _)
  · show Qta1 Z a mc b ff mr x1 h0 n0 _ T3.heap _
    exact ⟨tr, rfl, Nf, Kp, sz_tr, V_tr⟩
theorem pd_16 : parseMethodDescriptor "(Ljava/lang/Object;)Ljava/lang/Object;" = some ⟨[(.object "java/lang/Object")], some (.object "java/lang/Object")⟩ := by decide +kernel
theorem dl12_1_0 : decode jdk_44_method_1_code 0 = .ok (.aload_n 0, 1) := by decide +kernel
theorem dl12_1_1 : decode jdk_44_method_1_code 1 = .ok (.invokespecial 1, 3) := by decide +kernel
theorem dl12_1_4 : decode jdk_44_method_1_code 4 = .ok (.aload_n 0, 1) := by decide +kernel
theorem dl12_1_5 : decode jdk_44_method_1_code 5 = .ok (.aload_n 1, 1) := by decide +kernel
theorem dl12_1_6 : decode jdk_44_method_1_code 6 = .ok (.invokestatic 7, 3) := by decide +kernel
theorem dl12_1_9 : decode jdk_44_method_1_code 9 = .ok (.putfield 13, 3) := by decide +kernel
theorem dl12_1_12 : decode jdk_44_method_1_code 12 = .ok (.aload_n 0, 1) := by decide +kernel
theorem dl12_1_13 : decode jdk_44_method_1_code 13 = .ok (.getstatic 19, 3) := by decide +kernel
theorem dl12_1_16 : decode jdk_44_method_1_code 16 = .ok (.putfield 24, 3) := by decide +kernel
theorem dl12_1_19 : decode jdk_44_method_1_code 19 = .ok (.return_, 1) := by decide +kernel
theorem pn_17 : plainName "java/util/ImmutableCollections$List12" = true := by first | (simp [plainName, overriddenIn]; done) | decide +kernel
theorem ef_l12_1 (m : MethodId) (x0 : Addr) (x1 : Addr) : entryFrame m #[(.ref x0), (.ref x1)] 2 = mkF m 0 #[.val (.ref x0), .val (.ref x1)] [] := by first | (simp [entryFrame, mkF, argsToLocals, Value.category]; done) | rfl
def Ql12_1 (Z : State) (a : Addr) (x1 : Addr) (em : Addr) (h0 : Heap) (n0 : Nat) (v : Option Value) (h : Heap) (L : List Loc) : Prop := v = none ∧ Fr n0 L ∧ Keep h0 h [a]
def Pl12_1 (Z : State) (a : Addr) (x1 : Addr) (em : Addr) (h0 : Heap) (n0 : Nat) (s : State) (oQ : Outcome) (U : State) : Prop := ∃ v L, oQ = .returned v ∧ Ql12_1 Z a x1 em h0 n0 v U.heap L ∧ FrameEnd s oQ U L ({ frames := 4, cells := 0, slots := 0, locals := 48 } : Room).cells ({ frames := 4, cells := 0, slots := 0, locals := 48 } : Room).slots
set_option maxRecDepth 65536 in
set_option maxHeartbeats 40000000 in
theorem rml12_1 (l : Launch) (Z : State) (a0 : Array Value) (hw : ∀ d ∈ tables_1, d.before a0 Z = true) (ws : List Jvm.Cond) (a : Addr) (x1 : Addr) (em : Addr) (h0 : Heap) (n0 : Nat) (Z0 : n0 ≤ h0.size) (E_a : Exa Z h0 a "java/util/ImmutableCollections$List12") (F_e0_a : Fld Z h0 a "java/util/ImmutableCollections$List12" "e0" "Ljava/lang/Object;" .null) (F_e1_a : Fld Z h0 a "java/util/ImmutableCollections$List12" "e1" "Ljava/lang/Object;" .null) (g_a : n0 ≤ a) (Ol : Old Z n0 h0) (S_em : Sta Z Z.heap "java/util/ImmutableCollections" "EMPTY" "Ljava/lang/Object;" (.ref em)) :
    MetFree l (⟨"java/util/ImmutableCollections$List12", "<init>", "(Ljava/lang/Object;)V"⟩ : MethodName) (head1 (Jvm.Cond.code (⟨"java/util/ImmutableCollections$List12", "<init>", "(Ljava/lang/Object;)V"⟩ : MethodName) jdk_44_method_1_code 2 none :: ws) ({ frames := 4, cells := 0, slots := 0, locals := 48 } : Room)) (fun aQ U => aQ = #[(.ref a), (.ref x1)] ∧ Z.Warmed39 U.vm ∧ U.heap = h0) (fun _ _ _ _ _ => True) (fun _ U oQ U' => ∃ v L, oQ = .returned v ∧ Ql12_1 Z a x1 em h0 n0 v U'.heap L ∧ FrameEnd U oQ U' L ({ frames := 4, cells := 0, slots := 0, locals := 48 } : Room).cells ({ frames := 4, cells := 0, slots := 0, locals := 48 } : Room).slots) := by
  refine MetFree.of_bodySF (plainFor_of_name pn_17) hisR ?_
  intro p e s m args below meth c s₁ Bd hml0 hP hK
  obtain ⟨rfl, hZ, hh⟩ := hP
  have hx := Bd.exec
  have hby := Bd.bytes
  have hml : c.maxLocals = 2 := hml0
  have hown : s.vm.findClass "java/util/ImmutableCollections$List12" = some m.cls := findClass_of_methodNamed Bd.named
  have hnm := (name_of_methodNamed Bd.named Bd.method).1
  have X0 : Stand p l e ({ frames := 4, cells := 0, slots := 0, locals := 48 } : Room) s m #[(.ref a), (.ref x1)] below meth c s₁ [] 0 0 := Stand.of_body Bd
  have e0 : s₁.heap = h0 := by rw [← hh, Bd.state]; rfl
  have Nf := Fr.nil n0
  have Zs : n0 ≤ h0.size := Z0
  have Kp : Keep h0 h0 [a] := Keep.refl _ _
  have szr : h0.size ≤ h0.size := Nat.le_refl _
  show own_End p e below (Pl12_1 Z a x1 em h0 n0 s) (s₁.setTop (entryFrame m #[(.ref a), (.ref x1)] 2))
  rw [ef_l12_1]
  refine own_go (fun tQ kQ => XS.aloadN X0.here hx rfl (hb hby dl12_1_0) rfl rfl kQ) ?_
  show own_End p e below _ (s₁.setTop (mkF m 1 #[.val (.ref a), .val (.ref x1)] [(.ref a)]))
  obtain ⟨_, _, ⟨T1, L1, k1, n1⟩, -, X1, ⟨Lc1, hQ1, l1, y1, z1⟩, st1⟩ := X0.specialBack hx (y := (⟨"java/util/ImmutableCollections$AbstractImmutableList", "<init>", "()V"⟩ : MethodName)) rfl hown (mvT hZ (hw _ (List.mem_of_getElem? (i := 274) rfl))) (mvT hZ (hw _ (List.mem_of_getElem? (i := 275) rfl))) (mvT hZ (hw _ (List.mem_of_getElem? (i := 279) rfl))) (by decide) (backOf (W := 0) (rmIL l Z a0 hw [] a h0 n0 Zs ) hZ (hw _ (List.mem_of_getElem? (i := 279) rfl)) (hw _ (List.mem_of_getElem? (i := 278) rfl)) (by decide) (by decide)) (g := (mkF m 1 #[.val (.ref a), .val (.ref x1)] [(.ref a)])) rfl (by rw [hml]; rfl) (Steps.refl _) (a := a) (argsL := []) (rest := []) (lenOf pd_2 rfl) rfl (by show 2 * 0 + _ ≤ _; exact Nat.le_of_eq rfl) (hb hby dl12_1_1) (fun _ _ => ⟨rfl, e0, (Nat.le_of_ble_eq_true rfl), (Nat.le_of_ble_eq_true rfl)⟩)
  dsimp only [Pt.U, Pt.locs, Pt.cells, Pt.slots] at X1 l1 y1 z1 st1 hQ1
  rw [l1, y1, z1] at X1
  obtain ⟨rfl, N1q, e1⟩ := hQ1
  have Nf := Fr.app Nf N1q
  have X1 := own_pad (k' := 0) (n' := 0) X1 (by decide) (by decide)
  refine own_go (fun tQ kQ => st1.trans kQ) ?_
  show own_End p e below _ (T1.setTop (mkF m 4 #[.val (.ref a), .val (.ref x1)] []))
  refine own_go (fun tQ kQ => XS.aloadN X1.here hx rfl (hb hby dl12_1_4) rfl rfl kQ) ?_
  show own_End p e below _ (T1.setTop (mkF m 5 #[.val (.ref a), .val (.ref x1)] [(.ref a)]))
  refine own_go (fun tQ kQ => XS.aloadN X1.here hx rfl (hb hby dl12_1_5) rfl rfl kQ) ?_
  show own_End p e below _ (T1.setTop (mkF m 6 #[.val (.ref a), .val (.ref x1)] [(.ref x1), (.ref a)]))
  obtain ⟨_, _, ⟨T2, L2, k2, n2⟩, -, X2, ⟨Lc2, hQ2, l2, y2, z2⟩, st2⟩ := Jvm.LawKit.callS X1 hx (y := (⟨"java/util/Objects", "requireNonNull", "(Ljava/lang/Object;)Ljava/lang/Object;"⟩ : MethodName)) hown (mvT hZ (hw _ (List.mem_of_getElem? (i := 288) rfl))) (mvT hZ (hw _ (List.mem_of_getElem? (i := 289) rfl))) (mvT hZ (hw _ (List.mem_of_getElem? (i := 16) rfl))) (mvT hZ (hw _ (List.mem_of_getElem? (i := 290) rfl))) (by decide) (backOf (W := 1) (rmrn1 l Z a0 hw [] x1 h0 n0 Zs ) hZ (hw _ (List.mem_of_getElem? (i := 290) rfl)) (hw _ (List.mem_of_getElem? (i := 16) rfl)) (by decide) (by decide)) (g := (mkF m 6 #[.val (.ref a), .val (.ref x1)] [(.ref x1), (.ref a)])) rfl (by rw [hml]; rfl) (argsL := [(.ref x1)]) (rest := [(.ref a)]) (lenOf pd_16 rfl) rfl (by show 2 * 0 + _ ≤ _; exact Nat.le_of_eq rfl) (hb hby dl12_1_6) (fun _ _ => ⟨rfl, e1, (Nat.le_of_ble_eq_true rfl), (Nat.le_of_ble_eq_true rfl)⟩)
  dsimp only [Pt.U, Pt.locs, Pt.cells, Pt.slots] at X2 l2 y2 z2 st2 hQ2
  rw [l2, y2, z2] at X2
  obtain ⟨rfl, N2q, e2⟩ := hQ2
  have Nf := Fr.app Nf N2q
  have X2 := own_pad (k' := 0) (n' := 0) X2 (by decide) (by decide)
  refine own_go (fun tQ kQ => st2 tQ kQ) ?_
  show own_End p e below _ (T2.setTop (mkF m 9 #[.val (.ref a), .val (.ref x1)] [(.ref x1), (.ref a)]))
  obtain ⟨T3, h3, X3, e3, W3, st3⟩ := putF X2 hx hZ hown (host := "") (Or.inl (hw _ (List.mem_of_getElem? (i := 291) rfl))) Via.refl e2 F_e0_a E_a (Or.inr ⟨(hw _ (List.mem_of_getElem? (i := 292) rfl)), rfl, hnm⟩) (hw _ (List.mem_of_getElem? (i := 268) rfl)) (ty := (.object "java/lang/Object")) (by decide) rfl rfl (g := (mkF m 9 #[.val (.ref a), .val (.ref x1)] [(.ref x1), (.ref a)])) rfl rfl (hb hby dl12_1_9)
  have F_e0_a := F_e0_a.same W3
  have E_a := E_a.wr W3
  have F_e1_a := F_e1_a.other W3 (Or.inr (slot_ne (Or.inr (hw _ (List.mem_of_getElem? (i := 294) rfl))) (Or.inr (hw _ (List.mem_of_getElem? (i := 292) rfl))) (by decide) (t := (.object "java/lang/Object")) (t' := (.object "java/lang/Object")) (by decide) (by decide)))
  have Ol := Ol.wr W3 g_a
  have Kp := Kp.wr W3 (Or.inl (List.mem_of_getElem? (i := 0) rfl))
  have Nf := Fr.snoc X3 Nf g_a
  have Zs := Nat.le_trans Zs (Keep.of_wr W3).1
  have szr := Nat.le_trans szr (Keep.of_wr W3).1
  refine own_go (fun tQ kQ => st3 tQ kQ) ?_
  show own_End p e below _ (T3.setTop (mkF m 12 #[.val (.ref a), .val (.ref x1)] []))
  refine own_go (fun tQ kQ => XS.aloadN X3.here hx rfl (hb hby dl12_1_12) rfl rfl kQ) ?_
  show own_End p e below _ (T3.setTop (mkF m 13 #[.val (.ref a), .val (.ref x1)] [(.ref a)]))
  obtain ⟨T4, X4, e4, st4⟩ := getS2 X3 hx hZ hown (Or.inr (hw _ (List.mem_of_getElem? (i := 304) rfl))) Via.refl e3 (S_em.ext Ol.2) (g := (mkF m 13 #[.val (.ref a), .val (.ref x1)] [(.ref a)])) rfl (hb hby dl12_1_13)
  refine own_go (fun tQ kQ => st4 tQ kQ) ?_
  show own_End p e below _ (T4.setTop (mkF m 16 #[.val (.ref a), .val (.ref x1)] [(.ref em), (.ref a)]))
  obtain ⟨T5, h5, X5, e5, W5, st5⟩ := putF X4 hx hZ hown (host := "") (Or.inl (hw _ (List.mem_of_getElem? (i := 293) rfl))) Via.refl e4 F_e1_a E_a (Or.inr ⟨(hw _ (List.mem_of_getElem? (i := 294) rfl)), rfl, hnm⟩) (hw _ (List.mem_of_getElem? (i := 268) rfl)) (ty := (.object "java/lang/Object")) (by decide) rfl rfl (g := (mkF m 16 #[.val (.ref a), .val (.ref x1)] [(.ref em), (.ref a)])) rfl rfl (hb hby dl12_1_16)
  have F_e1_a := F_e1_a.same W5
  have E_a := E_a.wr W5
  have F_e0_a := F_e0_a.other W5 (Or.inr (slot_ne (Or.inr (hw _ (List.mem_of_getElem? (i := 292) rfl))) (Or.inr (hw _ (List.mem_of_getElem? (i := 294) rfl))) (by decide) (t := (.object "java/lang/Object")) (t' := (.object "java/lang/Object")) (by decide) (by decide)))
  have Ol := Ol.wr W5 g_a
  have Kp := Kp.wr W5 (Or.inl (List.mem_of_getElem? (i := 0) rfl))
  have Nf := Fr.snoc X5 Nf g_a
  have Zs := Nat.le_trans Zs (Keep.of_wr W5).1
  have szr := Nat.le_trans szr (Keep.of_wr W5).1
  refine own_go (fun tQ kQ => st5 tQ kQ) ?_
  show own_End p e below _ (T5.setTop (mkF m 19 #[.val (.ref a), .val (.ref x1)] []))
  obtain ⟨fs, hr, hrun, hended, hW, hsame⟩ := X5.leave (v := none) (fun _ => rfl)
  refine ⟨_, _, X5.returnOut hx Bd.returns (hb hby dl12_1_19) hr, hrun, hended, _, _, rfl, ?_, ⟨_, rfl⟩, hW, hsame.mono (by decide) (by decide)⟩
  show Ql12_1 Z a x1 em h0 n0 _ T5.heap _
  rw [e5]
  exact ⟨rfl, Nf, Kp⟩
theorem pd_18 : parseMethodDescriptor "(Ljava/lang/Object;)V" = some ⟨[(.object "java/lang/Object")], none⟩ := by decide +kernel
theorem dlo1_0 : decode jdk_40_method_47_code 0 = .ok (.aload_n 0, 1) := by decide +kernel
theorem dlo1_1 : decode jdk_40_method_47_code 1 = .ok (.arraylength, 1) := by decide +kernel
theorem dlo1_2 : decode jdk_40_method_47_code 2 = .ok (.tableswitch 57 0 2 #[26, 32, 43], 26) := by decide +kernel
theorem dlo1_34 : decode jdk_40_method_47_code 34 = .ok (.new 96, 3) := by decide +kernel
theorem dlo1_37 : decode jdk_40_method_47_code 37 = .ok (.dup, 1) := by decide +kernel
theorem dlo1_38 : decode jdk_40_method_47_code 38 = .ok (.aload_n 0, 1) := by decide +kernel
theorem dlo1_39 : decode jdk_40_method_47_code 39 = .ok (.iconst 0, 1) := by decide +kernel
theorem dlo1_40 : decode jdk_40_method_47_code 40 = .ok (.aaload, 1) := by decide +kernel
theorem dlo1_41 : decode jdk_40_method_47_code 41 = .ok (.invokespecial 98, 3) := by decide +kernel
theorem dlo1_44 : decode jdk_40_method_47_code 44 = .ok (.areturn, 1) := by decide +kernel
theorem ef_lo1 (m : MethodId) (x0 : Addr) : entryFrame m #[(.ref x0)] 2 = mkF m 0 #[.val (.ref x0), .unset] [] := by first | (simp [entryFrame, mkF, argsToLocals, Value.category]; done) | rfl
def Qlo1 (Z : State) (tr : Addr) (x1 : Addr) (em : Addr) (h0 : Heap) (n0 : Nat) (v : Option Value) (h : Heap) (L : List Loc) : Prop := ∃ r, v = some (.ref r) ∧ Fr n0 L ∧ Keep h0 h [] ∧ h0.size ≤ r ∧ Exa Z h r "java/util/ImmutableCollections$List12"
def Plo1 (Z : State) (tr : Addr) (x1 : Addr) (em : Addr) (h0 : Heap) (n0 : Nat) (s : State) (oQ : Outcome) (U : State) : Prop := ∃ v L, oQ = .returned v ∧ Qlo1 Z tr x1 em h0 n0 v U.heap L ∧ FrameEnd s oQ U L ({ frames := 5, cells := 1, slots := 2, locals := 62 } : Room).cells ({ frames := 5, cells := 1, slots := 2, locals := 62 } : Room).slots
set_option maxRecDepth 65536 in
set_option maxHeartbeats 40000000 in
theorem rmlo1 (l : Launch) (Z : State) (a0 : Array Value) (hw : ∀ d ∈ tables_1, d.before a0 Z = true) (ws : List Jvm.Cond) (tr : Addr) (x1 : Addr) (em : Addr) (h0 : Heap) (n0 : Nat) (Z0 : n0 ≤ h0.size) (V_tr : own_Rr Z h0 tr "java/lang/Object" (1 : Int32) (fun _ => .ref x1)) (Ol : Old Z n0 h0) (S_em : Sta Z Z.heap "java/util/ImmutableCollections" "EMPTY" "Ljava/lang/Object;" (.ref em)) :
    MetFree l (⟨"java/util/List", "of", "([Ljava/lang/Object;)Ljava/util/List;"⟩ : MethodName) (head1 (Jvm.Cond.code (⟨"java/util/List", "of", "([Ljava/lang/Object;)Ljava/util/List;"⟩ : MethodName) jdk_40_method_47_code 2 (some (.object "java/util/List")) :: ws) ({ frames := 5, cells := 1, slots := 2, locals := 62 } : Room)) (fun aQ U => aQ = #[(.ref tr)] ∧ Z.Warmed39 U.vm ∧ U.heap = h0) (fun _ _ _ _ _ => True) (fun _ U oQ U' => ∃ v L, oQ = .returned v ∧ Qlo1 Z tr x1 em h0 n0 v U'.heap L ∧ FrameEnd U oQ U' L ({ frames := 5, cells := 1, slots := 2, locals := 62 } : Room).cells ({ frames := 5, cells := 1, slots := 2, locals := 62 } : Room).slots) := by
  refine MetFree.of_bodySF (plainFor_of_name pn_11) hisR ?_
  intro p e s m args below meth c s₁ Bd hml0 hP hK
  obtain ⟨rfl, hZ, hh⟩ := hP
  have hx := Bd.exec
  have hby := Bd.bytes
  have hml : c.maxLocals = 2 := hml0
  have hown : s.vm.findClass "java/util/List" = some m.cls := findClass_of_methodNamed Bd.named
  have hnm := (name_of_methodNamed Bd.named Bd.method).1
  have X0 : Stand p l e ({ frames := 5, cells := 1, slots := 2, locals := 62 } : Room) s m #[(.ref tr)] below meth c s₁ [] 0 0 := Stand.of_body Bd
  have e0 : s₁.heap = h0 := by rw [← hh, Bd.state]; rfl
  have Nf := Fr.nil n0
  have Zs : n0 ≤ h0.size := Z0
  have Kp : Keep h0 h0 [] := Keep.refl _ _
  have szr : h0.size ≤ h0.size := Nat.le_refl _
  show own_End p e below (Plo1 Z tr x1 em h0 n0 s) (s₁.setTop (entryFrame m #[(.ref tr)] 2))
  rw [ef_lo1]
  refine own_go (fun tQ kQ => XS.aloadN X0.here hx rfl (hb hby dlo1_0) rfl rfl kQ) ?_
  show own_End p e below _ (s₁.setTop (mkF m 1 #[.val (.ref tr), .unset] [(.ref tr)]))
  obtain ⟨cl1, Ar1, S1, M1, H1, -⟩ := id V_tr
  refine own_go (fun tQ kQ => X0.arraylength hx (by rw [e0]; exact Ar1.1) (State.isArrayOf_alike hZ.alike Ar1.2.1) (g := (mkF m 1 #[.val (.ref tr), .unset] [(.ref tr)])) rfl rfl (hb hby dlo1_1) _ kQ) ?_
  rw [len_of S1 M1]
  show own_End p e below _ (s₁.setTop (mkF m 2 #[.val (.ref tr), .unset] [(.int (1 : Int32))]))
  refine own_go (fun tQ kQ => XS.tswIn X0.here hx rfl (pc0 := 2) (pc' := 34) (o := 32) rfl (hb hby dlo1_2) rfl (by decide) (by decide) (by decide) (by decide) kQ) ?_
  show own_End p e below _ (s₁.setTop (mkF m 34 #[.val (.ref tr), .unset] []))
  obtain ⟨T2, h2, X2, e2, E2, A2, D2, -, st2⟩ := newO X0 hx hZ hown (hw _ (List.mem_of_getElem? (i := 267) rfl)) (hw _ (List.mem_of_getElem? (i := 268) rfl)) (hw _ (List.mem_of_getElem? (i := 269) rfl)) e0 (g := (mkF m 34 #[.val (.ref tr), .unset] [])) rfl (hb hby dlo1_34) (by decide) (by decide)
  obtain ⟨r, g2⟩ : ∃ z, z = h0.size := ⟨_, rfl⟩
  rw [← g2] at A2 D2 st2
  have ne_tr_r : tr ≠ r := Nat.ne_of_lt (Nat.lt_of_lt_of_le V_tr.lt (Nat.le_of_eq g2.symm))
  have g_r : n0 ≤ r := Nat.le_trans Zs (Nat.le_of_eq g2.symm)
  have sz_r : h0.size ≤ r := Nat.le_trans szr (Nat.le_of_eq g2.symm)
  have V_tr := V_tr.ext E2
  have Ol := Ol.ext E2
  have Kp := Kp.ext E2
  have Zs := Nat.le_trans Zs E2.1
  have szr := Nat.le_trans szr E2.1
  have E_r := A2
  have F_e0_r : Fld Z h2 r "java/util/ImmutableCollections$List12" "e0" "Ljava/lang/Object;" .null := D2 (Or.inr (hw _ (List.mem_of_getElem? (i := 292) rfl))) (ty := (.object "java/lang/Object")) (by decide)
  have F_e1_r : Fld Z h2 r "java/util/ImmutableCollections$List12" "e1" "Ljava/lang/Object;" .null := D2 (Or.inr (hw _ (List.mem_of_getElem? (i := 294) rfl))) (ty := (.object "java/lang/Object")) (by decide)
  have X2 := own_pad (k' := 1) (n' := 2) X2 (by decide) (by decide)
  refine own_go (fun tQ kQ => st2 tQ kQ) ?_
  show own_End p e below _ (T2.setTop (mkF m 37 #[.val (.ref tr), .unset] [(.ref r)]))
  refine own_go (fun tQ kQ => XS.dup X2.here hx rfl (hb hby dlo1_37) rfl rfl kQ) ?_
  show own_End p e below _ (T2.setTop (mkF m 38 #[.val (.ref tr), .unset] [(.ref r), (.ref r)]))
  refine own_go (fun tQ kQ => XS.aloadN X2.here hx rfl (hb hby dlo1_38) rfl rfl kQ) ?_
  show own_End p e below _ (T2.setTop (mkF m 39 #[.val (.ref tr), .unset] [(.ref tr), (.ref r), (.ref r)]))
  refine own_go (fun tQ kQ => XS.iconst X2.here hx rfl (hb hby dlo1_39) kQ) ?_
  show own_End p e below _ (T2.setTop (mkF m 40 #[.val (.ref tr), .unset] [(.int (0 : Int32)), (.ref tr), (.ref r), (.ref r)]))
  obtain ⟨cl3, Ar3, S3, M3, H3, -⟩ := id V_tr
  have hin3 := inb_of (j := (0 : Int32)) S3 ⟨(by decide), (by decide)⟩
  refine own_go (fun tQ kQ => X2.aaload hx (j := (0 : Int32)) (v := (.ref x1)) (by rw [e2]; exact Ar3.1) (State.isArrayOf_alike hZ.alike Ar3.2.1) rfl Ar3.2.2 hin3 (H3 _ (own_in S3 hin3)) (g := (mkF m 40 #[.val (.ref tr), .unset] [(.int (0 : Int32)), (.ref tr), (.ref r), (.ref r)])) rfl rfl (hb hby dlo1_40) _ kQ) ?_
  show own_End p e below _ (T2.setTop (mkF m 41 #[.val (.ref tr), .unset] [(.ref x1), (.ref r), (.ref r)]))
  obtain ⟨_, _, ⟨T4, L4, k4, n4⟩, -, X4, ⟨Lc4, hQ4, l4, y4, z4⟩, st4⟩ := X2.specialBack hx (y := (⟨"java/util/ImmutableCollections$List12", "<init>", "(Ljava/lang/Object;)V"⟩ : MethodName)) rfl hown (mvT hZ (hw _ (List.mem_of_getElem? (i := 301) rfl))) (mvT hZ (hw _ (List.mem_of_getElem? (i := 302) rfl))) (mvT hZ (hw _ (List.mem_of_getElem? (i := 303) rfl))) (by decide) (backOf (W := 1) (rml12_1 l Z a0 hw [] r x1 em h2 n0 Zs E_r F_e0_r F_e1_r g_r Ol S_em) hZ (hw _ (List.mem_of_getElem? (i := 303) rfl)) (hw _ (List.mem_of_getElem? (i := 269) rfl)) (by decide) (by decide)) (g := (mkF m 41 #[.val (.ref tr), .unset] [(.ref x1), (.ref r), (.ref r)])) rfl (by rw [hml]; rfl) (Steps.refl _) (a := r) (argsL := [(.ref x1)]) (rest := [(.ref r)]) (lenOf pd_18 rfl) rfl (by show 2 * 0 + _ ≤ _; exact Nat.le_of_eq rfl) (hb hby dlo1_41) (fun _ _ => ⟨rfl, e2, (Nat.le_of_ble_eq_true rfl), (Nat.le_of_ble_eq_true rfl)⟩)
  dsimp only [Pt.U, Pt.locs, Pt.cells, Pt.slots] at X4 l4 y4 z4 st4 hQ4
  rw [l4, y4, z4] at X4
  obtain ⟨rfl, N4q, K4⟩ := hQ4
  have Nf := Fr.app Nf N4q
  have V_tr := V_tr.keep K4 (ninS ne_tr_r nin0)
  have Ol := Ol.keep K4 (allS g_r all0)
  have E_r := E_r.keep K4
  have Kp := Kp.trans K4 (allS (Or.inr sz_r) all0)
  have Zs := Nat.le_trans Zs K4.1
  have szr := Nat.le_trans szr K4.1
  have X4 := own_pad (k' := 1) (n' := 2) X4 (by decide) (by decide)
  refine own_go (fun tQ kQ => st4.trans kQ) ?_
  show own_End p e below _ (T4.setTop (mkF m 44 #[.val (.ref tr), .unset] [(.ref r)]))
  obtain ⟨fs, hr, hrun, hended, hW, hsame⟩ := X4.leave (v := some (.ref r)) (fun h => by rw [Bd.returns] at h; cases h)
  refine ⟨_, _, ?_, hrun, hended, _, _, rfl, ?_, ⟨_, rfl⟩, hW, hsame.mono (by decide) (by decide)⟩
  · exact (by
      jvm_step X4.here [X4.here.top, hx, (hb hby dlo1_44), X4.method', Bd.returns, Value.isRef, FieldType.isReference, narrow]
      first | (intro acts; rw [hr _ acts rfl rfl rfl]) | rw [hr _ _ rfl rfl rfl]
      exact Steps.refl _)
  · show Qlo1 Z tr x1 em h0 n0 _ T4.heap _
    exact ⟨r, rfl, Nf, Kp, sz_r, E_r⟩
theorem dcpc2_0 : decode jdk_65_method_120_code 0 = .ok (.aload_n 2, 1) := by decide +kernel
theorem dcpc2_1 : decode jdk_65_method_120_code 1 = .ok (.ldc 110, 2) := by decide +kernel
theorem dcpc2_3 : decode jdk_65_method_120_code 3 = .ok (.if_acmp .ne 10, 3) := by decide +kernel
theorem dcpc2_6 : decode jdk_65_method_120_code 6 = .ok (.iload_n 1, 1) := by decide +kernel
theorem dcpc2_7 : decode jdk_65_method_120_code 7 = .ok (.anewarray 2, 3) := by decide +kernel
theorem dcpc2_10 : decode jdk_65_method_120_code 10 = .ok (.goto 14, 3) := by decide +kernel
theorem dcpc2_24 : decode jdk_65_method_120_code 24 = .ok (.astore_n 3, 1) := by decide +kernel
theorem dcpc2_25 : decode jdk_65_method_120_code 25 = .ok (.aload_n 0, 1) := by decide +kernel
theorem dcpc2_26 : decode jdk_65_method_120_code 26 = .ok (.iconst 0, 1) := by decide +kernel
theorem dcpc2_27 : decode jdk_65_method_120_code 27 = .ok (.aload_n 3, 1) := by decide +kernel
theorem dcpc2_28 : decode jdk_65_method_120_code 28 = .ok (.iconst 0, 1) := by decide +kernel
theorem dcpc2_29 : decode jdk_65_method_120_code 29 = .ok (.aload_n 0, 1) := by decide +kernel
theorem dcpc2_30 : decode jdk_65_method_120_code 30 = .ok (.arraylength, 1) := by decide +kernel
theorem dcpc2_31 : decode jdk_65_method_120_code 31 = .ok (.iload_n 1, 1) := by decide +kernel
theorem dcpc2_32 : decode jdk_65_method_120_code 32 = .ok (.invokestatic 304, 3) := by decide +kernel
theorem dcpc2_35 : decode jdk_65_method_120_code 35 = .ok (.invokestatic 150, 3) := by decide +kernel
theorem dcpc2_38 : decode jdk_65_method_120_code 38 = .ok (.aload_n 3, 1) := by decide +kernel
theorem dcpc2_39 : decode jdk_65_method_120_code 39 = .ok (.areturn, 1) := by decide +kernel
theorem ef_cpc2 (m : MethodId) (x0 : Addr) (x1 : Int32) (x2 : Addr) : entryFrame m #[(.ref x0), (.int x1), (.ref x2)] 4 = mkF m 0 #[.val (.ref x0), .val (.int x1), .val (.ref x2), .unset] [] := by first | (simp [entryFrame, mkF, argsToLocals, Value.category]; done) | rfl
def Qcpc2 (Z : State) (b : Addr) (ff : Nat → Value) (mr : Addr) (x1 : Addr) (h0 : Heap) (n0 : Nat) (v : Option Value) (h : Heap) (L : List Loc) : Prop := ∃ tr, v = some (.ref tr) ∧ Fr n0 L ∧ Keep h0 h [] ∧ h0.size ≤ tr ∧ own_Rr Z h tr "java/lang/Object" (2 : Int32) (fun _ => .ref x1)
def Pcpc2 (Z : State) (b : Addr) (ff : Nat → Value) (mr : Addr) (x1 : Addr) (h0 : Heap) (n0 : Nat) (s : State) (oQ : Outcome) (U : State) : Prop := ∃ v L, oQ = .returned v ∧ Qcpc2 Z b ff mr x1 h0 n0 v U.heap L ∧ FrameEnd s oQ U L ({ frames := 1, cells := 1, slots := 2, locals := 60 } : Room).cells ({ frames := 1, cells := 1, slots := 2, locals := 60 } : Room).slots
set_option maxRecDepth 65536 in
set_option maxHeartbeats 40000000 in
theorem rmcpc2 (l : Launch) (Z : State) (a0 : Array Value) (hw : ∀ d ∈ tables_1, d.before a0 Z = true) (ws : List Jvm.Cond) (b : Addr) (ff : Nat → Value) (mr : Addr) (x1 : Addr) (h0 : Heap) (n0 : Nat) (Z0 : n0 ≤ h0.size) (E_b : Exa Z h0 b "[Ljava/lang/Object;") (V_b : own_Rr Z h0 b "java/lang/Object" (10 : Int32) (ff)) (M_r : Mir Z "[Ljava/lang/Object;" mr) (E_x1 : Exa Z h0 x1 "com/example/grant3/grant3/Explanation$Reason") (hff : ∀ j, fits (.object "java/lang/Object") (ff j) = true) (hf : ∀ j, j < 2 → ff j = .ref x1) :
    MetFree l (⟨"java/util/Arrays", "copyOf", "([Ljava/lang/Object;ILjava/lang/Class;)[Ljava/lang/Object;"⟩ : MethodName) (head1 (Jvm.Cond.code (⟨"java/util/Arrays", "copyOf", "([Ljava/lang/Object;ILjava/lang/Class;)[Ljava/lang/Object;"⟩ : MethodName) jdk_65_method_120_code 4 (some (.array (.object "java/lang/Object"))) :: ws) ({ frames := 1, cells := 1, slots := 2, locals := 60 } : Room)) (fun aQ U => aQ = #[(.ref b), (.int (2 : Int32)), (.ref mr)] ∧ Z.Warmed39 U.vm ∧ U.heap = h0) (fun _ _ _ _ _ => True) (fun _ U oQ U' => ∃ v L, oQ = .returned v ∧ Qcpc2 Z b ff mr x1 h0 n0 v U'.heap L ∧ FrameEnd U oQ U' L ({ frames := 1, cells := 1, slots := 2, locals := 60 } : Room).cells ({ frames := 1, cells := 1, slots := 2, locals := 60 } : Room).slots) := by
  refine MetFree.of_bodySF (plainFor_of_name pn_13) hisR ?_
  intro p e s m args below meth c s₁ Bd hml0 hP hK
  obtain ⟨rfl, hZ, hh⟩ := hP
  have hx := Bd.exec
  have hby := Bd.bytes
  have hml : c.maxLocals = 4 := hml0
  have hown : s.vm.findClass "java/util/Arrays" = some m.cls := findClass_of_methodNamed Bd.named
  have hnm := (name_of_methodNamed Bd.named Bd.method).1
  have X0 : Stand p l e ({ frames := 1, cells := 1, slots := 2, locals := 60 } : Room) s m #[(.ref b), (.int (2 : Int32)), (.ref mr)] below meth c s₁ [] 0 0 := Stand.of_body Bd
  have e0 : s₁.heap = h0 := by rw [← hh, Bd.state]; rfl
  have Nf := Fr.nil n0
  have Zs : n0 ≤ h0.size := Z0
  have Kp : Keep h0 h0 [] := Keep.refl _ _
  have szr : h0.size ≤ h0.size := Nat.le_refl _
  show own_End p e below (Pcpc2 Z b ff mr x1 h0 n0 s) (s₁.setTop (entryFrame m #[(.ref b), (.int (2 : Int32)), (.ref mr)] 4))
  rw [ef_cpc2]
  refine own_go (fun tQ kQ => XS.aloadN X0.here hx rfl (hb hby dcpc2_0) rfl rfl kQ) ?_
  show own_End p e below _ (s₁.setTop (mkF m 1 #[.val (.ref b), .val (.int (2 : Int32)), .val (.ref mr), .unset] [(.ref mr)]))
  obtain ⟨vm1, X1, st1⟩ := X0.ldcMirror hx hown (mv hZ (hw _ (List.mem_of_getElem? (i := 255) rfl))) (own_mir hZ M_r) (g := (mkF m 1 #[.val (.ref b), .val (.int (2 : Int32)), .val (.ref mr), .unset] [(.ref mr)])) rfl (hb hby dcpc2_1)
  have e1 : (s₁.setVm vm1).heap = h0 := e0
  refine own_go (fun tQ kQ => st1 tQ kQ) ?_
  show own_End p e below _ ((s₁.setVm vm1).setTop (mkF m 3 #[.val (.ref b), .val (.int (2 : Int32)), .val (.ref mr), .unset] [(.ref mr), (.ref mr)]))
  refine own_go (fun tQ kQ => Jvm.RoadKit.acmp (g := (mkF m 3 #[.val (.ref b), .val (.int (2 : Int32)), .val (.ref mr), .unset] [(.ref mr), (.ref mr)])) X1 hx rfl rfl rfl (pc0 := 3) (pc' := 6) (same := true) rfl (hb hby dcpc2_3) rfl (decide_eq_true rfl) (by decide) (by decide) kQ) ?_
  show own_End p e below _ ((s₁.setVm vm1).setTop (mkF m 6 #[.val (.ref b), .val (.int (2 : Int32)), .val (.ref mr), .unset] []))
  refine own_go (fun tQ kQ => XS.iloadN X1.here hx rfl (hb hby dcpc2_6) rfl kQ) ?_
  show own_End p e below _ ((s₁.setVm vm1).setTop (mkF m 7 #[.val (.ref b), .val (.int (2 : Int32)), .val (.ref mr), .unset] [(.int (2 : Int32))]))
  obtain ⟨T2, h2, k2, X2, e2, E2, A2, Ex2, O2, st2⟩ := newRE X1 hx hZ hown (hw _ (List.mem_of_getElem? (i := 256) rfl)) (hw _ (List.mem_of_getElem? (i := 215) rfl)) e1 (g := (mkF m 7 #[.val (.ref b), .val (.int (2 : Int32)), .val (.ref mr), .unset] [(.int (2 : Int32))])) rfl (hb hby dcpc2_7) rfl (by decide) (cap := 2) (by decide) (by decide) (by decide) (by decide) (ad := "[Ljava/lang/Object;") (by decide)
  obtain ⟨tr, g2⟩ : ∃ z, z = h0.size := ⟨_, rfl⟩
  rw [← g2] at A2 Ex2 st2
  have ne_b_tr : b ≠ tr := Nat.ne_of_lt (Nat.lt_of_lt_of_le E_b.lt (Nat.le_of_eq g2.symm))
  have ne_x1_tr : x1 ≠ tr := Nat.ne_of_lt (Nat.lt_of_lt_of_le E_x1.lt (Nat.le_of_eq g2.symm))
  have g_tr : n0 ≤ tr := Nat.le_trans Zs (Nat.le_of_eq g2.symm)
  have sz_tr : h0.size ≤ tr := Nat.le_trans szr (Nat.le_of_eq g2.symm)
  have E_b := E_b.ext E2
  have V_b := V_b.ext E2
  have E_x1 := E_x1.ext E2
  have Kp := Kp.ext E2
  have Zs := Nat.le_trans Zs E2.1
  have szr := Nat.le_trans szr E2.1
  have E_tr := Ex2
  have V_tr : own_Rr Z h2 tr "java/lang/Object" (2 : Int32) (fun _ => .null) := own_Rr.new A2 O2 (by decide)
  have X2 := own_pad (k' := 1) (n' := 2) X2 (by decide) (by decide)
  refine own_go (fun tQ kQ => st2 tQ kQ) ?_
  show own_End p e below _ (T2.setTop (mkF m 10 #[.val (.ref b), .val (.int (2 : Int32)), .val (.ref mr), .unset] [(.ref tr)]))
  refine own_go (fun tQ kQ => XS.goto X2.here hx rfl (pc0 := 10) (pc' := 24) rfl (hb hby dcpc2_10) (by decide) (by decide) kQ) ?_
  show own_End p e below _ (T2.setTop (mkF m 24 #[.val (.ref b), .val (.int (2 : Int32)), .val (.ref mr), .unset] [(.ref tr)]))
  refine own_go (fun tQ kQ => XS.astoreN X2.here hx rfl (hb hby dcpc2_24) rfl rfl (l' := #[.val (.ref b), .val (.int (2 : Int32)), .val (.ref mr), .val (.ref tr)]) rfl kQ) ?_
  show own_End p e below _ (T2.setTop (mkF m 25 #[.val (.ref b), .val (.int (2 : Int32)), .val (.ref mr), .val (.ref tr)] []))
  refine own_go (fun tQ kQ => XS.aloadN X2.here hx rfl (hb hby dcpc2_25) rfl rfl kQ) ?_
  show own_End p e below _ (T2.setTop (mkF m 26 #[.val (.ref b), .val (.int (2 : Int32)), .val (.ref mr), .val (.ref tr)] [(.ref b)]))
  refine own_go (fun tQ kQ => XS.iconst X2.here hx rfl (hb hby dcpc2_26) kQ) ?_
  show own_End p e below _ (T2.setTop (mkF m 27 #[.val (.ref b), .val (.int (2 : Int32)), .val (.ref mr), .val (.ref tr)] [(.int (0 : Int32)), (.ref b)]))
  refine own_go (fun tQ kQ => XS.aloadN X2.here hx rfl (hb hby dcpc2_27) rfl rfl kQ) ?_
  show own_End p e below _ (T2.setTop (mkF m 28 #[.val (.ref b), .val (.int (2 : Int32)), .val (.ref mr), .val (.ref tr)] [(.ref tr), (.int (0 : Int32)), (.ref b)]))
  refine own_go (fun tQ kQ => XS.iconst X2.here hx rfl (hb hby dcpc2_28) kQ) ?_
  show own_End p e below _ (T2.setTop (mkF m 29 #[.val (.ref b), .val (.int (2 : Int32)), .val (.ref mr), .val (.ref tr)] [(.int (0 : Int32)), (.ref tr), (.int (0 : Int32)), (.ref b)]))
  refine own_go (fun tQ kQ => XS.aloadN X2.here hx rfl (hb hby dcpc2_29) rfl rfl kQ) ?_
  show own_End p e below _ (T2.setTop (mkF m 30 #[.val (.ref b), .val (.int (2 : Int32)), .val (.ref mr), .val (.ref tr)] [(.ref b), (.int (0 : Int32)), (.ref tr), (.int (0 : Int32)), (.ref b)]))
  obtain ⟨cl3, Ar3, S3, M3, H3, -⟩ := id V_b
  refine own_go (fun tQ kQ => X2.arraylength hx (by rw [e2]; exact Ar3.1) (State.isArrayOf_alike hZ.alike Ar3.2.1) (g := (mkF m 30 #[.val (.ref b), .val (.int (2 : Int32)), .val (.ref mr), .val (.ref tr)] [(.ref b), (.int (0 : Int32)), (.ref tr), (.int (0 : Int32)), (.ref b)])) rfl rfl (hb hby dcpc2_30) _ kQ) ?_
  rw [len_of S3 M3]
  show own_End p e below _ (T2.setTop (mkF m 31 #[.val (.ref b), .val (.int (2 : Int32)), .val (.ref mr), .val (.ref tr)] [(.int (10 : Int32)), (.int (0 : Int32)), (.ref tr), (.int (0 : Int32)), (.ref b)]))
  refine own_go (fun tQ kQ => XS.iloadN X2.here hx rfl (hb hby dcpc2_31) rfl kQ) ?_
  show own_End p e below _ (T2.setTop (mkF m 32 #[.val (.ref b), .val (.int (2 : Int32)), .val (.ref mr), .val (.ref tr)] [(.int (2 : Int32)), (.int (10 : Int32)), (.int (0 : Int32)), (.ref tr), (.int (0 : Int32)), (.ref b)]))
  obtain ⟨_, _, ⟨T4, L4, k4, n4⟩, -, X4, ⟨Lc4, hQ4, l4, y4, z4⟩, st4⟩ := Jvm.LawKit.callS X2 hx (y := (⟨"java/lang/Math", "min", "(II)I"⟩ : MethodName)) hown (mvT hZ (hw _ (List.mem_of_getElem? (i := 257) rfl))) (mvT hZ (hw _ (List.mem_of_getElem? (i := 258) rfl))) (mvT hZ (hw _ (List.mem_of_getElem? (i := 212) rfl))) (mvT hZ (hw _ (List.mem_of_getElem? (i := 259) rfl))) (by decide) (backOf (W := 4) (rmmn l Z a0 hw [] (10 : Int32) (2 : Int32) h2 n0 Zs (by decide)) hZ (hw _ (List.mem_of_getElem? (i := 259) rfl)) (hw _ (List.mem_of_getElem? (i := 212) rfl)) (by decide) (by decide)) (g := (mkF m 32 #[.val (.ref b), .val (.int (2 : Int32)), .val (.ref mr), .val (.ref tr)] [(.int (2 : Int32)), (.int (10 : Int32)), (.int (0 : Int32)), (.ref tr), (.int (0 : Int32)), (.ref b)])) rfl (by rw [hml]; rfl) (argsL := [(.int (10 : Int32)), (.int (2 : Int32))]) (rest := [(.int (0 : Int32)), (.ref tr), (.int (0 : Int32)), (.ref b)]) (lenOf pd_7 rfl) rfl (by show 2 * 0 + _ ≤ _; exact Nat.le_of_eq rfl) (hb hby dcpc2_32) (fun _ _ => ⟨rfl, e2, (Nat.le_of_ble_eq_true rfl), (Nat.le_of_ble_eq_true rfl)⟩)
  dsimp only [Pt.U, Pt.locs, Pt.cells, Pt.slots] at X4 l4 y4 z4 st4 hQ4
  rw [l4, y4, z4] at X4
  obtain ⟨rfl, N4q, e4⟩ := hQ4
  have Nf := Fr.app Nf N4q
  have X4 := own_pad (k' := 1) (n' := 2) X4 (by decide) (by decide)
  refine own_go (fun tQ kQ => st4 tQ kQ) ?_
  show own_End p e below _ (T4.setTop (mkF m 35 #[.val (.ref b), .val (.int (2 : Int32)), .val (.ref mr), .val (.ref tr)] [(.int (2 : Int32)), (.int (0 : Int32)), (.ref tr), (.int (0 : Int32)), (.ref b)]))
  obtain ⟨k1_, VA, -⟩ := V_b.arv (vs := (List.range 10).map ff) (d := .null) (fun j hj => (own_getm ff 10 j .null hj).symm) (fun j hj => by rw [own_getm ff 10 j .null hj]; exact hff j)
  obtain ⟨k2_, VB, OB⟩ := V_tr.arv (vs := [.null, .null]) (d := .null) (fun j hj => by
    have hj' : j < 2 := hj
    have hj2 : j = 0 ∨ j = 1 := by omega
    rcases hj2 with rfl | rfl <;> rfl) (fun j hj => by
    have hj' : j < 2 := hj
    have hj2 : j = 0 ∨ j = 1 := by omega
    rcases hj2 with rfl | rfl <;> rfl)
  obtain ⟨ct_, At_, St_, Mt_, Ht_, Ot_⟩ := id V_tr
  have sto := Sto.of At_ Ot_ (Ins.of_exa E_x1 (hw _ (List.mem_of_getElem? (i := 216) rfl)))
  have hus : ([.ref x1, .ref x1] : List Value) = (List.range ((2 : Int32)).toNatClampNeg).map fun i => ((List.range 10).map ff).getD ((0 : Int32).toNatClampNeg + i) .null := by
    show [.ref x1, .ref x1] = [ff 0, ff 1]
    rw [hf 0 (by decide), hf 1 (by decide)]
  obtain ⟨T5, h5, L5, X5, e5, Nf, K5, VC, st5⟩ := cpA X4 hx hZ hown (hw _ (List.mem_of_getElem? (i := 260) rfl)) (hw _ (List.mem_of_getElem? (i := 263) rfl)) (hw _ (List.mem_of_getElem? (i := 261) rfl)) (hw _ (List.mem_of_getElem? (i := 262) rfl)) e4 VA VB (us := [.ref x1, .ref x1]) (Or.inr ⟨rfl, rfl, ⟨sto, ⟨sto, trivial⟩⟩⟩) (sp := (0 : Int32)) (dp := (0 : Int32)) (nn := (2 : Int32)) (by decide) (by decide) (by decide) (by decide) (by decide) hus (by decide) Nf g_tr (g := (mkF m 35 #[.val (.ref b), .val (.int (2 : Int32)), .val (.ref mr), .val (.ref tr)] [(.int (2 : Int32)), (.int (0 : Int32)), (.ref tr), (.int (0 : Int32)), (.ref b)])) rfl (by rw [hml]; rfl) rfl (hb hby dcpc2_35) (by decide) (W := 0) (by show 2 * 0 + _ ≤ _; exact Nat.le_of_eq rfl) (by decide)
  have V_tr : own_Rr Z h5 tr "java/lang/Object" (2 : Int32) (fun _ => .ref x1) := own_Rr.of_arv VC OB (fun j hj => by
    have hj' : j < 2 := hj
    have hj2 : j = 0 ∨ j = 1 := by omega
    rcases hj2 with rfl | rfl <;> rfl)
  have Kp := Kp.trans K5 (allS (Or.inr sz_tr) all0)
  have Zs := Nat.le_trans Zs K5.1
  refine own_go (fun tQ kQ => st5 tQ kQ) ?_
  show own_End p e below _ (T5.setTop (mkF m 38 #[.val (.ref b), .val (.int (2 : Int32)), .val (.ref mr), .val (.ref tr)] []))
  refine own_go (fun tQ kQ => XS.aloadN X5.here hx rfl (hb hby dcpc2_38) rfl rfl kQ) ?_
  show own_End p e below _ (T5.setTop (mkF m 39 #[.val (.ref b), .val (.int (2 : Int32)), .val (.ref mr), .val (.ref tr)] [(.ref tr)]))
  obtain ⟨fs, hr, hrun, hended, hW, hsame⟩ := X5.leave (v := some (.ref tr)) (fun h => by rw [Bd.returns] at h; cases h)
  refine ⟨_, _, ?_, hrun, hended, _, _, rfl, ?_, ⟨_, rfl⟩, hW, hsame.mono (by decide) (by decide)⟩
  · exact (by
      jvm_step X5.here [X5.here.top, hx, (hb hby dcpc2_39), X5.method', Bd.returns, Value.isRef, FieldType.isReference, narrow]
      first | (intro acts; rw [hr _ acts rfl rfl rfl]) | rw [hr _ _ rfl rfl rfl]
      exact Steps.refl _)
  · show Qcpc2 Z b ff mr x1 h0 n0 _ T5.heap _
    rw [e5]
    exact ⟨tr, rfl, Nf, Kp, sz_tr, V_tr⟩
theorem dcpa2_0 : decode jdk_65_method_119_code 0 = .ok (.aload_n 0, 1) := by decide +kernel
theorem dcpa2_1 : decode jdk_65_method_119_code 1 = .ok (.iload_n 1, 1) := by decide +kernel
theorem dcpa2_2 : decode jdk_65_method_119_code 2 = .ok (.aload_n 0, 1) := by decide +kernel
theorem dcpa2_3 : decode jdk_65_method_119_code 3 = .ok (.invokevirtual 86, 3) := by decide +kernel
theorem dcpa2_6 : decode jdk_65_method_119_code 6 = .ok (.invokestatic 300, 3) := by decide +kernel
theorem dcpa2_9 : decode jdk_65_method_119_code 9 = .ok (.areturn, 1) := by decide +kernel
theorem ef_cpa2 (m : MethodId) (x0 : Addr) (x1 : Int32) : entryFrame m #[(.ref x0), (.int x1)] 2 = mkF m 0 #[.val (.ref x0), .val (.int x1)] [] := by first | (simp [entryFrame, mkF, argsToLocals, Value.category]; done) | rfl
def Qcpa2 (Z : State) (b : Addr) (ff : Nat → Value) (mr : Addr) (x1 : Addr) (h0 : Heap) (n0 : Nat) (v : Option Value) (h : Heap) (L : List Loc) : Prop := ∃ tr, v = some (.ref tr) ∧ Fr n0 L ∧ Keep h0 h [] ∧ h0.size ≤ tr ∧ own_Rr Z h tr "java/lang/Object" (2 : Int32) (fun _ => .ref x1)
def Pcpa2 (Z : State) (b : Addr) (ff : Nat → Value) (mr : Addr) (x1 : Addr) (h0 : Heap) (n0 : Nat) (s : State) (oQ : Outcome) (U : State) : Prop := ∃ v L, oQ = .returned v ∧ Qcpa2 Z b ff mr x1 h0 n0 v U.heap L ∧ FrameEnd s oQ U L ({ frames := 2, cells := 1, slots := 2, locals := 75 } : Room).cells ({ frames := 2, cells := 1, slots := 2, locals := 75 } : Room).slots
set_option maxRecDepth 65536 in
set_option maxHeartbeats 40000000 in
theorem rmcpa2 (l : Launch) (Z : State) (a0 : Array Value) (hw : ∀ d ∈ tables_1, d.before a0 Z = true) (ws : List Jvm.Cond) (b : Addr) (ff : Nat → Value) (mr : Addr) (x1 : Addr) (h0 : Heap) (n0 : Nat) (Z0 : n0 ≤ h0.size) (E_b : Exa Z h0 b "[Ljava/lang/Object;") (V_b : own_Rr Z h0 b "java/lang/Object" (10 : Int32) (ff)) (M_r : Mir Z "[Ljava/lang/Object;" mr) (E_x1 : Exa Z h0 x1 "com/example/grant3/grant3/Explanation$Reason") (hff : ∀ j, fits (.object "java/lang/Object") (ff j) = true) (hf : ∀ j, j < 2 → ff j = .ref x1) :
    MetFree l (⟨"java/util/Arrays", "copyOf", "([Ljava/lang/Object;I)[Ljava/lang/Object;"⟩ : MethodName) (head1 (Jvm.Cond.code (⟨"java/util/Arrays", "copyOf", "([Ljava/lang/Object;I)[Ljava/lang/Object;"⟩ : MethodName) jdk_65_method_119_code 2 (some (.array (.object "java/lang/Object"))) :: ws) ({ frames := 2, cells := 1, slots := 2, locals := 75 } : Room)) (fun aQ U => aQ = #[(.ref b), (.int (2 : Int32))] ∧ Z.Warmed39 U.vm ∧ U.heap = h0) (fun _ _ _ _ _ => True) (fun _ U oQ U' => ∃ v L, oQ = .returned v ∧ Qcpa2 Z b ff mr x1 h0 n0 v U'.heap L ∧ FrameEnd U oQ U' L ({ frames := 2, cells := 1, slots := 2, locals := 75 } : Room).cells ({ frames := 2, cells := 1, slots := 2, locals := 75 } : Room).slots) := by
  refine MetFree.of_bodySF (plainFor_of_name pn_13) hisR ?_
  intro p e s m args below meth c s₁ Bd hml0 hP hK
  obtain ⟨rfl, hZ, hh⟩ := hP
  have hx := Bd.exec
  have hby := Bd.bytes
  have hml : c.maxLocals = 2 := hml0
  have hown : s.vm.findClass "java/util/Arrays" = some m.cls := findClass_of_methodNamed Bd.named
  have hnm := (name_of_methodNamed Bd.named Bd.method).1
  have X0 : Stand p l e ({ frames := 2, cells := 1, slots := 2, locals := 75 } : Room) s m #[(.ref b), (.int (2 : Int32))] below meth c s₁ [] 0 0 := Stand.of_body Bd
  have e0 : s₁.heap = h0 := by rw [← hh, Bd.state]; rfl
  have Nf := Fr.nil n0
  have Zs : n0 ≤ h0.size := Z0
  have Kp : Keep h0 h0 [] := Keep.refl _ _
  have szr : h0.size ≤ h0.size := Nat.le_refl _
  show own_End p e below (Pcpa2 Z b ff mr x1 h0 n0 s) (s₁.setTop (entryFrame m #[(.ref b), (.int (2 : Int32))] 2))
  rw [ef_cpa2]
  refine own_go (fun tQ kQ => XS.aloadN X0.here hx rfl (hb hby dcpa2_0) rfl rfl kQ) ?_
  show own_End p e below _ (s₁.setTop (mkF m 1 #[.val (.ref b), .val (.int (2 : Int32))] [(.ref b)]))
  refine own_go (fun tQ kQ => XS.iloadN X0.here hx rfl (hb hby dcpa2_1) rfl kQ) ?_
  show own_End p e below _ (s₁.setTop (mkF m 2 #[.val (.ref b), .val (.int (2 : Int32))] [(.int (2 : Int32)), (.ref b)]))
  refine own_go (fun tQ kQ => XS.aloadN X0.here hx rfl (hb hby dcpa2_2) rfl rfl kQ) ?_
  show own_End p e below _ (s₁.setTop (mkF m 3 #[.val (.ref b), .val (.int (2 : Int32))] [(.ref b), (.int (2 : Int32)), (.ref b)]))
  obtain ⟨T1, X1, e1, st1⟩ := gcls X0 hx hZ hown (hw _ (List.mem_of_getElem? (i := 246) rfl)) (hw _ (List.mem_of_getElem? (i := 247) rfl)) (hw _ (List.mem_of_getElem? (i := 153) rfl)) (hw _ (List.mem_of_getElem? (i := 249) rfl)) (hw _ (List.mem_of_getElem? (i := 248) rfl)) (hw _ (List.mem_of_getElem? (i := 250) rfl)) e0 E_b M_r (g := (mkF m 3 #[.val (.ref b), .val (.int (2 : Int32))] [(.ref b), (.int (2 : Int32)), (.ref b)])) rfl (by rw [hml]; rfl) rfl (hb hby dcpa2_3) (by decide) (W := 2) (by show 2 * 0 + _ ≤ _; exact Nat.le_of_eq rfl) (by decide)
  refine own_go (fun tQ kQ => st1 tQ kQ) ?_
  show own_End p e below _ (T1.setTop (mkF m 6 #[.val (.ref b), .val (.int (2 : Int32))] [(.ref mr), (.int (2 : Int32)), (.ref b)]))
  obtain ⟨_, _, ⟨T2, L2, k2, n2⟩, -, X2, ⟨Lc2, hQ2, l2, y2, z2⟩, st2⟩ := Jvm.LawKit.callS X1 hx (y := (⟨"java/util/Arrays", "copyOf", "([Ljava/lang/Object;ILjava/lang/Class;)[Ljava/lang/Object;"⟩ : MethodName)) hown (mvT hZ (hw _ (List.mem_of_getElem? (i := 252) rfl))) (mvT hZ (hw _ (List.mem_of_getElem? (i := 253) rfl))) (mvT hZ (hw _ (List.mem_of_getElem? (i := 244) rfl))) (mvT hZ (hw _ (List.mem_of_getElem? (i := 254) rfl))) (by decide) (backOf (W := 0) (rmcpc2 l Z a0 hw [] b ff mr x1 h0 n0 Zs E_b V_b M_r E_x1 hff hf) hZ (hw _ (List.mem_of_getElem? (i := 254) rfl)) (hw _ (List.mem_of_getElem? (i := 244) rfl)) (by decide) (by decide)) (g := (mkF m 6 #[.val (.ref b), .val (.int (2 : Int32))] [(.ref mr), (.int (2 : Int32)), (.ref b)])) rfl (by rw [hml]; rfl) (argsL := [(.ref b), (.int (2 : Int32)), (.ref mr)]) (rest := []) (lenOf pd_14 rfl) rfl (by show 2 * 0 + _ ≤ _; exact Nat.le_of_eq rfl) (hb hby dcpa2_6) (fun _ _ => ⟨rfl, e1, (Nat.le_of_ble_eq_true rfl), (Nat.le_of_ble_eq_true rfl)⟩)
  dsimp only [Pt.U, Pt.locs, Pt.cells, Pt.slots] at X2 l2 y2 z2 st2 hQ2
  rw [l2, y2, z2] at X2
  obtain ⟨tr, rfl, N2q, K2, hb2, V_tr⟩ := hQ2
  have Nf := Fr.app Nf N2q
  have ne_b_tr : b ≠ tr := Nat.ne_of_lt (Nat.lt_of_lt_of_le E_b.lt hb2)
  have ne_x1_tr : x1 ≠ tr := Nat.ne_of_lt (Nat.lt_of_lt_of_le E_x1.lt hb2)
  have g_tr : n0 ≤ tr := Nat.le_trans Zs hb2
  have sz_tr : h0.size ≤ tr := Nat.le_trans szr hb2
  have E_b := E_b.keep K2
  have V_b := V_b.keep K2 nin0
  have E_x1 := E_x1.keep K2
  have Kp := Kp.trans K2 all0
  have Zs := Nat.le_trans Zs K2.1
  have szr := Nat.le_trans szr K2.1
  have X2 := own_pad (k' := 1) (n' := 2) X2 (by decide) (by decide)
  refine own_go (fun tQ kQ => st2 tQ kQ) ?_
  show own_End p e below _ (T2.setTop (mkF m 9 #[.val (.ref b), .val (.int (2 : Int32))] [(.ref tr)]))
  obtain ⟨fs, hr, hrun, hended, hW, hsame⟩ := X2.leave (v := some (.ref tr)) (fun h => by rw [Bd.returns] at h; cases h)
  refine ⟨_, _, ?_, hrun, hended, _, _, rfl, ?_, ⟨_, rfl⟩, hW, hsame.mono (by decide) (by decide)⟩
  · exact (by
      jvm_step X2.here [X2.here.top, hx, (hb hby dcpa2_9), X2.method', Bd.returns, Value.isRef, FieldType.isReference, narrow]
      first | (intro acts; rw [hr _ acts rfl rfl rfl]) | rw [hr _ _ rfl rfl rfl]
      exact Steps.refl _)
  · show Qcpa2 Z b ff mr x1 h0 n0 _ T2.heap _
    exact ⟨tr, rfl, Nf, Kp, sz_tr, V_tr⟩
theorem dta2_0 : decode jdk_38_method_16_code 0 = .ok (.aload_n 0, 1) := by decide +kernel
theorem dta2_1 : decode jdk_38_method_16_code 1 = .ok (.getfield 9, 3) := by decide +kernel
theorem dta2_4 : decode jdk_38_method_16_code 4 = .ok (.aload_n 0, 1) := by decide +kernel
theorem dta2_5 : decode jdk_38_method_16_code 5 = .ok (.getfield 48, 3) := by decide +kernel
theorem dta2_8 : decode jdk_38_method_16_code 8 = .ok (.invokestatic 66, 3) := by decide +kernel
theorem dta2_11 : decode jdk_38_method_16_code 11 = .ok (.areturn, 1) := by decide +kernel
theorem ef_ta2 (m : MethodId) (x0 : Addr) : entryFrame m #[(.ref x0)] 1 = mkF m 0 #[.val (.ref x0)] [] := by first | (simp [entryFrame, mkF, argsToLocals, Value.category]; done) | rfl
def Qta2 (Z : State) (a : Addr) (mc : Int32) (b : Addr) (ff : Nat → Value) (mr : Addr) (x1 : Addr) (h0 : Heap) (n0 : Nat) (v : Option Value) (h : Heap) (L : List Loc) : Prop := ∃ tr, v = some (.ref tr) ∧ Fr n0 L ∧ Keep h0 h [] ∧ h0.size ≤ tr ∧ own_Rr Z h tr "java/lang/Object" (2 : Int32) (fun _ => .ref x1)
def Pta2 (Z : State) (a : Addr) (mc : Int32) (b : Addr) (ff : Nat → Value) (mr : Addr) (x1 : Addr) (h0 : Heap) (n0 : Nat) (s : State) (oQ : Outcome) (U : State) : Prop := ∃ v L, oQ = .returned v ∧ Qta2 Z a mc b ff mr x1 h0 n0 v U.heap L ∧ FrameEnd s oQ U L ({ frames := 3, cells := 1, slots := 2, locals := 88 } : Room).cells ({ frames := 3, cells := 1, slots := 2, locals := 88 } : Room).slots
set_option maxRecDepth 65536 in
set_option maxHeartbeats 40000000 in
theorem rmta2 (l : Launch) (Z : State) (a0 : Array Value) (hw : ∀ d ∈ tables_1, d.before a0 Z = true) (ws : List Jvm.Cond) (a : Addr) (mc : Int32) (b : Addr) (ff : Nat → Value) (mr : Addr) (x1 : Addr) (h0 : Heap) (n0 : Nat) (Z0 : n0 ≤ h0.size) (E_a : Exa Z h0 a "java/util/ArrayList") (F_modCount_a : Fld Z h0 a "java/util/AbstractList" "modCount" "I" (.int mc)) (F_elementData_a : Fld Z h0 a "java/util/ArrayList" "elementData" "[Ljava/lang/Object;" (.ref b)) (F_size_a : Fld Z h0 a "java/util/ArrayList" "size" "I" (.int (2 : Int32))) (E_b : Exa Z h0 b "[Ljava/lang/Object;") (V_b : own_Rr Z h0 b "java/lang/Object" (10 : Int32) (ff)) (M_r : Mir Z "[Ljava/lang/Object;" mr) (E_x1 : Exa Z h0 x1 "com/example/grant3/grant3/Explanation$Reason") (hff : ∀ j, fits (.object "java/lang/Object") (ff j) = true) (hf : ∀ j, j < 2 → ff j = .ref x1) :
    MetFree l (⟨"java/util/ArrayList", "toArray", "()[Ljava/lang/Object;"⟩ : MethodName) (head1 (Jvm.Cond.code (⟨"java/util/ArrayList", "toArray", "()[Ljava/lang/Object;"⟩ : MethodName) jdk_38_method_16_code 1 (some (.array (.object "java/lang/Object"))) :: ws) ({ frames := 3, cells := 1, slots := 2, locals := 88 } : Room)) (fun aQ U => aQ = #[(.ref a)] ∧ Z.Warmed39 U.vm ∧ U.heap = h0) (fun _ _ _ _ _ => True) (fun _ U oQ U' => ∃ v L, oQ = .returned v ∧ Qta2 Z a mc b ff mr x1 h0 n0 v U'.heap L ∧ FrameEnd U oQ U' L ({ frames := 3, cells := 1, slots := 2, locals := 88 } : Room).cells ({ frames := 3, cells := 1, slots := 2, locals := 88 } : Room).slots) := by
  refine MetFree.of_bodySF (plainFor_of_name pn_6) hisR ?_
  intro p e s m args below meth c s₁ Bd hml0 hP hK
  obtain ⟨rfl, hZ, hh⟩ := hP
  have hx := Bd.exec
  have hby := Bd.bytes
  have hml : c.maxLocals = 1 := hml0
  have hown : s.vm.findClass "java/util/ArrayList" = some m.cls := findClass_of_methodNamed Bd.named
  have hnm := (name_of_methodNamed Bd.named Bd.method).1
  have X0 : Stand p l e ({ frames := 3, cells := 1, slots := 2, locals := 88 } : Room) s m #[(.ref a)] below meth c s₁ [] 0 0 := Stand.of_body Bd
  have e0 : s₁.heap = h0 := by rw [← hh, Bd.state]; rfl
  have Nf := Fr.nil n0
  have Zs : n0 ≤ h0.size := Z0
  have Kp : Keep h0 h0 [] := Keep.refl _ _
  have szr : h0.size ≤ h0.size := Nat.le_refl _
  show own_End p e below (Pta2 Z a mc b ff mr x1 h0 n0 s) (s₁.setTop (entryFrame m #[(.ref a)] 1))
  rw [ef_ta2]
  refine own_go (fun tQ kQ => XS.aloadN X0.here hx rfl (hb hby dta2_0) rfl rfl kQ) ?_
  show own_End p e below _ (s₁.setTop (mkF m 1 #[.val (.ref a)] [(.ref a)]))
  obtain ⟨T1, X1, e1, st1⟩ := getF X0 hx hZ hown (host := "") (Or.inl (hw _ (List.mem_of_getElem? (i := 127) rfl))) Via.refl e0 F_elementData_a (g := (mkF m 1 #[.val (.ref a)] [(.ref a)])) rfl rfl (hb hby dta2_1)
  refine own_go (fun tQ kQ => st1 tQ kQ) ?_
  show own_End p e below _ (T1.setTop (mkF m 4 #[.val (.ref a)] [(.ref b)]))
  refine own_go (fun tQ kQ => XS.aloadN X1.here hx rfl (hb hby dta2_4) rfl rfl kQ) ?_
  show own_End p e below _ (T1.setTop (mkF m 5 #[.val (.ref a)] [(.ref a), (.ref b)]))
  obtain ⟨T2, X2, e2, st2⟩ := getF X1 hx hZ hown (host := "") (Or.inl (hw _ (List.mem_of_getElem? (i := 164) rfl))) Via.refl e1 F_size_a (g := (mkF m 5 #[.val (.ref a)] [(.ref a), (.ref b)])) rfl rfl (hb hby dta2_5)
  refine own_go (fun tQ kQ => st2 tQ kQ) ?_
  show own_End p e below _ (T2.setTop (mkF m 8 #[.val (.ref a)] [(.int (2 : Int32)), (.ref b)]))
  obtain ⟨_, _, ⟨T3, L3, k3, n3⟩, -, X3, ⟨Lc3, hQ3, l3, y3, z3⟩, st3⟩ := Jvm.LawKit.callS X2 hx (y := (⟨"java/util/Arrays", "copyOf", "([Ljava/lang/Object;I)[Ljava/lang/Object;"⟩ : MethodName)) hown (mvT hZ (hw _ (List.mem_of_getElem? (i := 242) rfl))) (mvT hZ (hw _ (List.mem_of_getElem? (i := 243) rfl))) (mvT hZ (hw _ (List.mem_of_getElem? (i := 244) rfl))) (mvT hZ (hw _ (List.mem_of_getElem? (i := 245) rfl))) (by decide) (backOf (W := 0) (rmcpa2 l Z a0 hw [] b ff mr x1 h0 n0 Zs E_b V_b M_r E_x1 hff hf) hZ (hw _ (List.mem_of_getElem? (i := 245) rfl)) (hw _ (List.mem_of_getElem? (i := 244) rfl)) (by decide) (by decide)) (g := (mkF m 8 #[.val (.ref a)] [(.int (2 : Int32)), (.ref b)])) rfl (by rw [hml]; rfl) (argsL := [(.ref b), (.int (2 : Int32))]) (rest := []) (lenOf pd_15 rfl) rfl (by show 2 * 0 + _ ≤ _; exact Nat.le_of_eq rfl) (hb hby dta2_8) (fun _ _ => ⟨rfl, e2, (Nat.le_of_ble_eq_true rfl), (Nat.le_of_ble_eq_true rfl)⟩)
  dsimp only [Pt.U, Pt.locs, Pt.cells, Pt.slots] at X3 l3 y3 z3 st3 hQ3
  rw [l3, y3, z3] at X3
  obtain ⟨tr, rfl, N3q, K3, hb3, V_tr⟩ := hQ3
  have Nf := Fr.app Nf N3q
  have ne_b_tr : b ≠ tr := Nat.ne_of_lt (Nat.lt_of_lt_of_le E_b.lt hb3)
  have ne_x1_tr : x1 ≠ tr := Nat.ne_of_lt (Nat.lt_of_lt_of_le E_x1.lt hb3)
  have ne_a_tr : a ≠ tr := Nat.ne_of_lt (Nat.lt_of_lt_of_le E_a.lt hb3)
  have g_tr : n0 ≤ tr := Nat.le_trans Zs hb3
  have sz_tr : h0.size ≤ tr := Nat.le_trans szr hb3
  have E_b := E_b.keep K3
  have V_b := V_b.keep K3 nin0
  have E_x1 := E_x1.keep K3
  have E_a := E_a.keep K3
  have F_modCount_a := F_modCount_a.keep K3 nin0
  have F_elementData_a := F_elementData_a.keep K3 nin0
  have F_size_a := F_size_a.keep K3 nin0
  have Kp := Kp.trans K3 all0
  have Zs := Nat.le_trans Zs K3.1
  have szr := Nat.le_trans szr K3.1
  have X3 := own_pad (k' := 1) (n' := 2) X3 (by decide) (by decide)
  refine own_go (fun tQ kQ => st3 tQ kQ) ?_
  show own_End p e below _ (T3.setTop (mkF m 11 #[.val (.ref a)] [(.ref tr)]))
  obtain ⟨fs, hr, hrun, hended, hW, hsame⟩ := X3.leave (v := some (.ref tr)) (fun h => by rw [Bd.returns] at h; cases h)
  refine ⟨_, _, ?_, hrun, hended, _, _, rfl, ?_, ⟨_, rfl⟩, hW, hsame.mono (by decide) (by decide)⟩
  · exact (by
      jvm_step X3.here [X3.here.top, hx, (hb hby dta2_11), X3.method', Bd.returns, Value.isRef, FieldType.isReference, narrow]
      first | (intro acts; rw [hr _ acts rfl rfl rfl]) | rw [hr _ _ rfl rfl rfl]
      exact Steps.refl _)
  · show Qta2 Z a mc b ff mr x1 h0 n0 _ T3.heap _
    exact ⟨tr, rfl, Nf, Kp, sz_tr, V_tr⟩
theorem dl12_2_0 : decode jdk_44_method_2_code 0 = .ok (.aload_n 0, 1) := by decide +kernel
theorem dl12_2_1 : decode jdk_44_method_2_code 1 = .ok (.invokespecial 1, 3) := by decide +kernel
theorem dl12_2_4 : decode jdk_44_method_2_code 4 = .ok (.aload_n 0, 1) := by decide +kernel
theorem dl12_2_5 : decode jdk_44_method_2_code 5 = .ok (.aload_n 1, 1) := by decide +kernel
theorem dl12_2_6 : decode jdk_44_method_2_code 6 = .ok (.invokestatic 7, 3) := by decide +kernel
theorem dl12_2_9 : decode jdk_44_method_2_code 9 = .ok (.putfield 13, 3) := by decide +kernel
theorem dl12_2_12 : decode jdk_44_method_2_code 12 = .ok (.aload_n 0, 1) := by decide +kernel
theorem dl12_2_13 : decode jdk_44_method_2_code 13 = .ok (.aload_n 2, 1) := by decide +kernel
theorem dl12_2_14 : decode jdk_44_method_2_code 14 = .ok (.invokestatic 7, 3) := by decide +kernel
theorem dl12_2_17 : decode jdk_44_method_2_code 17 = .ok (.putfield 24, 3) := by decide +kernel
theorem dl12_2_20 : decode jdk_44_method_2_code 20 = .ok (.return_, 1) := by decide +kernel
theorem ef_l12_2 (m : MethodId) (x0 : Addr) (x1 : Addr) (x2 : Addr) : entryFrame m #[(.ref x0), (.ref x1), (.ref x2)] 3 = mkF m 0 #[.val (.ref x0), .val (.ref x1), .val (.ref x2)] [] := by first | (simp [entryFrame, mkF, argsToLocals, Value.category]; done) | rfl
def Ql12_2 (Z : State) (a : Addr) (x1 : Addr) (em : Addr) (h0 : Heap) (n0 : Nat) (v : Option Value) (h : Heap) (L : List Loc) : Prop := v = none ∧ Fr n0 L ∧ Keep h0 h [a]
def Pl12_2 (Z : State) (a : Addr) (x1 : Addr) (em : Addr) (h0 : Heap) (n0 : Nat) (s : State) (oQ : Outcome) (U : State) : Prop := ∃ v L, oQ = .returned v ∧ Ql12_2 Z a x1 em h0 n0 v U.heap L ∧ FrameEnd s oQ U L ({ frames := 4, cells := 0, slots := 0, locals := 48 } : Room).cells ({ frames := 4, cells := 0, slots := 0, locals := 48 } : Room).slots
set_option maxRecDepth 65536 in
set_option maxHeartbeats 40000000 in
theorem rml12_2 (l : Launch) (Z : State) (a0 : Array Value) (hw : ∀ d ∈ tables_1, d.before a0 Z = true) (ws : List Jvm.Cond) (a : Addr) (x1 : Addr) (em : Addr) (h0 : Heap) (n0 : Nat) (Z0 : n0 ≤ h0.size) (E_a : Exa Z h0 a "java/util/ImmutableCollections$List12") (F_e0_a : Fld Z h0 a "java/util/ImmutableCollections$List12" "e0" "Ljava/lang/Object;" .null) (F_e1_a : Fld Z h0 a "java/util/ImmutableCollections$List12" "e1" "Ljava/lang/Object;" .null) (g_a : n0 ≤ a) (Ol : Old Z n0 h0) (S_em : Sta Z Z.heap "java/util/ImmutableCollections" "EMPTY" "Ljava/lang/Object;" (.ref em)) :
    MetFree l (⟨"java/util/ImmutableCollections$List12", "<init>", "(Ljava/lang/Object;Ljava/lang/Object;)V"⟩ : MethodName) (head1 (Jvm.Cond.code (⟨"java/util/ImmutableCollections$List12", "<init>", "(Ljava/lang/Object;Ljava/lang/Object;)V"⟩ : MethodName) jdk_44_method_2_code 3 none :: ws) ({ frames := 4, cells := 0, slots := 0, locals := 48 } : Room)) (fun aQ U => aQ = #[(.ref a), (.ref x1), (.ref x1)] ∧ Z.Warmed39 U.vm ∧ U.heap = h0) (fun _ _ _ _ _ => True) (fun _ U oQ U' => ∃ v L, oQ = .returned v ∧ Ql12_2 Z a x1 em h0 n0 v U'.heap L ∧ FrameEnd U oQ U' L ({ frames := 4, cells := 0, slots := 0, locals := 48 } : Room).cells ({ frames := 4, cells := 0, slots := 0, locals := 48 } : Room).slots) := by
  refine MetFree.of_bodySF (plainFor_of_name pn_17) hisR ?_
  intro p e s m args below meth c s₁ Bd hml0 hP hK
  obtain ⟨rfl, hZ, hh⟩ := hP
  have hx := Bd.exec
  have hby := Bd.bytes
  have hml : c.maxLocals = 3 := hml0
  have hown : s.vm.findClass "java/util/ImmutableCollections$List12" = some m.cls := findClass_of_methodNamed Bd.named
  have hnm := (name_of_methodNamed Bd.named Bd.method).1
  have X0 : Stand p l e ({ frames := 4, cells := 0, slots := 0, locals := 48 } : Room) s m #[(.ref a), (.ref x1), (.ref x1)] below meth c s₁ [] 0 0 := Stand.of_body Bd
  have e0 : s₁.heap = h0 := by rw [← hh, Bd.state]; rfl
  have Nf := Fr.nil n0
  have Zs : n0 ≤ h0.size := Z0
  have Kp : Keep h0 h0 [a] := Keep.refl _ _
  have szr : h0.size ≤ h0.size := Nat.le_refl _
  show own_End p e below (Pl12_2 Z a x1 em h0 n0 s) (s₁.setTop (entryFrame m #[(.ref a), (.ref x1), (.ref x1)] 3))
  rw [ef_l12_2]
  refine own_go (fun tQ kQ => XS.aloadN X0.here hx rfl (hb hby dl12_2_0) rfl rfl kQ) ?_
  show own_End p e below _ (s₁.setTop (mkF m 1 #[.val (.ref a), .val (.ref x1), .val (.ref x1)] [(.ref a)]))
  obtain ⟨_, _, ⟨T1, L1, k1, n1⟩, -, X1, ⟨Lc1, hQ1, l1, y1, z1⟩, st1⟩ := X0.specialBack hx (y := (⟨"java/util/ImmutableCollections$AbstractImmutableList", "<init>", "()V"⟩ : MethodName)) rfl hown (mvT hZ (hw _ (List.mem_of_getElem? (i := 274) rfl))) (mvT hZ (hw _ (List.mem_of_getElem? (i := 275) rfl))) (mvT hZ (hw _ (List.mem_of_getElem? (i := 279) rfl))) (by decide) (backOf (W := 0) (rmIL l Z a0 hw [] a h0 n0 Zs ) hZ (hw _ (List.mem_of_getElem? (i := 279) rfl)) (hw _ (List.mem_of_getElem? (i := 278) rfl)) (by decide) (by decide)) (g := (mkF m 1 #[.val (.ref a), .val (.ref x1), .val (.ref x1)] [(.ref a)])) rfl (by rw [hml]; rfl) (Steps.refl _) (a := a) (argsL := []) (rest := []) (lenOf pd_2 rfl) rfl (by show 2 * 0 + _ ≤ _; exact Nat.le_of_eq rfl) (hb hby dl12_2_1) (fun _ _ => ⟨rfl, e0, (Nat.le_of_ble_eq_true rfl), (Nat.le_of_ble_eq_true rfl)⟩)
  dsimp only [Pt.U, Pt.locs, Pt.cells, Pt.slots] at X1 l1 y1 z1 st1 hQ1
  rw [l1, y1, z1] at X1
  obtain ⟨rfl, N1q, e1⟩ := hQ1
  have Nf := Fr.app Nf N1q
  have X1 := own_pad (k' := 0) (n' := 0) X1 (by decide) (by decide)
  refine own_go (fun tQ kQ => st1.trans kQ) ?_
  show own_End p e below _ (T1.setTop (mkF m 4 #[.val (.ref a), .val (.ref x1), .val (.ref x1)] []))
  refine own_go (fun tQ kQ => XS.aloadN X1.here hx rfl (hb hby dl12_2_4) rfl rfl kQ) ?_
  show own_End p e below _ (T1.setTop (mkF m 5 #[.val (.ref a), .val (.ref x1), .val (.ref x1)] [(.ref a)]))
  refine own_go (fun tQ kQ => XS.aloadN X1.here hx rfl (hb hby dl12_2_5) rfl rfl kQ) ?_
  show own_End p e below _ (T1.setTop (mkF m 6 #[.val (.ref a), .val (.ref x1), .val (.ref x1)] [(.ref x1), (.ref a)]))
  obtain ⟨_, _, ⟨T2, L2, k2, n2⟩, -, X2, ⟨Lc2, hQ2, l2, y2, z2⟩, st2⟩ := Jvm.LawKit.callS X1 hx (y := (⟨"java/util/Objects", "requireNonNull", "(Ljava/lang/Object;)Ljava/lang/Object;"⟩ : MethodName)) hown (mvT hZ (hw _ (List.mem_of_getElem? (i := 288) rfl))) (mvT hZ (hw _ (List.mem_of_getElem? (i := 289) rfl))) (mvT hZ (hw _ (List.mem_of_getElem? (i := 16) rfl))) (mvT hZ (hw _ (List.mem_of_getElem? (i := 290) rfl))) (by decide) (backOf (W := 1) (rmrn1 l Z a0 hw [] x1 h0 n0 Zs ) hZ (hw _ (List.mem_of_getElem? (i := 290) rfl)) (hw _ (List.mem_of_getElem? (i := 16) rfl)) (by decide) (by decide)) (g := (mkF m 6 #[.val (.ref a), .val (.ref x1), .val (.ref x1)] [(.ref x1), (.ref a)])) rfl (by rw [hml]; rfl) (argsL := [(.ref x1)]) (rest := [(.ref a)]) (lenOf pd_16 rfl) rfl (by show 2 * 0 + _ ≤ _; exact Nat.le_of_eq rfl) (hb hby dl12_2_6) (fun _ _ => ⟨rfl, e1, (Nat.le_of_ble_eq_true rfl), (Nat.le_of_ble_eq_true rfl)⟩)
  dsimp only [Pt.U, Pt.locs, Pt.cells, Pt.slots] at X2 l2 y2 z2 st2 hQ2
  rw [l2, y2, z2] at X2
  obtain ⟨rfl, N2q, e2⟩ := hQ2
  have Nf := Fr.app Nf N2q
  have X2 := own_pad (k' := 0) (n' := 0) X2 (by decide) (by decide)
  refine own_go (fun tQ kQ => st2 tQ kQ) ?_
  show own_End p e below _ (T2.setTop (mkF m 9 #[.val (.ref a), .val (.ref x1), .val (.ref x1)] [(.ref x1), (.ref a)]))
  obtain ⟨T3, h3, X3, e3, W3, st3⟩ := putF X2 hx hZ hown (host := "") (Or.inl (hw _ (List.mem_of_getElem? (i := 291) rfl))) Via.refl e2 F_e0_a E_a (Or.inr ⟨(hw _ (List.mem_of_getElem? (i := 292) rfl)), rfl, hnm⟩) (hw _ (List.mem_of_getElem? (i := 268) rfl)) (ty := (.object "java/lang/Object")) (by decide) rfl rfl (g := (mkF m 9 #[.val (.ref a), .val (.ref x1), .val (.ref x1)] [(.ref x1), (.ref a)])) rfl rfl (hb hby dl12_2_9)
  have F_e0_a := F_e0_a.same W3
  have E_a := E_a.wr W3
  have F_e1_a := F_e1_a.other W3 (Or.inr (slot_ne (Or.inr (hw _ (List.mem_of_getElem? (i := 294) rfl))) (Or.inr (hw _ (List.mem_of_getElem? (i := 292) rfl))) (by decide) (t := (.object "java/lang/Object")) (t' := (.object "java/lang/Object")) (by decide) (by decide)))
  have Ol := Ol.wr W3 g_a
  have Kp := Kp.wr W3 (Or.inl (List.mem_of_getElem? (i := 0) rfl))
  have Nf := Fr.snoc X3 Nf g_a
  have Zs := Nat.le_trans Zs (Keep.of_wr W3).1
  have szr := Nat.le_trans szr (Keep.of_wr W3).1
  refine own_go (fun tQ kQ => st3 tQ kQ) ?_
  show own_End p e below _ (T3.setTop (mkF m 12 #[.val (.ref a), .val (.ref x1), .val (.ref x1)] []))
  refine own_go (fun tQ kQ => XS.aloadN X3.here hx rfl (hb hby dl12_2_12) rfl rfl kQ) ?_
  show own_End p e below _ (T3.setTop (mkF m 13 #[.val (.ref a), .val (.ref x1), .val (.ref x1)] [(.ref a)]))
  refine own_go (fun tQ kQ => XS.aloadN X3.here hx rfl (hb hby dl12_2_13) rfl rfl kQ) ?_
  show own_End p e below _ (T3.setTop (mkF m 14 #[.val (.ref a), .val (.ref x1), .val (.ref x1)] [(.ref x1), (.ref a)]))
  obtain ⟨_, _, ⟨T4, L4, k4, n4⟩, -, X4, ⟨Lc4, hQ4, l4, y4, z4⟩, st4⟩ := Jvm.LawKit.callS X3 hx (y := (⟨"java/util/Objects", "requireNonNull", "(Ljava/lang/Object;)Ljava/lang/Object;"⟩ : MethodName)) hown (mvT hZ (hw _ (List.mem_of_getElem? (i := 288) rfl))) (mvT hZ (hw _ (List.mem_of_getElem? (i := 289) rfl))) (mvT hZ (hw _ (List.mem_of_getElem? (i := 16) rfl))) (mvT hZ (hw _ (List.mem_of_getElem? (i := 290) rfl))) (by decide) (backOf (W := 1) (rmrn1 l Z a0 hw [] x1 h3 n0 Zs ) hZ (hw _ (List.mem_of_getElem? (i := 290) rfl)) (hw _ (List.mem_of_getElem? (i := 16) rfl)) (by decide) (by decide)) (g := (mkF m 14 #[.val (.ref a), .val (.ref x1), .val (.ref x1)] [(.ref x1), (.ref a)])) rfl (by rw [hml]; rfl) (argsL := [(.ref x1)]) (rest := [(.ref a)]) (lenOf pd_16 rfl) rfl (by show 2 * 0 + _ ≤ _; exact Nat.le_of_eq rfl) (hb hby dl12_2_14) (fun _ _ => ⟨rfl, e3, (Nat.le_of_ble_eq_true rfl), (Nat.le_of_ble_eq_true rfl)⟩)
  dsimp only [Pt.U, Pt.locs, Pt.cells, Pt.slots] at X4 l4 y4 z4 st4 hQ4
  rw [l4, y4, z4] at X4
  obtain ⟨rfl, N4q, e4⟩ := hQ4
  have Nf := Fr.app Nf N4q
  have X4 := own_pad (k' := 0) (n' := 0) X4 (by decide) (by decide)
  refine own_go (fun tQ kQ => st4 tQ kQ) ?_
  show own_End p e below _ (T4.setTop (mkF m 17 #[.val (.ref a), .val (.ref x1), .val (.ref x1)] [(.ref x1), (.ref a)]))
  obtain ⟨T5, h5, X5, e5, W5, st5⟩ := putF X4 hx hZ hown (host := "") (Or.inl (hw _ (List.mem_of_getElem? (i := 293) rfl))) Via.refl e4 F_e1_a E_a (Or.inr ⟨(hw _ (List.mem_of_getElem? (i := 294) rfl)), rfl, hnm⟩) (hw _ (List.mem_of_getElem? (i := 268) rfl)) (ty := (.object "java/lang/Object")) (by decide) rfl rfl (g := (mkF m 17 #[.val (.ref a), .val (.ref x1), .val (.ref x1)] [(.ref x1), (.ref a)])) rfl rfl (hb hby dl12_2_17)
  have F_e1_a := F_e1_a.same W5
  have E_a := E_a.wr W5
  have F_e0_a := F_e0_a.other W5 (Or.inr (slot_ne (Or.inr (hw _ (List.mem_of_getElem? (i := 292) rfl))) (Or.inr (hw _ (List.mem_of_getElem? (i := 294) rfl))) (by decide) (t := (.object "java/lang/Object")) (t' := (.object "java/lang/Object")) (by decide) (by decide)))
  have Ol := Ol.wr W5 g_a
  have Kp := Kp.wr W5 (Or.inl (List.mem_of_getElem? (i := 0) rfl))
  have Nf := Fr.snoc X5 Nf g_a
  have Zs := Nat.le_trans Zs (Keep.of_wr W5).1
  have szr := Nat.le_trans szr (Keep.of_wr W5).1
  refine own_go (fun tQ kQ => st5 tQ kQ) ?_
  show own_End p e below _ (T5.setTop (mkF m 20 #[.val (.ref a), .val (.ref x1), .val (.ref x1)] []))
  obtain ⟨fs, hr, hrun, hended, hW, hsame⟩ := X5.leave (v := none) (fun _ => rfl)
  refine ⟨_, _, X5.returnOut hx Bd.returns (hb hby dl12_2_20) hr, hrun, hended, _, _, rfl, ?_, ⟨_, rfl⟩, hW, hsame.mono (by decide) (by decide)⟩
  show Ql12_2 Z a x1 em h0 n0 _ T5.heap _
  rw [e5]
  exact ⟨rfl, Nf, Kp⟩
theorem pd_19 : parseMethodDescriptor "(Ljava/lang/Object;Ljava/lang/Object;)V" = some ⟨[(.object "java/lang/Object"), (.object "java/lang/Object")], none⟩ := by decide +kernel
theorem dlo2_0 : decode jdk_40_method_47_code 0 = .ok (.aload_n 0, 1) := by decide +kernel
theorem dlo2_1 : decode jdk_40_method_47_code 1 = .ok (.arraylength, 1) := by decide +kernel
theorem dlo2_2 : decode jdk_40_method_47_code 2 = .ok (.tableswitch 57 0 2 #[26, 32, 43], 26) := by decide +kernel
theorem dlo2_45 : decode jdk_40_method_47_code 45 = .ok (.new 96, 3) := by decide +kernel
theorem dlo2_48 : decode jdk_40_method_47_code 48 = .ok (.dup, 1) := by decide +kernel
theorem dlo2_49 : decode jdk_40_method_47_code 49 = .ok (.aload_n 0, 1) := by decide +kernel
theorem dlo2_50 : decode jdk_40_method_47_code 50 = .ok (.iconst 0, 1) := by decide +kernel
theorem dlo2_51 : decode jdk_40_method_47_code 51 = .ok (.aaload, 1) := by decide +kernel
theorem dlo2_52 : decode jdk_40_method_47_code 52 = .ok (.aload_n 0, 1) := by decide +kernel
theorem dlo2_53 : decode jdk_40_method_47_code 53 = .ok (.iconst 1, 1) := by decide +kernel
theorem dlo2_54 : decode jdk_40_method_47_code 54 = .ok (.aaload, 1) := by decide +kernel
theorem dlo2_55 : decode jdk_40_method_47_code 55 = .ok (.invokespecial 100, 3) := by decide +kernel
theorem dlo2_58 : decode jdk_40_method_47_code 58 = .ok (.areturn, 1) := by decide +kernel
theorem ef_lo2 (m : MethodId) (x0 : Addr) : entryFrame m #[(.ref x0)] 2 = mkF m 0 #[.val (.ref x0), .unset] [] := by first | (simp [entryFrame, mkF, argsToLocals, Value.category]; done) | rfl
def Qlo2 (Z : State) (tr : Addr) (x1 : Addr) (em : Addr) (h0 : Heap) (n0 : Nat) (v : Option Value) (h : Heap) (L : List Loc) : Prop := ∃ r, v = some (.ref r) ∧ Fr n0 L ∧ Keep h0 h [] ∧ h0.size ≤ r ∧ Exa Z h r "java/util/ImmutableCollections$List12"
def Plo2 (Z : State) (tr : Addr) (x1 : Addr) (em : Addr) (h0 : Heap) (n0 : Nat) (s : State) (oQ : Outcome) (U : State) : Prop := ∃ v L, oQ = .returned v ∧ Qlo2 Z tr x1 em h0 n0 v U.heap L ∧ FrameEnd s oQ U L ({ frames := 5, cells := 1, slots := 2, locals := 63 } : Room).cells ({ frames := 5, cells := 1, slots := 2, locals := 63 } : Room).slots
set_option maxRecDepth 65536 in
set_option maxHeartbeats 40000000 in
theorem rmlo2 (l : Launch) (Z : State) (a0 : Array Value) (hw : ∀ d ∈ tables_1, d.before a0 Z = true) (ws : List Jvm.Cond) (tr : Addr) (x1 : Addr) (em : Addr) (h0 : Heap) (n0 : Nat) (Z0 : n0 ≤ h0.size) (V_tr : own_Rr Z h0 tr "java/lang/Object" (2 : Int32) (fun _ => .ref x1)) (Ol : Old Z n0 h0) (S_em : Sta Z Z.heap "java/util/ImmutableCollections" "EMPTY" "Ljava/lang/Object;" (.ref em)) :
    MetFree l (⟨"java/util/List", "of", "([Ljava/lang/Object;)Ljava/util/List;"⟩ : MethodName) (head1 (Jvm.Cond.code (⟨"java/util/List", "of", "([Ljava/lang/Object;)Ljava/util/List;"⟩ : MethodName) jdk_40_method_47_code 2 (some (.object "java/util/List")) :: ws) ({ frames := 5, cells := 1, slots := 2, locals := 63 } : Room)) (fun aQ U => aQ = #[(.ref tr)] ∧ Z.Warmed39 U.vm ∧ U.heap = h0) (fun _ _ _ _ _ => True) (fun _ U oQ U' => ∃ v L, oQ = .returned v ∧ Qlo2 Z tr x1 em h0 n0 v U'.heap L ∧ FrameEnd U oQ U' L ({ frames := 5, cells := 1, slots := 2, locals := 63 } : Room).cells ({ frames := 5, cells := 1, slots := 2, locals := 63 } : Room).slots) := by
  refine MetFree.of_bodySF (plainFor_of_name pn_11) hisR ?_
  intro p e s m args below meth c s₁ Bd hml0 hP hK
  obtain ⟨rfl, hZ, hh⟩ := hP
  have hx := Bd.exec
  have hby := Bd.bytes
  have hml : c.maxLocals = 2 := hml0
  have hown : s.vm.findClass "java/util/List" = some m.cls := findClass_of_methodNamed Bd.named
  have hnm := (name_of_methodNamed Bd.named Bd.method).1
  have X0 : Stand p l e ({ frames := 5, cells := 1, slots := 2, locals := 63 } : Room) s m #[(.ref tr)] below meth c s₁ [] 0 0 := Stand.of_body Bd
  have e0 : s₁.heap = h0 := by rw [← hh, Bd.state]; rfl
  have Nf := Fr.nil n0
  have Zs : n0 ≤ h0.size := Z0
  have Kp : Keep h0 h0 [] := Keep.refl _ _
  have szr : h0.size ≤ h0.size := Nat.le_refl _
  show own_End p e below (Plo2 Z tr x1 em h0 n0 s) (s₁.setTop (entryFrame m #[(.ref tr)] 2))
  rw [ef_lo2]
  refine own_go (fun tQ kQ => XS.aloadN X0.here hx rfl (hb hby dlo2_0) rfl rfl kQ) ?_
  show own_End p e below _ (s₁.setTop (mkF m 1 #[.val (.ref tr), .unset] [(.ref tr)]))
  obtain ⟨cl1, Ar1, S1, M1, H1, -⟩ := id V_tr
  refine own_go (fun tQ kQ => X0.arraylength hx (by rw [e0]; exact Ar1.1) (State.isArrayOf_alike hZ.alike Ar1.2.1) (g := (mkF m 1 #[.val (.ref tr), .unset] [(.ref tr)])) rfl rfl (hb hby dlo2_1) _ kQ) ?_
  rw [len_of S1 M1]
  show own_End p e below _ (s₁.setTop (mkF m 2 #[.val (.ref tr), .unset] [(.int (2 : Int32))]))
  refine own_go (fun tQ kQ => XS.tswIn X0.here hx rfl (pc0 := 2) (pc' := 45) (o := 43) rfl (hb hby dlo2_2) rfl (by decide) (by decide) (by decide) (by decide) kQ) ?_
  show own_End p e below _ (s₁.setTop (mkF m 45 #[.val (.ref tr), .unset] []))
  obtain ⟨T2, h2, X2, e2, E2, A2, D2, -, st2⟩ := newO X0 hx hZ hown (hw _ (List.mem_of_getElem? (i := 267) rfl)) (hw _ (List.mem_of_getElem? (i := 268) rfl)) (hw _ (List.mem_of_getElem? (i := 269) rfl)) e0 (g := (mkF m 45 #[.val (.ref tr), .unset] [])) rfl (hb hby dlo2_45) (by decide) (by decide)
  obtain ⟨r, g2⟩ : ∃ z, z = h0.size := ⟨_, rfl⟩
  rw [← g2] at A2 D2 st2
  have ne_tr_r : tr ≠ r := Nat.ne_of_lt (Nat.lt_of_lt_of_le V_tr.lt (Nat.le_of_eq g2.symm))
  have g_r : n0 ≤ r := Nat.le_trans Zs (Nat.le_of_eq g2.symm)
  have sz_r : h0.size ≤ r := Nat.le_trans szr (Nat.le_of_eq g2.symm)
  have V_tr := V_tr.ext E2
  have Ol := Ol.ext E2
  have Kp := Kp.ext E2
  have Zs := Nat.le_trans Zs E2.1
  have szr := Nat.le_trans szr E2.1
  have E_r := A2
  have F_e0_r : Fld Z h2 r "java/util/ImmutableCollections$List12" "e0" "Ljava/lang/Object;" .null := D2 (Or.inr (hw _ (List.mem_of_getElem? (i := 292) rfl))) (ty := (.object "java/lang/Object")) (by decide)
  have F_e1_r : Fld Z h2 r "java/util/ImmutableCollections$List12" "e1" "Ljava/lang/Object;" .null := D2 (Or.inr (hw _ (List.mem_of_getElem? (i := 294) rfl))) (ty := (.object "java/lang/Object")) (by decide)
  have X2 := own_pad (k' := 1) (n' := 2) X2 (by decide) (by decide)
  refine own_go (fun tQ kQ => st2 tQ kQ) ?_
  show own_End p e below _ (T2.setTop (mkF m 48 #[.val (.ref tr), .unset] [(.ref r)]))
  refine own_go (fun tQ kQ => XS.dup X2.here hx rfl (hb hby dlo2_48) rfl rfl kQ) ?_
  show own_End p e below _ (T2.setTop (mkF m 49 #[.val (.ref tr), .unset] [(.ref r), (.ref r)]))
  refine own_go (fun tQ kQ => XS.aloadN X2.here hx rfl (hb hby dlo2_49) rfl rfl kQ) ?_
  show own_End p e below _ (T2.setTop (mkF m 50 #[.val (.ref tr), .unset] [(.ref tr), (.ref r), (.ref r)]))
  refine own_go (fun tQ kQ => XS.iconst X2.here hx rfl (hb hby dlo2_50) kQ) ?_
  show own_End p e below _ (T2.setTop (mkF m 51 #[.val (.ref tr), .unset] [(.int (0 : Int32)), (.ref tr), (.ref r), (.ref r)]))
  obtain ⟨cl3, Ar3, S3, M3, H3, -⟩ := id V_tr
  have hin3 := inb_of (j := (0 : Int32)) S3 ⟨(by decide), (by decide)⟩
  refine own_go (fun tQ kQ => X2.aaload hx (j := (0 : Int32)) (v := (.ref x1)) (by rw [e2]; exact Ar3.1) (State.isArrayOf_alike hZ.alike Ar3.2.1) rfl Ar3.2.2 hin3 (H3 _ (own_in S3 hin3)) (g := (mkF m 51 #[.val (.ref tr), .unset] [(.int (0 : Int32)), (.ref tr), (.ref r), (.ref r)])) rfl rfl (hb hby dlo2_51) _ kQ) ?_
  show own_End p e below _ (T2.setTop (mkF m 52 #[.val (.ref tr), .unset] [(.ref x1), (.ref r), (.ref r)]))
  refine own_go (fun tQ kQ => XS.aloadN X2.here hx rfl (hb hby dlo2_52) rfl rfl kQ) ?_
  show own_End p e below _ (T2.setTop (mkF m 53 #[.val (.ref tr), .unset] [(.ref tr), (.ref x1), (.ref r), (.ref r)]))
  refine own_go (fun tQ kQ => XS.iconst X2.here hx rfl (hb hby dlo2_53) kQ) ?_
  show own_End p e below _ (T2.setTop (mkF m 54 #[.val (.ref tr), .unset] [(.int (1 : Int32)), (.ref tr), (.ref x1), (.ref r), (.ref r)]))
  obtain ⟨cl4, Ar4, S4, M4, H4, -⟩ := id V_tr
  have hin4 := inb_of (j := (1 : Int32)) S4 ⟨(by decide), (by decide)⟩
  refine own_go (fun tQ kQ => X2.aaload hx (j := (1 : Int32)) (v := (.ref x1)) (by rw [e2]; exact Ar4.1) (State.isArrayOf_alike hZ.alike Ar4.2.1) rfl Ar4.2.2 hin4 (H4 _ (own_in S4 hin4)) (g := (mkF m 54 #[.val (.ref tr), .unset] [(.int (1 : Int32)), (.ref tr), (.ref x1), (.ref r), (.ref r)])) rfl rfl (hb hby dlo2_54) _ kQ) ?_
  show own_End p e below _ (T2.setTop (mkF m 55 #[.val (.ref tr), .unset] [(.ref x1), (.ref x1), (.ref r), (.ref r)]))
  obtain ⟨_, _, ⟨T5, L5, k5, n5⟩, -, X5, ⟨Lc5, hQ5, l5, y5, z5⟩, st5⟩ := X2.specialBack hx (y := (⟨"java/util/ImmutableCollections$List12", "<init>", "(Ljava/lang/Object;Ljava/lang/Object;)V"⟩ : MethodName)) rfl hown (mvT hZ (hw _ (List.mem_of_getElem? (i := 270) rfl))) (mvT hZ (hw _ (List.mem_of_getElem? (i := 271) rfl))) (mvT hZ (hw _ (List.mem_of_getElem? (i := 273) rfl))) (by decide) (backOf (W := 1) (rml12_2 l Z a0 hw [] r x1 em h2 n0 Zs E_r F_e0_r F_e1_r g_r Ol S_em) hZ (hw _ (List.mem_of_getElem? (i := 273) rfl)) (hw _ (List.mem_of_getElem? (i := 269) rfl)) (by decide) (by decide)) (g := (mkF m 55 #[.val (.ref tr), .unset] [(.ref x1), (.ref x1), (.ref r), (.ref r)])) rfl (by rw [hml]; rfl) (Steps.refl _) (a := r) (argsL := [(.ref x1), (.ref x1)]) (rest := [(.ref r)]) (lenOf pd_19 rfl) rfl (by show 2 * 0 + _ ≤ _; exact Nat.le_of_eq rfl) (hb hby dlo2_55) (fun _ _ => ⟨rfl, e2, (Nat.le_of_ble_eq_true rfl), (Nat.le_of_ble_eq_true rfl)⟩)
  dsimp only [Pt.U, Pt.locs, Pt.cells, Pt.slots] at X5 l5 y5 z5 st5 hQ5
  rw [l5, y5, z5] at X5
  obtain ⟨rfl, N5q, K5⟩ := hQ5
  have Nf := Fr.app Nf N5q
  have V_tr := V_tr.keep K5 (ninS ne_tr_r nin0)
  have Ol := Ol.keep K5 (allS g_r all0)
  have E_r := E_r.keep K5
  have Kp := Kp.trans K5 (allS (Or.inr sz_r) all0)
  have Zs := Nat.le_trans Zs K5.1
  have szr := Nat.le_trans szr K5.1
  have X5 := own_pad (k' := 1) (n' := 2) X5 (by decide) (by decide)
  refine own_go (fun tQ kQ => st5.trans kQ) ?_
  show own_End p e below _ (T5.setTop (mkF m 58 #[.val (.ref tr), .unset] [(.ref r)]))
  obtain ⟨fs, hr, hrun, hended, hW, hsame⟩ := X5.leave (v := some (.ref r)) (fun h => by rw [Bd.returns] at h; cases h)
  refine ⟨_, _, ?_, hrun, hended, _, _, rfl, ?_, ⟨_, rfl⟩, hW, hsame.mono (by decide) (by decide)⟩
  · exact (by
      jvm_step X5.here [X5.here.top, hx, (hb hby dlo2_58), X5.method', Bd.returns, Value.isRef, FieldType.isReference, narrow]
      first | (intro acts; rw [hr _ acts rfl rfl rfl]) | rw [hr _ _ rfl rfl rfl]
      exact Steps.refl _)
  · show Qlo2 Z tr x1 em h0 n0 _ T5.heap _
    exact ⟨r, rfl, Nf, Kp, sz_r, E_r⟩
theorem pd_20 : parseMethodDescriptor "()Z" = some ⟨[], some .boolean⟩ := by decide +kernel
theorem pd_21 : parseMethodDescriptor "()Ljava/util/List;" = some ⟨[], some (.object "java/util/List")⟩ := by decide +kernel
theorem dlc0_0 : decode jdk_56_method_3_code 0 = .ok (.aload_n 0, 1) := by decide +kernel
theorem dlc0_1 : decode jdk_56_method_3_code 1 = .ok (.instanceof 10, 3) := by decide +kernel
theorem dlc0_4 : decode jdk_56_method_3_code 4 = .ok (.ifCond .ne 22, 3) := by decide +kernel
theorem dlc0_7 : decode jdk_56_method_3_code 7 = .ok (.aload_n 0, 1) := by decide +kernel
theorem dlc0_8 : decode jdk_56_method_3_code 8 = .ok (.instanceof 12, 3) := by decide +kernel
theorem dlc0_11 : decode jdk_56_method_3_code 11 = .ok (.ifCond .eq 20, 3) := by decide +kernel
theorem dlc0_31 : decode jdk_56_method_3_code 31 = .ok (.aload_n 0, 1) := by decide +kernel
theorem dlc0_32 : decode jdk_56_method_3_code 32 = .ok (.invokeinterface 20 1, 5) := by decide +kernel
theorem dlc0_37 : decode jdk_56_method_3_code 37 = .ok (.ifCond .eq 7, 3) := by decide +kernel
theorem dlc0_40 : decode jdk_56_method_3_code 40 = .ok (.invokestatic 26, 3) := by decide +kernel
theorem dlc0_43 : decode jdk_56_method_3_code 43 = .ok (.areturn, 1) := by decide +kernel
theorem pn_22 : plainName "java/util/ImmutableCollections" = true := by first | (simp [plainName, overriddenIn]; done) | decide +kernel
theorem ef_lc0 (m : MethodId) (x0 : Addr) : entryFrame m #[(.ref x0)] 2 = mkF m 0 #[.val (.ref x0), .unset] [] := by first | (simp [entryFrame, mkF, argsToLocals, Value.category]; done) | rfl
def Qlc0 (Z : State) (a : Addr) (el : Addr) (h0 : Heap) (n0 : Nat) (v : Option Value) (h : Heap) (L : List Loc) : Prop := v = some (.ref el) ∧ Fr n0 L ∧ h = h0
def Plc0 (Z : State) (a : Addr) (el : Addr) (h0 : Heap) (n0 : Nat) (s : State) (oQ : Outcome) (U : State) : Prop := ∃ v L, oQ = .returned v ∧ Qlc0 Z a el h0 n0 v U.heap L ∧ FrameEnd s oQ U L ({ frames := 1, cells := 0, slots := 0, locals := 12 } : Room).cells ({ frames := 1, cells := 0, slots := 0, locals := 12 } : Room).slots
set_option maxRecDepth 65536 in
set_option maxHeartbeats 40000000 in
theorem rmlc0 (l : Launch) (Z : State) (a0 : Array Value) (hw : ∀ d ∈ tables_1, d.before a0 Z = true) (ws : List Jvm.Cond) (a : Addr) (el : Addr) (h0 : Heap) (n0 : Nat) (Z0 : n0 ≤ h0.size) (E_a : Exa Z h0 a "java/util/ArrayList") (F_size_a : Fld Z h0 a "java/util/ArrayList" "size" "I" (.int (0 : Int32))) (Ol : Old Z n0 h0) (S_el : Sta Z Z.heap "java/util/ImmutableCollections" "EMPTY_LIST" "Ljava/util/ImmutableCollections$ListN;" (.ref el)) :
    MetFree l (⟨"java/util/ImmutableCollections", "listCopy", "(Ljava/util/Collection;)Ljava/util/List;"⟩ : MethodName) (head1 (Jvm.Cond.code (⟨"java/util/ImmutableCollections", "listCopy", "(Ljava/util/Collection;)Ljava/util/List;"⟩ : MethodName) jdk_56_method_3_code 2 (some (.object "java/util/List")) :: ws) ({ frames := 1, cells := 0, slots := 0, locals := 12 } : Room)) (fun aQ U => aQ = #[(.ref a)] ∧ Z.Warmed39 U.vm ∧ U.heap = h0) (fun _ _ _ _ _ => True) (fun _ U oQ U' => ∃ v L, oQ = .returned v ∧ Qlc0 Z a el h0 n0 v U'.heap L ∧ FrameEnd U oQ U' L ({ frames := 1, cells := 0, slots := 0, locals := 12 } : Room).cells ({ frames := 1, cells := 0, slots := 0, locals := 12 } : Room).slots) := by
  refine MetFree.of_bodySF (plainFor_of_name pn_22) hisR ?_
  intro p e s m args below meth c s₁ Bd hml0 hP hK
  obtain ⟨rfl, hZ, hh⟩ := hP
  have hx := Bd.exec
  have hby := Bd.bytes
  have hml : c.maxLocals = 2 := hml0
  have hown : s.vm.findClass "java/util/ImmutableCollections" = some m.cls := findClass_of_methodNamed Bd.named
  have hnm := (name_of_methodNamed Bd.named Bd.method).1
  have X0 : Stand p l e ({ frames := 1, cells := 0, slots := 0, locals := 12 } : Room) s m #[(.ref a)] below meth c s₁ [] 0 0 := Stand.of_body Bd
  have e0 : s₁.heap = h0 := by rw [← hh, Bd.state]; rfl
  have Nf := Fr.nil n0
  have Zs : n0 ≤ h0.size := Z0
  have Kp : Keep h0 h0 [] := Keep.refl _ _
  have szr : h0.size ≤ h0.size := Nat.le_refl _
  show own_End p e below (Plc0 Z a el h0 n0 s) (s₁.setTop (entryFrame m #[(.ref a)] 2))
  rw [ef_lc0]
  refine own_go (fun tQ kQ => XS.aloadN X0.here hx rfl (hb hby dlc0_0) rfl rfl kQ) ?_
  show own_End p e below _ (s₁.setTop (mkF m 1 #[.val (.ref a), .unset] [(.ref a)]))
  obtain ⟨T1, X1, e1, st1⟩ := instNo X0 hx hZ hown (hw _ (List.mem_of_getElem? (i := 149) rfl)) e0 E_a (own_no (hw _ (List.mem_of_getElem? (i := 150) rfl)) (NS.step (hw _ (List.mem_of_getElem? (i := 150) rfl)) (NS.step (hw _ (List.mem_of_getElem? (i := 151) rfl)) (NS.step (hw _ (List.mem_of_getElem? (i := 152) rfl)) (own_root (hw _ (List.mem_of_getElem? (i := 153) rfl)) (own_face (hw _ (List.mem_of_getElem? (i := 295) rfl)) rfl).choose_spec.choose_spec.1 (by decide)) (by decide)) (by decide)) (by decide)) (by decide) (own_face (hw _ (List.mem_of_getElem? (i := 295) rfl)) rfl)) (g := (mkF m 1 #[.val (.ref a), .unset] [(.ref a)])) rfl rfl (hb hby dlc0_1)
  refine own_go (fun tQ kQ => st1 tQ kQ) ?_
  show own_End p e below _ (T1.setTop (mkF m 4 #[.val (.ref a), .unset] [(.int (0 : Int32))]))
  refine own_go (fun tQ kQ => XS.ifNo X1.here hx rfl (hb hby dlc0_4) rfl ((if0 _ _).trans (teq (by decide)).2) kQ) ?_
  show own_End p e below _ (T1.setTop (mkF m 7 #[.val (.ref a), .unset] []))
  refine own_go (fun tQ kQ => XS.aloadN X1.here hx rfl (hb hby dlc0_7) rfl rfl kQ) ?_
  show own_End p e below _ (T1.setTop (mkF m 8 #[.val (.ref a), .unset] [(.ref a)]))
  obtain ⟨T2, X2, e2, st2⟩ := instNo X1 hx hZ hown (hw _ (List.mem_of_getElem? (i := 154) rfl)) e1 E_a (own_no (hw _ (List.mem_of_getElem? (i := 150) rfl)) (NS.step (hw _ (List.mem_of_getElem? (i := 150) rfl)) (NS.step (hw _ (List.mem_of_getElem? (i := 151) rfl)) (NS.step (hw _ (List.mem_of_getElem? (i := 152) rfl)) (own_root (hw _ (List.mem_of_getElem? (i := 153) rfl)) (own_face (hw _ (List.mem_of_getElem? (i := 225) rfl)) rfl).choose_spec.choose_spec.1 (by decide)) (by decide)) (by decide)) (by decide)) (by decide) (own_face (hw _ (List.mem_of_getElem? (i := 225) rfl)) rfl)) (g := (mkF m 8 #[.val (.ref a), .unset] [(.ref a)])) rfl rfl (hb hby dlc0_8)
  refine own_go (fun tQ kQ => st2 tQ kQ) ?_
  show own_End p e below _ (T2.setTop (mkF m 11 #[.val (.ref a), .unset] [(.int (0 : Int32))]))
  refine own_go (fun tQ kQ => XS.ifYes X2.here hx rfl (pc0 := 11) (pc' := 31) rfl (hb hby dlc0_11) rfl ((if0 _ _).trans (teq (by decide)).1) (by decide) (by decide) kQ) ?_
  show own_End p e below _ (T2.setTop (mkF m 31 #[.val (.ref a), .unset] []))
  refine own_go (fun tQ kQ => XS.aloadN X2.here hx rfl (hb hby dlc0_31) rfl rfl kQ) ?_
  show own_End p e below _ (T2.setTop (mkF m 32 #[.val (.ref a), .unset] [(.ref a)]))
  obtain ⟨cq3, kq3, q3a, q3b, q3c⟩ := isOf hZ e2 E_a
  obtain ⟨_, _, ⟨T3, L3, k3, n3⟩, -, X3, ⟨Lc3, hQ3, l3, y3, z3⟩, st3⟩ := X2.interfaceBack hx (xi := (⟨"java/util/Collection", "isEmpty", "()Z"⟩ : MethodName)) (y := (⟨"java/util/ArrayList", "isEmpty", "()Z"⟩ : MethodName)) hown (mvT hZ (hw _ (List.mem_of_getElem? (i := 155) rfl))) (mvT hZ (hw _ (List.mem_of_getElem? (i := 156) rfl))) (mvT hZ (hw _ (List.mem_of_getElem? (i := 157) rfl))) (mvT hZ (hw _ (List.mem_of_getElem? (i := 158) rfl))) (mvT hZ (hw _ (List.mem_of_getElem? (i := 159) rfl))) (mvT hZ (hw _ (List.mem_of_getElem? (i := 160) rfl))) (mvT hZ (hw _ (List.mem_of_getElem? (i := 161) rfl))) (mvT hZ (hw _ (List.mem_of_getElem? (i := 162) rfl))) (by decide) (backOf (W := 0) (rmie0 l Z a0 hw [] a h0 n0 Zs F_size_a) hZ (hw _ (List.mem_of_getElem? (i := 163) rfl)) (hw _ (List.mem_of_getElem? (i := 107) rfl)) (by decide) (by decide)) q3a q3b q3c (g := (mkF m 32 #[.val (.ref a), .unset] [(.ref a)])) rfl (by rw [hml]; rfl) (Steps.refl _) (argsL := []) (rest := []) (lenOf pd_20 rfl) rfl (by show 2 * 0 + _ ≤ _; exact Nat.le_of_eq rfl) (hb hby dlc0_32) (fun _ _ => ⟨rfl, e2, (Nat.le_of_ble_eq_true rfl), (Nat.le_of_ble_eq_true rfl)⟩)
  dsimp only [Pt.U, Pt.locs, Pt.cells, Pt.slots] at X3 l3 y3 z3 st3 hQ3
  rw [l3, y3, z3] at X3
  obtain ⟨rfl, N3q, e3⟩ := hQ3
  have Nf := Fr.app Nf N3q
  have X3 := own_pad (k' := 0) (n' := 0) X3 (by decide) (by decide)
  refine own_go (fun tQ kQ => st3.trans kQ) ?_
  show own_End p e below _ (T3.setTop (mkF m 37 #[.val (.ref a), .unset] [(.int (1 : Int32))]))
  refine own_go (fun tQ kQ => XS.ifNo X3.here hx rfl (hb hby dlc0_37) rfl ((if0 _ _).trans (feq (by decide)).1) kQ) ?_
  show own_End p e below _ (T3.setTop (mkF m 40 #[.val (.ref a), .unset] []))
  obtain ⟨_, _, ⟨T4, L4, k4, n4⟩, -, X4, ⟨Lc4, hQ4, l4, y4, z4⟩, st4⟩ := Jvm.LawKit.callS X3 hx (y := (⟨"java/util/List", "of", "()Ljava/util/List;"⟩ : MethodName)) hown (mvT hZ (hw _ (List.mem_of_getElem? (i := 166) rfl))) (mvT hZ (hw _ (List.mem_of_getElem? (i := 167) rfl))) (mvT hZ (hw _ (List.mem_of_getElem? (i := 143) rfl))) (mvT hZ (hw _ (List.mem_of_getElem? (i := 168) rfl))) (by decide) (backOf (W := 0) (rmlo0 l Z a0 hw [] el h0 n0 Zs Ol S_el) hZ (hw _ (List.mem_of_getElem? (i := 168) rfl)) (hw _ (List.mem_of_getElem? (i := 143) rfl)) (by decide) (by decide)) (g := (mkF m 40 #[.val (.ref a), .unset] [])) rfl (by rw [hml]; rfl) (argsL := []) (rest := []) (lenOf pd_21 rfl) rfl (by show 2 * 0 + _ ≤ _; exact Nat.le_of_eq rfl) (hb hby dlc0_40) (fun _ _ => ⟨rfl, e3, (Nat.le_of_ble_eq_true rfl), (Nat.le_of_ble_eq_true rfl)⟩)
  dsimp only [Pt.U, Pt.locs, Pt.cells, Pt.slots] at X4 l4 y4 z4 st4 hQ4
  rw [l4, y4, z4] at X4
  obtain ⟨rfl, N4q, e4⟩ := hQ4
  have Nf := Fr.app Nf N4q
  have X4 := own_pad (k' := 0) (n' := 0) X4 (by decide) (by decide)
  refine own_go (fun tQ kQ => st4 tQ kQ) ?_
  show own_End p e below _ (T4.setTop (mkF m 43 #[.val (.ref a), .unset] [(.ref el)]))
  obtain ⟨fs, hr, hrun, hended, hW, hsame⟩ := X4.leave (v := some (.ref el)) (fun h => by rw [Bd.returns] at h; cases h)
  refine ⟨_, _, ?_, hrun, hended, _, _, rfl, ?_, ⟨_, rfl⟩, hW, hsame.mono (by decide) (by decide)⟩
  · exact (by
      jvm_step X4.here [X4.here.top, hx, (hb hby dlc0_43), X4.method', Bd.returns, Value.isRef, FieldType.isReference, narrow]
      first | (intro acts; rw [hr _ acts rfl rfl rfl]) | rw [hr _ _ rfl rfl rfl]
      exact Steps.refl _)
  · show Qlc0 Z a el h0 n0 _ T4.heap _
    rw [e4]
    exact ⟨rfl, Nf, rfl⟩
theorem pd_23 : parseMethodDescriptor "(Ljava/util/Collection;)Ljava/util/List;" = some ⟨[(.object "java/util/Collection")], some (.object "java/util/List")⟩ := by decide +kernel
theorem dco0_0 : decode jdk_40_method_48_code 0 = .ok (.aload_n 0, 1) := by decide +kernel
theorem dco0_1 : decode jdk_40_method_48_code 1 = .ok (.invokestatic 112, 3) := by decide +kernel
theorem dco0_4 : decode jdk_40_method_48_code 4 = .ok (.areturn, 1) := by decide +kernel
theorem ef_co0 (m : MethodId) (x0 : Addr) : entryFrame m #[(.ref x0)] 1 = mkF m 0 #[.val (.ref x0)] [] := by first | (simp [entryFrame, mkF, argsToLocals, Value.category]; done) | rfl
def Qco0 (Z : State) (a : Addr) (el : Addr) (h0 : Heap) (n0 : Nat) (v : Option Value) (h : Heap) (L : List Loc) : Prop := v = some (.ref el) ∧ Fr n0 L ∧ h = h0
def Pco0 (Z : State) (a : Addr) (el : Addr) (h0 : Heap) (n0 : Nat) (s : State) (oQ : Outcome) (U : State) : Prop := ∃ v L, oQ = .returned v ∧ Qco0 Z a el h0 n0 v U.heap L ∧ FrameEnd s oQ U L ({ frames := 2, cells := 0, slots := 0, locals := 25 } : Room).cells ({ frames := 2, cells := 0, slots := 0, locals := 25 } : Room).slots
set_option maxRecDepth 65536 in
set_option maxHeartbeats 40000000 in
theorem rmco0 (l : Launch) (Z : State) (a0 : Array Value) (hw : ∀ d ∈ tables_1, d.before a0 Z = true) (ws : List Jvm.Cond) (a : Addr) (el : Addr) (h0 : Heap) (n0 : Nat) (Z0 : n0 ≤ h0.size) (E_a : Exa Z h0 a "java/util/ArrayList") (F_size_a : Fld Z h0 a "java/util/ArrayList" "size" "I" (.int (0 : Int32))) (Ol : Old Z n0 h0) (S_el : Sta Z Z.heap "java/util/ImmutableCollections" "EMPTY_LIST" "Ljava/util/ImmutableCollections$ListN;" (.ref el)) :
    MetFree l (⟨"java/util/List", "copyOf", "(Ljava/util/Collection;)Ljava/util/List;"⟩ : MethodName) (head1 (Jvm.Cond.code (⟨"java/util/List", "copyOf", "(Ljava/util/Collection;)Ljava/util/List;"⟩ : MethodName) jdk_40_method_48_code 1 (some (.object "java/util/List")) :: ws) ({ frames := 2, cells := 0, slots := 0, locals := 25 } : Room)) (fun aQ U => aQ = #[(.ref a)] ∧ Z.Warmed39 U.vm ∧ U.heap = h0) (fun _ _ _ _ _ => True) (fun _ U oQ U' => ∃ v L, oQ = .returned v ∧ Qco0 Z a el h0 n0 v U'.heap L ∧ FrameEnd U oQ U' L ({ frames := 2, cells := 0, slots := 0, locals := 25 } : Room).cells ({ frames := 2, cells := 0, slots := 0, locals := 25 } : Room).slots) := by
  refine MetFree.of_bodySF (plainFor_of_name pn_11) hisR ?_
  intro p e s m args below meth c s₁ Bd hml0 hP hK
  obtain ⟨rfl, hZ, hh⟩ := hP
  have hx := Bd.exec
  have hby := Bd.bytes
  have hml : c.maxLocals = 1 := hml0
  have hown : s.vm.findClass "java/util/List" = some m.cls := findClass_of_methodNamed Bd.named
  have hnm := (name_of_methodNamed Bd.named Bd.method).1
  have X0 : Stand p l e ({ frames := 2, cells := 0, slots := 0, locals := 25 } : Room) s m #[(.ref a)] below meth c s₁ [] 0 0 := Stand.of_body Bd
  have e0 : s₁.heap = h0 := by rw [← hh, Bd.state]; rfl
  have Nf := Fr.nil n0
  have Zs : n0 ≤ h0.size := Z0
  have Kp : Keep h0 h0 [] := Keep.refl _ _
  have szr : h0.size ≤ h0.size := Nat.le_refl _
  show own_End p e below (Pco0 Z a el h0 n0 s) (s₁.setTop (entryFrame m #[(.ref a)] 1))
  rw [ef_co0]
  refine own_go (fun tQ kQ => XS.aloadN X0.here hx rfl (hb hby dco0_0) rfl rfl kQ) ?_
  show own_End p e below _ (s₁.setTop (mkF m 1 #[.val (.ref a)] [(.ref a)]))
  obtain ⟨_, _, ⟨T1, L1, k1, n1⟩, -, X1, ⟨Lc1, hQ1, l1, y1, z1⟩, st1⟩ := Jvm.LawKit.callS X0 hx (y := (⟨"java/util/ImmutableCollections", "listCopy", "(Ljava/util/Collection;)Ljava/util/List;"⟩ : MethodName)) hown (mvT hZ (hw _ (List.mem_of_getElem? (i := 145) rfl))) (mvT hZ (hw _ (List.mem_of_getElem? (i := 146) rfl))) (mvT hZ (hw _ (List.mem_of_getElem? (i := 147) rfl))) (mvT hZ (hw _ (List.mem_of_getElem? (i := 148) rfl))) (by decide) (backOf (W := 0) (rmlc0 l Z a0 hw [] a el h0 n0 Zs E_a F_size_a Ol S_el) hZ (hw _ (List.mem_of_getElem? (i := 148) rfl)) (hw _ (List.mem_of_getElem? (i := 147) rfl)) (by decide) (by decide)) (g := (mkF m 1 #[.val (.ref a)] [(.ref a)])) rfl (by rw [hml]; rfl) (argsL := [(.ref a)]) (rest := []) (lenOf pd_23 rfl) rfl (by show 2 * 0 + _ ≤ _; exact Nat.le_of_eq rfl) (hb hby dco0_1) (fun _ _ => ⟨rfl, e0, (Nat.le_of_ble_eq_true rfl), (Nat.le_of_ble_eq_true rfl)⟩)
  dsimp only [Pt.U, Pt.locs, Pt.cells, Pt.slots] at X1 l1 y1 z1 st1 hQ1
  rw [l1, y1, z1] at X1
  obtain ⟨rfl, N1q, e1⟩ := hQ1
  have Nf := Fr.app Nf N1q
  have X1 := own_pad (k' := 0) (n' := 0) X1 (by decide) (by decide)
  refine own_go (fun tQ kQ => st1 tQ kQ) ?_
  show own_End p e below _ (T1.setTop (mkF m 4 #[.val (.ref a)] [(.ref el)]))
  obtain ⟨fs, hr, hrun, hended, hW, hsame⟩ := X1.leave (v := some (.ref el)) (fun h => by rw [Bd.returns] at h; cases h)
  refine ⟨_, _, ?_, hrun, hended, _, _, rfl, ?_, ⟨_, rfl⟩, hW, hsame.mono (by decide) (by decide)⟩
  · exact (by
      jvm_step X1.here [X1.here.top, hx, (hb hby dco0_4), X1.method', Bd.returns, Value.isRef, FieldType.isReference, narrow]
      first | (intro acts; rw [hr _ acts rfl rfl rfl]) | rw [hr _ _ rfl rfl rfl]
      exact Steps.refl _)
  · show Qco0 Z a el h0 n0 _ T1.heap _
    rw [e1]
    exact ⟨rfl, Nf, rfl⟩
theorem pd_24 : parseMethodDescriptor "([Ljava/lang/Object;)Ljava/util/List;" = some ⟨[(.array (.object "java/lang/Object"))], some (.object "java/util/List")⟩ := by decide +kernel
theorem dlc1_0 : decode jdk_56_method_3_code 0 = .ok (.aload_n 0, 1) := by decide +kernel
theorem dlc1_1 : decode jdk_56_method_3_code 1 = .ok (.instanceof 10, 3) := by decide +kernel
theorem dlc1_4 : decode jdk_56_method_3_code 4 = .ok (.ifCond .ne 22, 3) := by decide +kernel
theorem dlc1_7 : decode jdk_56_method_3_code 7 = .ok (.aload_n 0, 1) := by decide +kernel
theorem dlc1_8 : decode jdk_56_method_3_code 8 = .ok (.instanceof 12, 3) := by decide +kernel
theorem dlc1_11 : decode jdk_56_method_3_code 11 = .ok (.ifCond .eq 20, 3) := by decide +kernel
theorem dlc1_31 : decode jdk_56_method_3_code 31 = .ok (.aload_n 0, 1) := by decide +kernel
theorem dlc1_32 : decode jdk_56_method_3_code 32 = .ok (.invokeinterface 20 1, 5) := by decide +kernel
theorem dlc1_37 : decode jdk_56_method_3_code 37 = .ok (.ifCond .eq 7, 3) := by decide +kernel
theorem dlc1_44 : decode jdk_56_method_3_code 44 = .ok (.aload_n 0, 1) := by decide +kernel
theorem dlc1_45 : decode jdk_56_method_3_code 45 = .ok (.invokeinterface 30 1, 5) := by decide +kernel
theorem dlc1_50 : decode jdk_56_method_3_code 50 = .ok (.invokestatic 34, 3) := by decide +kernel
theorem dlc1_53 : decode jdk_56_method_3_code 53 = .ok (.areturn, 1) := by decide +kernel
theorem ef_lc1 (m : MethodId) (x0 : Addr) : entryFrame m #[(.ref x0)] 2 = mkF m 0 #[.val (.ref x0), .unset] [] := by first | (simp [entryFrame, mkF, argsToLocals, Value.category]; done) | rfl
def Qlc1 (Z : State) (a : Addr) (mc : Int32) (b : Addr) (ff : Nat → Value) (mr : Addr) (x1 : Addr) (em : Addr) (h0 : Heap) (n0 : Nat) (v : Option Value) (h : Heap) (L : List Loc) : Prop := ∃ r, v = some (.ref r) ∧ Fr n0 L ∧ Keep h0 h [] ∧ h0.size ≤ r ∧ Exa Z h r "java/util/ImmutableCollections$List12"
def Plc1 (Z : State) (a : Addr) (mc : Int32) (b : Addr) (ff : Nat → Value) (mr : Addr) (x1 : Addr) (em : Addr) (h0 : Heap) (n0 : Nat) (s : State) (oQ : Outcome) (U : State) : Prop := ∃ v L, oQ = .returned v ∧ Qlc1 Z a mc b ff mr x1 em h0 n0 v U.heap L ∧ FrameEnd s oQ U L ({ frames := 6, cells := 2, slots := 3, locals := 100 } : Room).cells ({ frames := 6, cells := 2, slots := 3, locals := 100 } : Room).slots
set_option maxRecDepth 65536 in
set_option maxHeartbeats 40000000 in
theorem rmlc1 (l : Launch) (Z : State) (a0 : Array Value) (hw : ∀ d ∈ tables_1, d.before a0 Z = true) (ws : List Jvm.Cond) (a : Addr) (mc : Int32) (b : Addr) (ff : Nat → Value) (mr : Addr) (x1 : Addr) (em : Addr) (h0 : Heap) (n0 : Nat) (Z0 : n0 ≤ h0.size) (E_a : Exa Z h0 a "java/util/ArrayList") (F_modCount_a : Fld Z h0 a "java/util/AbstractList" "modCount" "I" (.int mc)) (F_elementData_a : Fld Z h0 a "java/util/ArrayList" "elementData" "[Ljava/lang/Object;" (.ref b)) (F_size_a : Fld Z h0 a "java/util/ArrayList" "size" "I" (.int (1 : Int32))) (E_b : Exa Z h0 b "[Ljava/lang/Object;") (V_b : own_Rr Z h0 b "java/lang/Object" (10 : Int32) (ff)) (M_r : Mir Z "[Ljava/lang/Object;" mr) (E_x1 : Exa Z h0 x1 "com/example/grant3/grant3/Explanation$Reason") (hff : ∀ j, fits (.object "java/lang/Object") (ff j) = true) (hf : ∀ j, j < 1 → ff j = .ref x1) (Ol : Old Z n0 h0) (S_em : Sta Z Z.heap "java/util/ImmutableCollections" "EMPTY" "Ljava/lang/Object;" (.ref em)) :
    MetFree l (⟨"java/util/ImmutableCollections", "listCopy", "(Ljava/util/Collection;)Ljava/util/List;"⟩ : MethodName) (head1 (Jvm.Cond.code (⟨"java/util/ImmutableCollections", "listCopy", "(Ljava/util/Collection;)Ljava/util/List;"⟩ : MethodName) jdk_56_method_3_code 2 (some (.object "java/util/List")) :: ws) ({ frames := 6, cells := 2, slots := 3, locals := 100 } : Room)) (fun aQ U => aQ = #[(.ref a)] ∧ Z.Warmed39 U.vm ∧ U.heap = h0) (fun _ _ _ _ _ => True) (fun _ U oQ U' => ∃ v L, oQ = .returned v ∧ Qlc1 Z a mc b ff mr x1 em h0 n0 v U'.heap L ∧ FrameEnd U oQ U' L ({ frames := 6, cells := 2, slots := 3, locals := 100 } : Room).cells ({ frames := 6, cells := 2, slots := 3, locals := 100 } : Room).slots) := by
  refine MetFree.of_bodySF (plainFor_of_name pn_22) hisR ?_
  intro p e s m args below meth c s₁ Bd hml0 hP hK
  obtain ⟨rfl, hZ, hh⟩ := hP
  have hx := Bd.exec
  have hby := Bd.bytes
  have hml : c.maxLocals = 2 := hml0
  have hown : s.vm.findClass "java/util/ImmutableCollections" = some m.cls := findClass_of_methodNamed Bd.named
  have hnm := (name_of_methodNamed Bd.named Bd.method).1
  have X0 : Stand p l e ({ frames := 6, cells := 2, slots := 3, locals := 100 } : Room) s m #[(.ref a)] below meth c s₁ [] 0 0 := Stand.of_body Bd
  have e0 : s₁.heap = h0 := by rw [← hh, Bd.state]; rfl
  have Nf := Fr.nil n0
  have Zs : n0 ≤ h0.size := Z0
  have Kp : Keep h0 h0 [] := Keep.refl _ _
  have szr : h0.size ≤ h0.size := Nat.le_refl _
  show own_End p e below (Plc1 Z a mc b ff mr x1 em h0 n0 s) (s₁.setTop (entryFrame m #[(.ref a)] 2))
  rw [ef_lc1]
  refine own_go (fun tQ kQ => XS.aloadN X0.here hx rfl (hb hby dlc1_0) rfl rfl kQ) ?_
  show own_End p e below _ (s₁.setTop (mkF m 1 #[.val (.ref a), .unset] [(.ref a)]))
  obtain ⟨T1, X1, e1, st1⟩ := instNo X0 hx hZ hown (hw _ (List.mem_of_getElem? (i := 149) rfl)) e0 E_a (own_no (hw _ (List.mem_of_getElem? (i := 150) rfl)) (NS.step (hw _ (List.mem_of_getElem? (i := 150) rfl)) (NS.step (hw _ (List.mem_of_getElem? (i := 151) rfl)) (NS.step (hw _ (List.mem_of_getElem? (i := 152) rfl)) (own_root (hw _ (List.mem_of_getElem? (i := 153) rfl)) (own_face (hw _ (List.mem_of_getElem? (i := 295) rfl)) rfl).choose_spec.choose_spec.1 (by decide)) (by decide)) (by decide)) (by decide)) (by decide) (own_face (hw _ (List.mem_of_getElem? (i := 295) rfl)) rfl)) (g := (mkF m 1 #[.val (.ref a), .unset] [(.ref a)])) rfl rfl (hb hby dlc1_1)
  refine own_go (fun tQ kQ => st1 tQ kQ) ?_
  show own_End p e below _ (T1.setTop (mkF m 4 #[.val (.ref a), .unset] [(.int (0 : Int32))]))
  refine own_go (fun tQ kQ => XS.ifNo X1.here hx rfl (hb hby dlc1_4) rfl ((if0 _ _).trans (teq (by decide)).2) kQ) ?_
  show own_End p e below _ (T1.setTop (mkF m 7 #[.val (.ref a), .unset] []))
  refine own_go (fun tQ kQ => XS.aloadN X1.here hx rfl (hb hby dlc1_7) rfl rfl kQ) ?_
  show own_End p e below _ (T1.setTop (mkF m 8 #[.val (.ref a), .unset] [(.ref a)]))
  obtain ⟨T2, X2, e2, st2⟩ := instNo X1 hx hZ hown (hw _ (List.mem_of_getElem? (i := 154) rfl)) e1 E_a (own_no (hw _ (List.mem_of_getElem? (i := 150) rfl)) (NS.step (hw _ (List.mem_of_getElem? (i := 150) rfl)) (NS.step (hw _ (List.mem_of_getElem? (i := 151) rfl)) (NS.step (hw _ (List.mem_of_getElem? (i := 152) rfl)) (own_root (hw _ (List.mem_of_getElem? (i := 153) rfl)) (own_face (hw _ (List.mem_of_getElem? (i := 225) rfl)) rfl).choose_spec.choose_spec.1 (by decide)) (by decide)) (by decide)) (by decide)) (by decide) (own_face (hw _ (List.mem_of_getElem? (i := 225) rfl)) rfl)) (g := (mkF m 8 #[.val (.ref a), .unset] [(.ref a)])) rfl rfl (hb hby dlc1_8)
  refine own_go (fun tQ kQ => st2 tQ kQ) ?_
  show own_End p e below _ (T2.setTop (mkF m 11 #[.val (.ref a), .unset] [(.int (0 : Int32))]))
  refine own_go (fun tQ kQ => XS.ifYes X2.here hx rfl (pc0 := 11) (pc' := 31) rfl (hb hby dlc1_11) rfl ((if0 _ _).trans (teq (by decide)).1) (by decide) (by decide) kQ) ?_
  show own_End p e below _ (T2.setTop (mkF m 31 #[.val (.ref a), .unset] []))
  refine own_go (fun tQ kQ => XS.aloadN X2.here hx rfl (hb hby dlc1_31) rfl rfl kQ) ?_
  show own_End p e below _ (T2.setTop (mkF m 32 #[.val (.ref a), .unset] [(.ref a)]))
  obtain ⟨cq3, kq3, q3a, q3b, q3c⟩ := isOf hZ e2 E_a
  obtain ⟨_, _, ⟨T3, L3, k3, n3⟩, -, X3, ⟨Lc3, hQ3, l3, y3, z3⟩, st3⟩ := X2.interfaceBack hx (xi := (⟨"java/util/Collection", "isEmpty", "()Z"⟩ : MethodName)) (y := (⟨"java/util/ArrayList", "isEmpty", "()Z"⟩ : MethodName)) hown (mvT hZ (hw _ (List.mem_of_getElem? (i := 155) rfl))) (mvT hZ (hw _ (List.mem_of_getElem? (i := 156) rfl))) (mvT hZ (hw _ (List.mem_of_getElem? (i := 157) rfl))) (mvT hZ (hw _ (List.mem_of_getElem? (i := 158) rfl))) (mvT hZ (hw _ (List.mem_of_getElem? (i := 159) rfl))) (mvT hZ (hw _ (List.mem_of_getElem? (i := 160) rfl))) (mvT hZ (hw _ (List.mem_of_getElem? (i := 161) rfl))) (mvT hZ (hw _ (List.mem_of_getElem? (i := 162) rfl))) (by decide) (backOf (W := 0) (rmie1 l Z a0 hw [] a h0 n0 Zs F_size_a) hZ (hw _ (List.mem_of_getElem? (i := 163) rfl)) (hw _ (List.mem_of_getElem? (i := 107) rfl)) (by decide) (by decide)) q3a q3b q3c (g := (mkF m 32 #[.val (.ref a), .unset] [(.ref a)])) rfl (by rw [hml]; rfl) (Steps.refl _) (argsL := []) (rest := []) (lenOf pd_20 rfl) rfl (by show 2 * 0 + _ ≤ _; exact Nat.le_of_eq rfl) (hb hby dlc1_32) (fun _ _ => ⟨rfl, e2, (Nat.le_of_ble_eq_true rfl), (Nat.le_of_ble_eq_true rfl)⟩)
  dsimp only [Pt.U, Pt.locs, Pt.cells, Pt.slots] at X3 l3 y3 z3 st3 hQ3
  rw [l3, y3, z3] at X3
  obtain ⟨rfl, N3q, e3⟩ := hQ3
  have Nf := Fr.app Nf N3q
  have X3 := own_pad (k' := 0) (n' := 0) X3 (by decide) (by decide)
  refine own_go (fun tQ kQ => st3.trans kQ) ?_
  show own_End p e below _ (T3.setTop (mkF m 37 #[.val (.ref a), .unset] [(.int (0 : Int32))]))
  refine own_go (fun tQ kQ => XS.ifYes X3.here hx rfl (pc0 := 37) (pc' := 44) rfl (hb hby dlc1_37) rfl ((if0 _ _).trans (teq (by decide)).1) (by decide) (by decide) kQ) ?_
  show own_End p e below _ (T3.setTop (mkF m 44 #[.val (.ref a), .unset] []))
  refine own_go (fun tQ kQ => XS.aloadN X3.here hx rfl (hb hby dlc1_44) rfl rfl kQ) ?_
  show own_End p e below _ (T3.setTop (mkF m 45 #[.val (.ref a), .unset] [(.ref a)]))
  obtain ⟨cq4, kq4, q4a, q4b, q4c⟩ := isOf hZ e3 E_a
  obtain ⟨_, _, ⟨T4, L4, k4, n4⟩, -, X4, ⟨Lc4, hQ4, l4, y4, z4⟩, st4⟩ := X3.interfaceBack hx (xi := (⟨"java/util/Collection", "toArray", "()[Ljava/lang/Object;"⟩ : MethodName)) (y := (⟨"java/util/ArrayList", "toArray", "()[Ljava/lang/Object;"⟩ : MethodName)) hown (mvT hZ (hw _ (List.mem_of_getElem? (i := 234) rfl))) (mvT hZ (hw _ (List.mem_of_getElem? (i := 235) rfl))) (mvT hZ (hw _ (List.mem_of_getElem? (i := 236) rfl))) (mvT hZ (hw _ (List.mem_of_getElem? (i := 237) rfl))) (mvT hZ (hw _ (List.mem_of_getElem? (i := 238) rfl))) (mvT hZ (hw _ (List.mem_of_getElem? (i := 239) rfl))) (mvT hZ (hw _ (List.mem_of_getElem? (i := 240) rfl))) (mvT hZ (hw _ (List.mem_of_getElem? (i := 162) rfl))) (by decide) (backOf (W := 0) (rmta1 l Z a0 hw [] a mc b ff mr x1 h0 n0 Zs E_a F_modCount_a F_elementData_a F_size_a E_b V_b M_r E_x1 hff hf) hZ (hw _ (List.mem_of_getElem? (i := 241) rfl)) (hw _ (List.mem_of_getElem? (i := 107) rfl)) (by decide) (by decide)) q4a q4b q4c (g := (mkF m 45 #[.val (.ref a), .unset] [(.ref a)])) rfl (by rw [hml]; rfl) (Steps.refl _) (argsL := []) (rest := []) (lenOf pd_9 rfl) rfl (by show 2 * 0 + _ ≤ _; exact Nat.le_of_eq rfl) (hb hby dlc1_45) (fun _ _ => ⟨rfl, e3, (Nat.le_of_ble_eq_true rfl), (Nat.le_of_ble_eq_true rfl)⟩)
  dsimp only [Pt.U, Pt.locs, Pt.cells, Pt.slots] at X4 l4 y4 z4 st4 hQ4
  rw [l4, y4, z4] at X4
  obtain ⟨tr, rfl, N4q, K4, hb4, V_tr⟩ := hQ4
  have Nf := Fr.app Nf N4q
  have ne_b_tr : b ≠ tr := Nat.ne_of_lt (Nat.lt_of_lt_of_le E_b.lt hb4)
  have ne_x1_tr : x1 ≠ tr := Nat.ne_of_lt (Nat.lt_of_lt_of_le E_x1.lt hb4)
  have ne_a_tr : a ≠ tr := Nat.ne_of_lt (Nat.lt_of_lt_of_le E_a.lt hb4)
  have g_tr : n0 ≤ tr := Nat.le_trans Zs hb4
  have sz_tr : h0.size ≤ tr := Nat.le_trans szr hb4
  have E_b := E_b.keep K4
  have V_b := V_b.keep K4 nin0
  have E_x1 := E_x1.keep K4
  have E_a := E_a.keep K4
  have F_modCount_a := F_modCount_a.keep K4 nin0
  have F_elementData_a := F_elementData_a.keep K4 nin0
  have F_size_a := F_size_a.keep K4 nin0
  have Ol := Ol.keep K4 all0
  have Kp := Kp.trans K4 all0
  have Zs := Nat.le_trans Zs K4.1
  have szr := Nat.le_trans szr K4.1
  have X4 := own_pad (k' := 1) (n' := 1) X4 (by decide) (by decide)
  refine own_go (fun tQ kQ => st4.trans kQ) ?_
  show own_End p e below _ (T4.setTop (mkF m 50 #[.val (.ref a), .unset] [(.ref tr)]))
  obtain ⟨_, _, ⟨T5, L5, k5, n5⟩, -, X5, ⟨Lc5, hQ5, l5, y5, z5⟩, st5⟩ := Jvm.LawKit.callS X4 hx (y := (⟨"java/util/List", "of", "([Ljava/lang/Object;)Ljava/util/List;"⟩ : MethodName)) hown (mvT hZ (hw _ (List.mem_of_getElem? (i := 264) rfl))) (mvT hZ (hw _ (List.mem_of_getElem? (i := 265) rfl))) (mvT hZ (hw _ (List.mem_of_getElem? (i := 143) rfl))) (mvT hZ (hw _ (List.mem_of_getElem? (i := 266) rfl))) (by decide) (backOf (W := 0) (rmlo1 l Z a0 hw [] tr x1 em T4.heap n0 Zs V_tr Ol S_em) hZ (hw _ (List.mem_of_getElem? (i := 266) rfl)) (hw _ (List.mem_of_getElem? (i := 143) rfl)) (by decide) (by decide)) (g := (mkF m 50 #[.val (.ref a), .unset] [(.ref tr)])) rfl (by rw [hml]; rfl) (argsL := [(.ref tr)]) (rest := []) (lenOf pd_24 rfl) rfl (by show 2 * 0 + _ ≤ _; exact Nat.le_of_eq rfl) (hb hby dlc1_50) (fun _ _ => ⟨rfl, rfl, (Nat.le_of_ble_eq_true rfl), (Nat.le_of_ble_eq_true rfl)⟩)
  dsimp only [Pt.U, Pt.locs, Pt.cells, Pt.slots] at X5 l5 y5 z5 st5 hQ5
  rw [l5, y5, z5] at X5
  obtain ⟨r, rfl, N5q, K5, hb5, E_r⟩ := hQ5
  have Nf := Fr.app Nf N5q
  have ne_b_r : b ≠ r := Nat.ne_of_lt (Nat.lt_of_lt_of_le E_b.lt hb5)
  have ne_x1_r : x1 ≠ r := Nat.ne_of_lt (Nat.lt_of_lt_of_le E_x1.lt hb5)
  have ne_a_r : a ≠ r := Nat.ne_of_lt (Nat.lt_of_lt_of_le E_a.lt hb5)
  have ne_tr_r : tr ≠ r := Nat.ne_of_lt (Nat.lt_of_lt_of_le V_tr.lt hb5)
  have g_r : n0 ≤ r := Nat.le_trans Zs hb5
  have sz_r : h0.size ≤ r := Nat.le_trans szr hb5
  have E_b := E_b.keep K5
  have V_b := V_b.keep K5 nin0
  have E_x1 := E_x1.keep K5
  have E_a := E_a.keep K5
  have F_modCount_a := F_modCount_a.keep K5 nin0
  have F_elementData_a := F_elementData_a.keep K5 nin0
  have F_size_a := F_size_a.keep K5 nin0
  have Ol := Ol.keep K5 all0
  have V_tr := V_tr.keep K5 nin0
  have Kp := Kp.trans K5 all0
  have Zs := Nat.le_trans Zs K5.1
  have szr := Nat.le_trans szr K5.1
  have X5 := own_pad (k' := 2) (n' := 3) X5 (by decide) (by decide)
  refine own_go (fun tQ kQ => st5 tQ kQ) ?_
  show own_End p e below _ (T5.setTop (mkF m 53 #[.val (.ref a), .unset] [(.ref r)]))
  obtain ⟨fs, hr, hrun, hended, hW, hsame⟩ := X5.leave (v := some (.ref r)) (fun h => by rw [Bd.returns] at h; cases h)
  refine ⟨_, _, ?_, hrun, hended, _, _, rfl, ?_, ⟨_, rfl⟩, hW, hsame.mono (by decide) (by decide)⟩
  · exact (by
      jvm_step X5.here [X5.here.top, hx, (hb hby dlc1_53), X5.method', Bd.returns, Value.isRef, FieldType.isReference, narrow]
      first | (intro acts; rw [hr _ acts rfl rfl rfl]) | rw [hr _ _ rfl rfl rfl]
      exact Steps.refl _)
  · show Qlc1 Z a mc b ff mr x1 em h0 n0 _ T5.heap _
    exact ⟨r, rfl, Nf, Kp, sz_r, E_r⟩
theorem dco1_0 : decode jdk_40_method_48_code 0 = .ok (.aload_n 0, 1) := by decide +kernel
theorem dco1_1 : decode jdk_40_method_48_code 1 = .ok (.invokestatic 112, 3) := by decide +kernel
theorem dco1_4 : decode jdk_40_method_48_code 4 = .ok (.areturn, 1) := by decide +kernel
theorem ef_co1 (m : MethodId) (x0 : Addr) : entryFrame m #[(.ref x0)] 1 = mkF m 0 #[.val (.ref x0)] [] := by first | (simp [entryFrame, mkF, argsToLocals, Value.category]; done) | rfl
def Qco1 (Z : State) (a : Addr) (mc : Int32) (b : Addr) (ff : Nat → Value) (mr : Addr) (x1 : Addr) (em : Addr) (h0 : Heap) (n0 : Nat) (v : Option Value) (h : Heap) (L : List Loc) : Prop := ∃ r, v = some (.ref r) ∧ Fr n0 L ∧ Keep h0 h [] ∧ h0.size ≤ r ∧ Exa Z h r "java/util/ImmutableCollections$List12"
def Pco1 (Z : State) (a : Addr) (mc : Int32) (b : Addr) (ff : Nat → Value) (mr : Addr) (x1 : Addr) (em : Addr) (h0 : Heap) (n0 : Nat) (s : State) (oQ : Outcome) (U : State) : Prop := ∃ v L, oQ = .returned v ∧ Qco1 Z a mc b ff mr x1 em h0 n0 v U.heap L ∧ FrameEnd s oQ U L ({ frames := 7, cells := 2, slots := 3, locals := 113 } : Room).cells ({ frames := 7, cells := 2, slots := 3, locals := 113 } : Room).slots
set_option maxRecDepth 65536 in
set_option maxHeartbeats 40000000 in
theorem rmco1 (l : Launch) (Z : State) (a0 : Array Value) (hw : ∀ d ∈ tables_1, d.before a0 Z = true) (ws : List Jvm.Cond) (a : Addr) (mc : Int32) (b : Addr) (ff : Nat → Value) (mr : Addr) (x1 : Addr) (em : Addr) (h0 : Heap) (n0 : Nat) (Z0 : n0 ≤ h0.size) (E_a : Exa Z h0 a "java/util/ArrayList") (F_modCount_a : Fld Z h0 a "java/util/AbstractList" "modCount" "I" (.int mc)) (F_elementData_a : Fld Z h0 a "java/util/ArrayList" "elementData" "[Ljava/lang/Object;" (.ref b)) (F_size_a : Fld Z h0 a "java/util/ArrayList" "size" "I" (.int (1 : Int32))) (E_b : Exa Z h0 b "[Ljava/lang/Object;") (V_b : own_Rr Z h0 b "java/lang/Object" (10 : Int32) (ff)) (M_r : Mir Z "[Ljava/lang/Object;" mr) (E_x1 : Exa Z h0 x1 "com/example/grant3/grant3/Explanation$Reason") (hff : ∀ j, fits (.object "java/lang/Object") (ff j) = true) (hf : ∀ j, j < 1 → ff j = .ref x1) (Ol : Old Z n0 h0) (S_em : Sta Z Z.heap "java/util/ImmutableCollections" "EMPTY" "Ljava/lang/Object;" (.ref em)) :
    MetFree l (⟨"java/util/List", "copyOf", "(Ljava/util/Collection;)Ljava/util/List;"⟩ : MethodName) (head1 (Jvm.Cond.code (⟨"java/util/List", "copyOf", "(Ljava/util/Collection;)Ljava/util/List;"⟩ : MethodName) jdk_40_method_48_code 1 (some (.object "java/util/List")) :: ws) ({ frames := 7, cells := 2, slots := 3, locals := 113 } : Room)) (fun aQ U => aQ = #[(.ref a)] ∧ Z.Warmed39 U.vm ∧ U.heap = h0) (fun _ _ _ _ _ => True) (fun _ U oQ U' => ∃ v L, oQ = .returned v ∧ Qco1 Z a mc b ff mr x1 em h0 n0 v U'.heap L ∧ FrameEnd U oQ U' L ({ frames := 7, cells := 2, slots := 3, locals := 113 } : Room).cells ({ frames := 7, cells := 2, slots := 3, locals := 113 } : Room).slots) := by
  refine MetFree.of_bodySF (plainFor_of_name pn_11) hisR ?_
  intro p e s m args below meth c s₁ Bd hml0 hP hK
  obtain ⟨rfl, hZ, hh⟩ := hP
  have hx := Bd.exec
  have hby := Bd.bytes
  have hml : c.maxLocals = 1 := hml0
  have hown : s.vm.findClass "java/util/List" = some m.cls := findClass_of_methodNamed Bd.named
  have hnm := (name_of_methodNamed Bd.named Bd.method).1
  have X0 : Stand p l e ({ frames := 7, cells := 2, slots := 3, locals := 113 } : Room) s m #[(.ref a)] below meth c s₁ [] 0 0 := Stand.of_body Bd
  have e0 : s₁.heap = h0 := by rw [← hh, Bd.state]; rfl
  have Nf := Fr.nil n0
  have Zs : n0 ≤ h0.size := Z0
  have Kp : Keep h0 h0 [] := Keep.refl _ _
  have szr : h0.size ≤ h0.size := Nat.le_refl _
  show own_End p e below (Pco1 Z a mc b ff mr x1 em h0 n0 s) (s₁.setTop (entryFrame m #[(.ref a)] 1))
  rw [ef_co1]
  refine own_go (fun tQ kQ => XS.aloadN X0.here hx rfl (hb hby dco1_0) rfl rfl kQ) ?_
  show own_End p e below _ (s₁.setTop (mkF m 1 #[.val (.ref a)] [(.ref a)]))
  obtain ⟨_, _, ⟨T1, L1, k1, n1⟩, -, X1, ⟨Lc1, hQ1, l1, y1, z1⟩, st1⟩ := Jvm.LawKit.callS X0 hx (y := (⟨"java/util/ImmutableCollections", "listCopy", "(Ljava/util/Collection;)Ljava/util/List;"⟩ : MethodName)) hown (mvT hZ (hw _ (List.mem_of_getElem? (i := 145) rfl))) (mvT hZ (hw _ (List.mem_of_getElem? (i := 146) rfl))) (mvT hZ (hw _ (List.mem_of_getElem? (i := 147) rfl))) (mvT hZ (hw _ (List.mem_of_getElem? (i := 148) rfl))) (by decide) (backOf (W := 0) (rmlc1 l Z a0 hw [] a mc b ff mr x1 em h0 n0 Zs E_a F_modCount_a F_elementData_a F_size_a E_b V_b M_r E_x1 hff hf Ol S_em) hZ (hw _ (List.mem_of_getElem? (i := 148) rfl)) (hw _ (List.mem_of_getElem? (i := 147) rfl)) (by decide) (by decide)) (g := (mkF m 1 #[.val (.ref a)] [(.ref a)])) rfl (by rw [hml]; rfl) (argsL := [(.ref a)]) (rest := []) (lenOf pd_23 rfl) rfl (by show 2 * 0 + _ ≤ _; exact Nat.le_of_eq rfl) (hb hby dco1_1) (fun _ _ => ⟨rfl, e0, (Nat.le_of_ble_eq_true rfl), (Nat.le_of_ble_eq_true rfl)⟩)
  dsimp only [Pt.U, Pt.locs, Pt.cells, Pt.slots] at X1 l1 y1 z1 st1 hQ1
  rw [l1, y1, z1] at X1
  obtain ⟨r, rfl, N1q, K1, hb1, E_r⟩ := hQ1
  have Nf := Fr.app Nf N1q
  have ne_b_r : b ≠ r := Nat.ne_of_lt (Nat.lt_of_lt_of_le E_b.lt hb1)
  have ne_x1_r : x1 ≠ r := Nat.ne_of_lt (Nat.lt_of_lt_of_le E_x1.lt hb1)
  have ne_a_r : a ≠ r := Nat.ne_of_lt (Nat.lt_of_lt_of_le E_a.lt hb1)
  have g_r : n0 ≤ r := Nat.le_trans Zs hb1
  have sz_r : h0.size ≤ r := Nat.le_trans szr hb1
  have E_b := E_b.keep K1
  have V_b := V_b.keep K1 nin0
  have E_x1 := E_x1.keep K1
  have E_a := E_a.keep K1
  have F_modCount_a := F_modCount_a.keep K1 nin0
  have F_elementData_a := F_elementData_a.keep K1 nin0
  have F_size_a := F_size_a.keep K1 nin0
  have Ol := Ol.keep K1 all0
  have Kp := Kp.trans K1 all0
  have Zs := Nat.le_trans Zs K1.1
  have szr := Nat.le_trans szr K1.1
  have X1 := own_pad (k' := 2) (n' := 3) X1 (by decide) (by decide)
  refine own_go (fun tQ kQ => st1 tQ kQ) ?_
  show own_End p e below _ (T1.setTop (mkF m 4 #[.val (.ref a)] [(.ref r)]))
  obtain ⟨fs, hr, hrun, hended, hW, hsame⟩ := X1.leave (v := some (.ref r)) (fun h => by rw [Bd.returns] at h; cases h)
  refine ⟨_, _, ?_, hrun, hended, _, _, rfl, ?_, ⟨_, rfl⟩, hW, hsame.mono (by decide) (by decide)⟩
  · exact (by
      jvm_step X1.here [X1.here.top, hx, (hb hby dco1_4), X1.method', Bd.returns, Value.isRef, FieldType.isReference, narrow]
      first | (intro acts; rw [hr _ acts rfl rfl rfl]) | rw [hr _ _ rfl rfl rfl]
      exact Steps.refl _)
  · show Qco1 Z a mc b ff mr x1 em h0 n0 _ T1.heap _
    exact ⟨r, rfl, Nf, Kp, sz_r, E_r⟩
theorem dlc2_0 : decode jdk_56_method_3_code 0 = .ok (.aload_n 0, 1) := by decide +kernel
theorem dlc2_1 : decode jdk_56_method_3_code 1 = .ok (.instanceof 10, 3) := by decide +kernel
theorem dlc2_4 : decode jdk_56_method_3_code 4 = .ok (.ifCond .ne 22, 3) := by decide +kernel
theorem dlc2_7 : decode jdk_56_method_3_code 7 = .ok (.aload_n 0, 1) := by decide +kernel
theorem dlc2_8 : decode jdk_56_method_3_code 8 = .ok (.instanceof 12, 3) := by decide +kernel
theorem dlc2_11 : decode jdk_56_method_3_code 11 = .ok (.ifCond .eq 20, 3) := by decide +kernel
theorem dlc2_31 : decode jdk_56_method_3_code 31 = .ok (.aload_n 0, 1) := by decide +kernel
theorem dlc2_32 : decode jdk_56_method_3_code 32 = .ok (.invokeinterface 20 1, 5) := by decide +kernel
theorem dlc2_37 : decode jdk_56_method_3_code 37 = .ok (.ifCond .eq 7, 3) := by decide +kernel
theorem dlc2_44 : decode jdk_56_method_3_code 44 = .ok (.aload_n 0, 1) := by decide +kernel
theorem dlc2_45 : decode jdk_56_method_3_code 45 = .ok (.invokeinterface 30 1, 5) := by decide +kernel
theorem dlc2_50 : decode jdk_56_method_3_code 50 = .ok (.invokestatic 34, 3) := by decide +kernel
theorem dlc2_53 : decode jdk_56_method_3_code 53 = .ok (.areturn, 1) := by decide +kernel
theorem ef_lc2 (m : MethodId) (x0 : Addr) : entryFrame m #[(.ref x0)] 2 = mkF m 0 #[.val (.ref x0), .unset] [] := by first | (simp [entryFrame, mkF, argsToLocals, Value.category]; done) | rfl
def Qlc2 (Z : State) (a : Addr) (mc : Int32) (b : Addr) (ff : Nat → Value) (mr : Addr) (x1 : Addr) (em : Addr) (h0 : Heap) (n0 : Nat) (v : Option Value) (h : Heap) (L : List Loc) : Prop := ∃ r, v = some (.ref r) ∧ Fr n0 L ∧ Keep h0 h [] ∧ h0.size ≤ r ∧ Exa Z h r "java/util/ImmutableCollections$List12"
def Plc2 (Z : State) (a : Addr) (mc : Int32) (b : Addr) (ff : Nat → Value) (mr : Addr) (x1 : Addr) (em : Addr) (h0 : Heap) (n0 : Nat) (s : State) (oQ : Outcome) (U : State) : Prop := ∃ v L, oQ = .returned v ∧ Qlc2 Z a mc b ff mr x1 em h0 n0 v U.heap L ∧ FrameEnd s oQ U L ({ frames := 6, cells := 2, slots := 4, locals := 100 } : Room).cells ({ frames := 6, cells := 2, slots := 4, locals := 100 } : Room).slots
set_option maxRecDepth 65536 in
set_option maxHeartbeats 40000000 in
theorem rmlc2 (l : Launch) (Z : State) (a0 : Array Value) (hw : ∀ d ∈ tables_1, d.before a0 Z = true) (ws : List Jvm.Cond) (a : Addr) (mc : Int32) (b : Addr) (ff : Nat → Value) (mr : Addr) (x1 : Addr) (em : Addr) (h0 : Heap) (n0 : Nat) (Z0 : n0 ≤ h0.size) (E_a : Exa Z h0 a "java/util/ArrayList") (F_modCount_a : Fld Z h0 a "java/util/AbstractList" "modCount" "I" (.int mc)) (F_elementData_a : Fld Z h0 a "java/util/ArrayList" "elementData" "[Ljava/lang/Object;" (.ref b)) (F_size_a : Fld Z h0 a "java/util/ArrayList" "size" "I" (.int (2 : Int32))) (E_b : Exa Z h0 b "[Ljava/lang/Object;") (V_b : own_Rr Z h0 b "java/lang/Object" (10 : Int32) (ff)) (M_r : Mir Z "[Ljava/lang/Object;" mr) (E_x1 : Exa Z h0 x1 "com/example/grant3/grant3/Explanation$Reason") (hff : ∀ j, fits (.object "java/lang/Object") (ff j) = true) (hf : ∀ j, j < 2 → ff j = .ref x1) (Ol : Old Z n0 h0) (S_em : Sta Z Z.heap "java/util/ImmutableCollections" "EMPTY" "Ljava/lang/Object;" (.ref em)) :
    MetFree l (⟨"java/util/ImmutableCollections", "listCopy", "(Ljava/util/Collection;)Ljava/util/List;"⟩ : MethodName) (head1 (Jvm.Cond.code (⟨"java/util/ImmutableCollections", "listCopy", "(Ljava/util/Collection;)Ljava/util/List;"⟩ : MethodName) jdk_56_method_3_code 2 (some (.object "java/util/List")) :: ws) ({ frames := 6, cells := 2, slots := 4, locals := 100 } : Room)) (fun aQ U => aQ = #[(.ref a)] ∧ Z.Warmed39 U.vm ∧ U.heap = h0) (fun _ _ _ _ _ => True) (fun _ U oQ U' => ∃ v L, oQ = .returned v ∧ Qlc2 Z a mc b ff mr x1 em h0 n0 v U'.heap L ∧ FrameEnd U oQ U' L ({ frames := 6, cells := 2, slots := 4, locals := 100 } : Room).cells ({ frames := 6, cells := 2, slots := 4, locals := 100 } : Room).slots) := by
  refine MetFree.of_bodySF (plainFor_of_name pn_22) hisR ?_
  intro p e s m args below meth c s₁ Bd hml0 hP hK
  obtain ⟨rfl, hZ, hh⟩ := hP
  have hx := Bd.exec
  have hby := Bd.bytes
  have hml : c.maxLocals = 2 := hml0
  have hown : s.vm.findClass "java/util/ImmutableCollections" = some m.cls := findClass_of_methodNamed Bd.named
  have hnm := (name_of_methodNamed Bd.named Bd.method).1
  have X0 : Stand p l e ({ frames := 6, cells := 2, slots := 4, locals := 100 } : Room) s m #[(.ref a)] below meth c s₁ [] 0 0 := Stand.of_body Bd
  have e0 : s₁.heap = h0 := by rw [← hh, Bd.state]; rfl
  have Nf := Fr.nil n0
  have Zs : n0 ≤ h0.size := Z0
  have Kp : Keep h0 h0 [] := Keep.refl _ _
  have szr : h0.size ≤ h0.size := Nat.le_refl _
  show own_End p e below (Plc2 Z a mc b ff mr x1 em h0 n0 s) (s₁.setTop (entryFrame m #[(.ref a)] 2))
  rw [ef_lc2]
  refine own_go (fun tQ kQ => XS.aloadN X0.here hx rfl (hb hby dlc2_0) rfl rfl kQ) ?_
  show own_End p e below _ (s₁.setTop (mkF m 1 #[.val (.ref a), .unset] [(.ref a)]))
  obtain ⟨T1, X1, e1, st1⟩ := instNo X0 hx hZ hown (hw _ (List.mem_of_getElem? (i := 149) rfl)) e0 E_a (own_no (hw _ (List.mem_of_getElem? (i := 150) rfl)) (NS.step (hw _ (List.mem_of_getElem? (i := 150) rfl)) (NS.step (hw _ (List.mem_of_getElem? (i := 151) rfl)) (NS.step (hw _ (List.mem_of_getElem? (i := 152) rfl)) (own_root (hw _ (List.mem_of_getElem? (i := 153) rfl)) (own_face (hw _ (List.mem_of_getElem? (i := 295) rfl)) rfl).choose_spec.choose_spec.1 (by decide)) (by decide)) (by decide)) (by decide)) (by decide) (own_face (hw _ (List.mem_of_getElem? (i := 295) rfl)) rfl)) (g := (mkF m 1 #[.val (.ref a), .unset] [(.ref a)])) rfl rfl (hb hby dlc2_1)
  refine own_go (fun tQ kQ => st1 tQ kQ) ?_
  show own_End p e below _ (T1.setTop (mkF m 4 #[.val (.ref a), .unset] [(.int (0 : Int32))]))
  refine own_go (fun tQ kQ => XS.ifNo X1.here hx rfl (hb hby dlc2_4) rfl ((if0 _ _).trans (teq (by decide)).2) kQ) ?_
  show own_End p e below _ (T1.setTop (mkF m 7 #[.val (.ref a), .unset] []))
  refine own_go (fun tQ kQ => XS.aloadN X1.here hx rfl (hb hby dlc2_7) rfl rfl kQ) ?_
  show own_End p e below _ (T1.setTop (mkF m 8 #[.val (.ref a), .unset] [(.ref a)]))
  obtain ⟨T2, X2, e2, st2⟩ := instNo X1 hx hZ hown (hw _ (List.mem_of_getElem? (i := 154) rfl)) e1 E_a (own_no (hw _ (List.mem_of_getElem? (i := 150) rfl)) (NS.step (hw _ (List.mem_of_getElem? (i := 150) rfl)) (NS.step (hw _ (List.mem_of_getElem? (i := 151) rfl)) (NS.step (hw _ (List.mem_of_getElem? (i := 152) rfl)) (own_root (hw _ (List.mem_of_getElem? (i := 153) rfl)) (own_face (hw _ (List.mem_of_getElem? (i := 225) rfl)) rfl).choose_spec.choose_spec.1 (by decide)) (by decide)) (by decide)) (by decide)) (by decide) (own_face (hw _ (List.mem_of_getElem? (i := 225) rfl)) rfl)) (g := (mkF m 8 #[.val (.ref a), .unset] [(.ref a)])) rfl rfl (hb hby dlc2_8)
  refine own_go (fun tQ kQ => st2 tQ kQ) ?_
  show own_End p e below _ (T2.setTop (mkF m 11 #[.val (.ref a), .unset] [(.int (0 : Int32))]))
  refine own_go (fun tQ kQ => XS.ifYes X2.here hx rfl (pc0 := 11) (pc' := 31) rfl (hb hby dlc2_11) rfl ((if0 _ _).trans (teq (by decide)).1) (by decide) (by decide) kQ) ?_
  show own_End p e below _ (T2.setTop (mkF m 31 #[.val (.ref a), .unset] []))
  refine own_go (fun tQ kQ => XS.aloadN X2.here hx rfl (hb hby dlc2_31) rfl rfl kQ) ?_
  show own_End p e below _ (T2.setTop (mkF m 32 #[.val (.ref a), .unset] [(.ref a)]))
  obtain ⟨cq3, kq3, q3a, q3b, q3c⟩ := isOf hZ e2 E_a
  obtain ⟨_, _, ⟨T3, L3, k3, n3⟩, -, X3, ⟨Lc3, hQ3, l3, y3, z3⟩, st3⟩ := X2.interfaceBack hx (xi := (⟨"java/util/Collection", "isEmpty", "()Z"⟩ : MethodName)) (y := (⟨"java/util/ArrayList", "isEmpty", "()Z"⟩ : MethodName)) hown (mvT hZ (hw _ (List.mem_of_getElem? (i := 155) rfl))) (mvT hZ (hw _ (List.mem_of_getElem? (i := 156) rfl))) (mvT hZ (hw _ (List.mem_of_getElem? (i := 157) rfl))) (mvT hZ (hw _ (List.mem_of_getElem? (i := 158) rfl))) (mvT hZ (hw _ (List.mem_of_getElem? (i := 159) rfl))) (mvT hZ (hw _ (List.mem_of_getElem? (i := 160) rfl))) (mvT hZ (hw _ (List.mem_of_getElem? (i := 161) rfl))) (mvT hZ (hw _ (List.mem_of_getElem? (i := 162) rfl))) (by decide) (backOf (W := 0) (rmie2 l Z a0 hw [] a h0 n0 Zs F_size_a) hZ (hw _ (List.mem_of_getElem? (i := 163) rfl)) (hw _ (List.mem_of_getElem? (i := 107) rfl)) (by decide) (by decide)) q3a q3b q3c (g := (mkF m 32 #[.val (.ref a), .unset] [(.ref a)])) rfl (by rw [hml]; rfl) (Steps.refl _) (argsL := []) (rest := []) (lenOf pd_20 rfl) rfl (by show 2 * 0 + _ ≤ _; exact Nat.le_of_eq rfl) (hb hby dlc2_32) (fun _ _ => ⟨rfl, e2, (Nat.le_of_ble_eq_true rfl), (Nat.le_of_ble_eq_true rfl)⟩)
  dsimp only [Pt.U, Pt.locs, Pt.cells, Pt.slots] at X3 l3 y3 z3 st3 hQ3
  rw [l3, y3, z3] at X3
  obtain ⟨rfl, N3q, e3⟩ := hQ3
  have Nf := Fr.app Nf N3q
  have X3 := own_pad (k' := 0) (n' := 0) X3 (by decide) (by decide)
  refine own_go (fun tQ kQ => st3.trans kQ) ?_
  show own_End p e below _ (T3.setTop (mkF m 37 #[.val (.ref a), .unset] [(.int (0 : Int32))]))
  refine own_go (fun tQ kQ => XS.ifYes X3.here hx rfl (pc0 := 37) (pc' := 44) rfl (hb hby dlc2_37) rfl ((if0 _ _).trans (teq (by decide)).1) (by decide) (by decide) kQ) ?_
  show own_End p e below _ (T3.setTop (mkF m 44 #[.val (.ref a), .unset] []))
  refine own_go (fun tQ kQ => XS.aloadN X3.here hx rfl (hb hby dlc2_44) rfl rfl kQ) ?_
  show own_End p e below _ (T3.setTop (mkF m 45 #[.val (.ref a), .unset] [(.ref a)]))
  obtain ⟨cq4, kq4, q4a, q4b, q4c⟩ := isOf hZ e3 E_a
  obtain ⟨_, _, ⟨T4, L4, k4, n4⟩, -, X4, ⟨Lc4, hQ4, l4, y4, z4⟩, st4⟩ := X3.interfaceBack hx (xi := (⟨"java/util/Collection", "toArray", "()[Ljava/lang/Object;"⟩ : MethodName)) (y := (⟨"java/util/ArrayList", "toArray", "()[Ljava/lang/Object;"⟩ : MethodName)) hown (mvT hZ (hw _ (List.mem_of_getElem? (i := 234) rfl))) (mvT hZ (hw _ (List.mem_of_getElem? (i := 235) rfl))) (mvT hZ (hw _ (List.mem_of_getElem? (i := 236) rfl))) (mvT hZ (hw _ (List.mem_of_getElem? (i := 237) rfl))) (mvT hZ (hw _ (List.mem_of_getElem? (i := 238) rfl))) (mvT hZ (hw _ (List.mem_of_getElem? (i := 239) rfl))) (mvT hZ (hw _ (List.mem_of_getElem? (i := 240) rfl))) (mvT hZ (hw _ (List.mem_of_getElem? (i := 162) rfl))) (by decide) (backOf (W := 0) (rmta2 l Z a0 hw [] a mc b ff mr x1 h0 n0 Zs E_a F_modCount_a F_elementData_a F_size_a E_b V_b M_r E_x1 hff hf) hZ (hw _ (List.mem_of_getElem? (i := 241) rfl)) (hw _ (List.mem_of_getElem? (i := 107) rfl)) (by decide) (by decide)) q4a q4b q4c (g := (mkF m 45 #[.val (.ref a), .unset] [(.ref a)])) rfl (by rw [hml]; rfl) (Steps.refl _) (argsL := []) (rest := []) (lenOf pd_9 rfl) rfl (by show 2 * 0 + _ ≤ _; exact Nat.le_of_eq rfl) (hb hby dlc2_45) (fun _ _ => ⟨rfl, e3, (Nat.le_of_ble_eq_true rfl), (Nat.le_of_ble_eq_true rfl)⟩)
  dsimp only [Pt.U, Pt.locs, Pt.cells, Pt.slots] at X4 l4 y4 z4 st4 hQ4
  rw [l4, y4, z4] at X4
  obtain ⟨tr, rfl, N4q, K4, hb4, V_tr⟩ := hQ4
  have Nf := Fr.app Nf N4q
  have ne_b_tr : b ≠ tr := Nat.ne_of_lt (Nat.lt_of_lt_of_le E_b.lt hb4)
  have ne_x1_tr : x1 ≠ tr := Nat.ne_of_lt (Nat.lt_of_lt_of_le E_x1.lt hb4)
  have ne_a_tr : a ≠ tr := Nat.ne_of_lt (Nat.lt_of_lt_of_le E_a.lt hb4)
  have g_tr : n0 ≤ tr := Nat.le_trans Zs hb4
  have sz_tr : h0.size ≤ tr := Nat.le_trans szr hb4
  have E_b := E_b.keep K4
  have V_b := V_b.keep K4 nin0
  have E_x1 := E_x1.keep K4
  have E_a := E_a.keep K4
  have F_modCount_a := F_modCount_a.keep K4 nin0
  have F_elementData_a := F_elementData_a.keep K4 nin0
  have F_size_a := F_size_a.keep K4 nin0
  have Ol := Ol.keep K4 all0
  have Kp := Kp.trans K4 all0
  have Zs := Nat.le_trans Zs K4.1
  have szr := Nat.le_trans szr K4.1
  have X4 := own_pad (k' := 1) (n' := 2) X4 (by decide) (by decide)
  refine own_go (fun tQ kQ => st4.trans kQ) ?_
  show own_End p e below _ (T4.setTop (mkF m 50 #[.val (.ref a), .unset] [(.ref tr)]))
  obtain ⟨_, _, ⟨T5, L5, k5, n5⟩, -, X5, ⟨Lc5, hQ5, l5, y5, z5⟩, st5⟩ := Jvm.LawKit.callS X4 hx (y := (⟨"java/util/List", "of", "([Ljava/lang/Object;)Ljava/util/List;"⟩ : MethodName)) hown (mvT hZ (hw _ (List.mem_of_getElem? (i := 264) rfl))) (mvT hZ (hw _ (List.mem_of_getElem? (i := 265) rfl))) (mvT hZ (hw _ (List.mem_of_getElem? (i := 143) rfl))) (mvT hZ (hw _ (List.mem_of_getElem? (i := 266) rfl))) (by decide) (backOf (W := 0) (rmlo2 l Z a0 hw [] tr x1 em T4.heap n0 Zs V_tr Ol S_em) hZ (hw _ (List.mem_of_getElem? (i := 266) rfl)) (hw _ (List.mem_of_getElem? (i := 143) rfl)) (by decide) (by decide)) (g := (mkF m 50 #[.val (.ref a), .unset] [(.ref tr)])) rfl (by rw [hml]; rfl) (argsL := [(.ref tr)]) (rest := []) (lenOf pd_24 rfl) rfl (by show 2 * 0 + _ ≤ _; exact Nat.le_of_eq rfl) (hb hby dlc2_50) (fun _ _ => ⟨rfl, rfl, (Nat.le_of_ble_eq_true rfl), (Nat.le_of_ble_eq_true rfl)⟩)
  dsimp only [Pt.U, Pt.locs, Pt.cells, Pt.slots] at X5 l5 y5 z5 st5 hQ5
  rw [l5, y5, z5] at X5
  obtain ⟨r, rfl, N5q, K5, hb5, E_r⟩ := hQ5
  have Nf := Fr.app Nf N5q
  have ne_b_r : b ≠ r := Nat.ne_of_lt (Nat.lt_of_lt_of_le E_b.lt hb5)
  have ne_x1_r : x1 ≠ r := Nat.ne_of_lt (Nat.lt_of_lt_of_le E_x1.lt hb5)
  have ne_a_r : a ≠ r := Nat.ne_of_lt (Nat.lt_of_lt_of_le E_a.lt hb5)
  have ne_tr_r : tr ≠ r := Nat.ne_of_lt (Nat.lt_of_lt_of_le V_tr.lt hb5)
  have g_r : n0 ≤ r := Nat.le_trans Zs hb5
  have sz_r : h0.size ≤ r := Nat.le_trans szr hb5
  have E_b := E_b.keep K5
  have V_b := V_b.keep K5 nin0
  have E_x1 := E_x1.keep K5
  have E_a := E_a.keep K5
  have F_modCount_a := F_modCount_a.keep K5 nin0
  have F_elementData_a := F_elementData_a.keep K5 nin0
  have F_size_a := F_size_a.keep K5 nin0
  have Ol := Ol.keep K5 all0
  have V_tr := V_tr.keep K5 nin0
  have Kp := Kp.trans K5 all0
  have Zs := Nat.le_trans Zs K5.1
  have szr := Nat.le_trans szr K5.1
  have X5 := own_pad (k' := 2) (n' := 4) X5 (by decide) (by decide)
  refine own_go (fun tQ kQ => st5 tQ kQ) ?_
  show own_End p e below _ (T5.setTop (mkF m 53 #[.val (.ref a), .unset] [(.ref r)]))
  obtain ⟨fs, hr, hrun, hended, hW, hsame⟩ := X5.leave (v := some (.ref r)) (fun h => by rw [Bd.returns] at h; cases h)
  refine ⟨_, _, ?_, hrun, hended, _, _, rfl, ?_, ⟨_, rfl⟩, hW, hsame.mono (by decide) (by decide)⟩
  · exact (by
      jvm_step X5.here [X5.here.top, hx, (hb hby dlc2_53), X5.method', Bd.returns, Value.isRef, FieldType.isReference, narrow]
      first | (intro acts; rw [hr _ acts rfl rfl rfl]) | rw [hr _ _ rfl rfl rfl]
      exact Steps.refl _)
  · show Qlc2 Z a mc b ff mr x1 em h0 n0 _ T5.heap _
    exact ⟨r, rfl, Nf, Kp, sz_r, E_r⟩
theorem dco2_0 : decode jdk_40_method_48_code 0 = .ok (.aload_n 0, 1) := by decide +kernel
theorem dco2_1 : decode jdk_40_method_48_code 1 = .ok (.invokestatic 112, 3) := by decide +kernel
theorem dco2_4 : decode jdk_40_method_48_code 4 = .ok (.areturn, 1) := by decide +kernel
theorem ef_co2 (m : MethodId) (x0 : Addr) : entryFrame m #[(.ref x0)] 1 = mkF m 0 #[.val (.ref x0)] [] := by first | (simp [entryFrame, mkF, argsToLocals, Value.category]; done) | rfl
def Qco2 (Z : State) (a : Addr) (mc : Int32) (b : Addr) (ff : Nat → Value) (mr : Addr) (x1 : Addr) (em : Addr) (h0 : Heap) (n0 : Nat) (v : Option Value) (h : Heap) (L : List Loc) : Prop := ∃ r, v = some (.ref r) ∧ Fr n0 L ∧ Keep h0 h [] ∧ h0.size ≤ r ∧ Exa Z h r "java/util/ImmutableCollections$List12"
def Pco2 (Z : State) (a : Addr) (mc : Int32) (b : Addr) (ff : Nat → Value) (mr : Addr) (x1 : Addr) (em : Addr) (h0 : Heap) (n0 : Nat) (s : State) (oQ : Outcome) (U : State) : Prop := ∃ v L, oQ = .returned v ∧ Qco2 Z a mc b ff mr x1 em h0 n0 v U.heap L ∧ FrameEnd s oQ U L ({ frames := 7, cells := 2, slots := 4, locals := 113 } : Room).cells ({ frames := 7, cells := 2, slots := 4, locals := 113 } : Room).slots
set_option maxRecDepth 65536 in
set_option maxHeartbeats 40000000 in
theorem rmco2 (l : Launch) (Z : State) (a0 : Array Value) (hw : ∀ d ∈ tables_1, d.before a0 Z = true) (ws : List Jvm.Cond) (a : Addr) (mc : Int32) (b : Addr) (ff : Nat → Value) (mr : Addr) (x1 : Addr) (em : Addr) (h0 : Heap) (n0 : Nat) (Z0 : n0 ≤ h0.size) (E_a : Exa Z h0 a "java/util/ArrayList") (F_modCount_a : Fld Z h0 a "java/util/AbstractList" "modCount" "I" (.int mc)) (F_elementData_a : Fld Z h0 a "java/util/ArrayList" "elementData" "[Ljava/lang/Object;" (.ref b)) (F_size_a : Fld Z h0 a "java/util/ArrayList" "size" "I" (.int (2 : Int32))) (E_b : Exa Z h0 b "[Ljava/lang/Object;") (V_b : own_Rr Z h0 b "java/lang/Object" (10 : Int32) (ff)) (M_r : Mir Z "[Ljava/lang/Object;" mr) (E_x1 : Exa Z h0 x1 "com/example/grant3/grant3/Explanation$Reason") (hff : ∀ j, fits (.object "java/lang/Object") (ff j) = true) (hf : ∀ j, j < 2 → ff j = .ref x1) (Ol : Old Z n0 h0) (S_em : Sta Z Z.heap "java/util/ImmutableCollections" "EMPTY" "Ljava/lang/Object;" (.ref em)) :
    MetFree l (⟨"java/util/List", "copyOf", "(Ljava/util/Collection;)Ljava/util/List;"⟩ : MethodName) (head1 (Jvm.Cond.code (⟨"java/util/List", "copyOf", "(Ljava/util/Collection;)Ljava/util/List;"⟩ : MethodName) jdk_40_method_48_code 1 (some (.object "java/util/List")) :: ws) ({ frames := 7, cells := 2, slots := 4, locals := 113 } : Room)) (fun aQ U => aQ = #[(.ref a)] ∧ Z.Warmed39 U.vm ∧ U.heap = h0) (fun _ _ _ _ _ => True) (fun _ U oQ U' => ∃ v L, oQ = .returned v ∧ Qco2 Z a mc b ff mr x1 em h0 n0 v U'.heap L ∧ FrameEnd U oQ U' L ({ frames := 7, cells := 2, slots := 4, locals := 113 } : Room).cells ({ frames := 7, cells := 2, slots := 4, locals := 113 } : Room).slots) := by
  refine MetFree.of_bodySF (plainFor_of_name pn_11) hisR ?_
  intro p e s m args below meth c s₁ Bd hml0 hP hK
  obtain ⟨rfl, hZ, hh⟩ := hP
  have hx := Bd.exec
  have hby := Bd.bytes
  have hml : c.maxLocals = 1 := hml0
  have hown : s.vm.findClass "java/util/List" = some m.cls := findClass_of_methodNamed Bd.named
  have hnm := (name_of_methodNamed Bd.named Bd.method).1
  have X0 : Stand p l e ({ frames := 7, cells := 2, slots := 4, locals := 113 } : Room) s m #[(.ref a)] below meth c s₁ [] 0 0 := Stand.of_body Bd
  have e0 : s₁.heap = h0 := by rw [← hh, Bd.state]; rfl
  have Nf := Fr.nil n0
  have Zs : n0 ≤ h0.size := Z0
  have Kp : Keep h0 h0 [] := Keep.refl _ _
  have szr : h0.size ≤ h0.size := Nat.le_refl _
  show own_End p e below (Pco2 Z a mc b ff mr x1 em h0 n0 s) (s₁.setTop (entryFrame m #[(.ref a)] 1))
  rw [ef_co2]
  refine own_go (fun tQ kQ => XS.aloadN X0.here hx rfl (hb hby dco2_0) rfl rfl kQ) ?_
  show own_End p e below _ (s₁.setTop (mkF m 1 #[.val (.ref a)] [(.ref a)]))
  obtain ⟨_, _, ⟨T1, L1, k1, n1⟩, -, X1, ⟨Lc1, hQ1, l1, y1, z1⟩, st1⟩ := Jvm.LawKit.callS X0 hx (y := (⟨"java/util/ImmutableCollections", "listCopy", "(Ljava/util/Collection;)Ljava/util/List;"⟩ : MethodName)) hown (mvT hZ (hw _ (List.mem_of_getElem? (i := 145) rfl))) (mvT hZ (hw _ (List.mem_of_getElem? (i := 146) rfl))) (mvT hZ (hw _ (List.mem_of_getElem? (i := 147) rfl))) (mvT hZ (hw _ (List.mem_of_getElem? (i := 148) rfl))) (by decide) (backOf (W := 0) (rmlc2 l Z a0 hw [] a mc b ff mr x1 em h0 n0 Zs E_a F_modCount_a F_elementData_a F_size_a E_b V_b M_r E_x1 hff hf Ol S_em) hZ (hw _ (List.mem_of_getElem? (i := 148) rfl)) (hw _ (List.mem_of_getElem? (i := 147) rfl)) (by decide) (by decide)) (g := (mkF m 1 #[.val (.ref a)] [(.ref a)])) rfl (by rw [hml]; rfl) (argsL := [(.ref a)]) (rest := []) (lenOf pd_23 rfl) rfl (by show 2 * 0 + _ ≤ _; exact Nat.le_of_eq rfl) (hb hby dco2_1) (fun _ _ => ⟨rfl, e0, (Nat.le_of_ble_eq_true rfl), (Nat.le_of_ble_eq_true rfl)⟩)
  dsimp only [Pt.U, Pt.locs, Pt.cells, Pt.slots] at X1 l1 y1 z1 st1 hQ1
  rw [l1, y1, z1] at X1
  obtain ⟨r, rfl, N1q, K1, hb1, E_r⟩ := hQ1
  have Nf := Fr.app Nf N1q
  have ne_b_r : b ≠ r := Nat.ne_of_lt (Nat.lt_of_lt_of_le E_b.lt hb1)
  have ne_x1_r : x1 ≠ r := Nat.ne_of_lt (Nat.lt_of_lt_of_le E_x1.lt hb1)
  have ne_a_r : a ≠ r := Nat.ne_of_lt (Nat.lt_of_lt_of_le E_a.lt hb1)
  have g_r : n0 ≤ r := Nat.le_trans Zs hb1
  have sz_r : h0.size ≤ r := Nat.le_trans szr hb1
  have E_b := E_b.keep K1
  have V_b := V_b.keep K1 nin0
  have E_x1 := E_x1.keep K1
  have E_a := E_a.keep K1
  have F_modCount_a := F_modCount_a.keep K1 nin0
  have F_elementData_a := F_elementData_a.keep K1 nin0
  have F_size_a := F_size_a.keep K1 nin0
  have Ol := Ol.keep K1 all0
  have Kp := Kp.trans K1 all0
  have Zs := Nat.le_trans Zs K1.1
  have szr := Nat.le_trans szr K1.1
  have X1 := own_pad (k' := 2) (n' := 4) X1 (by decide) (by decide)
  refine own_go (fun tQ kQ => st1 tQ kQ) ?_
  show own_End p e below _ (T1.setTop (mkF m 4 #[.val (.ref a)] [(.ref r)]))
  obtain ⟨fs, hr, hrun, hended, hW, hsame⟩ := X1.leave (v := some (.ref r)) (fun h => by rw [Bd.returns] at h; cases h)
  refine ⟨_, _, ?_, hrun, hended, _, _, rfl, ?_, ⟨_, rfl⟩, hW, hsame.mono (by decide) (by decide)⟩
  · exact (by
      jvm_step X1.here [X1.here.top, hx, (hb hby dco2_4), X1.method', Bd.returns, Value.isRef, FieldType.isReference, narrow]
      first | (intro acts; rw [hr _ acts rfl rfl rfl]) | rw [hr _ _ rfl rfl rfl]
      exact Steps.refl _)
  · show Qco2 Z a mc b ff mr x1 em h0 n0 _ T1.heap _
    exact ⟨r, rfl, Nf, Kp, sz_r, E_r⟩
theorem dei0_0 : decode prog_3_method_1_code 0 = .ok (.aload_n 0, 1) := by decide +kernel
theorem dei0_1 : decode prog_3_method_1_code 1 = .ok (.invokespecial 1, 3) := by decide +kernel
theorem dei0_4 : decode prog_3_method_1_code 4 = .ok (.aload_n 2, 1) := by decide +kernel
theorem dei0_5 : decode prog_3_method_1_code 5 = .ok (.invokestatic 7, 3) := by decide +kernel
theorem dei0_8 : decode prog_3_method_1_code 8 = .ok (.astore_n 2, 1) := by decide +kernel
theorem dei0_9 : decode prog_3_method_1_code 9 = .ok (.aload_n 0, 1) := by decide +kernel
theorem dei0_10 : decode prog_3_method_1_code 10 = .ok (.iload_n 1, 1) := by decide +kernel
theorem dei0_11 : decode prog_3_method_1_code 11 = .ok (.putfield 13, 3) := by decide +kernel
theorem dei0_14 : decode prog_3_method_1_code 14 = .ok (.aload_n 0, 1) := by decide +kernel
theorem dei0_15 : decode prog_3_method_1_code 15 = .ok (.aload_n 2, 1) := by decide +kernel
theorem dei0_16 : decode prog_3_method_1_code 16 = .ok (.putfield 19, 3) := by decide +kernel
theorem dei0_19 : decode prog_3_method_1_code 19 = .ok (.return_, 1) := by decide +kernel
theorem pn_25 : plainName "com/example/grant3/grant3/Explanation" = true := by first | (simp [plainName, overriddenIn]; done) | decide +kernel
theorem ef_ei0 (m : MethodId) (x0 : Addr) (x1 : Int32) (x2 : Addr) : entryFrame m #[(.ref x0), (.int x1), (.ref x2)] 3 = mkF m 0 #[.val (.ref x0), .val (.int x1), .val (.ref x2)] [] := by first | (simp [entryFrame, mkF, argsToLocals, Value.category]; done) | rfl
def Qei0 (Z : State) (xp : Addr) (sb : Int32) (a : Addr) (el : Addr) (h0 : Heap) (n0 : Nat) (v : Option Value) (h : Heap) (L : List Loc) : Prop := v = none ∧ Fr n0 L ∧ Keep h0 h [xp] ∧ Fld Z h xp "com/example/grant3/grant3/Explanation" "superadmin" "Z" (.int sb) ∧ Fld Z h xp "com/example/grant3/grant3/Explanation" "because" "Ljava/util/List;" (.ref el)
def Pei0 (Z : State) (xp : Addr) (sb : Int32) (a : Addr) (el : Addr) (h0 : Heap) (n0 : Nat) (s : State) (oQ : Outcome) (U : State) : Prop := ∃ v L, oQ = .returned v ∧ Qei0 Z xp sb a el h0 n0 v U.heap L ∧ FrameEnd s oQ U L ({ frames := 3, cells := 0, slots := 0, locals := 37 } : Room).cells ({ frames := 3, cells := 0, slots := 0, locals := 37 } : Room).slots
set_option maxRecDepth 65536 in
set_option maxHeartbeats 40000000 in
theorem rmei0 (l : Launch) (Z : State) (a0 : Array Value) (hw : ∀ d ∈ tables_1, d.before a0 Z = true) (ws : List Jvm.Cond) (xp : Addr) (sb : Int32) (a : Addr) (el : Addr) (h0 : Heap) (n0 : Nat) (Z0 : n0 ≤ h0.size) (E_xp : Exa Z h0 xp "com/example/grant3/grant3/Explanation") (F_superadmin_xp : Fld Z h0 xp "com/example/grant3/grant3/Explanation" "superadmin" "Z" (.int (0 : Int32))) (F_because_xp : Fld Z h0 xp "com/example/grant3/grant3/Explanation" "because" "Ljava/util/List;" .null) (g_xp : n0 ≤ xp) (hsb : narrow .boolean (.int sb) = .int sb ∧ fits .boolean (.int sb) = true) (E_a : Exa Z h0 a "java/util/ArrayList") (F_size_a : Fld Z h0 a "java/util/ArrayList" "size" "I" (.int (0 : Int32))) (Ol : Old Z n0 h0) (S_el : Sta Z Z.heap "java/util/ImmutableCollections" "EMPTY_LIST" "Ljava/util/ImmutableCollections$ListN;" (.ref el)) :
    MetFree l (⟨"com/example/grant3/grant3/Explanation", "<init>", "(ZLjava/util/List;)V"⟩ : MethodName) (head1 (Jvm.Cond.code (⟨"com/example/grant3/grant3/Explanation", "<init>", "(ZLjava/util/List;)V"⟩ : MethodName) prog_3_method_1_code 3 none :: ws) ({ frames := 3, cells := 0, slots := 0, locals := 37 } : Room)) (fun aQ U => aQ = #[(.ref xp), (.int sb), (.ref a)] ∧ Z.Warmed39 U.vm ∧ U.heap = h0) (fun _ _ _ _ _ => True) (fun _ U oQ U' => ∃ v L, oQ = .returned v ∧ Qei0 Z xp sb a el h0 n0 v U'.heap L ∧ FrameEnd U oQ U' L ({ frames := 3, cells := 0, slots := 0, locals := 37 } : Room).cells ({ frames := 3, cells := 0, slots := 0, locals := 37 } : Room).slots) := by
  refine MetFree.of_bodySF (plainFor_of_name pn_25) hisR ?_
  intro p e s m args below meth c s₁ Bd hml0 hP hK
  obtain ⟨rfl, hZ, hh⟩ := hP
  have hx := Bd.exec
  have hby := Bd.bytes
  have hml : c.maxLocals = 3 := hml0
  have hown : s.vm.findClass "com/example/grant3/grant3/Explanation" = some m.cls := findClass_of_methodNamed Bd.named
  have hnm := (name_of_methodNamed Bd.named Bd.method).1
  have X0 : Stand p l e ({ frames := 3, cells := 0, slots := 0, locals := 37 } : Room) s m #[(.ref xp), (.int sb), (.ref a)] below meth c s₁ [] 0 0 := Stand.of_body Bd
  have e0 : s₁.heap = h0 := by rw [← hh, Bd.state]; rfl
  have Nf := Fr.nil n0
  have Zs : n0 ≤ h0.size := Z0
  have Kp : Keep h0 h0 [xp] := Keep.refl _ _
  have szr : h0.size ≤ h0.size := Nat.le_refl _
  show own_End p e below (Pei0 Z xp sb a el h0 n0 s) (s₁.setTop (entryFrame m #[(.ref xp), (.int sb), (.ref a)] 3))
  rw [ef_ei0]
  refine own_go (fun tQ kQ => XS.aloadN X0.here hx rfl (hb hby dei0_0) rfl rfl kQ) ?_
  show own_End p e below _ (s₁.setTop (mkF m 1 #[.val (.ref xp), .val (.int sb), .val (.ref a)] [(.ref xp)]))
  obtain ⟨_, _, ⟨T1, L1, k1, n1⟩, -, X1, ⟨Lc1, hQ1, l1, y1, z1⟩, st1⟩ := X0.specialBack hx (y := (⟨"java/lang/Record", "<init>", "()V"⟩ : MethodName)) rfl hown (mvT hZ (hw _ (List.mem_of_getElem? (i := 182) rfl))) (mvT hZ (hw _ (List.mem_of_getElem? (i := 133) rfl))) (mvT hZ (hw _ (List.mem_of_getElem? (i := 136) rfl))) (by decide) (backOf (W := 0) (rmR l Z a0 hw [] xp h0 n0 Zs ) hZ (hw _ (List.mem_of_getElem? (i := 136) rfl)) (hw _ (List.mem_of_getElem? (i := 135) rfl)) (by decide) (by decide)) (g := (mkF m 1 #[.val (.ref xp), .val (.int sb), .val (.ref a)] [(.ref xp)])) rfl (by rw [hml]; rfl) (Steps.refl _) (a := xp) (argsL := []) (rest := []) (lenOf pd_2 rfl) rfl (by show 2 * 0 + _ ≤ _; exact Nat.le_of_eq rfl) (hb hby dei0_1) (fun _ _ => ⟨rfl, e0, (Nat.le_of_ble_eq_true rfl), (Nat.le_of_ble_eq_true rfl)⟩)
  dsimp only [Pt.U, Pt.locs, Pt.cells, Pt.slots] at X1 l1 y1 z1 st1 hQ1
  rw [l1, y1, z1] at X1
  obtain ⟨rfl, N1q, e1⟩ := hQ1
  have Nf := Fr.app Nf N1q
  have X1 := own_pad (k' := 0) (n' := 0) X1 (by decide) (by decide)
  refine own_go (fun tQ kQ => st1.trans kQ) ?_
  show own_End p e below _ (T1.setTop (mkF m 4 #[.val (.ref xp), .val (.int sb), .val (.ref a)] []))
  refine own_go (fun tQ kQ => XS.aloadN X1.here hx rfl (hb hby dei0_4) rfl rfl kQ) ?_
  show own_End p e below _ (T1.setTop (mkF m 5 #[.val (.ref xp), .val (.int sb), .val (.ref a)] [(.ref a)]))
  obtain ⟨_, _, ⟨T3, L3, k3, n3⟩, -, X3, ⟨Lc3, hQ3, l3, y3, z3⟩, st3⟩ := Jvm.LawKit.callS X1 hx (y := (⟨"java/util/List", "copyOf", "(Ljava/util/Collection;)Ljava/util/List;"⟩ : MethodName)) hown (mvT hZ (hw _ (List.mem_of_getElem? (i := 183) rfl))) (mvT hZ (hw _ (List.mem_of_getElem? (i := 142) rfl))) (mvT hZ (hw _ (List.mem_of_getElem? (i := 143) rfl))) (mvT hZ (hw _ (List.mem_of_getElem? (i := 144) rfl))) (by decide) (backOf (W := 0) (rmco0 l Z a0 hw [] a el h0 n0 Zs E_a F_size_a Ol S_el) hZ (hw _ (List.mem_of_getElem? (i := 144) rfl)) (hw _ (List.mem_of_getElem? (i := 143) rfl)) (by decide) (by decide)) (g := (mkF m 5 #[.val (.ref xp), .val (.int sb), .val (.ref a)] [(.ref a)])) rfl (by rw [hml]; rfl) (argsL := [(.ref a)]) (rest := []) (lenOf pd_23 rfl) rfl (by show 2 * 0 + _ ≤ _; exact Nat.le_of_eq rfl) (hb hby dei0_5) (fun _ _ => ⟨rfl, e1, (Nat.le_of_ble_eq_true rfl), (Nat.le_of_ble_eq_true rfl)⟩)
  dsimp only [Pt.U, Pt.locs, Pt.cells, Pt.slots] at X3 l3 y3 z3 st3 hQ3
  rw [l3, y3, z3] at X3
  obtain ⟨rfl, N3q, e3⟩ := hQ3
  have Nf := Fr.app Nf N3q
  have X3 := own_pad (k' := 0) (n' := 0) X3 (by decide) (by decide)
  refine own_go (fun tQ kQ => st3 tQ kQ) ?_
  show own_End p e below _ (T3.setTop (mkF m 8 #[.val (.ref xp), .val (.int sb), .val (.ref a)] [(.ref el)]))
  refine own_go (fun tQ kQ => XS.astoreN X3.here hx rfl (hb hby dei0_8) rfl rfl (l' := #[.val (.ref xp), .val (.int sb), .val (.ref el)]) rfl kQ) ?_
  show own_End p e below _ (T3.setTop (mkF m 9 #[.val (.ref xp), .val (.int sb), .val (.ref el)] []))
  refine own_go (fun tQ kQ => XS.aloadN X3.here hx rfl (hb hby dei0_9) rfl rfl kQ) ?_
  show own_End p e below _ (T3.setTop (mkF m 10 #[.val (.ref xp), .val (.int sb), .val (.ref el)] [(.ref xp)]))
  refine own_go (fun tQ kQ => XS.iloadN X3.here hx rfl (hb hby dei0_10) rfl kQ) ?_
  show own_End p e below _ (T3.setTop (mkF m 11 #[.val (.ref xp), .val (.int sb), .val (.ref el)] [(.int sb), (.ref xp)]))
  obtain ⟨T4, h4, X4, e4, W4, st4⟩ := putF X3 hx hZ hown (host := "") (Or.inl (hw _ (List.mem_of_getElem? (i := 184) rfl))) Via.refl e3 F_superadmin_xp E_xp (Or.inr ⟨(hw _ (List.mem_of_getElem? (i := 185) rfl)), rfl, hnm⟩) (hw _ (List.mem_of_getElem? (i := 177) rfl)) (ty := .boolean) (by decide) (hsb).1 (hsb).2 (g := (mkF m 11 #[.val (.ref xp), .val (.int sb), .val (.ref el)] [(.int sb), (.ref xp)])) rfl rfl (hb hby dei0_11)
  have F_superadmin_xp := F_superadmin_xp.same W4
  have E_xp := E_xp.wr W4
  have F_because_xp := F_because_xp.other W4 (Or.inr (slot_ne (Or.inr (hw _ (List.mem_of_getElem? (i := 187) rfl))) (Or.inr (hw _ (List.mem_of_getElem? (i := 185) rfl))) (by decide) (t := (.object "java/util/List")) (t' := .boolean) (by decide) (by decide)))
  have Ol := Ol.wr W4 g_xp
  have Kp := Kp.wr W4 (Or.inl (List.mem_of_getElem? (i := 0) rfl))
  have Nf := Fr.snoc X4 Nf g_xp
  have Zs := Nat.le_trans Zs (Keep.of_wr W4).1
  have szr := Nat.le_trans szr (Keep.of_wr W4).1
  refine own_go (fun tQ kQ => st4 tQ kQ) ?_
  show own_End p e below _ (T4.setTop (mkF m 14 #[.val (.ref xp), .val (.int sb), .val (.ref el)] []))
  refine own_go (fun tQ kQ => XS.aloadN X4.here hx rfl (hb hby dei0_14) rfl rfl kQ) ?_
  show own_End p e below _ (T4.setTop (mkF m 15 #[.val (.ref xp), .val (.int sb), .val (.ref el)] [(.ref xp)]))
  refine own_go (fun tQ kQ => XS.aloadN X4.here hx rfl (hb hby dei0_15) rfl rfl kQ) ?_
  show own_End p e below _ (T4.setTop (mkF m 16 #[.val (.ref xp), .val (.int sb), .val (.ref el)] [(.ref el), (.ref xp)]))
  obtain ⟨T5, h5, X5, e5, W5, st5⟩ := putF X4 hx hZ hown (host := "") (Or.inl (hw _ (List.mem_of_getElem? (i := 186) rfl))) Via.refl e4 F_because_xp E_xp (Or.inr ⟨(hw _ (List.mem_of_getElem? (i := 187) rfl)), rfl, hnm⟩) (hw _ (List.mem_of_getElem? (i := 177) rfl)) (ty := (.object "java/util/List")) (by decide) rfl rfl (g := (mkF m 16 #[.val (.ref xp), .val (.int sb), .val (.ref el)] [(.ref el), (.ref xp)])) rfl rfl (hb hby dei0_16)
  have F_because_xp := F_because_xp.same W5
  have E_xp := E_xp.wr W5
  have F_superadmin_xp := F_superadmin_xp.other W5 (Or.inr (slot_ne (Or.inr (hw _ (List.mem_of_getElem? (i := 185) rfl))) (Or.inr (hw _ (List.mem_of_getElem? (i := 187) rfl))) (by decide) (t := .boolean) (t' := (.object "java/util/List")) (by decide) (by decide)))
  have Ol := Ol.wr W5 g_xp
  have Kp := Kp.wr W5 (Or.inl (List.mem_of_getElem? (i := 0) rfl))
  have Nf := Fr.snoc X5 Nf g_xp
  have Zs := Nat.le_trans Zs (Keep.of_wr W5).1
  have szr := Nat.le_trans szr (Keep.of_wr W5).1
  refine own_go (fun tQ kQ => st5 tQ kQ) ?_
  show own_End p e below _ (T5.setTop (mkF m 19 #[.val (.ref xp), .val (.int sb), .val (.ref el)] []))
  obtain ⟨fs, hr, hrun, hended, hW, hsame⟩ := X5.leave (v := none) (fun _ => rfl)
  refine ⟨_, _, X5.returnOut hx Bd.returns (hb hby dei0_19) hr, hrun, hended, _, _, rfl, ?_, ⟨_, rfl⟩, hW, hsame.mono (by decide) (by decide)⟩
  show Qei0 Z xp sb a el h0 n0 _ T5.heap _
  rw [e5]
  exact ⟨rfl, Nf, Kp, F_superadmin_xp, F_because_xp⟩
theorem dei1_0 : decode prog_3_method_1_code 0 = .ok (.aload_n 0, 1) := by decide +kernel
theorem dei1_1 : decode prog_3_method_1_code 1 = .ok (.invokespecial 1, 3) := by decide +kernel
theorem dei1_4 : decode prog_3_method_1_code 4 = .ok (.aload_n 2, 1) := by decide +kernel
theorem dei1_5 : decode prog_3_method_1_code 5 = .ok (.invokestatic 7, 3) := by decide +kernel
theorem dei1_8 : decode prog_3_method_1_code 8 = .ok (.astore_n 2, 1) := by decide +kernel
theorem dei1_9 : decode prog_3_method_1_code 9 = .ok (.aload_n 0, 1) := by decide +kernel
theorem dei1_10 : decode prog_3_method_1_code 10 = .ok (.iload_n 1, 1) := by decide +kernel
theorem dei1_11 : decode prog_3_method_1_code 11 = .ok (.putfield 13, 3) := by decide +kernel
theorem dei1_14 : decode prog_3_method_1_code 14 = .ok (.aload_n 0, 1) := by decide +kernel
theorem dei1_15 : decode prog_3_method_1_code 15 = .ok (.aload_n 2, 1) := by decide +kernel
theorem dei1_16 : decode prog_3_method_1_code 16 = .ok (.putfield 19, 3) := by decide +kernel
theorem dei1_19 : decode prog_3_method_1_code 19 = .ok (.return_, 1) := by decide +kernel
theorem ef_ei1 (m : MethodId) (x0 : Addr) (x1 : Int32) (x2 : Addr) : entryFrame m #[(.ref x0), (.int x1), (.ref x2)] 3 = mkF m 0 #[.val (.ref x0), .val (.int x1), .val (.ref x2)] [] := by first | (simp [entryFrame, mkF, argsToLocals, Value.category]; done) | rfl
def Qei1 (Z : State) (xp : Addr) (sb : Int32) (a : Addr) (mc : Int32) (b : Addr) (ff : Nat → Value) (mr : Addr) (x1 : Addr) (em : Addr) (h0 : Heap) (n0 : Nat) (v : Option Value) (h : Heap) (L : List Loc) : Prop := ∃ r, v = none ∧ Fr n0 L ∧ Keep h0 h [xp] ∧ h0.size ≤ r ∧ Exa Z h r "java/util/ImmutableCollections$List12" ∧ Fld Z h xp "com/example/grant3/grant3/Explanation" "superadmin" "Z" (.int sb) ∧ Fld Z h xp "com/example/grant3/grant3/Explanation" "because" "Ljava/util/List;" (.ref r)
def Pei1 (Z : State) (xp : Addr) (sb : Int32) (a : Addr) (mc : Int32) (b : Addr) (ff : Nat → Value) (mr : Addr) (x1 : Addr) (em : Addr) (h0 : Heap) (n0 : Nat) (s : State) (oQ : Outcome) (U : State) : Prop := ∃ v L, oQ = .returned v ∧ Qei1 Z xp sb a mc b ff mr x1 em h0 n0 v U.heap L ∧ FrameEnd s oQ U L ({ frames := 8, cells := 2, slots := 3, locals := 125 } : Room).cells ({ frames := 8, cells := 2, slots := 3, locals := 125 } : Room).slots
set_option maxRecDepth 65536 in
set_option maxHeartbeats 40000000 in
theorem rmei1 (l : Launch) (Z : State) (a0 : Array Value) (hw : ∀ d ∈ tables_1, d.before a0 Z = true) (ws : List Jvm.Cond) (xp : Addr) (sb : Int32) (a : Addr) (mc : Int32) (b : Addr) (ff : Nat → Value) (mr : Addr) (x1 : Addr) (em : Addr) (h0 : Heap) (n0 : Nat) (Z0 : n0 ≤ h0.size) (E_xp : Exa Z h0 xp "com/example/grant3/grant3/Explanation") (F_superadmin_xp : Fld Z h0 xp "com/example/grant3/grant3/Explanation" "superadmin" "Z" (.int (0 : Int32))) (F_because_xp : Fld Z h0 xp "com/example/grant3/grant3/Explanation" "because" "Ljava/util/List;" .null) (g_xp : n0 ≤ xp) (hsb : narrow .boolean (.int sb) = .int sb ∧ fits .boolean (.int sb) = true) (E_a : Exa Z h0 a "java/util/ArrayList") (F_modCount_a : Fld Z h0 a "java/util/AbstractList" "modCount" "I" (.int mc)) (F_elementData_a : Fld Z h0 a "java/util/ArrayList" "elementData" "[Ljava/lang/Object;" (.ref b)) (F_size_a : Fld Z h0 a "java/util/ArrayList" "size" "I" (.int (1 : Int32))) (E_b : Exa Z h0 b "[Ljava/lang/Object;") (V_b : own_Rr Z h0 b "java/lang/Object" (10 : Int32) (ff)) (M_r : Mir Z "[Ljava/lang/Object;" mr) (E_x1 : Exa Z h0 x1 "com/example/grant3/grant3/Explanation$Reason") (hff : ∀ j, fits (.object "java/lang/Object") (ff j) = true) (hf : ∀ j, j < 1 → ff j = .ref x1) (Ol : Old Z n0 h0) (S_em : Sta Z Z.heap "java/util/ImmutableCollections" "EMPTY" "Ljava/lang/Object;" (.ref em)) :
    MetFree l (⟨"com/example/grant3/grant3/Explanation", "<init>", "(ZLjava/util/List;)V"⟩ : MethodName) (head1 (Jvm.Cond.code (⟨"com/example/grant3/grant3/Explanation", "<init>", "(ZLjava/util/List;)V"⟩ : MethodName) prog_3_method_1_code 3 none :: ws) ({ frames := 8, cells := 2, slots := 3, locals := 125 } : Room)) (fun aQ U => aQ = #[(.ref xp), (.int sb), (.ref a)] ∧ Z.Warmed39 U.vm ∧ U.heap = h0) (fun _ _ _ _ _ => True) (fun _ U oQ U' => ∃ v L, oQ = .returned v ∧ Qei1 Z xp sb a mc b ff mr x1 em h0 n0 v U'.heap L ∧ FrameEnd U oQ U' L ({ frames := 8, cells := 2, slots := 3, locals := 125 } : Room).cells ({ frames := 8, cells := 2, slots := 3, locals := 125 } : Room).slots) := by
  refine MetFree.of_bodySF (plainFor_of_name pn_25) hisR ?_
  intro p e s m args below meth c s₁ Bd hml0 hP hK
  obtain ⟨rfl, hZ, hh⟩ := hP
  have hx := Bd.exec
  have hby := Bd.bytes
  have hml : c.maxLocals = 3 := hml0
  have hown : s.vm.findClass "com/example/grant3/grant3/Explanation" = some m.cls := findClass_of_methodNamed Bd.named
  have hnm := (name_of_methodNamed Bd.named Bd.method).1
  have X0 : Stand p l e ({ frames := 8, cells := 2, slots := 3, locals := 125 } : Room) s m #[(.ref xp), (.int sb), (.ref a)] below meth c s₁ [] 0 0 := Stand.of_body Bd
  have e0 : s₁.heap = h0 := by rw [← hh, Bd.state]; rfl
  have Nf := Fr.nil n0
  have Zs : n0 ≤ h0.size := Z0
  have Kp : Keep h0 h0 [xp] := Keep.refl _ _
  have szr : h0.size ≤ h0.size := Nat.le_refl _
  show own_End p e below (Pei1 Z xp sb a mc b ff mr x1 em h0 n0 s) (s₁.setTop (entryFrame m #[(.ref xp), (.int sb), (.ref a)] 3))
  rw [ef_ei1]
  refine own_go (fun tQ kQ => XS.aloadN X0.here hx rfl (hb hby dei1_0) rfl rfl kQ) ?_
  show own_End p e below _ (s₁.setTop (mkF m 1 #[.val (.ref xp), .val (.int sb), .val (.ref a)] [(.ref xp)]))
  obtain ⟨_, _, ⟨T1, L1, k1, n1⟩, -, X1, ⟨Lc1, hQ1, l1, y1, z1⟩, st1⟩ := X0.specialBack hx (y := (⟨"java/lang/Record", "<init>", "()V"⟩ : MethodName)) rfl hown (mvT hZ (hw _ (List.mem_of_getElem? (i := 182) rfl))) (mvT hZ (hw _ (List.mem_of_getElem? (i := 133) rfl))) (mvT hZ (hw _ (List.mem_of_getElem? (i := 136) rfl))) (by decide) (backOf (W := 0) (rmR l Z a0 hw [] xp h0 n0 Zs ) hZ (hw _ (List.mem_of_getElem? (i := 136) rfl)) (hw _ (List.mem_of_getElem? (i := 135) rfl)) (by decide) (by decide)) (g := (mkF m 1 #[.val (.ref xp), .val (.int sb), .val (.ref a)] [(.ref xp)])) rfl (by rw [hml]; rfl) (Steps.refl _) (a := xp) (argsL := []) (rest := []) (lenOf pd_2 rfl) rfl (by show 2 * 0 + _ ≤ _; exact Nat.le_of_eq rfl) (hb hby dei1_1) (fun _ _ => ⟨rfl, e0, (Nat.le_of_ble_eq_true rfl), (Nat.le_of_ble_eq_true rfl)⟩)
  dsimp only [Pt.U, Pt.locs, Pt.cells, Pt.slots] at X1 l1 y1 z1 st1 hQ1
  rw [l1, y1, z1] at X1
  obtain ⟨rfl, N1q, e1⟩ := hQ1
  have Nf := Fr.app Nf N1q
  have X1 := own_pad (k' := 0) (n' := 0) X1 (by decide) (by decide)
  refine own_go (fun tQ kQ => st1.trans kQ) ?_
  show own_End p e below _ (T1.setTop (mkF m 4 #[.val (.ref xp), .val (.int sb), .val (.ref a)] []))
  refine own_go (fun tQ kQ => XS.aloadN X1.here hx rfl (hb hby dei1_4) rfl rfl kQ) ?_
  show own_End p e below _ (T1.setTop (mkF m 5 #[.val (.ref xp), .val (.int sb), .val (.ref a)] [(.ref a)]))
  obtain ⟨_, _, ⟨T2, L2, k2, n2⟩, -, X2, ⟨Lc2, hQ2, l2, y2, z2⟩, st2⟩ := Jvm.LawKit.callS X1 hx (y := (⟨"java/util/List", "copyOf", "(Ljava/util/Collection;)Ljava/util/List;"⟩ : MethodName)) hown (mvT hZ (hw _ (List.mem_of_getElem? (i := 183) rfl))) (mvT hZ (hw _ (List.mem_of_getElem? (i := 142) rfl))) (mvT hZ (hw _ (List.mem_of_getElem? (i := 143) rfl))) (mvT hZ (hw _ (List.mem_of_getElem? (i := 144) rfl))) (by decide) (backOf (W := 0) (rmco1 l Z a0 hw [] a mc b ff mr x1 em h0 n0 Zs E_a F_modCount_a F_elementData_a F_size_a E_b V_b M_r E_x1 hff hf Ol S_em) hZ (hw _ (List.mem_of_getElem? (i := 144) rfl)) (hw _ (List.mem_of_getElem? (i := 143) rfl)) (by decide) (by decide)) (g := (mkF m 5 #[.val (.ref xp), .val (.int sb), .val (.ref a)] [(.ref a)])) rfl (by rw [hml]; rfl) (argsL := [(.ref a)]) (rest := []) (lenOf pd_23 rfl) rfl (by show 2 * 0 + _ ≤ _; exact Nat.le_of_eq rfl) (hb hby dei1_5) (fun _ _ => ⟨rfl, e1, (Nat.le_of_ble_eq_true rfl), (Nat.le_of_ble_eq_true rfl)⟩)
  dsimp only [Pt.U, Pt.locs, Pt.cells, Pt.slots] at X2 l2 y2 z2 st2 hQ2
  rw [l2, y2, z2] at X2
  obtain ⟨r, rfl, N2q, K2, hb2, E_r⟩ := hQ2
  have Nf := Fr.app Nf N2q
  have ne_xp_r : xp ≠ r := Nat.ne_of_lt (Nat.lt_of_lt_of_le E_xp.lt hb2)
  have g_r : n0 ≤ r := Nat.le_trans Zs hb2
  have sz_r : h0.size ≤ r := Nat.le_trans szr hb2
  have E_xp := E_xp.keep K2
  have F_superadmin_xp := F_superadmin_xp.keep K2 nin0
  have F_because_xp := F_because_xp.keep K2 nin0
  have Ol := Ol.keep K2 all0
  have Kp := Kp.trans K2 all0
  have Zs := Nat.le_trans Zs K2.1
  have szr := Nat.le_trans szr K2.1
  have X2 := own_pad (k' := 2) (n' := 3) X2 (by decide) (by decide)
  refine own_go (fun tQ kQ => st2 tQ kQ) ?_
  show own_End p e below _ (T2.setTop (mkF m 8 #[.val (.ref xp), .val (.int sb), .val (.ref a)] [(.ref r)]))
  refine own_go (fun tQ kQ => XS.astoreN X2.here hx rfl (hb hby dei1_8) rfl rfl (l' := #[.val (.ref xp), .val (.int sb), .val (.ref r)]) rfl kQ) ?_
  show own_End p e below _ (T2.setTop (mkF m 9 #[.val (.ref xp), .val (.int sb), .val (.ref r)] []))
  refine own_go (fun tQ kQ => XS.aloadN X2.here hx rfl (hb hby dei1_9) rfl rfl kQ) ?_
  show own_End p e below _ (T2.setTop (mkF m 10 #[.val (.ref xp), .val (.int sb), .val (.ref r)] [(.ref xp)]))
  refine own_go (fun tQ kQ => XS.iloadN X2.here hx rfl (hb hby dei1_10) rfl kQ) ?_
  show own_End p e below _ (T2.setTop (mkF m 11 #[.val (.ref xp), .val (.int sb), .val (.ref r)] [(.int sb), (.ref xp)]))
  obtain ⟨T3, h3, X3, e3, W3, st3⟩ := putF X2 hx hZ hown (host := "") (Or.inl (hw _ (List.mem_of_getElem? (i := 184) rfl))) Via.refl rfl F_superadmin_xp E_xp (Or.inr ⟨(hw _ (List.mem_of_getElem? (i := 185) rfl)), rfl, hnm⟩) (hw _ (List.mem_of_getElem? (i := 177) rfl)) (ty := .boolean) (by decide) (hsb).1 (hsb).2 (g := (mkF m 11 #[.val (.ref xp), .val (.int sb), .val (.ref r)] [(.int sb), (.ref xp)])) rfl rfl (hb hby dei1_11)
  have F_superadmin_xp := F_superadmin_xp.same W3
  have E_xp := E_xp.wr W3
  have F_because_xp := F_because_xp.other W3 (Or.inr (slot_ne (Or.inr (hw _ (List.mem_of_getElem? (i := 187) rfl))) (Or.inr (hw _ (List.mem_of_getElem? (i := 185) rfl))) (by decide) (t := (.object "java/util/List")) (t' := .boolean) (by decide) (by decide)))
  have Ol := Ol.wr W3 g_xp
  have E_r := E_r.wr W3
  have Kp := Kp.wr W3 (Or.inl (List.mem_of_getElem? (i := 0) rfl))
  have Nf := Fr.snoc X3 Nf g_xp
  have Zs := Nat.le_trans Zs (Keep.of_wr W3).1
  have szr := Nat.le_trans szr (Keep.of_wr W3).1
  refine own_go (fun tQ kQ => st3 tQ kQ) ?_
  show own_End p e below _ (T3.setTop (mkF m 14 #[.val (.ref xp), .val (.int sb), .val (.ref r)] []))
  refine own_go (fun tQ kQ => XS.aloadN X3.here hx rfl (hb hby dei1_14) rfl rfl kQ) ?_
  show own_End p e below _ (T3.setTop (mkF m 15 #[.val (.ref xp), .val (.int sb), .val (.ref r)] [(.ref xp)]))
  refine own_go (fun tQ kQ => XS.aloadN X3.here hx rfl (hb hby dei1_15) rfl rfl kQ) ?_
  show own_End p e below _ (T3.setTop (mkF m 16 #[.val (.ref xp), .val (.int sb), .val (.ref r)] [(.ref r), (.ref xp)]))
  obtain ⟨T4, h4, X4, e4, W4, st4⟩ := putF X3 hx hZ hown (host := "") (Or.inl (hw _ (List.mem_of_getElem? (i := 186) rfl))) Via.refl e3 F_because_xp E_xp (Or.inr ⟨(hw _ (List.mem_of_getElem? (i := 187) rfl)), rfl, hnm⟩) (hw _ (List.mem_of_getElem? (i := 177) rfl)) (ty := (.object "java/util/List")) (by decide) rfl rfl (g := (mkF m 16 #[.val (.ref xp), .val (.int sb), .val (.ref r)] [(.ref r), (.ref xp)])) rfl rfl (hb hby dei1_16)
  have F_because_xp := F_because_xp.same W4
  have E_xp := E_xp.wr W4
  have F_superadmin_xp := F_superadmin_xp.other W4 (Or.inr (slot_ne (Or.inr (hw _ (List.mem_of_getElem? (i := 185) rfl))) (Or.inr (hw _ (List.mem_of_getElem? (i := 187) rfl))) (by decide) (t := .boolean) (t' := (.object "java/util/List")) (by decide) (by decide)))
  have Ol := Ol.wr W4 g_xp
  have E_r := E_r.wr W4
  have Kp := Kp.wr W4 (Or.inl (List.mem_of_getElem? (i := 0) rfl))
  have Nf := Fr.snoc X4 Nf g_xp
  have Zs := Nat.le_trans Zs (Keep.of_wr W4).1
  have szr := Nat.le_trans szr (Keep.of_wr W4).1
  refine own_go (fun tQ kQ => st4 tQ kQ) ?_
  show own_End p e below _ (T4.setTop (mkF m 19 #[.val (.ref xp), .val (.int sb), .val (.ref r)] []))
  obtain ⟨fs, hr, hrun, hended, hW, hsame⟩ := X4.leave (v := none) (fun _ => rfl)
  refine ⟨_, _, X4.returnOut hx Bd.returns (hb hby dei1_19) hr, hrun, hended, _, _, rfl, ?_, ⟨_, rfl⟩, hW, hsame.mono (by decide) (by decide)⟩
  show Qei1 Z xp sb a mc b ff mr x1 em h0 n0 _ T4.heap _
  rw [e4]
  exact ⟨r, rfl, Nf, Kp, sz_r, E_r, F_superadmin_xp, F_because_xp⟩
theorem dei2_0 : decode prog_3_method_1_code 0 = .ok (.aload_n 0, 1) := by decide +kernel
theorem dei2_1 : decode prog_3_method_1_code 1 = .ok (.invokespecial 1, 3) := by decide +kernel
theorem dei2_4 : decode prog_3_method_1_code 4 = .ok (.aload_n 2, 1) := by decide +kernel
theorem dei2_5 : decode prog_3_method_1_code 5 = .ok (.invokestatic 7, 3) := by decide +kernel
theorem dei2_8 : decode prog_3_method_1_code 8 = .ok (.astore_n 2, 1) := by decide +kernel
theorem dei2_9 : decode prog_3_method_1_code 9 = .ok (.aload_n 0, 1) := by decide +kernel
theorem dei2_10 : decode prog_3_method_1_code 10 = .ok (.iload_n 1, 1) := by decide +kernel
theorem dei2_11 : decode prog_3_method_1_code 11 = .ok (.putfield 13, 3) := by decide +kernel
theorem dei2_14 : decode prog_3_method_1_code 14 = .ok (.aload_n 0, 1) := by decide +kernel
theorem dei2_15 : decode prog_3_method_1_code 15 = .ok (.aload_n 2, 1) := by decide +kernel
theorem dei2_16 : decode prog_3_method_1_code 16 = .ok (.putfield 19, 3) := by decide +kernel
theorem dei2_19 : decode prog_3_method_1_code 19 = .ok (.return_, 1) := by decide +kernel
theorem ef_ei2 (m : MethodId) (x0 : Addr) (x1 : Int32) (x2 : Addr) : entryFrame m #[(.ref x0), (.int x1), (.ref x2)] 3 = mkF m 0 #[.val (.ref x0), .val (.int x1), .val (.ref x2)] [] := by first | (simp [entryFrame, mkF, argsToLocals, Value.category]; done) | rfl
def Qei2 (Z : State) (xp : Addr) (sb : Int32) (a : Addr) (mc : Int32) (b : Addr) (ff : Nat → Value) (mr : Addr) (x1 : Addr) (em : Addr) (h0 : Heap) (n0 : Nat) (v : Option Value) (h : Heap) (L : List Loc) : Prop := ∃ r, v = none ∧ Fr n0 L ∧ Keep h0 h [xp] ∧ h0.size ≤ r ∧ Exa Z h r "java/util/ImmutableCollections$List12" ∧ Fld Z h xp "com/example/grant3/grant3/Explanation" "superadmin" "Z" (.int sb) ∧ Fld Z h xp "com/example/grant3/grant3/Explanation" "because" "Ljava/util/List;" (.ref r)
def Pei2 (Z : State) (xp : Addr) (sb : Int32) (a : Addr) (mc : Int32) (b : Addr) (ff : Nat → Value) (mr : Addr) (x1 : Addr) (em : Addr) (h0 : Heap) (n0 : Nat) (s : State) (oQ : Outcome) (U : State) : Prop := ∃ v L, oQ = .returned v ∧ Qei2 Z xp sb a mc b ff mr x1 em h0 n0 v U.heap L ∧ FrameEnd s oQ U L ({ frames := 8, cells := 2, slots := 4, locals := 125 } : Room).cells ({ frames := 8, cells := 2, slots := 4, locals := 125 } : Room).slots
set_option maxRecDepth 65536 in
set_option maxHeartbeats 40000000 in
theorem rmei2 (l : Launch) (Z : State) (a0 : Array Value) (hw : ∀ d ∈ tables_1, d.before a0 Z = true) (ws : List Jvm.Cond) (xp : Addr) (sb : Int32) (a : Addr) (mc : Int32) (b : Addr) (ff : Nat → Value) (mr : Addr) (x1 : Addr) (em : Addr) (h0 : Heap) (n0 : Nat) (Z0 : n0 ≤ h0.size) (E_xp : Exa Z h0 xp "com/example/grant3/grant3/Explanation") (F_superadmin_xp : Fld Z h0 xp "com/example/grant3/grant3/Explanation" "superadmin" "Z" (.int (0 : Int32))) (F_because_xp : Fld Z h0 xp "com/example/grant3/grant3/Explanation" "because" "Ljava/util/List;" .null) (g_xp : n0 ≤ xp) (hsb : narrow .boolean (.int sb) = .int sb ∧ fits .boolean (.int sb) = true) (E_a : Exa Z h0 a "java/util/ArrayList") (F_modCount_a : Fld Z h0 a "java/util/AbstractList" "modCount" "I" (.int mc)) (F_elementData_a : Fld Z h0 a "java/util/ArrayList" "elementData" "[Ljava/lang/Object;" (.ref b)) (F_size_a : Fld Z h0 a "java/util/ArrayList" "size" "I" (.int (2 : Int32))) (E_b : Exa Z h0 b "[Ljava/lang/Object;") (V_b : own_Rr Z h0 b "java/lang/Object" (10 : Int32) (ff)) (M_r : Mir Z "[Ljava/lang/Object;" mr) (E_x1 : Exa Z h0 x1 "com/example/grant3/grant3/Explanation$Reason") (hff : ∀ j, fits (.object "java/lang/Object") (ff j) = true) (hf : ∀ j, j < 2 → ff j = .ref x1) (Ol : Old Z n0 h0) (S_em : Sta Z Z.heap "java/util/ImmutableCollections" "EMPTY" "Ljava/lang/Object;" (.ref em)) :
    MetFree l (⟨"com/example/grant3/grant3/Explanation", "<init>", "(ZLjava/util/List;)V"⟩ : MethodName) (head1 (Jvm.Cond.code (⟨"com/example/grant3/grant3/Explanation", "<init>", "(ZLjava/util/List;)V"⟩ : MethodName) prog_3_method_1_code 3 none :: ws) ({ frames := 8, cells := 2, slots := 4, locals := 125 } : Room)) (fun aQ U => aQ = #[(.ref xp), (.int sb), (.ref a)] ∧ Z.Warmed39 U.vm ∧ U.heap = h0) (fun _ _ _ _ _ => True) (fun _ U oQ U' => ∃ v L, oQ = .returned v ∧ Qei2 Z xp sb a mc b ff mr x1 em h0 n0 v U'.heap L ∧ FrameEnd U oQ U' L ({ frames := 8, cells := 2, slots := 4, locals := 125 } : Room).cells ({ frames := 8, cells := 2, slots := 4, locals := 125 } : Room).slots) := by
  refine MetFree.of_bodySF (plainFor_of_name pn_25) hisR ?_
  intro p e s m args below meth c s₁ Bd hml0 hP hK
  obtain ⟨rfl, hZ, hh⟩ := hP
  have hx := Bd.exec
  have hby := Bd.bytes
  have hml : c.maxLocals = 3 := hml0
  have hown : s.vm.findClass "com/example/grant3/grant3/Explanation" = some m.cls := findClass_of_methodNamed Bd.named
  have hnm := (name_of_methodNamed Bd.named Bd.method).1
  have X0 : Stand p l e ({ frames := 8, cells := 2, slots := 4, locals := 125 } : Room) s m #[(.ref xp), (.int sb), (.ref a)] below meth c s₁ [] 0 0 := Stand.of_body Bd
  have e0 : s₁.heap = h0 := by rw [← hh, Bd.state]; rfl
  have Nf := Fr.nil n0
  have Zs : n0 ≤ h0.size := Z0
  have Kp : Keep h0 h0 [xp] := Keep.refl _ _
  have szr : h0.size ≤ h0.size := Nat.le_refl _
  show own_End p e below (Pei2 Z xp sb a mc b ff mr x1 em h0 n0 s) (s₁.setTop (entryFrame m #[(.ref xp), (.int sb), (.ref a)] 3))
  rw [ef_ei2]
  refine own_go (fun tQ kQ => XS.aloadN X0.here hx rfl (hb hby dei2_0) rfl rfl kQ) ?_
  show own_End p e below _ (s₁.setTop (mkF m 1 #[.val (.ref xp), .val (.int sb), .val (.ref a)] [(.ref xp)]))
  obtain ⟨_, _, ⟨T1, L1, k1, n1⟩, -, X1, ⟨Lc1, hQ1, l1, y1, z1⟩, st1⟩ := X0.specialBack hx (y := (⟨"java/lang/Record", "<init>", "()V"⟩ : MethodName)) rfl hown (mvT hZ (hw _ (List.mem_of_getElem? (i := 182) rfl))) (mvT hZ (hw _ (List.mem_of_getElem? (i := 133) rfl))) (mvT hZ (hw _ (List.mem_of_getElem? (i := 136) rfl))) (by decide) (backOf (W := 0) (rmR l Z a0 hw [] xp h0 n0 Zs ) hZ (hw _ (List.mem_of_getElem? (i := 136) rfl)) (hw _ (List.mem_of_getElem? (i := 135) rfl)) (by decide) (by decide)) (g := (mkF m 1 #[.val (.ref xp), .val (.int sb), .val (.ref a)] [(.ref xp)])) rfl (by rw [hml]; rfl) (Steps.refl _) (a := xp) (argsL := []) (rest := []) (lenOf pd_2 rfl) rfl (by show 2 * 0 + _ ≤ _; exact Nat.le_of_eq rfl) (hb hby dei2_1) (fun _ _ => ⟨rfl, e0, (Nat.le_of_ble_eq_true rfl), (Nat.le_of_ble_eq_true rfl)⟩)
  dsimp only [Pt.U, Pt.locs, Pt.cells, Pt.slots] at X1 l1 y1 z1 st1 hQ1
  rw [l1, y1, z1] at X1
  obtain ⟨rfl, N1q, e1⟩ := hQ1
  have Nf := Fr.app Nf N1q
  have X1 := own_pad (k' := 0) (n' := 0) X1 (by decide) (by decide)
  refine own_go (fun tQ kQ => st1.trans kQ) ?_
  show own_End p e below _ (T1.setTop (mkF m 4 #[.val (.ref xp), .val (.int sb), .val (.ref a)] []))
  refine own_go (fun tQ kQ => XS.aloadN X1.here hx rfl (hb hby dei2_4) rfl rfl kQ) ?_
  show own_End p e below _ (T1.setTop (mkF m 5 #[.val (.ref xp), .val (.int sb), .val (.ref a)] [(.ref a)]))
  obtain ⟨_, _, ⟨T2, L2, k2, n2⟩, -, X2, ⟨Lc2, hQ2, l2, y2, z2⟩, st2⟩ := Jvm.LawKit.callS X1 hx (y := (⟨"java/util/List", "copyOf", "(Ljava/util/Collection;)Ljava/util/List;"⟩ : MethodName)) hown (mvT hZ (hw _ (List.mem_of_getElem? (i := 183) rfl))) (mvT hZ (hw _ (List.mem_of_getElem? (i := 142) rfl))) (mvT hZ (hw _ (List.mem_of_getElem? (i := 143) rfl))) (mvT hZ (hw _ (List.mem_of_getElem? (i := 144) rfl))) (by decide) (backOf (W := 0) (rmco2 l Z a0 hw [] a mc b ff mr x1 em h0 n0 Zs E_a F_modCount_a F_elementData_a F_size_a E_b V_b M_r E_x1 hff hf Ol S_em) hZ (hw _ (List.mem_of_getElem? (i := 144) rfl)) (hw _ (List.mem_of_getElem? (i := 143) rfl)) (by decide) (by decide)) (g := (mkF m 5 #[.val (.ref xp), .val (.int sb), .val (.ref a)] [(.ref a)])) rfl (by rw [hml]; rfl) (argsL := [(.ref a)]) (rest := []) (lenOf pd_23 rfl) rfl (by show 2 * 0 + _ ≤ _; exact Nat.le_of_eq rfl) (hb hby dei2_5) (fun _ _ => ⟨rfl, e1, (Nat.le_of_ble_eq_true rfl), (Nat.le_of_ble_eq_true rfl)⟩)
  dsimp only [Pt.U, Pt.locs, Pt.cells, Pt.slots] at X2 l2 y2 z2 st2 hQ2
  rw [l2, y2, z2] at X2
  obtain ⟨r, rfl, N2q, K2, hb2, E_r⟩ := hQ2
  have Nf := Fr.app Nf N2q
  have ne_xp_r : xp ≠ r := Nat.ne_of_lt (Nat.lt_of_lt_of_le E_xp.lt hb2)
  have g_r : n0 ≤ r := Nat.le_trans Zs hb2
  have sz_r : h0.size ≤ r := Nat.le_trans szr hb2
  have E_xp := E_xp.keep K2
  have F_superadmin_xp := F_superadmin_xp.keep K2 nin0
  have F_because_xp := F_because_xp.keep K2 nin0
  have Ol := Ol.keep K2 all0
  have Kp := Kp.trans K2 all0
  have Zs := Nat.le_trans Zs K2.1
  have szr := Nat.le_trans szr K2.1
  have X2 := own_pad (k' := 2) (n' := 4) X2 (by decide) (by decide)
  refine own_go (fun tQ kQ => st2 tQ kQ) ?_
  show own_End p e below _ (T2.setTop (mkF m 8 #[.val (.ref xp), .val (.int sb), .val (.ref a)] [(.ref r)]))
  refine own_go (fun tQ kQ => XS.astoreN X2.here hx rfl (hb hby dei2_8) rfl rfl (l' := #[.val (.ref xp), .val (.int sb), .val (.ref r)]) rfl kQ) ?_
  show own_End p e below _ (T2.setTop (mkF m 9 #[.val (.ref xp), .val (.int sb), .val (.ref r)] []))
  refine own_go (fun tQ kQ => XS.aloadN X2.here hx rfl (hb hby dei2_9) rfl rfl kQ) ?_
  show own_End p e below _ (T2.setTop (mkF m 10 #[.val (.ref xp), .val (.int sb), .val (.ref r)] [(.ref xp)]))
  refine own_go (fun tQ kQ => XS.iloadN X2.here hx rfl (hb hby dei2_10) rfl kQ) ?_
  show own_End p e below _ (T2.setTop (mkF m 11 #[.val (.ref xp), .val (.int sb), .val (.ref r)] [(.int sb), (.ref xp)]))
  obtain ⟨T3, h3, X3, e3, W3, st3⟩ := putF X2 hx hZ hown (host := "") (Or.inl (hw _ (List.mem_of_getElem? (i := 184) rfl))) Via.refl rfl F_superadmin_xp E_xp (Or.inr ⟨(hw _ (List.mem_of_getElem? (i := 185) rfl)), rfl, hnm⟩) (hw _ (List.mem_of_getElem? (i := 177) rfl)) (ty := .boolean) (by decide) (hsb).1 (hsb).2 (g := (mkF m 11 #[.val (.ref xp), .val (.int sb), .val (.ref r)] [(.int sb), (.ref xp)])) rfl rfl (hb hby dei2_11)
  have F_superadmin_xp := F_superadmin_xp.same W3
  have E_xp := E_xp.wr W3
  have F_because_xp := F_because_xp.other W3 (Or.inr (slot_ne (Or.inr (hw _ (List.mem_of_getElem? (i := 187) rfl))) (Or.inr (hw _ (List.mem_of_getElem? (i := 185) rfl))) (by decide) (t := (.object "java/util/List")) (t' := .boolean) (by decide) (by decide)))
  have Ol := Ol.wr W3 g_xp
  have E_r := E_r.wr W3
  have Kp := Kp.wr W3 (Or.inl (List.mem_of_getElem? (i := 0) rfl))
  have Nf := Fr.snoc X3 Nf g_xp
  have Zs := Nat.le_trans Zs (Keep.of_wr W3).1
  have szr := Nat.le_trans szr (Keep.of_wr W3).1
  refine own_go (fun tQ kQ => st3 tQ kQ) ?_
  show own_End p e below _ (T3.setTop (mkF m 14 #[.val (.ref xp), .val (.int sb), .val (.ref r)] []))
  refine own_go (fun tQ kQ => XS.aloadN X3.here hx rfl (hb hby dei2_14) rfl rfl kQ) ?_
  show own_End p e below _ (T3.setTop (mkF m 15 #[.val (.ref xp), .val (.int sb), .val (.ref r)] [(.ref xp)]))
  refine own_go (fun tQ kQ => XS.aloadN X3.here hx rfl (hb hby dei2_15) rfl rfl kQ) ?_
  show own_End p e below _ (T3.setTop (mkF m 16 #[.val (.ref xp), .val (.int sb), .val (.ref r)] [(.ref r), (.ref xp)]))
  obtain ⟨T4, h4, X4, e4, W4, st4⟩ := putF X3 hx hZ hown (host := "") (Or.inl (hw _ (List.mem_of_getElem? (i := 186) rfl))) Via.refl e3 F_because_xp E_xp (Or.inr ⟨(hw _ (List.mem_of_getElem? (i := 187) rfl)), rfl, hnm⟩) (hw _ (List.mem_of_getElem? (i := 177) rfl)) (ty := (.object "java/util/List")) (by decide) rfl rfl (g := (mkF m 16 #[.val (.ref xp), .val (.int sb), .val (.ref r)] [(.ref r), (.ref xp)])) rfl rfl (hb hby dei2_16)
  have F_because_xp := F_because_xp.same W4
  have E_xp := E_xp.wr W4
  have F_superadmin_xp := F_superadmin_xp.other W4 (Or.inr (slot_ne (Or.inr (hw _ (List.mem_of_getElem? (i := 185) rfl))) (Or.inr (hw _ (List.mem_of_getElem? (i := 187) rfl))) (by decide) (t := .boolean) (t' := (.object "java/util/List")) (by decide) (by decide)))
  have Ol := Ol.wr W4 g_xp
  have E_r := E_r.wr W4
  have Kp := Kp.wr W4 (Or.inl (List.mem_of_getElem? (i := 0) rfl))
  have Nf := Fr.snoc X4 Nf g_xp
  have Zs := Nat.le_trans Zs (Keep.of_wr W4).1
  have szr := Nat.le_trans szr (Keep.of_wr W4).1
  refine own_go (fun tQ kQ => st4 tQ kQ) ?_
  show own_End p e below _ (T4.setTop (mkF m 19 #[.val (.ref xp), .val (.int sb), .val (.ref r)] []))
  obtain ⟨fs, hr, hrun, hended, hW, hsame⟩ := X4.leave (v := none) (fun _ => rfl)
  refine ⟨_, _, X4.returnOut hx Bd.returns (hb hby dei2_19) hr, hrun, hended, _, _, rfl, ?_, ⟨_, rfl⟩, hW, hsame.mono (by decide) (by decide)⟩
  show Qei2 Z xp sb a mc b ff mr x1 em h0 n0 _ T4.heap _
  rw [e4]
  exact ⟨r, rfl, Nf, Kp, sz_r, E_r, F_superadmin_xp, F_because_xp⟩
theorem dlne_0 : decode jdk_45_method_2_code 0 = .ok (.aload_n 0, 1) := by decide +kernel
theorem dlne_1 : decode jdk_45_method_2_code 1 = .ok (.getfield 7, 3) := by decide +kernel
theorem dlne_4 : decode jdk_45_method_2_code 4 = .ok (.arraylength, 1) := by decide +kernel
theorem dlne_5 : decode jdk_45_method_2_code 5 = .ok (.ifCond .ne 7, 3) := by decide +kernel
theorem dlne_8 : decode jdk_45_method_2_code 8 = .ok (.iconst 1, 1) := by decide +kernel
theorem dlne_9 : decode jdk_45_method_2_code 9 = .ok (.goto 4, 3) := by decide +kernel
theorem dlne_13 : decode jdk_45_method_2_code 13 = .ok (.ireturn, 1) := by decide +kernel
theorem pn_26 : plainName "java/util/ImmutableCollections$ListN" = true := by first | (simp [plainName, overriddenIn]; done) | decide +kernel
theorem ef_lne (m : MethodId) (x0 : Addr) : entryFrame m #[(.ref x0)] 1 = mkF m 0 #[.val (.ref x0)] [] := by first | (simp [entryFrame, mkF, argsToLocals, Value.category]; done) | rfl
def Qlne (Z : State) (el : Addr) (ee : Addr) (fe : Nat → Value) (h0 : Heap) (n0 : Nat) (v : Option Value) (h : Heap) (L : List Loc) : Prop := v = some (.int 1) ∧ Fr n0 L ∧ h = h0
def Plne (Z : State) (el : Addr) (ee : Addr) (fe : Nat → Value) (h0 : Heap) (n0 : Nat) (s : State) (oQ : Outcome) (U : State) : Prop := ∃ v L, oQ = .returned v ∧ Qlne Z el ee fe h0 n0 v U.heap L ∧ FrameEnd s oQ U L ({ frames := 0, cells := 0, slots := 0, locals := 0 } : Room).cells ({ frames := 0, cells := 0, slots := 0, locals := 0 } : Room).slots
set_option maxRecDepth 65536 in
set_option maxHeartbeats 40000000 in
theorem rmlne (l : Launch) (Z : State) (a0 : Array Value) (hw : ∀ d ∈ tables_1, d.before a0 Z = true) (ws : List Jvm.Cond) (el : Addr) (ee : Addr) (fe : Nat → Value) (h0 : Heap) (n0 : Nat) (Z0 : n0 ≤ h0.size) (F_elements_el : Fld Z h0 el "java/util/ImmutableCollections$ListN" "elements" "[Ljava/lang/Object;" (.ref ee)) (V_ee : own_Ar Z h0 ee (.object "java/lang/Object") (0 : Int32) fe) :
    MetFree l (⟨"java/util/ImmutableCollections$ListN", "isEmpty", "()Z"⟩ : MethodName) (head1 (Jvm.Cond.code (⟨"java/util/ImmutableCollections$ListN", "isEmpty", "()Z"⟩ : MethodName) jdk_45_method_2_code 1 (some .boolean) :: ws) ({ frames := 0, cells := 0, slots := 0, locals := 0 } : Room)) (fun aQ U => aQ = #[(.ref el)] ∧ Z.Warmed39 U.vm ∧ U.heap = h0) (fun _ _ _ _ _ => True) (fun _ U oQ U' => ∃ v L, oQ = .returned v ∧ Qlne Z el ee fe h0 n0 v U'.heap L ∧ FrameEnd U oQ U' L ({ frames := 0, cells := 0, slots := 0, locals := 0 } : Room).cells ({ frames := 0, cells := 0, slots := 0, locals := 0 } : Room).slots) := by
  refine MetFree.of_bodySF (plainFor_of_name pn_26) hisR ?_
  intro p e s m args below meth c s₁ Bd hml0 hP hK
  obtain ⟨rfl, hZ, hh⟩ := hP
  have hx := Bd.exec
  have hby := Bd.bytes
  have hml : c.maxLocals = 1 := hml0
  have hown : s.vm.findClass "java/util/ImmutableCollections$ListN" = some m.cls := findClass_of_methodNamed Bd.named
  have hnm := (name_of_methodNamed Bd.named Bd.method).1
  have X0 : Stand p l e ({ frames := 0, cells := 0, slots := 0, locals := 0 } : Room) s m #[(.ref el)] below meth c s₁ [] 0 0 := Stand.of_body Bd
  have e0 : s₁.heap = h0 := by rw [← hh, Bd.state]; rfl
  have Nf := Fr.nil n0
  have Zs : n0 ≤ h0.size := Z0
  have Kp : Keep h0 h0 [] := Keep.refl _ _
  have szr : h0.size ≤ h0.size := Nat.le_refl _
  show own_End p e below (Plne Z el ee fe h0 n0 s) (s₁.setTop (entryFrame m #[(.ref el)] 1))
  rw [ef_lne]
  refine own_go (fun tQ kQ => XS.aloadN X0.here hx rfl (hb hby dlne_0) rfl rfl kQ) ?_
  show own_End p e below _ (s₁.setTop (mkF m 1 #[.val (.ref el)] [(.ref el)]))
  obtain ⟨T1, X1, e1, st1⟩ := getF X0 hx hZ hown (host := "") (Or.inl (hw _ (List.mem_of_getElem? (i := 232) rfl))) Via.refl e0 F_elements_el (g := (mkF m 1 #[.val (.ref el)] [(.ref el)])) rfl rfl (hb hby dlne_1)
  refine own_go (fun tQ kQ => st1 tQ kQ) ?_
  show own_End p e below _ (T1.setTop (mkF m 4 #[.val (.ref el)] [(.ref ee)]))
  obtain ⟨cl2, Ar2, S2, M2, H2⟩ := id V_ee
  refine own_go (fun tQ kQ => X1.arraylength hx (by rw [e1]; exact Ar2.1) (State.isArrayOf_alike hZ.alike Ar2.2.1) (g := (mkF m 4 #[.val (.ref el)] [(.ref ee)])) rfl rfl (hb hby dlne_4) _ kQ) ?_
  rw [len_of S2 M2]
  show own_End p e below _ (T1.setTop (mkF m 5 #[.val (.ref el)] [(.int (0 : Int32))]))
  refine own_go (fun tQ kQ => XS.ifNo X1.here hx rfl (hb hby dlne_5) rfl ((if0 _ _).trans (teq (by decide)).2) kQ) ?_
  show own_End p e below _ (T1.setTop (mkF m 8 #[.val (.ref el)] []))
  refine own_go (fun tQ kQ => XS.iconst X1.here hx rfl (hb hby dlne_8) kQ) ?_
  show own_End p e below _ (T1.setTop (mkF m 9 #[.val (.ref el)] [(.int (1 : Int32))]))
  refine own_go (fun tQ kQ => XS.goto X1.here hx rfl (pc0 := 9) (pc' := 13) rfl (hb hby dlne_9) (by decide) (by decide) kQ) ?_
  show own_End p e below _ (T1.setTop (mkF m 13 #[.val (.ref el)] [(.int (1 : Int32))]))
  obtain ⟨fs, hr, hrun, hended, hW, hsame⟩ := X1.leave (v := some (.int (1 : Int32))) (fun h => by rw [Bd.returns] at h; cases h)
  refine ⟨_, _, (retN X1 hx (t := .boolean) Bd.returns (by simp) (hb hby dlne_13) hr), hrun, hended, _, _, rfl, ?_, ⟨_, rfl⟩, hW, hsame.mono (by decide) (by decide)⟩
  show Qlne Z el ee fe h0 n0 _ T1.heap _
  rw [e1]
  exact ⟨rfl, Nf, rfl⟩
theorem dl12e_0 : decode jdk_44_method_4_code 0 = .ok (.iconst 0, 1) := by decide +kernel
theorem dl12e_1 : decode jdk_44_method_4_code 1 = .ok (.ireturn, 1) := by decide +kernel
theorem ef_l12e (m : MethodId) (x0 : Addr) : entryFrame m #[(.ref x0)] 1 = mkF m 0 #[.val (.ref x0)] [] := by first | (simp [entryFrame, mkF, argsToLocals, Value.category]; done) | rfl
def Ql12e (Z : State) (a : Addr) (h0 : Heap) (n0 : Nat) (v : Option Value) (h : Heap) (L : List Loc) : Prop := v = some (.int 0) ∧ Fr n0 L ∧ h = h0
def Pl12e (Z : State) (a : Addr) (h0 : Heap) (n0 : Nat) (s : State) (oQ : Outcome) (U : State) : Prop := ∃ v L, oQ = .returned v ∧ Ql12e Z a h0 n0 v U.heap L ∧ FrameEnd s oQ U L ({ frames := 0, cells := 0, slots := 0, locals := 0 } : Room).cells ({ frames := 0, cells := 0, slots := 0, locals := 0 } : Room).slots
set_option maxRecDepth 65536 in
set_option maxHeartbeats 40000000 in
theorem rml12e (l : Launch) (Z : State) (a0 : Array Value) (hw : ∀ d ∈ tables_1, d.before a0 Z = true) (ws : List Jvm.Cond) (a : Addr) (h0 : Heap) (n0 : Nat) (Z0 : n0 ≤ h0.size)  :
    MetFree l (⟨"java/util/ImmutableCollections$List12", "isEmpty", "()Z"⟩ : MethodName) (head1 (Jvm.Cond.code (⟨"java/util/ImmutableCollections$List12", "isEmpty", "()Z"⟩ : MethodName) jdk_44_method_4_code 1 (some .boolean) :: ws) ({ frames := 0, cells := 0, slots := 0, locals := 0 } : Room)) (fun aQ U => aQ = #[(.ref a)] ∧ Z.Warmed39 U.vm ∧ U.heap = h0) (fun _ _ _ _ _ => True) (fun _ U oQ U' => ∃ v L, oQ = .returned v ∧ Ql12e Z a h0 n0 v U'.heap L ∧ FrameEnd U oQ U' L ({ frames := 0, cells := 0, slots := 0, locals := 0 } : Room).cells ({ frames := 0, cells := 0, slots := 0, locals := 0 } : Room).slots) := by
  refine MetFree.of_bodySF (plainFor_of_name pn_17) hisR ?_
  intro p e s m args below meth c s₁ Bd hml0 hP hK
  obtain ⟨rfl, hZ, hh⟩ := hP
  have hx := Bd.exec
  have hby := Bd.bytes
  have hml : c.maxLocals = 1 := hml0
  have hown : s.vm.findClass "java/util/ImmutableCollections$List12" = some m.cls := findClass_of_methodNamed Bd.named
  have hnm := (name_of_methodNamed Bd.named Bd.method).1
  have X0 : Stand p l e ({ frames := 0, cells := 0, slots := 0, locals := 0 } : Room) s m #[(.ref a)] below meth c s₁ [] 0 0 := Stand.of_body Bd
  have e0 : s₁.heap = h0 := by rw [← hh, Bd.state]; rfl
  have Nf := Fr.nil n0
  have Zs : n0 ≤ h0.size := Z0
  have Kp : Keep h0 h0 [] := Keep.refl _ _
  have szr : h0.size ≤ h0.size := Nat.le_refl _
  show own_End p e below (Pl12e Z a h0 n0 s) (s₁.setTop (entryFrame m #[(.ref a)] 1))
  rw [ef_l12e]
  refine own_go (fun tQ kQ => XS.iconst X0.here hx rfl (hb hby dl12e_0) kQ) ?_
  show own_End p e below _ (s₁.setTop (mkF m 1 #[.val (.ref a)] [(.int (0 : Int32))]))
  obtain ⟨fs, hr, hrun, hended, hW, hsame⟩ := X0.leave (v := some (.int (0 : Int32))) (fun h => by rw [Bd.returns] at h; cases h)
  refine ⟨_, _, (retN X0 hx (t := .boolean) Bd.returns (by simp) (hb hby dl12e_1) hr), hrun, hended, _, _, rfl, ?_, ⟨_, rfl⟩, hW, hsame.mono (by decide) (by decide)⟩
  show Ql12e Z a h0 n0 _ s₁.heap _
  rw [e0]
  exact ⟨rfl, Nf, rfl⟩
theorem daw1_0 : decode prog_3_method_2_code 0 = .ok (.aload_n 0, 1) := by decide +kernel
theorem daw1_1 : decode prog_3_method_2_code 1 = .ok (.getfield 13, 3) := by decide +kernel
theorem daw1_4 : decode prog_3_method_2_code 4 = .ok (.ifCond .ne 15, 3) := by decide +kernel
theorem daw1_19 : decode prog_3_method_2_code 19 = .ok (.iconst 1, 1) := by decide +kernel
theorem daw1_20 : decode prog_3_method_2_code 20 = .ok (.goto 4, 3) := by decide +kernel
theorem daw1_24 : decode prog_3_method_2_code 24 = .ok (.ireturn, 1) := by decide +kernel
theorem ef_aw1 (m : MethodId) (x0 : Addr) : entryFrame m #[(.ref x0)] 1 = mkF m 0 #[.val (.ref x0)] [] := by first | (simp [entryFrame, mkF, argsToLocals, Value.category]; done) | rfl
def Qaw1 (Z : State) (xp : Addr) (h0 : Heap) (n0 : Nat) (v : Option Value) (h : Heap) (L : List Loc) : Prop := v = some (.int 1) ∧ Fr n0 L ∧ h = h0
def Paw1 (Z : State) (xp : Addr) (h0 : Heap) (n0 : Nat) (s : State) (oQ : Outcome) (U : State) : Prop := ∃ v L, oQ = .returned v ∧ Qaw1 Z xp h0 n0 v U.heap L ∧ FrameEnd s oQ U L ({ frames := 0, cells := 0, slots := 0, locals := 0 } : Room).cells ({ frames := 0, cells := 0, slots := 0, locals := 0 } : Room).slots
set_option maxRecDepth 65536 in
set_option maxHeartbeats 40000000 in
theorem rmaw1 (l : Launch) (Z : State) (a0 : Array Value) (hw : ∀ d ∈ tables_1, d.before a0 Z = true) (ws : List Jvm.Cond) (xp : Addr) (h0 : Heap) (n0 : Nat) (Z0 : n0 ≤ h0.size) (F_superadmin_xp : Fld Z h0 xp "com/example/grant3/grant3/Explanation" "superadmin" "Z" (.int (1 : Int32))) :
    MetFree l (⟨"com/example/grant3/grant3/Explanation", "allowed", "()Z"⟩ : MethodName) (head1 (Jvm.Cond.code (⟨"com/example/grant3/grant3/Explanation", "allowed", "()Z"⟩ : MethodName) prog_3_method_2_code 1 (some .boolean) :: ws) ({ frames := 0, cells := 0, slots := 0, locals := 0 } : Room)) (fun aQ U => aQ = #[(.ref xp)] ∧ Z.Warmed39 U.vm ∧ U.heap = h0) (fun _ _ _ _ _ => True) (fun _ U oQ U' => ∃ v L, oQ = .returned v ∧ Qaw1 Z xp h0 n0 v U'.heap L ∧ FrameEnd U oQ U' L ({ frames := 0, cells := 0, slots := 0, locals := 0 } : Room).cells ({ frames := 0, cells := 0, slots := 0, locals := 0 } : Room).slots) := by
  refine MetFree.of_bodySF (plainFor_of_name pn_25) hisR ?_
  intro p e s m args below meth c s₁ Bd hml0 hP hK
  obtain ⟨rfl, hZ, hh⟩ := hP
  have hx := Bd.exec
  have hby := Bd.bytes
  have hml : c.maxLocals = 1 := hml0
  have hown : s.vm.findClass "com/example/grant3/grant3/Explanation" = some m.cls := findClass_of_methodNamed Bd.named
  have hnm := (name_of_methodNamed Bd.named Bd.method).1
  have X0 : Stand p l e ({ frames := 0, cells := 0, slots := 0, locals := 0 } : Room) s m #[(.ref xp)] below meth c s₁ [] 0 0 := Stand.of_body Bd
  have e0 : s₁.heap = h0 := by rw [← hh, Bd.state]; rfl
  have Nf := Fr.nil n0
  have Zs : n0 ≤ h0.size := Z0
  have Kp : Keep h0 h0 [] := Keep.refl _ _
  have szr : h0.size ≤ h0.size := Nat.le_refl _
  show own_End p e below (Paw1 Z xp h0 n0 s) (s₁.setTop (entryFrame m #[(.ref xp)] 1))
  rw [ef_aw1]
  refine own_go (fun tQ kQ => XS.aloadN X0.here hx rfl (hb hby daw1_0) rfl rfl kQ) ?_
  show own_End p e below _ (s₁.setTop (mkF m 1 #[.val (.ref xp)] [(.ref xp)]))
  obtain ⟨T1, X1, e1, st1⟩ := getF X0 hx hZ hown (host := "") (Or.inl (hw _ (List.mem_of_getElem? (i := 184) rfl))) Via.refl e0 F_superadmin_xp (g := (mkF m 1 #[.val (.ref xp)] [(.ref xp)])) rfl rfl (hb hby daw1_1)
  refine own_go (fun tQ kQ => st1 tQ kQ) ?_
  show own_End p e below _ (T1.setTop (mkF m 4 #[.val (.ref xp)] [(.int (1 : Int32))]))
  refine own_go (fun tQ kQ => XS.ifYes X1.here hx rfl (pc0 := 4) (pc' := 19) rfl (hb hby daw1_4) rfl ((if0 _ _).trans (feq (by decide)).2) (by decide) (by decide) kQ) ?_
  show own_End p e below _ (T1.setTop (mkF m 19 #[.val (.ref xp)] []))
  refine own_go (fun tQ kQ => XS.iconst X1.here hx rfl (hb hby daw1_19) kQ) ?_
  show own_End p e below _ (T1.setTop (mkF m 20 #[.val (.ref xp)] [(.int (1 : Int32))]))
  refine own_go (fun tQ kQ => XS.goto X1.here hx rfl (pc0 := 20) (pc' := 24) rfl (hb hby daw1_20) (by decide) (by decide) kQ) ?_
  show own_End p e below _ (T1.setTop (mkF m 24 #[.val (.ref xp)] [(.int (1 : Int32))]))
  obtain ⟨fs, hr, hrun, hended, hW, hsame⟩ := X1.leave (v := some (.int (1 : Int32))) (fun h => by rw [Bd.returns] at h; cases h)
  refine ⟨_, _, (retN X1 hx (t := .boolean) Bd.returns (by simp) (hb hby daw1_24) hr), hrun, hended, _, _, rfl, ?_, ⟨_, rfl⟩, hW, hsame.mono (by decide) (by decide)⟩
  show Qaw1 Z xp h0 n0 _ T1.heap _
  rw [e1]
  exact ⟨rfl, Nf, rfl⟩
theorem dawe_0 : decode prog_3_method_2_code 0 = .ok (.aload_n 0, 1) := by decide +kernel
theorem dawe_1 : decode prog_3_method_2_code 1 = .ok (.getfield 13, 3) := by decide +kernel
theorem dawe_4 : decode prog_3_method_2_code 4 = .ok (.ifCond .ne 15, 3) := by decide +kernel
theorem dawe_7 : decode prog_3_method_2_code 7 = .ok (.aload_n 0, 1) := by decide +kernel
theorem dawe_8 : decode prog_3_method_2_code 8 = .ok (.getfield 19, 3) := by decide +kernel
theorem dawe_11 : decode prog_3_method_2_code 11 = .ok (.invokeinterface 23 1, 5) := by decide +kernel
theorem dawe_16 : decode prog_3_method_2_code 16 = .ok (.ifCond .ne 7, 3) := by decide +kernel
theorem dawe_23 : decode prog_3_method_2_code 23 = .ok (.iconst 0, 1) := by decide +kernel
theorem dawe_24 : decode prog_3_method_2_code 24 = .ok (.ireturn, 1) := by decide +kernel
theorem ef_awe (m : MethodId) (x0 : Addr) : entryFrame m #[(.ref x0)] 1 = mkF m 0 #[.val (.ref x0)] [] := by first | (simp [entryFrame, mkF, argsToLocals, Value.category]; done) | rfl
def Qawe (Z : State) (xp : Addr) (el : Addr) (ee : Addr) (fe : Nat → Value) (h0 : Heap) (n0 : Nat) (v : Option Value) (h : Heap) (L : List Loc) : Prop := v = some (.int 0) ∧ Fr n0 L ∧ h = h0
def Pawe (Z : State) (xp : Addr) (el : Addr) (ee : Addr) (fe : Nat → Value) (h0 : Heap) (n0 : Nat) (s : State) (oQ : Outcome) (U : State) : Prop := ∃ v L, oQ = .returned v ∧ Qawe Z xp el ee fe h0 n0 v U.heap L ∧ FrameEnd s oQ U L ({ frames := 1, cells := 0, slots := 0, locals := 12 } : Room).cells ({ frames := 1, cells := 0, slots := 0, locals := 12 } : Room).slots
set_option maxRecDepth 65536 in
set_option maxHeartbeats 40000000 in
theorem rmawe (l : Launch) (Z : State) (a0 : Array Value) (hw : ∀ d ∈ tables_1, d.before a0 Z = true) (ws : List Jvm.Cond) (xp : Addr) (el : Addr) (ee : Addr) (fe : Nat → Value) (h0 : Heap) (n0 : Nat) (Z0 : n0 ≤ h0.size) (F_superadmin_xp : Fld Z h0 xp "com/example/grant3/grant3/Explanation" "superadmin" "Z" (.int (0 : Int32))) (F_because_xp : Fld Z h0 xp "com/example/grant3/grant3/Explanation" "because" "Ljava/util/List;" (.ref el)) (E_el : Exa Z h0 el "java/util/ImmutableCollections$ListN") (F_elements_el : Fld Z h0 el "java/util/ImmutableCollections$ListN" "elements" "[Ljava/lang/Object;" (.ref ee)) (V_ee : own_Ar Z h0 ee (.object "java/lang/Object") (0 : Int32) fe) :
    MetFree l (⟨"com/example/grant3/grant3/Explanation", "allowed", "()Z"⟩ : MethodName) (head1 (Jvm.Cond.code (⟨"com/example/grant3/grant3/Explanation", "allowed", "()Z"⟩ : MethodName) prog_3_method_2_code 1 (some .boolean) :: ws) ({ frames := 1, cells := 0, slots := 0, locals := 12 } : Room)) (fun aQ U => aQ = #[(.ref xp)] ∧ Z.Warmed39 U.vm ∧ U.heap = h0) (fun _ _ _ _ _ => True) (fun _ U oQ U' => ∃ v L, oQ = .returned v ∧ Qawe Z xp el ee fe h0 n0 v U'.heap L ∧ FrameEnd U oQ U' L ({ frames := 1, cells := 0, slots := 0, locals := 12 } : Room).cells ({ frames := 1, cells := 0, slots := 0, locals := 12 } : Room).slots) := by
  refine MetFree.of_bodySF (plainFor_of_name pn_25) hisR ?_
  intro p e s m args below meth c s₁ Bd hml0 hP hK
  obtain ⟨rfl, hZ, hh⟩ := hP
  have hx := Bd.exec
  have hby := Bd.bytes
  have hml : c.maxLocals = 1 := hml0
  have hown : s.vm.findClass "com/example/grant3/grant3/Explanation" = some m.cls := findClass_of_methodNamed Bd.named
  have hnm := (name_of_methodNamed Bd.named Bd.method).1
  have X0 : Stand p l e ({ frames := 1, cells := 0, slots := 0, locals := 12 } : Room) s m #[(.ref xp)] below meth c s₁ [] 0 0 := Stand.of_body Bd
  have e0 : s₁.heap = h0 := by rw [← hh, Bd.state]; rfl
  have Nf := Fr.nil n0
  have Zs : n0 ≤ h0.size := Z0
  have Kp : Keep h0 h0 [] := Keep.refl _ _
  have szr : h0.size ≤ h0.size := Nat.le_refl _
  show own_End p e below (Pawe Z xp el ee fe h0 n0 s) (s₁.setTop (entryFrame m #[(.ref xp)] 1))
  rw [ef_awe]
  refine own_go (fun tQ kQ => XS.aloadN X0.here hx rfl (hb hby dawe_0) rfl rfl kQ) ?_
  show own_End p e below _ (s₁.setTop (mkF m 1 #[.val (.ref xp)] [(.ref xp)]))
  obtain ⟨T1, X1, e1, st1⟩ := getF X0 hx hZ hown (host := "") (Or.inl (hw _ (List.mem_of_getElem? (i := 184) rfl))) Via.refl e0 F_superadmin_xp (g := (mkF m 1 #[.val (.ref xp)] [(.ref xp)])) rfl rfl (hb hby dawe_1)
  refine own_go (fun tQ kQ => st1 tQ kQ) ?_
  show own_End p e below _ (T1.setTop (mkF m 4 #[.val (.ref xp)] [(.int (0 : Int32))]))
  refine own_go (fun tQ kQ => XS.ifNo X1.here hx rfl (hb hby dawe_4) rfl ((if0 _ _).trans (teq (by decide)).2) kQ) ?_
  show own_End p e below _ (T1.setTop (mkF m 7 #[.val (.ref xp)] []))
  refine own_go (fun tQ kQ => XS.aloadN X1.here hx rfl (hb hby dawe_7) rfl rfl kQ) ?_
  show own_End p e below _ (T1.setTop (mkF m 8 #[.val (.ref xp)] [(.ref xp)]))
  obtain ⟨T2, X2, e2, st2⟩ := getF X1 hx hZ hown (host := "") (Or.inl (hw _ (List.mem_of_getElem? (i := 186) rfl))) Via.refl e1 F_because_xp (g := (mkF m 8 #[.val (.ref xp)] [(.ref xp)])) rfl rfl (hb hby dawe_8)
  refine own_go (fun tQ kQ => st2 tQ kQ) ?_
  show own_End p e below _ (T2.setTop (mkF m 11 #[.val (.ref xp)] [(.ref el)]))
  obtain ⟨cq3, kq3, q3a, q3b, q3c⟩ := isOf hZ e2 E_el
  obtain ⟨_, _, ⟨T3, L3, k3, n3⟩, -, X3, ⟨Lc3, hQ3, l3, y3, z3⟩, st3⟩ := X2.interfaceBack hx (xi := (⟨"java/util/List", "isEmpty", "()Z"⟩ : MethodName)) (y := (⟨"java/util/ImmutableCollections$ListN", "isEmpty", "()Z"⟩ : MethodName)) hown (mvT hZ (hw _ (List.mem_of_getElem? (i := 222) rfl))) (mvT hZ (hw _ (List.mem_of_getElem? (i := 223) rfl))) (mvT hZ (hw _ (List.mem_of_getElem? (i := 224) rfl))) (mvT hZ (hw _ (List.mem_of_getElem? (i := 225) rfl))) (mvT hZ (hw _ (List.mem_of_getElem? (i := 226) rfl))) (mvT hZ (hw _ (List.mem_of_getElem? (i := 227) rfl))) (mvT hZ (hw _ (List.mem_of_getElem? (i := 228) rfl))) (mvT hZ (hw _ (List.mem_of_getElem? (i := 229) rfl))) (by decide) (backOf (W := 0) (rmlne l Z a0 hw [] el ee fe h0 n0 Zs F_elements_el V_ee) hZ (hw _ (List.mem_of_getElem? (i := 231) rfl)) (hw _ (List.mem_of_getElem? (i := 230) rfl)) (by decide) (by decide)) q3a q3b q3c (g := (mkF m 11 #[.val (.ref xp)] [(.ref el)])) rfl (by rw [hml]; rfl) (Steps.refl _) (argsL := []) (rest := []) (lenOf pd_20 rfl) rfl (by show 2 * 0 + _ ≤ _; exact Nat.le_of_eq rfl) (hb hby dawe_11) (fun _ _ => ⟨rfl, e2, (Nat.le_of_ble_eq_true rfl), (Nat.le_of_ble_eq_true rfl)⟩)
  dsimp only [Pt.U, Pt.locs, Pt.cells, Pt.slots] at X3 l3 y3 z3 st3 hQ3
  rw [l3, y3, z3] at X3
  obtain ⟨rfl, N3q, e3⟩ := hQ3
  have Nf := Fr.app Nf N3q
  have X3 := own_pad (k' := 0) (n' := 0) X3 (by decide) (by decide)
  refine own_go (fun tQ kQ => st3.trans kQ) ?_
  show own_End p e below _ (T3.setTop (mkF m 16 #[.val (.ref xp)] [(.int (1 : Int32))]))
  refine own_go (fun tQ kQ => XS.ifYes X3.here hx rfl (pc0 := 16) (pc' := 23) rfl (hb hby dawe_16) rfl ((if0 _ _).trans (feq (by decide)).2) (by decide) (by decide) kQ) ?_
  show own_End p e below _ (T3.setTop (mkF m 23 #[.val (.ref xp)] []))
  refine own_go (fun tQ kQ => XS.iconst X3.here hx rfl (hb hby dawe_23) kQ) ?_
  show own_End p e below _ (T3.setTop (mkF m 24 #[.val (.ref xp)] [(.int (0 : Int32))]))
  obtain ⟨fs, hr, hrun, hended, hW, hsame⟩ := X3.leave (v := some (.int (0 : Int32))) (fun h => by rw [Bd.returns] at h; cases h)
  refine ⟨_, _, (retN X3 hx (t := .boolean) Bd.returns (by simp) (hb hby dawe_24) hr), hrun, hended, _, _, rfl, ?_, ⟨_, rfl⟩, hW, hsame.mono (by decide) (by decide)⟩
  show Qawe Z xp el ee fe h0 n0 _ T3.heap _
  rw [e3]
  exact ⟨rfl, Nf, rfl⟩
theorem dawr_0 : decode prog_3_method_2_code 0 = .ok (.aload_n 0, 1) := by decide +kernel
theorem dawr_1 : decode prog_3_method_2_code 1 = .ok (.getfield 13, 3) := by decide +kernel
theorem dawr_4 : decode prog_3_method_2_code 4 = .ok (.ifCond .ne 15, 3) := by decide +kernel
theorem dawr_7 : decode prog_3_method_2_code 7 = .ok (.aload_n 0, 1) := by decide +kernel
theorem dawr_8 : decode prog_3_method_2_code 8 = .ok (.getfield 19, 3) := by decide +kernel
theorem dawr_11 : decode prog_3_method_2_code 11 = .ok (.invokeinterface 23 1, 5) := by decide +kernel
theorem dawr_16 : decode prog_3_method_2_code 16 = .ok (.ifCond .ne 7, 3) := by decide +kernel
theorem dawr_19 : decode prog_3_method_2_code 19 = .ok (.iconst 1, 1) := by decide +kernel
theorem dawr_20 : decode prog_3_method_2_code 20 = .ok (.goto 4, 3) := by decide +kernel
theorem dawr_24 : decode prog_3_method_2_code 24 = .ok (.ireturn, 1) := by decide +kernel
theorem ef_awr (m : MethodId) (x0 : Addr) : entryFrame m #[(.ref x0)] 1 = mkF m 0 #[.val (.ref x0)] [] := by first | (simp [entryFrame, mkF, argsToLocals, Value.category]; done) | rfl
def Qawr (Z : State) (xp : Addr) (r : Addr) (h0 : Heap) (n0 : Nat) (v : Option Value) (h : Heap) (L : List Loc) : Prop := v = some (.int 1) ∧ Fr n0 L ∧ h = h0
def Pawr (Z : State) (xp : Addr) (r : Addr) (h0 : Heap) (n0 : Nat) (s : State) (oQ : Outcome) (U : State) : Prop := ∃ v L, oQ = .returned v ∧ Qawr Z xp r h0 n0 v U.heap L ∧ FrameEnd s oQ U L ({ frames := 1, cells := 0, slots := 0, locals := 12 } : Room).cells ({ frames := 1, cells := 0, slots := 0, locals := 12 } : Room).slots
set_option maxRecDepth 65536 in
set_option maxHeartbeats 40000000 in
theorem rmawr (l : Launch) (Z : State) (a0 : Array Value) (hw : ∀ d ∈ tables_1, d.before a0 Z = true) (ws : List Jvm.Cond) (xp : Addr) (r : Addr) (h0 : Heap) (n0 : Nat) (Z0 : n0 ≤ h0.size) (F_superadmin_xp : Fld Z h0 xp "com/example/grant3/grant3/Explanation" "superadmin" "Z" (.int (0 : Int32))) (F_because_xp : Fld Z h0 xp "com/example/grant3/grant3/Explanation" "because" "Ljava/util/List;" (.ref r)) (E_r : Exa Z h0 r "java/util/ImmutableCollections$List12") :
    MetFree l (⟨"com/example/grant3/grant3/Explanation", "allowed", "()Z"⟩ : MethodName) (head1 (Jvm.Cond.code (⟨"com/example/grant3/grant3/Explanation", "allowed", "()Z"⟩ : MethodName) prog_3_method_2_code 1 (some .boolean) :: ws) ({ frames := 1, cells := 0, slots := 0, locals := 12 } : Room)) (fun aQ U => aQ = #[(.ref xp)] ∧ Z.Warmed39 U.vm ∧ U.heap = h0) (fun _ _ _ _ _ => True) (fun _ U oQ U' => ∃ v L, oQ = .returned v ∧ Qawr Z xp r h0 n0 v U'.heap L ∧ FrameEnd U oQ U' L ({ frames := 1, cells := 0, slots := 0, locals := 12 } : Room).cells ({ frames := 1, cells := 0, slots := 0, locals := 12 } : Room).slots) := by
  refine MetFree.of_bodySF (plainFor_of_name pn_25) hisR ?_
  intro p e s m args below meth c s₁ Bd hml0 hP hK
  obtain ⟨rfl, hZ, hh⟩ := hP
  have hx := Bd.exec
  have hby := Bd.bytes
  have hml : c.maxLocals = 1 := hml0
  have hown : s.vm.findClass "com/example/grant3/grant3/Explanation" = some m.cls := findClass_of_methodNamed Bd.named
  have hnm := (name_of_methodNamed Bd.named Bd.method).1
  have X0 : Stand p l e ({ frames := 1, cells := 0, slots := 0, locals := 12 } : Room) s m #[(.ref xp)] below meth c s₁ [] 0 0 := Stand.of_body Bd
  have e0 : s₁.heap = h0 := by rw [← hh, Bd.state]; rfl
  have Nf := Fr.nil n0
  have Zs : n0 ≤ h0.size := Z0
  have Kp : Keep h0 h0 [] := Keep.refl _ _
  have szr : h0.size ≤ h0.size := Nat.le_refl _
  show own_End p e below (Pawr Z xp r h0 n0 s) (s₁.setTop (entryFrame m #[(.ref xp)] 1))
  rw [ef_awr]
  refine own_go (fun tQ kQ => XS.aloadN X0.here hx rfl (hb hby dawr_0) rfl rfl kQ) ?_
  show own_End p e below _ (s₁.setTop (mkF m 1 #[.val (.ref xp)] [(.ref xp)]))
  obtain ⟨T1, X1, e1, st1⟩ := getF X0 hx hZ hown (host := "") (Or.inl (hw _ (List.mem_of_getElem? (i := 184) rfl))) Via.refl e0 F_superadmin_xp (g := (mkF m 1 #[.val (.ref xp)] [(.ref xp)])) rfl rfl (hb hby dawr_1)
  refine own_go (fun tQ kQ => st1 tQ kQ) ?_
  show own_End p e below _ (T1.setTop (mkF m 4 #[.val (.ref xp)] [(.int (0 : Int32))]))
  refine own_go (fun tQ kQ => XS.ifNo X1.here hx rfl (hb hby dawr_4) rfl ((if0 _ _).trans (teq (by decide)).2) kQ) ?_
  show own_End p e below _ (T1.setTop (mkF m 7 #[.val (.ref xp)] []))
  refine own_go (fun tQ kQ => XS.aloadN X1.here hx rfl (hb hby dawr_7) rfl rfl kQ) ?_
  show own_End p e below _ (T1.setTop (mkF m 8 #[.val (.ref xp)] [(.ref xp)]))
  obtain ⟨T2, X2, e2, st2⟩ := getF X1 hx hZ hown (host := "") (Or.inl (hw _ (List.mem_of_getElem? (i := 186) rfl))) Via.refl e1 F_because_xp (g := (mkF m 8 #[.val (.ref xp)] [(.ref xp)])) rfl rfl (hb hby dawr_8)
  refine own_go (fun tQ kQ => st2 tQ kQ) ?_
  show own_End p e below _ (T2.setTop (mkF m 11 #[.val (.ref xp)] [(.ref r)]))
  obtain ⟨cq3, kq3, q3a, q3b, q3c⟩ := isOf hZ e2 E_r
  obtain ⟨_, _, ⟨T3, L3, k3, n3⟩, -, X3, ⟨Lc3, hQ3, l3, y3, z3⟩, st3⟩ := X2.interfaceBack hx (xi := (⟨"java/util/List", "isEmpty", "()Z"⟩ : MethodName)) (y := (⟨"java/util/ImmutableCollections$List12", "isEmpty", "()Z"⟩ : MethodName)) hown (mvT hZ (hw _ (List.mem_of_getElem? (i := 222) rfl))) (mvT hZ (hw _ (List.mem_of_getElem? (i := 223) rfl))) (mvT hZ (hw _ (List.mem_of_getElem? (i := 224) rfl))) (mvT hZ (hw _ (List.mem_of_getElem? (i := 295) rfl))) (mvT hZ (hw _ (List.mem_of_getElem? (i := 296) rfl))) (mvT hZ (hw _ (List.mem_of_getElem? (i := 297) rfl))) (mvT hZ (hw _ (List.mem_of_getElem? (i := 298) rfl))) (mvT hZ (hw _ (List.mem_of_getElem? (i := 299) rfl))) (by decide) (backOf (W := 0) (rml12e l Z a0 hw [] r h0 n0 Zs ) hZ (hw _ (List.mem_of_getElem? (i := 300) rfl)) (hw _ (List.mem_of_getElem? (i := 269) rfl)) (by decide) (by decide)) q3a q3b q3c (g := (mkF m 11 #[.val (.ref xp)] [(.ref r)])) rfl (by rw [hml]; rfl) (Steps.refl _) (argsL := []) (rest := []) (lenOf pd_20 rfl) rfl (by show 2 * 0 + _ ≤ _; exact Nat.le_of_eq rfl) (hb hby dawr_11) (fun _ _ => ⟨rfl, e2, (Nat.le_of_ble_eq_true rfl), (Nat.le_of_ble_eq_true rfl)⟩)
  dsimp only [Pt.U, Pt.locs, Pt.cells, Pt.slots] at X3 l3 y3 z3 st3 hQ3
  rw [l3, y3, z3] at X3
  obtain ⟨rfl, N3q, e3⟩ := hQ3
  have Nf := Fr.app Nf N3q
  have X3 := own_pad (k' := 0) (n' := 0) X3 (by decide) (by decide)
  refine own_go (fun tQ kQ => st3.trans kQ) ?_
  show own_End p e below _ (T3.setTop (mkF m 16 #[.val (.ref xp)] [(.int (0 : Int32))]))
  refine own_go (fun tQ kQ => XS.ifNo X3.here hx rfl (hb hby dawr_16) rfl ((if0 _ _).trans (teq (by decide)).2) kQ) ?_
  show own_End p e below _ (T3.setTop (mkF m 19 #[.val (.ref xp)] []))
  refine own_go (fun tQ kQ => XS.iconst X3.here hx rfl (hb hby dawr_19) kQ) ?_
  show own_End p e below _ (T3.setTop (mkF m 20 #[.val (.ref xp)] [(.int (1 : Int32))]))
  refine own_go (fun tQ kQ => XS.goto X3.here hx rfl (pc0 := 20) (pc' := 24) rfl (hb hby dawr_20) (by decide) (by decide) kQ) ?_
  show own_End p e below _ (T3.setTop (mkF m 24 #[.val (.ref xp)] [(.int (1 : Int32))]))
  obtain ⟨fs, hr, hrun, hended, hW, hsame⟩ := X3.leave (v := some (.int (1 : Int32))) (fun h => by rw [Bd.returns] at h; cases h)
  refine ⟨_, _, (retN X3 hx (t := .boolean) Bd.returns (by simp) (hb hby dawr_24) hr), hrun, hended, _, _, rfl, ?_, ⟨_, rfl⟩, hW, hsame.mono (by decide) (by decide)⟩
  show Qawr Z xp r h0 n0 _ T3.heap _
  rw [e3]
  exact ⟨rfl, Nf, rfl⟩
theorem dcod_0 : decode jdk_42_method_152_code 0 = .ok (.getstatic 38, 3) := by decide +kernel
theorem dcod_3 : decode jdk_42_method_152_code 3 = .ok (.ifCond .eq 10, 3) := by decide +kernel
theorem dcod_6 : decode jdk_42_method_152_code 6 = .ok (.aload_n 0, 1) := by decide +kernel
theorem dcod_7 : decode jdk_42_method_152_code 7 = .ok (.getfield 15, 3) := by decide +kernel
theorem dcod_10 : decode jdk_42_method_152_code 10 = .ok (.goto 4, 3) := by decide +kernel
theorem dcod_14 : decode jdk_42_method_152_code 14 = .ok (.ireturn, 1) := by decide +kernel
theorem pn_27 : plainName "java/lang/String" = true := by first | (simp [plainName, overriddenIn]; done) | decide +kernel
theorem ef_cod (m : MethodId) (x0 : Addr) : entryFrame m #[(.ref x0)] 1 = mkF m 0 #[.val (.ref x0)] [] := by first | (simp [entryFrame, mkF, argsToLocals, Value.category]; done) | rfl
def Qcod (Z : State) (st : Addr) (tt : Addr) (z : Int32) (bs : Nat → Int32) (cz : Int32) (h0 : Heap) (n0 : Nat) (v : Option Value) (h : Heap) (L : List Loc) : Prop := v = some (.int 0) ∧ Fr n0 L ∧ h = h0
def Pcod (Z : State) (st : Addr) (tt : Addr) (z : Int32) (bs : Nat → Int32) (cz : Int32) (h0 : Heap) (n0 : Nat) (s : State) (oQ : Outcome) (U : State) : Prop := ∃ v L, oQ = .returned v ∧ Qcod Z st tt z bs cz h0 n0 v U.heap L ∧ FrameEnd s oQ U L ({ frames := 0, cells := 0, slots := 0, locals := 0 } : Room).cells ({ frames := 0, cells := 0, slots := 0, locals := 0 } : Room).slots
set_option maxRecDepth 65536 in
set_option maxHeartbeats 40000000 in
theorem rmcod (l : Launch) (Z : State) (a0 : Array Value) (hw : ∀ d ∈ tables_1, d.before a0 Z = true) (ws : List Jvm.Cond) (st : Addr) (tt : Addr) (z : Int32) (bs : Nat → Int32) (cz : Int32) (h0 : Heap) (n0 : Nat) (Z0 : n0 ≤ h0.size) (E_st : Exa Z h0 st "java/lang/String") (F_value_st : Fld Z h0 st "java/lang/String" "value" "[B" (.ref tt)) (F_coder_st : Fld Z h0 st "java/lang/String" "coder" "B" (.int (0 : Int32))) (V_tt : own_Ar Z h0 tt .byte z (fun j => .int (bs j))) (Ol : Old Z n0 h0) (S_cs : Sta Z Z.heap "java/lang/String" "COMPACT_STRINGS" "Z" (.int cz)) (hcz : ¬ cz = 0) :
    MetFree l (⟨"java/lang/String", "coder", "()B"⟩ : MethodName) (head1 (Jvm.Cond.code (⟨"java/lang/String", "coder", "()B"⟩ : MethodName) jdk_42_method_152_code 1 (some .byte) :: ws) ({ frames := 0, cells := 0, slots := 0, locals := 0 } : Room)) (fun aQ U => aQ = #[(.ref st)] ∧ Z.Warmed39 U.vm ∧ U.heap = h0) (fun _ _ _ _ _ => True) (fun _ U oQ U' => ∃ v L, oQ = .returned v ∧ Qcod Z st tt z bs cz h0 n0 v U'.heap L ∧ FrameEnd U oQ U' L ({ frames := 0, cells := 0, slots := 0, locals := 0 } : Room).cells ({ frames := 0, cells := 0, slots := 0, locals := 0 } : Room).slots) := by
  refine MetFree.of_bodySF (plainFor_of_name pn_27) hisR ?_
  intro p e s m args below meth c s₁ Bd hml0 hP hK
  obtain ⟨rfl, hZ, hh⟩ := hP
  have hx := Bd.exec
  have hby := Bd.bytes
  have hml : c.maxLocals = 1 := hml0
  have hown : s.vm.findClass "java/lang/String" = some m.cls := findClass_of_methodNamed Bd.named
  have hnm := (name_of_methodNamed Bd.named Bd.method).1
  have X0 : Stand p l e ({ frames := 0, cells := 0, slots := 0, locals := 0 } : Room) s m #[(.ref st)] below meth c s₁ [] 0 0 := Stand.of_body Bd
  have e0 : s₁.heap = h0 := by rw [← hh, Bd.state]; rfl
  have Nf := Fr.nil n0
  have Zs : n0 ≤ h0.size := Z0
  have Kp : Keep h0 h0 [] := Keep.refl _ _
  have szr : h0.size ≤ h0.size := Nat.le_refl _
  show own_End p e below (Pcod Z st tt z bs cz h0 n0 s) (s₁.setTop (entryFrame m #[(.ref st)] 1))
  rw [ef_cod]
  obtain ⟨T1, X1, e1, st1⟩ := getS2 X0 hx hZ hown (host := "") (Or.inl (hw _ (List.mem_of_getElem? (i := 29) rfl))) Via.refl e0 (S_cs.ext Ol.2) (g := (mkF m 0 #[.val (.ref st)] [])) rfl (hb hby dcod_0)
  refine own_go (fun tQ kQ => st1 tQ kQ) ?_
  show own_End p e below _ (T1.setTop (mkF m 3 #[.val (.ref st)] [(.int cz)]))
  refine own_go (fun tQ kQ => XS.ifNo X1.here hx rfl (hb hby dcod_3) rfl ((if0 _ _).trans (feq hcz).1) kQ) ?_
  show own_End p e below _ (T1.setTop (mkF m 6 #[.val (.ref st)] []))
  refine own_go (fun tQ kQ => XS.aloadN X1.here hx rfl (hb hby dcod_6) rfl rfl kQ) ?_
  show own_End p e below _ (T1.setTop (mkF m 7 #[.val (.ref st)] [(.ref st)]))
  obtain ⟨T2, X2, e2, st2⟩ := getF X1 hx hZ hown (host := "") (Or.inl (hw _ (List.mem_of_getElem? (i := 30) rfl))) Via.refl e1 F_coder_st (g := (mkF m 7 #[.val (.ref st)] [(.ref st)])) rfl rfl (hb hby dcod_7)
  refine own_go (fun tQ kQ => st2 tQ kQ) ?_
  show own_End p e below _ (T2.setTop (mkF m 10 #[.val (.ref st)] [(.int (0 : Int32))]))
  refine own_go (fun tQ kQ => XS.goto X2.here hx rfl (pc0 := 10) (pc' := 14) rfl (hb hby dcod_10) (by decide) (by decide) kQ) ?_
  show own_End p e below _ (T2.setTop (mkF m 14 #[.val (.ref st)] [(.int (0 : Int32))]))
  obtain ⟨fs, hr, hrun, hended, hW, hsame⟩ := X2.leave (v := some (.int (0 : Int32))) (fun h => by rw [Bd.returns] at h; cases h)
  refine ⟨_, _, (retN X2 hx (t := .byte) Bd.returns (by simp) (hb hby dcod_14) hr), hrun, hended, _, _, rfl, ?_, ⟨_, rfl⟩, hW, hsame.mono (by decide) (by decide)⟩
  show Qcod Z st tt z bs cz h0 n0 _ T2.heap _
  rw [e2]
  exact ⟨rfl, Nf, rfl⟩
theorem dlat_0 : decode jdk_42_method_154_code 0 = .ok (.getstatic 38, 3) := by decide +kernel
theorem dlat_3 : decode jdk_42_method_154_code 3 = .ok (.ifCond .eq 14, 3) := by decide +kernel
theorem dlat_6 : decode jdk_42_method_154_code 6 = .ok (.aload_n 0, 1) := by decide +kernel
theorem dlat_7 : decode jdk_42_method_154_code 7 = .ok (.getfield 15, 3) := by decide +kernel
theorem dlat_10 : decode jdk_42_method_154_code 10 = .ok (.ifCond .ne 7, 3) := by decide +kernel
theorem dlat_13 : decode jdk_42_method_154_code 13 = .ok (.iconst 1, 1) := by decide +kernel
theorem dlat_14 : decode jdk_42_method_154_code 14 = .ok (.goto 4, 3) := by decide +kernel
theorem dlat_18 : decode jdk_42_method_154_code 18 = .ok (.ireturn, 1) := by decide +kernel
theorem ef_lat (m : MethodId) (x0 : Addr) : entryFrame m #[(.ref x0)] 1 = mkF m 0 #[.val (.ref x0)] [] := by first | (simp [entryFrame, mkF, argsToLocals, Value.category]; done) | rfl
def Qlat (Z : State) (st : Addr) (tt : Addr) (z : Int32) (bs : Nat → Int32) (cz : Int32) (h0 : Heap) (n0 : Nat) (v : Option Value) (h : Heap) (L : List Loc) : Prop := v = some (.int 1) ∧ Fr n0 L ∧ h = h0
def Plat (Z : State) (st : Addr) (tt : Addr) (z : Int32) (bs : Nat → Int32) (cz : Int32) (h0 : Heap) (n0 : Nat) (s : State) (oQ : Outcome) (U : State) : Prop := ∃ v L, oQ = .returned v ∧ Qlat Z st tt z bs cz h0 n0 v U.heap L ∧ FrameEnd s oQ U L ({ frames := 0, cells := 0, slots := 0, locals := 0 } : Room).cells ({ frames := 0, cells := 0, slots := 0, locals := 0 } : Room).slots
set_option maxRecDepth 65536 in
set_option maxHeartbeats 40000000 in
theorem rmlat (l : Launch) (Z : State) (a0 : Array Value) (hw : ∀ d ∈ tables_1, d.before a0 Z = true) (ws : List Jvm.Cond) (st : Addr) (tt : Addr) (z : Int32) (bs : Nat → Int32) (cz : Int32) (h0 : Heap) (n0 : Nat) (Z0 : n0 ≤ h0.size) (E_st : Exa Z h0 st "java/lang/String") (F_value_st : Fld Z h0 st "java/lang/String" "value" "[B" (.ref tt)) (F_coder_st : Fld Z h0 st "java/lang/String" "coder" "B" (.int (0 : Int32))) (V_tt : own_Ar Z h0 tt .byte z (fun j => .int (bs j))) (Ol : Old Z n0 h0) (S_cs : Sta Z Z.heap "java/lang/String" "COMPACT_STRINGS" "Z" (.int cz)) (hcz : ¬ cz = 0) :
    MetFree l (⟨"java/lang/String", "isLatin1", "()Z"⟩ : MethodName) (head1 (Jvm.Cond.code (⟨"java/lang/String", "isLatin1", "()Z"⟩ : MethodName) jdk_42_method_154_code 1 (some .boolean) :: ws) ({ frames := 0, cells := 0, slots := 0, locals := 0 } : Room)) (fun aQ U => aQ = #[(.ref st)] ∧ Z.Warmed39 U.vm ∧ U.heap = h0) (fun _ _ _ _ _ => True) (fun _ U oQ U' => ∃ v L, oQ = .returned v ∧ Qlat Z st tt z bs cz h0 n0 v U'.heap L ∧ FrameEnd U oQ U' L ({ frames := 0, cells := 0, slots := 0, locals := 0 } : Room).cells ({ frames := 0, cells := 0, slots := 0, locals := 0 } : Room).slots) := by
  refine MetFree.of_bodySF (plainFor_of_name pn_27) hisR ?_
  intro p e s m args below meth c s₁ Bd hml0 hP hK
  obtain ⟨rfl, hZ, hh⟩ := hP
  have hx := Bd.exec
  have hby := Bd.bytes
  have hml : c.maxLocals = 1 := hml0
  have hown : s.vm.findClass "java/lang/String" = some m.cls := findClass_of_methodNamed Bd.named
  have hnm := (name_of_methodNamed Bd.named Bd.method).1
  have X0 : Stand p l e ({ frames := 0, cells := 0, slots := 0, locals := 0 } : Room) s m #[(.ref st)] below meth c s₁ [] 0 0 := Stand.of_body Bd
  have e0 : s₁.heap = h0 := by rw [← hh, Bd.state]; rfl
  have Nf := Fr.nil n0
  have Zs : n0 ≤ h0.size := Z0
  have Kp : Keep h0 h0 [] := Keep.refl _ _
  have szr : h0.size ≤ h0.size := Nat.le_refl _
  show own_End p e below (Plat Z st tt z bs cz h0 n0 s) (s₁.setTop (entryFrame m #[(.ref st)] 1))
  rw [ef_lat]
  obtain ⟨T1, X1, e1, st1⟩ := getS2 X0 hx hZ hown (host := "") (Or.inl (hw _ (List.mem_of_getElem? (i := 29) rfl))) Via.refl e0 (S_cs.ext Ol.2) (g := (mkF m 0 #[.val (.ref st)] [])) rfl (hb hby dlat_0)
  refine own_go (fun tQ kQ => st1 tQ kQ) ?_
  show own_End p e below _ (T1.setTop (mkF m 3 #[.val (.ref st)] [(.int cz)]))
  refine own_go (fun tQ kQ => XS.ifNo X1.here hx rfl (hb hby dlat_3) rfl ((if0 _ _).trans (feq hcz).1) kQ) ?_
  show own_End p e below _ (T1.setTop (mkF m 6 #[.val (.ref st)] []))
  refine own_go (fun tQ kQ => XS.aloadN X1.here hx rfl (hb hby dlat_6) rfl rfl kQ) ?_
  show own_End p e below _ (T1.setTop (mkF m 7 #[.val (.ref st)] [(.ref st)]))
  obtain ⟨T2, X2, e2, st2⟩ := getF X1 hx hZ hown (host := "") (Or.inl (hw _ (List.mem_of_getElem? (i := 30) rfl))) Via.refl e1 F_coder_st (g := (mkF m 7 #[.val (.ref st)] [(.ref st)])) rfl rfl (hb hby dlat_7)
  refine own_go (fun tQ kQ => st2 tQ kQ) ?_
  show own_End p e below _ (T2.setTop (mkF m 10 #[.val (.ref st)] [(.int (0 : Int32))]))
  refine own_go (fun tQ kQ => XS.ifNo X2.here hx rfl (hb hby dlat_10) rfl ((if0 _ _).trans (teq (by decide)).2) kQ) ?_
  show own_End p e below _ (T2.setTop (mkF m 13 #[.val (.ref st)] []))
  refine own_go (fun tQ kQ => XS.iconst X2.here hx rfl (hb hby dlat_13) kQ) ?_
  show own_End p e below _ (T2.setTop (mkF m 14 #[.val (.ref st)] [(.int (1 : Int32))]))
  refine own_go (fun tQ kQ => XS.goto X2.here hx rfl (pc0 := 14) (pc' := 18) rfl (hb hby dlat_14) (by decide) (by decide) kQ) ?_
  show own_End p e below _ (T2.setTop (mkF m 18 #[.val (.ref st)] [(.int (1 : Int32))]))
  obtain ⟨fs, hr, hrun, hended, hW, hsame⟩ := X2.leave (v := some (.int (1 : Int32))) (fun h => by rw [Bd.returns] at h; cases h)
  refine ⟨_, _, (retN X2 hx (t := .boolean) Bd.returns (by simp) (hb hby dlat_18) hr), hrun, hended, _, _, rfl, ?_, ⟨_, rfl⟩, hW, hsame.mono (by decide) (by decide)⟩
  show Qlat Z st tt z bs cz h0 n0 _ T2.heap _
  rw [e2]
  exact ⟨rfl, Nf, rfl⟩
theorem pd_28 : parseMethodDescriptor "()B" = some ⟨[], some .byte⟩ := by decide +kernel
theorem dlen_0 : decode jdk_42_method_54_code 0 = .ok (.aload_n 0, 1) := by decide +kernel
theorem dlen_1 : decode jdk_42_method_54_code 1 = .ok (.getfield 9, 3) := by decide +kernel
theorem dlen_4 : decode jdk_42_method_54_code 4 = .ok (.arraylength, 1) := by decide +kernel
theorem dlen_5 : decode jdk_42_method_54_code 5 = .ok (.aload_n 0, 1) := by decide +kernel
theorem dlen_6 : decode jdk_42_method_54_code 6 = .ok (.invokevirtual 335, 3) := by decide +kernel
theorem dlen_9 : decode jdk_42_method_54_code 9 = .ok (.ishr, 1) := by decide +kernel
theorem dlen_10 : decode jdk_42_method_54_code 10 = .ok (.ireturn, 1) := by decide +kernel
theorem ef_len (m : MethodId) (x0 : Addr) : entryFrame m #[(.ref x0)] 1 = mkF m 0 #[.val (.ref x0)] [] := by first | (simp [entryFrame, mkF, argsToLocals, Value.category]; done) | rfl
def Qlen (Z : State) (st : Addr) (tt : Addr) (z : Int32) (bs : Nat → Int32) (cz : Int32) (h0 : Heap) (n0 : Nat) (v : Option Value) (h : Heap) (L : List Loc) : Prop := v = some (.int z) ∧ Fr n0 L ∧ h = h0
def Plen (Z : State) (st : Addr) (tt : Addr) (z : Int32) (bs : Nat → Int32) (cz : Int32) (h0 : Heap) (n0 : Nat) (s : State) (oQ : Outcome) (U : State) : Prop := ∃ v L, oQ = .returned v ∧ Qlen Z st tt z bs cz h0 n0 v U.heap L ∧ FrameEnd s oQ U L ({ frames := 1, cells := 0, slots := 0, locals := 13 } : Room).cells ({ frames := 1, cells := 0, slots := 0, locals := 13 } : Room).slots
set_option maxRecDepth 65536 in
set_option maxHeartbeats 40000000 in
theorem rmlen (l : Launch) (Z : State) (a0 : Array Value) (hw : ∀ d ∈ tables_1, d.before a0 Z = true) (ws : List Jvm.Cond) (st : Addr) (tt : Addr) (z : Int32) (bs : Nat → Int32) (cz : Int32) (h0 : Heap) (n0 : Nat) (Z0 : n0 ≤ h0.size) (E_st : Exa Z h0 st "java/lang/String") (F_value_st : Fld Z h0 st "java/lang/String" "value" "[B" (.ref tt)) (F_coder_st : Fld Z h0 st "java/lang/String" "coder" "B" (.int (0 : Int32))) (V_tt : own_Ar Z h0 tt .byte z (fun j => .int (bs j))) (Ol : Old Z n0 h0) (S_cs : Sta Z Z.heap "java/lang/String" "COMPACT_STRINGS" "Z" (.int cz)) (hcz : ¬ cz = 0) :
    MetFree l (⟨"java/lang/String", "length", "()I"⟩ : MethodName) (head1 (Jvm.Cond.code (⟨"java/lang/String", "length", "()I"⟩ : MethodName) jdk_42_method_54_code 1 (some .int) :: ws) ({ frames := 1, cells := 0, slots := 0, locals := 13 } : Room)) (fun aQ U => aQ = #[(.ref st)] ∧ Z.Warmed39 U.vm ∧ U.heap = h0) (fun _ _ _ _ _ => True) (fun _ U oQ U' => ∃ v L, oQ = .returned v ∧ Qlen Z st tt z bs cz h0 n0 v U'.heap L ∧ FrameEnd U oQ U' L ({ frames := 1, cells := 0, slots := 0, locals := 13 } : Room).cells ({ frames := 1, cells := 0, slots := 0, locals := 13 } : Room).slots) := by
  refine MetFree.of_bodySF (plainFor_of_name pn_27) hisR ?_
  intro p e s m args below meth c s₁ Bd hml0 hP hK
  obtain ⟨rfl, hZ, hh⟩ := hP
  have hx := Bd.exec
  have hby := Bd.bytes
  have hml : c.maxLocals = 1 := hml0
  have hown : s.vm.findClass "java/lang/String" = some m.cls := findClass_of_methodNamed Bd.named
  have hnm := (name_of_methodNamed Bd.named Bd.method).1
  have X0 : Stand p l e ({ frames := 1, cells := 0, slots := 0, locals := 13 } : Room) s m #[(.ref st)] below meth c s₁ [] 0 0 := Stand.of_body Bd
  have e0 : s₁.heap = h0 := by rw [← hh, Bd.state]; rfl
  have Nf := Fr.nil n0
  have Zs : n0 ≤ h0.size := Z0
  have Kp : Keep h0 h0 [] := Keep.refl _ _
  have szr : h0.size ≤ h0.size := Nat.le_refl _
  show own_End p e below (Plen Z st tt z bs cz h0 n0 s) (s₁.setTop (entryFrame m #[(.ref st)] 1))
  rw [ef_len]
  refine own_go (fun tQ kQ => XS.aloadN X0.here hx rfl (hb hby dlen_0) rfl rfl kQ) ?_
  show own_End p e below _ (s₁.setTop (mkF m 1 #[.val (.ref st)] [(.ref st)]))
  obtain ⟨T1, X1, e1, st1⟩ := getF X0 hx hZ hown (host := "") (Or.inl (hw _ (List.mem_of_getElem? (i := 23) rfl))) Via.refl e0 F_value_st (g := (mkF m 1 #[.val (.ref st)] [(.ref st)])) rfl rfl (hb hby dlen_1)
  refine own_go (fun tQ kQ => st1 tQ kQ) ?_
  show own_End p e below _ (T1.setTop (mkF m 4 #[.val (.ref st)] [(.ref tt)]))
  obtain ⟨cl2, Ar2, S2, M2, H2⟩ := id V_tt
  refine own_go (fun tQ kQ => X1.arraylength hx (by rw [e1]; exact Ar2.1) (State.isArrayOf_alike hZ.alike Ar2.2.1) (g := (mkF m 4 #[.val (.ref st)] [(.ref tt)])) rfl rfl (hb hby dlen_4) _ kQ) ?_
  rw [len_of S2 M2]
  show own_End p e below _ (T1.setTop (mkF m 5 #[.val (.ref st)] [(.int z)]))
  refine own_go (fun tQ kQ => XS.aloadN X1.here hx rfl (hb hby dlen_5) rfl rfl kQ) ?_
  show own_End p e below _ (T1.setTop (mkF m 6 #[.val (.ref st)] [(.ref st), (.int z)]))
  obtain ⟨cq3, kq3, q3a, q3b, q3c⟩ := isOf hZ e1 E_st
  obtain ⟨_, _, ⟨T3, L3, k3, n3⟩, -, X3, ⟨Lc3, hQ3, l3, y3, z3⟩, st3⟩ := X1.virtualBack hx (y := (⟨"java/lang/String", "coder", "()B"⟩ : MethodName)) (z := (⟨"java/lang/String", "coder", "()B"⟩ : MethodName)) hown (mvT hZ (hw _ (List.mem_of_getElem? (i := 24) rfl))) (mvT hZ (hw _ (List.mem_of_getElem? (i := 25) rfl))) (notFace_of_selects (args := #[]) (mvT hZ (hw _ (List.mem_of_getElem? (i := 27) rfl)))) (mvT hZ (hw _ (List.mem_of_getElem? (i := 27) rfl))) (mvT hZ (hw _ (List.mem_of_getElem? (i := 26) rfl))) (by decide) (backOf (W := 1) (rmcod l Z a0 hw [] st tt z bs cz h0 n0 Zs E_st F_value_st F_coder_st V_tt Ol S_cs hcz) hZ (hw _ (List.mem_of_getElem? (i := 28) rfl)) (hw _ (List.mem_of_getElem? (i := 2) rfl)) (by decide) (by decide)) q3a q3c (g := (mkF m 6 #[.val (.ref st)] [(.ref st), (.int z)])) rfl (by rw [hml]; rfl) (Steps.refl _) (argsL := []) (rest := [(.int z)]) (lenOf pd_28 rfl) rfl (by show 2 * 0 + _ ≤ _; exact Nat.le_of_eq rfl) (hb hby dlen_6) (fun _ _ => ⟨rfl, e1, (Nat.le_of_ble_eq_true rfl), (Nat.le_of_ble_eq_true rfl)⟩)
  dsimp only [Pt.U, Pt.locs, Pt.cells, Pt.slots] at X3 l3 y3 z3 st3 hQ3
  rw [l3, y3, z3] at X3
  obtain ⟨rfl, N3q, e3⟩ := hQ3
  have Nf := Fr.app Nf N3q
  have X3 := own_pad (k' := 0) (n' := 0) X3 (by decide) (by decide)
  refine own_go (fun tQ kQ => st3.trans kQ) ?_
  show own_End p e below _ (T3.setTop (mkF m 9 #[.val (.ref st)] [(.int (0 : Int32)), (.int z)]))
  refine own_go (fun tQ kQ => XS.ishr X3.here hx rfl (hb hby dlen_9) rfl kQ) ?_
  show own_End p e below _ (T3.setTop (mkF m 10 #[.val (.ref st)] [(.int (z >>> ((0 : Int32) &&& 31)))]))
  rw [own_sh0]
  show own_End p e below _ (T3.setTop (mkF m 10 #[.val (.ref st)] [(.int z)]))
  obtain ⟨fs, hr, hrun, hended, hW, hsame⟩ := X3.leave (v := some (.int z)) (fun h => by rw [Bd.returns] at h; cases h)
  refine ⟨_, _, (retI X3 hx Bd.returns (hb hby dlen_10) hr), hrun, hended, _, _, rfl, ?_, ⟨_, rfl⟩, hW, hsame.mono (by decide) (by decide)⟩
  show Qlen Z st tt z bs cz h0 n0 _ T3.heap _
  rw [e3]
  exact ⟨rfl, Nf, rfl⟩
theorem dpci_0 : decode jdk_41_method_11_code 0 = .ok (.iload_n 0, 1) := by decide +kernel
theorem dpci_1 : decode jdk_41_method_11_code 1 = .ok (.ifCond .lt 8, 3) := by decide +kernel
theorem dpci_4 : decode jdk_41_method_11_code 4 = .ok (.iload_n 0, 1) := by decide +kernel
theorem dpci_5 : decode jdk_41_method_11_code 5 = .ok (.iload_n 1, 1) := by decide +kernel
theorem dpci_6 : decode jdk_41_method_11_code 6 = .ok (.if_icmp .lt 10, 3) := by decide +kernel
theorem dpci_16 : decode jdk_41_method_11_code 16 = .ok (.iload_n 0, 1) := by decide +kernel
theorem dpci_17 : decode jdk_41_method_11_code 17 = .ok (.ireturn, 1) := by decide +kernel
theorem pn_29 : plainName "jdk/internal/util/Preconditions" = true := by first | (simp [plainName, overriddenIn]; done) | decide +kernel
theorem ef_pci (m : MethodId) (x0 : Int32) (x1 : Int32) (x2 : Value) (hx2 : x2.isRef = true) : entryFrame m #[(.int x0), (.int x1), x2] 3 = mkF m 0 #[.val (.int x0), .val (.int x1), .val x2] [] := by
  rcases ref_cases hx2 with rfl | ⟨_, rfl⟩
  all_goals first | (simp [entryFrame, mkF, argsToLocals, Value.category]; done) | rfl
def Qpci (Z : State) (i1 : Int32) (i2 : Int32) (fm : Value) (h0 : Heap) (n0 : Nat) (v : Option Value) (h : Heap) (L : List Loc) : Prop := v = some (.int i1) ∧ Fr n0 L ∧ h = h0
def Ppci (Z : State) (i1 : Int32) (i2 : Int32) (fm : Value) (h0 : Heap) (n0 : Nat) (s : State) (oQ : Outcome) (U : State) : Prop := ∃ v L, oQ = .returned v ∧ Qpci Z i1 i2 fm h0 n0 v U.heap L ∧ FrameEnd s oQ U L ({ frames := 0, cells := 0, slots := 0, locals := 0 } : Room).cells ({ frames := 0, cells := 0, slots := 0, locals := 0 } : Room).slots
set_option maxRecDepth 65536 in
set_option maxHeartbeats 40000000 in
theorem rmpci (l : Launch) (Z : State) (a0 : Array Value) (hw : ∀ d ∈ tables_1, d.before a0 Z = true) (ws : List Jvm.Cond) (i1 : Int32) (i2 : Int32) (fm : Value) (h0 : Heap) (n0 : Nat) (Z0 : n0 ≤ h0.size) (rfm : fm.isRef = true) (hi0 : ¬ i1 < 0) (hi1 : i1 < i2) :
    MetFree l (⟨"jdk/internal/util/Preconditions", "checkIndex", "(IILjava/util/function/BiFunction;)I"⟩ : MethodName) (head1 (Jvm.Cond.code (⟨"jdk/internal/util/Preconditions", "checkIndex", "(IILjava/util/function/BiFunction;)I"⟩ : MethodName) jdk_41_method_11_code 3 (some .int) :: ws) ({ frames := 0, cells := 0, slots := 0, locals := 0 } : Room)) (fun aQ U => aQ = #[(.int i1), (.int i2), fm] ∧ Z.Warmed39 U.vm ∧ U.heap = h0) (fun _ _ _ _ _ => True) (fun _ U oQ U' => ∃ v L, oQ = .returned v ∧ Qpci Z i1 i2 fm h0 n0 v U'.heap L ∧ FrameEnd U oQ U' L ({ frames := 0, cells := 0, slots := 0, locals := 0 } : Room).cells ({ frames := 0, cells := 0, slots := 0, locals := 0 } : Room).slots) := by
  refine MetFree.of_bodySF (plainFor_of_name pn_29) hisR ?_
  intro p e s m args below meth c s₁ Bd hml0 hP hK
  obtain ⟨rfl, hZ, hh⟩ := hP
  have hx := Bd.exec
  have hby := Bd.bytes
  have hml : c.maxLocals = 3 := hml0
  have hown : s.vm.findClass "jdk/internal/util/Preconditions" = some m.cls := findClass_of_methodNamed Bd.named
  have hnm := (name_of_methodNamed Bd.named Bd.method).1
  have X0 : Stand p l e ({ frames := 0, cells := 0, slots := 0, locals := 0 } : Room) s m #[(.int i1), (.int i2), fm] below meth c s₁ [] 0 0 := Stand.of_body Bd
  have e0 : s₁.heap = h0 := by rw [← hh, Bd.state]; rfl
  have Nf := Fr.nil n0
  have Zs : n0 ≤ h0.size := Z0
  have Kp : Keep h0 h0 [] := Keep.refl _ _
  have szr : h0.size ≤ h0.size := Nat.le_refl _
  show own_End p e below (Ppci Z i1 i2 fm h0 n0 s) (s₁.setTop (entryFrame m #[(.int i1), (.int i2), fm] 3))
  rw [ef_pci m _ _ _ rfm]
  refine own_go (fun tQ kQ => XS.iloadN X0.here hx rfl (hb hby dpci_0) rfl kQ) ?_
  show own_End p e below _ (s₁.setTop (mkF m 1 #[.val (.int i1), .val (.int i2), .val fm] [(.int i1)]))
  refine own_go (fun tQ kQ => XS.ifNo X0.here hx rfl (hb hby dpci_1) rfl ((if0 _ _).trans (flt hi0).1) kQ) ?_
  show own_End p e below _ (s₁.setTop (mkF m 4 #[.val (.int i1), .val (.int i2), .val fm] []))
  refine own_go (fun tQ kQ => XS.iloadN X0.here hx rfl (hb hby dpci_4) rfl kQ) ?_
  show own_End p e below _ (s₁.setTop (mkF m 5 #[.val (.int i1), .val (.int i2), .val fm] [(.int i1)]))
  refine own_go (fun tQ kQ => XS.iloadN X0.here hx rfl (hb hby dpci_5) rfl kQ) ?_
  show own_End p e below _ (s₁.setTop (mkF m 6 #[.val (.int i1), .val (.int i2), .val fm] [(.int i2), (.int i1)]))
  refine own_go (fun tQ kQ => XS.icmpYes X0.here hx rfl (pc0 := 6) (pc' := 16) rfl (hb hby dpci_6) rfl (tlt hi1).1 (by decide) (by decide) kQ) ?_
  show own_End p e below _ (s₁.setTop (mkF m 16 #[.val (.int i1), .val (.int i2), .val fm] []))
  refine own_go (fun tQ kQ => XS.iloadN X0.here hx rfl (hb hby dpci_16) rfl kQ) ?_
  show own_End p e below _ (s₁.setTop (mkF m 17 #[.val (.int i1), .val (.int i2), .val fm] [(.int i1)]))
  obtain ⟨fs, hr, hrun, hended, hW, hsame⟩ := X0.leave (v := some (.int i1)) (fun h => by rw [Bd.returns] at h; cases h)
  refine ⟨_, _, (retI X0 hx Bd.returns (hb hby dpci_17) hr), hrun, hended, _, _, rfl, ?_, ⟨_, rfl⟩, hW, hsame.mono (by decide) (by decide)⟩
  show Qpci Z i1 i2 fm h0 n0 _ s₁.heap _
  rw [e0]
  exact ⟨rfl, Nf, rfl⟩
theorem pd_30 : parseMethodDescriptor "(IILjava/util/function/BiFunction;)I" = some ⟨[.int, .int, (.object "java/util/function/BiFunction")], some .int⟩ := by decide +kernel
theorem dsci_0 : decode jdk_42_method_155_code 0 = .ok (.iload_n 0, 1) := by decide +kernel
theorem dsci_1 : decode jdk_42_method_155_code 1 = .ok (.iload_n 1, 1) := by decide +kernel
theorem dsci_2 : decode jdk_42_method_155_code 2 = .ok (.getstatic 1053, 3) := by decide +kernel
theorem dsci_5 : decode jdk_42_method_155_code 5 = .ok (.invokestatic 1059, 3) := by decide +kernel
theorem dsci_8 : decode jdk_42_method_155_code 8 = .ok (.pop, 1) := by decide +kernel
theorem dsci_9 : decode jdk_42_method_155_code 9 = .ok (.return_, 1) := by decide +kernel
theorem ef_sci (m : MethodId) (x0 : Int32) (x1 : Int32) : entryFrame m #[(.int x0), (.int x1)] 2 = mkF m 0 #[.val (.int x0), .val (.int x1)] [] := by first | (simp [entryFrame, mkF, argsToLocals, Value.category]; done) | rfl
def Qsci (Z : State) (i1 : Int32) (i2 : Int32) (fm : Value) (h0 : Heap) (n0 : Nat) (v : Option Value) (h : Heap) (L : List Loc) : Prop := v = none ∧ Fr n0 L ∧ h = h0
def Psci (Z : State) (i1 : Int32) (i2 : Int32) (fm : Value) (h0 : Heap) (n0 : Nat) (s : State) (oQ : Outcome) (U : State) : Prop := ∃ v L, oQ = .returned v ∧ Qsci Z i1 i2 fm h0 n0 v U.heap L ∧ FrameEnd s oQ U L ({ frames := 1, cells := 0, slots := 0, locals := 14 } : Room).cells ({ frames := 1, cells := 0, slots := 0, locals := 14 } : Room).slots
set_option maxRecDepth 65536 in
set_option maxHeartbeats 40000000 in
theorem rmsci (l : Launch) (Z : State) (a0 : Array Value) (hw : ∀ d ∈ tables_1, d.before a0 Z = true) (ws : List Jvm.Cond) (i1 : Int32) (i2 : Int32) (fm : Value) (h0 : Heap) (n0 : Nat) (Z0 : n0 ≤ h0.size) (Ol : Old Z n0 h0) (S_fm : Sta Z Z.heap "jdk/internal/util/Preconditions" "SIOOBE_FORMATTER" "Ljava/util/function/BiFunction;" fm) (rfm : fm.isRef = true) (hi0 : ¬ i1 < 0) (hi1 : i1 < i2) :
    MetFree l (⟨"java/lang/String", "checkIndex", "(II)V"⟩ : MethodName) (head1 (Jvm.Cond.code (⟨"java/lang/String", "checkIndex", "(II)V"⟩ : MethodName) jdk_42_method_155_code 2 none :: ws) ({ frames := 1, cells := 0, slots := 0, locals := 14 } : Room)) (fun aQ U => aQ = #[(.int i1), (.int i2)] ∧ Z.Warmed39 U.vm ∧ U.heap = h0) (fun _ _ _ _ _ => True) (fun _ U oQ U' => ∃ v L, oQ = .returned v ∧ Qsci Z i1 i2 fm h0 n0 v U'.heap L ∧ FrameEnd U oQ U' L ({ frames := 1, cells := 0, slots := 0, locals := 14 } : Room).cells ({ frames := 1, cells := 0, slots := 0, locals := 14 } : Room).slots) := by
  refine MetFree.of_bodySF (plainFor_of_name pn_27) hisR ?_
  intro p e s m args below meth c s₁ Bd hml0 hP hK
  obtain ⟨rfl, hZ, hh⟩ := hP
  have hx := Bd.exec
  have hby := Bd.bytes
  have hml : c.maxLocals = 2 := hml0
  have hown : s.vm.findClass "java/lang/String" = some m.cls := findClass_of_methodNamed Bd.named
  have hnm := (name_of_methodNamed Bd.named Bd.method).1
  have X0 : Stand p l e ({ frames := 1, cells := 0, slots := 0, locals := 14 } : Room) s m #[(.int i1), (.int i2)] below meth c s₁ [] 0 0 := Stand.of_body Bd
  have e0 : s₁.heap = h0 := by rw [← hh, Bd.state]; rfl
  have Nf := Fr.nil n0
  have Zs : n0 ≤ h0.size := Z0
  have Kp : Keep h0 h0 [] := Keep.refl _ _
  have szr : h0.size ≤ h0.size := Nat.le_refl _
  show own_End p e below (Psci Z i1 i2 fm h0 n0 s) (s₁.setTop (entryFrame m #[(.int i1), (.int i2)] 2))
  rw [ef_sci]
  refine own_go (fun tQ kQ => XS.iloadN X0.here hx rfl (hb hby dsci_0) rfl kQ) ?_
  show own_End p e below _ (s₁.setTop (mkF m 1 #[.val (.int i1), .val (.int i2)] [(.int i1)]))
  refine own_go (fun tQ kQ => XS.iloadN X0.here hx rfl (hb hby dsci_1) rfl kQ) ?_
  show own_End p e below _ (s₁.setTop (mkF m 2 #[.val (.int i1), .val (.int i2)] [(.int i2), (.int i1)]))
  obtain ⟨T1, X1, e1, st1⟩ := getS2 X0 hx hZ hown (host := "") (Or.inl (hw _ (List.mem_of_getElem? (i := 48) rfl))) Via.refl e0 (S_fm.ext Ol.2) (g := (mkF m 2 #[.val (.int i1), .val (.int i2)] [(.int i2), (.int i1)])) rfl (hb hby dsci_2)
  refine own_go (fun tQ kQ => st1 tQ kQ) ?_
  show own_End p e below _ (T1.setTop (mkF m 5 #[.val (.int i1), .val (.int i2)] [fm, (.int i2), (.int i1)]))
  obtain ⟨_, _, ⟨T2, L2, k2, n2⟩, -, X2, ⟨Lc2, hQ2, l2, y2, z2⟩, st2⟩ := Jvm.LawKit.callS X1 hx (y := (⟨"jdk/internal/util/Preconditions", "checkIndex", "(IILjava/util/function/BiFunction;)I"⟩ : MethodName)) hown (mvT hZ (hw _ (List.mem_of_getElem? (i := 50) rfl))) (mvT hZ (hw _ (List.mem_of_getElem? (i := 51) rfl))) (mvT hZ (hw _ (List.mem_of_getElem? (i := 49) rfl))) (mvT hZ (hw _ (List.mem_of_getElem? (i := 52) rfl))) (by decide) (backOf (W := 0) (rmpci l Z a0 hw [] i1 i2 fm h0 n0 Zs rfm hi0 hi1) hZ (hw _ (List.mem_of_getElem? (i := 52) rfl)) (hw _ (List.mem_of_getElem? (i := 49) rfl)) (by decide) (by decide)) (g := (mkF m 5 #[.val (.int i1), .val (.int i2)] [fm, (.int i2), (.int i1)])) rfl (by rw [hml]; rfl) (argsL := [(.int i1), (.int i2), fm]) (rest := []) (lenOf pd_30 rfl) rfl (by show 2 * 0 + _ ≤ _; exact Nat.le_of_eq rfl) (hb hby dsci_5) (fun _ _ => ⟨rfl, e1, (Nat.le_of_ble_eq_true rfl), (Nat.le_of_ble_eq_true rfl)⟩)
  dsimp only [Pt.U, Pt.locs, Pt.cells, Pt.slots] at X2 l2 y2 z2 st2 hQ2
  rw [l2, y2, z2] at X2
  obtain ⟨rfl, N2q, e2⟩ := hQ2
  have Nf := Fr.app Nf N2q
  have X2 := own_pad (k' := 0) (n' := 0) X2 (by decide) (by decide)
  refine own_go (fun tQ kQ => st2 tQ kQ) ?_
  show own_End p e below _ (T2.setTop (mkF m 8 #[.val (.int i1), .val (.int i2)] [(.int i1)]))
  refine own_go (fun tQ kQ => XS.pop X2.here hx rfl (hb hby dsci_8) rfl rfl kQ) ?_
  show own_End p e below _ (T2.setTop (mkF m 9 #[.val (.int i1), .val (.int i2)] []))
  obtain ⟨fs, hr, hrun, hended, hW, hsame⟩ := X2.leave (v := none) (fun _ => rfl)
  refine ⟨_, _, X2.returnOut hx Bd.returns (hb hby dsci_9) hr, hrun, hended, _, _, rfl, ?_, ⟨_, rfl⟩, hW, hsame.mono (by decide) (by decide)⟩
  show Qsci Z i1 i2 fm h0 n0 _ T2.heap _
  rw [e2]
  exact ⟨rfl, Nf, rfl⟩
theorem pd_31 : parseMethodDescriptor "(II)V" = some ⟨[.int, .int], none⟩ := by decide +kernel
theorem dlch_0 : decode jdk_43_method_2_code 0 = .ok (.iload_n 1, 1) := by decide +kernel
theorem dlch_1 : decode jdk_43_method_2_code 1 = .ok (.aload_n 0, 1) := by decide +kernel
theorem dlch_2 : decode jdk_43_method_2_code 2 = .ok (.arraylength, 1) := by decide +kernel
theorem dlch_3 : decode jdk_43_method_2_code 3 = .ok (.invokestatic 9, 3) := by decide +kernel
theorem dlch_6 : decode jdk_43_method_2_code 6 = .ok (.aload_n 0, 1) := by decide +kernel
theorem dlch_7 : decode jdk_43_method_2_code 7 = .ok (.iload_n 1, 1) := by decide +kernel
theorem dlch_8 : decode jdk_43_method_2_code 8 = .ok (.baload, 1) := by decide +kernel
theorem dlch_9 : decode jdk_43_method_2_code 9 = .ok (.sipush 255, 3) := by decide +kernel
theorem dlch_12 : decode jdk_43_method_2_code 12 = .ok (.iand, 1) := by decide +kernel
theorem dlch_13 : decode jdk_43_method_2_code 13 = .ok (.i2c, 1) := by decide +kernel
theorem dlch_14 : decode jdk_43_method_2_code 14 = .ok (.ireturn, 1) := by decide +kernel
theorem pn_32 : plainName "java/lang/StringLatin1" = true := by first | (simp [plainName, overriddenIn]; done) | decide +kernel
theorem ef_lch (m : MethodId) (x0 : Addr) (x1 : Int32) : entryFrame m #[(.ref x0), (.int x1)] 2 = mkF m 0 #[.val (.ref x0), .val (.int x1)] [] := by first | (simp [entryFrame, mkF, argsToLocals, Value.category]; done) | rfl
def Qlch (Z : State) (tt : Addr) (z : Int32) (bs : Nat → Int32) (i1 : Int32) (fm : Value) (h0 : Heap) (n0 : Nat) (v : Option Value) (h : Heap) (L : List Loc) : Prop := v = some (.int (own_ch (bs i1.toNatClampNeg))) ∧ Fr n0 L ∧ h = h0
def Plch (Z : State) (tt : Addr) (z : Int32) (bs : Nat → Int32) (i1 : Int32) (fm : Value) (h0 : Heap) (n0 : Nat) (s : State) (oQ : Outcome) (U : State) : Prop := ∃ v L, oQ = .returned v ∧ Qlch Z tt z bs i1 fm h0 n0 v U.heap L ∧ FrameEnd s oQ U L ({ frames := 2, cells := 0, slots := 0, locals := 27 } : Room).cells ({ frames := 2, cells := 0, slots := 0, locals := 27 } : Room).slots
set_option maxRecDepth 65536 in
set_option maxHeartbeats 40000000 in
theorem rmlch (l : Launch) (Z : State) (a0 : Array Value) (hw : ∀ d ∈ tables_1, d.before a0 Z = true) (ws : List Jvm.Cond) (tt : Addr) (z : Int32) (bs : Nat → Int32) (i1 : Int32) (fm : Value) (h0 : Heap) (n0 : Nat) (Z0 : n0 ≤ h0.size) (V_tt : own_Ar Z h0 tt .byte z (fun j => .int (bs j))) (Ol : Old Z n0 h0) (S_fm : Sta Z Z.heap "jdk/internal/util/Preconditions" "SIOOBE_FORMATTER" "Ljava/util/function/BiFunction;" fm) (rfm : fm.isRef = true) (hi0 : ¬ i1 < 0) (hi1 : i1 < z) :
    MetFree l (⟨"java/lang/StringLatin1", "charAt", "([BI)C"⟩ : MethodName) (head1 (Jvm.Cond.code (⟨"java/lang/StringLatin1", "charAt", "([BI)C"⟩ : MethodName) jdk_43_method_2_code 2 (some .char) :: ws) ({ frames := 2, cells := 0, slots := 0, locals := 27 } : Room)) (fun aQ U => aQ = #[(.ref tt), (.int i1)] ∧ Z.Warmed39 U.vm ∧ U.heap = h0) (fun _ _ _ _ _ => True) (fun _ U oQ U' => ∃ v L, oQ = .returned v ∧ Qlch Z tt z bs i1 fm h0 n0 v U'.heap L ∧ FrameEnd U oQ U' L ({ frames := 2, cells := 0, slots := 0, locals := 27 } : Room).cells ({ frames := 2, cells := 0, slots := 0, locals := 27 } : Room).slots) := by
  refine MetFree.of_bodySF (plainFor_of_name pn_32) hisR ?_
  intro p e s m args below meth c s₁ Bd hml0 hP hK
  obtain ⟨rfl, hZ, hh⟩ := hP
  have hx := Bd.exec
  have hby := Bd.bytes
  have hml : c.maxLocals = 2 := hml0
  have hown : s.vm.findClass "java/lang/StringLatin1" = some m.cls := findClass_of_methodNamed Bd.named
  have hnm := (name_of_methodNamed Bd.named Bd.method).1
  have X0 : Stand p l e ({ frames := 2, cells := 0, slots := 0, locals := 27 } : Room) s m #[(.ref tt), (.int i1)] below meth c s₁ [] 0 0 := Stand.of_body Bd
  have e0 : s₁.heap = h0 := by rw [← hh, Bd.state]; rfl
  have Nf := Fr.nil n0
  have Zs : n0 ≤ h0.size := Z0
  have Kp : Keep h0 h0 [] := Keep.refl _ _
  have szr : h0.size ≤ h0.size := Nat.le_refl _
  show own_End p e below (Plch Z tt z bs i1 fm h0 n0 s) (s₁.setTop (entryFrame m #[(.ref tt), (.int i1)] 2))
  rw [ef_lch]
  refine own_go (fun tQ kQ => XS.iloadN X0.here hx rfl (hb hby dlch_0) rfl kQ) ?_
  show own_End p e below _ (s₁.setTop (mkF m 1 #[.val (.ref tt), .val (.int i1)] [(.int i1)]))
  refine own_go (fun tQ kQ => XS.aloadN X0.here hx rfl (hb hby dlch_1) rfl rfl kQ) ?_
  show own_End p e below _ (s₁.setTop (mkF m 2 #[.val (.ref tt), .val (.int i1)] [(.ref tt), (.int i1)]))
  obtain ⟨cl1, Ar1, S1, M1, H1⟩ := id V_tt
  refine own_go (fun tQ kQ => X0.arraylength hx (by rw [e0]; exact Ar1.1) (State.isArrayOf_alike hZ.alike Ar1.2.1) (g := (mkF m 2 #[.val (.ref tt), .val (.int i1)] [(.ref tt), (.int i1)])) rfl rfl (hb hby dlch_2) _ kQ) ?_
  rw [len_of S1 M1]
  show own_End p e below _ (s₁.setTop (mkF m 3 #[.val (.ref tt), .val (.int i1)] [(.int z), (.int i1)]))
  obtain ⟨_, _, ⟨T2, L2, k2, n2⟩, -, X2, ⟨Lc2, hQ2, l2, y2, z2⟩, st2⟩ := Jvm.LawKit.callS X0 hx (y := (⟨"java/lang/String", "checkIndex", "(II)V"⟩ : MethodName)) hown (mvT hZ (hw _ (List.mem_of_getElem? (i := 45) rfl))) (mvT hZ (hw _ (List.mem_of_getElem? (i := 46) rfl))) (mvT hZ (hw _ (List.mem_of_getElem? (i := 2) rfl))) (mvT hZ (hw _ (List.mem_of_getElem? (i := 47) rfl))) (by decide) (backOf (W := 0) (rmsci l Z a0 hw [] i1 z fm h0 n0 Zs Ol S_fm rfm hi0 hi1) hZ (hw _ (List.mem_of_getElem? (i := 47) rfl)) (hw _ (List.mem_of_getElem? (i := 2) rfl)) (by decide) (by decide)) (g := (mkF m 3 #[.val (.ref tt), .val (.int i1)] [(.int z), (.int i1)])) rfl (by rw [hml]; rfl) (argsL := [(.int i1), (.int z)]) (rest := []) (lenOf pd_31 rfl) rfl (by show 2 * 0 + _ ≤ _; exact Nat.le_of_eq rfl) (hb hby dlch_3) (fun _ _ => ⟨rfl, e0, (Nat.le_of_ble_eq_true rfl), (Nat.le_of_ble_eq_true rfl)⟩)
  dsimp only [Pt.U, Pt.locs, Pt.cells, Pt.slots] at X2 l2 y2 z2 st2 hQ2
  rw [l2, y2, z2] at X2
  obtain ⟨rfl, N2q, e2⟩ := hQ2
  have Nf := Fr.app Nf N2q
  have X2 := own_pad (k' := 0) (n' := 0) X2 (by decide) (by decide)
  refine own_go (fun tQ kQ => st2 tQ kQ) ?_
  show own_End p e below _ (T2.setTop (mkF m 6 #[.val (.ref tt), .val (.int i1)] []))
  refine own_go (fun tQ kQ => XS.aloadN X2.here hx rfl (hb hby dlch_6) rfl rfl kQ) ?_
  show own_End p e below _ (T2.setTop (mkF m 7 #[.val (.ref tt), .val (.int i1)] [(.ref tt)]))
  refine own_go (fun tQ kQ => XS.iloadN X2.here hx rfl (hb hby dlch_7) rfl kQ) ?_
  show own_End p e below _ (T2.setTop (mkF m 8 #[.val (.ref tt), .val (.int i1)] [(.int i1), (.ref tt)]))
  obtain ⟨cl3, Ar3, S3, M3, H3⟩ := id V_tt
  have hin3 := inb_of (j := i1) S3 ⟨hi0, hi1⟩
  refine own_go (fun tQ kQ => X2.baloadBytes hx (j := i1) (v := (.int (bs i1.toNatClampNeg))) (by rw [e2]; exact Ar3.1) (State.isArrayOf_alike hZ.alike Ar3.2.1) Ar3.2.2 hin3 (H3 _ (own_in S3 hin3)) (g := (mkF m 8 #[.val (.ref tt), .val (.int i1)] [(.int i1), (.ref tt)])) rfl rfl (hb hby dlch_8) _ kQ) ?_
  show own_End p e below _ (T2.setTop (mkF m 9 #[.val (.ref tt), .val (.int i1)] [(.int (bs i1.toNatClampNeg))]))
  refine own_go (fun tQ kQ => XS.sipush X2.here hx rfl (hb hby dlch_9) kQ) ?_
  show own_End p e below _ (T2.setTop (mkF m 12 #[.val (.ref tt), .val (.int i1)] [(.int (255 : Int32)), (.int (bs i1.toNatClampNeg))]))
  refine own_go (fun tQ kQ => XS.iand X2.here hx rfl (hb hby dlch_12) rfl kQ) ?_
  show own_End p e below _ (T2.setTop (mkF m 13 #[.val (.ref tt), .val (.int i1)] [(.int ((bs i1.toNatClampNeg) &&& (255 : Int32)))]))
  refine own_go (fun tQ kQ => XS.i2c X2.here hx rfl (hb hby dlch_13) rfl kQ) ?_
  show own_End p e below _ (T2.setTop (mkF m 14 #[.val (.ref tt), .val (.int i1)] [(.int (((bs i1.toNatClampNeg) &&& (255 : Int32)).toUInt32.toUInt16.toUInt32.toInt32))]))
  obtain ⟨fs, hr, hrun, hended, hW, hsame⟩ := X2.leave (v := some (.int (nar .char (((bs i1.toNatClampNeg) &&& (255 : Int32)).toUInt32.toUInt16.toUInt32.toInt32)))) (fun h => by rw [Bd.returns] at h; cases h)
  refine ⟨_, _, (retN X2 hx (t := .char) Bd.returns (by simp) (hb hby dlch_14) hr), hrun, hended, _, _, rfl, ?_, ⟨_, rfl⟩, hW, hsame.mono (by decide) (by decide)⟩
  show Qlch Z tt z bs i1 fm h0 n0 _ T2.heap _
  rw [e2]
  exact ⟨rfl, Nf, rfl⟩
theorem pd_33 : parseMethodDescriptor "([BI)C" = some ⟨[(.array .byte), .int], some .char⟩ := by decide +kernel
theorem dchA_0 : decode jdk_42_method_56_code 0 = .ok (.aload_n 0, 1) := by decide +kernel
theorem dchA_1 : decode jdk_42_method_56_code 1 = .ok (.invokevirtual 492, 3) := by decide +kernel
theorem dchA_4 : decode jdk_42_method_56_code 4 = .ok (.ifCond .eq 12, 3) := by decide +kernel
theorem dchA_7 : decode jdk_42_method_56_code 7 = .ok (.aload_n 0, 1) := by decide +kernel
theorem dchA_8 : decode jdk_42_method_56_code 8 = .ok (.getfield 9, 3) := by decide +kernel
theorem dchA_11 : decode jdk_42_method_56_code 11 = .ok (.iload_n 1, 1) := by decide +kernel
theorem dchA_12 : decode jdk_42_method_56_code 12 = .ok (.invokestatic 495, 3) := by decide +kernel
theorem dchA_15 : decode jdk_42_method_56_code 15 = .ok (.ireturn, 1) := by decide +kernel
theorem ef_chA (m : MethodId) (x0 : Addr) (x1 : Int32) : entryFrame m #[(.ref x0), (.int x1)] 2 = mkF m 0 #[.val (.ref x0), .val (.int x1)] [] := by first | (simp [entryFrame, mkF, argsToLocals, Value.category]; done) | rfl
def QchA (Z : State) (st : Addr) (tt : Addr) (z : Int32) (bs : Nat → Int32) (cz : Int32) (i1 : Int32) (fm : Value) (h0 : Heap) (n0 : Nat) (v : Option Value) (h : Heap) (L : List Loc) : Prop := v = some (.int (own_ch (bs i1.toNatClampNeg))) ∧ Fr n0 L ∧ h = h0
def PchA (Z : State) (st : Addr) (tt : Addr) (z : Int32) (bs : Nat → Int32) (cz : Int32) (i1 : Int32) (fm : Value) (h0 : Heap) (n0 : Nat) (s : State) (oQ : Outcome) (U : State) : Prop := ∃ v L, oQ = .returned v ∧ QchA Z st tt z bs cz i1 fm h0 n0 v U.heap L ∧ FrameEnd s oQ U L ({ frames := 3, cells := 0, slots := 0, locals := 40 } : Room).cells ({ frames := 3, cells := 0, slots := 0, locals := 40 } : Room).slots
set_option maxRecDepth 65536 in
set_option maxHeartbeats 40000000 in
theorem rmchA (l : Launch) (Z : State) (a0 : Array Value) (hw : ∀ d ∈ tables_1, d.before a0 Z = true) (ws : List Jvm.Cond) (st : Addr) (tt : Addr) (z : Int32) (bs : Nat → Int32) (cz : Int32) (i1 : Int32) (fm : Value) (h0 : Heap) (n0 : Nat) (Z0 : n0 ≤ h0.size) (E_st : Exa Z h0 st "java/lang/String") (F_value_st : Fld Z h0 st "java/lang/String" "value" "[B" (.ref tt)) (F_coder_st : Fld Z h0 st "java/lang/String" "coder" "B" (.int (0 : Int32))) (V_tt : own_Ar Z h0 tt .byte z (fun j => .int (bs j))) (Ol : Old Z n0 h0) (S_cs : Sta Z Z.heap "java/lang/String" "COMPACT_STRINGS" "Z" (.int cz)) (hcz : ¬ cz = 0) (S_fm : Sta Z Z.heap "jdk/internal/util/Preconditions" "SIOOBE_FORMATTER" "Ljava/util/function/BiFunction;" fm) (rfm : fm.isRef = true) (hi0 : ¬ i1 < 0) (hi1 : i1 < z) :
    MetFree l (⟨"java/lang/String", "charAt", "(I)C"⟩ : MethodName) (head1 (Jvm.Cond.code (⟨"java/lang/String", "charAt", "(I)C"⟩ : MethodName) jdk_42_method_56_code 2 (some .char) :: ws) ({ frames := 3, cells := 0, slots := 0, locals := 40 } : Room)) (fun aQ U => aQ = #[(.ref st), (.int i1)] ∧ Z.Warmed39 U.vm ∧ U.heap = h0) (fun _ _ _ _ _ => True) (fun _ U oQ U' => ∃ v L, oQ = .returned v ∧ QchA Z st tt z bs cz i1 fm h0 n0 v U'.heap L ∧ FrameEnd U oQ U' L ({ frames := 3, cells := 0, slots := 0, locals := 40 } : Room).cells ({ frames := 3, cells := 0, slots := 0, locals := 40 } : Room).slots) := by
  refine MetFree.of_bodySF (plainFor_of_name pn_27) hisR ?_
  intro p e s m args below meth c s₁ Bd hml0 hP hK
  obtain ⟨rfl, hZ, hh⟩ := hP
  have hx := Bd.exec
  have hby := Bd.bytes
  have hml : c.maxLocals = 2 := hml0
  have hown : s.vm.findClass "java/lang/String" = some m.cls := findClass_of_methodNamed Bd.named
  have hnm := (name_of_methodNamed Bd.named Bd.method).1
  have X0 : Stand p l e ({ frames := 3, cells := 0, slots := 0, locals := 40 } : Room) s m #[(.ref st), (.int i1)] below meth c s₁ [] 0 0 := Stand.of_body Bd
  have e0 : s₁.heap = h0 := by rw [← hh, Bd.state]; rfl
  have Nf := Fr.nil n0
  have Zs : n0 ≤ h0.size := Z0
  have Kp : Keep h0 h0 [] := Keep.refl _ _
  have szr : h0.size ≤ h0.size := Nat.le_refl _
  show own_End p e below (PchA Z st tt z bs cz i1 fm h0 n0 s) (s₁.setTop (entryFrame m #[(.ref st), (.int i1)] 2))
  rw [ef_chA]
  refine own_go (fun tQ kQ => XS.aloadN X0.here hx rfl (hb hby dchA_0) rfl rfl kQ) ?_
  show own_End p e below _ (s₁.setTop (mkF m 1 #[.val (.ref st), .val (.int i1)] [(.ref st)]))
  obtain ⟨cq1, kq1, q1a, q1b, q1c⟩ := isOf hZ e0 E_st
  obtain ⟨_, _, ⟨T1, L1, k1, n1⟩, -, X1, ⟨Lc1, hQ1, l1, y1, z1⟩, st1⟩ := X0.virtualBack hx (y := (⟨"java/lang/String", "isLatin1", "()Z"⟩ : MethodName)) (z := (⟨"java/lang/String", "isLatin1", "()Z"⟩ : MethodName)) hown (mvT hZ (hw _ (List.mem_of_getElem? (i := 36) rfl))) (mvT hZ (hw _ (List.mem_of_getElem? (i := 37) rfl))) (notFace_of_selects (args := #[]) (mvT hZ (hw _ (List.mem_of_getElem? (i := 39) rfl)))) (mvT hZ (hw _ (List.mem_of_getElem? (i := 39) rfl))) (mvT hZ (hw _ (List.mem_of_getElem? (i := 38) rfl))) (by decide) (backOf (W := 0) (rmlat l Z a0 hw [] st tt z bs cz h0 n0 Zs E_st F_value_st F_coder_st V_tt Ol S_cs hcz) hZ (hw _ (List.mem_of_getElem? (i := 40) rfl)) (hw _ (List.mem_of_getElem? (i := 2) rfl)) (by decide) (by decide)) q1a q1c (g := (mkF m 1 #[.val (.ref st), .val (.int i1)] [(.ref st)])) rfl (by rw [hml]; rfl) (Steps.refl _) (argsL := []) (rest := []) (lenOf pd_20 rfl) rfl (by show 2 * 0 + _ ≤ _; exact Nat.le_of_eq rfl) (hb hby dchA_1) (fun _ _ => ⟨rfl, e0, (Nat.le_of_ble_eq_true rfl), (Nat.le_of_ble_eq_true rfl)⟩)
  dsimp only [Pt.U, Pt.locs, Pt.cells, Pt.slots] at X1 l1 y1 z1 st1 hQ1
  rw [l1, y1, z1] at X1
  obtain ⟨rfl, N1q, e1⟩ := hQ1
  have Nf := Fr.app Nf N1q
  have X1 := own_pad (k' := 0) (n' := 0) X1 (by decide) (by decide)
  refine own_go (fun tQ kQ => st1.trans kQ) ?_
  show own_End p e below _ (T1.setTop (mkF m 4 #[.val (.ref st), .val (.int i1)] [(.int (1 : Int32))]))
  refine own_go (fun tQ kQ => XS.ifNo X1.here hx rfl (hb hby dchA_4) rfl ((if0 _ _).trans (feq (by decide)).1) kQ) ?_
  show own_End p e below _ (T1.setTop (mkF m 7 #[.val (.ref st), .val (.int i1)] []))
  refine own_go (fun tQ kQ => XS.aloadN X1.here hx rfl (hb hby dchA_7) rfl rfl kQ) ?_
  show own_End p e below _ (T1.setTop (mkF m 8 #[.val (.ref st), .val (.int i1)] [(.ref st)]))
  obtain ⟨T2, X2, e2, st2⟩ := getF X1 hx hZ hown (host := "") (Or.inl (hw _ (List.mem_of_getElem? (i := 23) rfl))) Via.refl e1 F_value_st (g := (mkF m 8 #[.val (.ref st), .val (.int i1)] [(.ref st)])) rfl rfl (hb hby dchA_8)
  refine own_go (fun tQ kQ => st2 tQ kQ) ?_
  show own_End p e below _ (T2.setTop (mkF m 11 #[.val (.ref st), .val (.int i1)] [(.ref tt)]))
  refine own_go (fun tQ kQ => XS.iloadN X2.here hx rfl (hb hby dchA_11) rfl kQ) ?_
  show own_End p e below _ (T2.setTop (mkF m 12 #[.val (.ref st), .val (.int i1)] [(.int i1), (.ref tt)]))
  obtain ⟨_, _, ⟨T3, L3, k3, n3⟩, -, X3, ⟨Lc3, hQ3, l3, y3, z3⟩, st3⟩ := Jvm.LawKit.callS X2 hx (y := (⟨"java/lang/StringLatin1", "charAt", "([BI)C"⟩ : MethodName)) hown (mvT hZ (hw _ (List.mem_of_getElem? (i := 41) rfl))) (mvT hZ (hw _ (List.mem_of_getElem? (i := 42) rfl))) (mvT hZ (hw _ (List.mem_of_getElem? (i := 43) rfl))) (mvT hZ (hw _ (List.mem_of_getElem? (i := 44) rfl))) (by decide) (backOf (W := 0) (rmlch l Z a0 hw [] tt z bs i1 fm h0 n0 Zs V_tt Ol S_fm rfm hi0 hi1) hZ (hw _ (List.mem_of_getElem? (i := 44) rfl)) (hw _ (List.mem_of_getElem? (i := 43) rfl)) (by decide) (by decide)) (g := (mkF m 12 #[.val (.ref st), .val (.int i1)] [(.int i1), (.ref tt)])) rfl (by rw [hml]; rfl) (argsL := [(.ref tt), (.int i1)]) (rest := []) (lenOf pd_33 rfl) rfl (by show 2 * 0 + _ ≤ _; exact Nat.le_of_eq rfl) (hb hby dchA_12) (fun _ _ => ⟨rfl, e2, (Nat.le_of_ble_eq_true rfl), (Nat.le_of_ble_eq_true rfl)⟩)
  dsimp only [Pt.U, Pt.locs, Pt.cells, Pt.slots] at X3 l3 y3 z3 st3 hQ3
  rw [l3, y3, z3] at X3
  obtain ⟨rfl, N3q, e3⟩ := hQ3
  have Nf := Fr.app Nf N3q
  have X3 := own_pad (k' := 0) (n' := 0) X3 (by decide) (by decide)
  refine own_go (fun tQ kQ => st3 tQ kQ) ?_
  show own_End p e below _ (T3.setTop (mkF m 15 #[.val (.ref st), .val (.int i1)] [(.int (own_ch (bs i1.toNatClampNeg)))]))
  obtain ⟨fs, hr, hrun, hended, hW, hsame⟩ := X3.leave (v := some (.int (nar .char (own_ch (bs i1.toNatClampNeg))))) (fun h => by rw [Bd.returns] at h; cases h)
  refine ⟨_, _, (retN X3 hx (t := .char) Bd.returns (by simp) (hb hby dchA_15) hr), hrun, hended, _, _, rfl, ?_, ⟨_, rfl⟩, hW, hsame.mono (by decide) (by decide)⟩
  show QchA Z st tt z bs cz i1 fm h0 n0 _ T3.heap _
  rw [e3]
  exact ⟨by rw [show nar .char (own_ch (bs i1.toNatClampNeg)) = own_ch (bs i1.toNatClampNeg) from own_narch _], Nf, rfl⟩
theorem dlab_0 : decode prog_26_method_3_code 0 = .ok (.iload_n 0, 1) := by decide +kernel
theorem dlab_1 : decode prog_26_method_3_code 1 = .ok (.bipush 97, 2) := by decide +kernel
theorem dlab_3 : decode prog_26_method_3_code 3 = .ok (.if_icmp .lt 9, 3) := by decide +kernel
theorem dlab_6 : decode prog_26_method_3_code 6 = .ok (.iload_n 0, 1) := by decide +kernel
theorem dlab_7 : decode prog_26_method_3_code 7 = .ok (.bipush 122, 2) := by decide +kernel
theorem dlab_9 : decode prog_26_method_3_code 9 = .ok (.if_icmp .le 33, 3) := by decide +kernel
theorem dlab_42 : decode prog_26_method_3_code 42 = .ok (.iconst 1, 1) := by decide +kernel
theorem dlab_43 : decode prog_26_method_3_code 43 = .ok (.goto 4, 3) := by decide +kernel
theorem dlab_47 : decode prog_26_method_3_code 47 = .ok (.ireturn, 1) := by decide +kernel
theorem pn_34 : plainName "com/example/grant3/grant3/Scope" = true := by first | (simp [plainName, overriddenIn]; done) | decide +kernel
theorem ef_lab (m : MethodId) (x0 : Int32) : entryFrame m #[(.int x0)] 1 = mkF m 0 #[.val (.int x0)] [] := by first | (simp [entryFrame, mkF, argsToLocals, Value.category]; done) | rfl
def Qlab (Z : State) (ch : Int32) (h0 : Heap) (n0 : Nat) (v : Option Value) (h : Heap) (L : List Loc) : Prop := v = some (.int 1) ∧ Fr n0 L ∧ h = h0
def Plab (Z : State) (ch : Int32) (h0 : Heap) (n0 : Nat) (s : State) (oQ : Outcome) (U : State) : Prop := ∃ v L, oQ = .returned v ∧ Qlab Z ch h0 n0 v U.heap L ∧ FrameEnd s oQ U L ({ frames := 0, cells := 0, slots := 0, locals := 0 } : Room).cells ({ frames := 0, cells := 0, slots := 0, locals := 0 } : Room).slots
set_option maxRecDepth 65536 in
set_option maxHeartbeats 40000000 in
theorem rmlab (l : Launch) (Z : State) (a0 : Array Value) (hw : ∀ d ∈ tables_1, d.before a0 Z = true) (ws : List Jvm.Cond) (ch : Int32) (h0 : Heap) (n0 : Nat) (Z0 : n0 ≤ h0.size) (h97 : ¬ ch < (97 : Int32)) (h122 : ¬ (122 : Int32) < ch) :
    MetFree l (⟨"com/example/grant3/grant3/Scope", "isLabelCharacter", "(C)Z"⟩ : MethodName) (head1 (Jvm.Cond.code (⟨"com/example/grant3/grant3/Scope", "isLabelCharacter", "(C)Z"⟩ : MethodName) prog_26_method_3_code 1 (some .boolean) :: ws) ({ frames := 0, cells := 0, slots := 0, locals := 0 } : Room)) (fun aQ U => aQ = #[(.int ch)] ∧ Z.Warmed39 U.vm ∧ U.heap = h0) (fun _ _ _ _ _ => True) (fun _ U oQ U' => ∃ v L, oQ = .returned v ∧ Qlab Z ch h0 n0 v U'.heap L ∧ FrameEnd U oQ U' L ({ frames := 0, cells := 0, slots := 0, locals := 0 } : Room).cells ({ frames := 0, cells := 0, slots := 0, locals := 0 } : Room).slots) := by
  refine MetFree.of_bodySF (plainFor_of_name pn_34) hisR ?_
  intro p e s m args below meth c s₁ Bd hml0 hP hK
  obtain ⟨rfl, hZ, hh⟩ := hP
  have hx := Bd.exec
  have hby := Bd.bytes
  have hml : c.maxLocals = 1 := hml0
  have hown : s.vm.findClass "com/example/grant3/grant3/Scope" = some m.cls := findClass_of_methodNamed Bd.named
  have hnm := (name_of_methodNamed Bd.named Bd.method).1
  have X0 : Stand p l e ({ frames := 0, cells := 0, slots := 0, locals := 0 } : Room) s m #[(.int ch)] below meth c s₁ [] 0 0 := Stand.of_body Bd
  have e0 : s₁.heap = h0 := by rw [← hh, Bd.state]; rfl
  have Nf := Fr.nil n0
  have Zs : n0 ≤ h0.size := Z0
  have Kp : Keep h0 h0 [] := Keep.refl _ _
  have szr : h0.size ≤ h0.size := Nat.le_refl _
  show own_End p e below (Plab Z ch h0 n0 s) (s₁.setTop (entryFrame m #[(.int ch)] 1))
  rw [ef_lab]
  refine own_go (fun tQ kQ => XS.iloadN X0.here hx rfl (hb hby dlab_0) rfl kQ) ?_
  show own_End p e below _ (s₁.setTop (mkF m 1 #[.val (.int ch)] [(.int ch)]))
  refine own_go (fun tQ kQ => XS.bipush X0.here hx rfl (hb hby dlab_1) kQ) ?_
  show own_End p e below _ (s₁.setTop (mkF m 3 #[.val (.int ch)] [(.int (97 : Int32)), (.int ch)]))
  refine own_go (fun tQ kQ => XS.icmpNo X0.here hx rfl (hb hby dlab_3) rfl (flt h97).1 kQ) ?_
  show own_End p e below _ (s₁.setTop (mkF m 6 #[.val (.int ch)] []))
  refine own_go (fun tQ kQ => XS.iloadN X0.here hx rfl (hb hby dlab_6) rfl kQ) ?_
  show own_End p e below _ (s₁.setTop (mkF m 7 #[.val (.int ch)] [(.int ch)]))
  refine own_go (fun tQ kQ => XS.bipush X0.here hx rfl (hb hby dlab_7) kQ) ?_
  show own_End p e below _ (s₁.setTop (mkF m 9 #[.val (.int ch)] [(.int (122 : Int32)), (.int ch)]))
  refine own_go (fun tQ kQ => XS.icmpYes X0.here hx rfl (pc0 := 9) (pc' := 42) rfl (hb hby dlab_9) rfl (flt h122).2.2.2 (by decide) (by decide) kQ) ?_
  show own_End p e below _ (s₁.setTop (mkF m 42 #[.val (.int ch)] []))
  refine own_go (fun tQ kQ => XS.iconst X0.here hx rfl (hb hby dlab_42) kQ) ?_
  show own_End p e below _ (s₁.setTop (mkF m 43 #[.val (.int ch)] [(.int (1 : Int32))]))
  refine own_go (fun tQ kQ => XS.goto X0.here hx rfl (pc0 := 43) (pc' := 47) rfl (hb hby dlab_43) (by decide) (by decide) kQ) ?_
  show own_End p e below _ (s₁.setTop (mkF m 47 #[.val (.int ch)] [(.int (1 : Int32))]))
  obtain ⟨fs, hr, hrun, hended, hW, hsame⟩ := X0.leave (v := some (.int (1 : Int32))) (fun h => by rw [Bd.returns] at h; cases h)
  refine ⟨_, _, (retN X0 hx (t := .boolean) Bd.returns (by simp) (hb hby dlab_47) hr), hrun, hended, _, _, rfl, ?_, ⟨_, rfl⟩, hW, hsame.mono (by decide) (by decide)⟩
  show Qlab Z ch h0 n0 _ s₁.heap _
  rw [e0]
  exact ⟨rfl, Nf, rfl⟩
theorem dcft_0 : decode jdk_41_method_12_code 0 = .ok (.iload_n 0, 1) := by decide +kernel
theorem dcft_1 : decode jdk_41_method_12_code 1 = .ok (.ifCond .lt 13, 3) := by decide +kernel
theorem dcft_4 : decode jdk_41_method_12_code 4 = .ok (.iload_n 0, 1) := by decide +kernel
theorem dcft_5 : decode jdk_41_method_12_code 5 = .ok (.iload_n 1, 1) := by decide +kernel
theorem dcft_6 : decode jdk_41_method_12_code 6 = .ok (.if_icmp .gt 8, 3) := by decide +kernel
theorem dcft_9 : decode jdk_41_method_12_code 9 = .ok (.iload_n 1, 1) := by decide +kernel
theorem dcft_10 : decode jdk_41_method_12_code 10 = .ok (.iload_n 2, 1) := by decide +kernel
theorem dcft_11 : decode jdk_41_method_12_code 11 = .ok (.if_icmp .le 11, 3) := by decide +kernel
theorem dcft_22 : decode jdk_41_method_12_code 22 = .ok (.iload_n 0, 1) := by decide +kernel
theorem dcft_23 : decode jdk_41_method_12_code 23 = .ok (.ireturn, 1) := by decide +kernel
theorem ef_cft (m : MethodId) (x0 : Int32) (x1 : Int32) (x2 : Int32) (x3 : Value) (hx3 : x3.isRef = true) : entryFrame m #[(.int x0), (.int x1), (.int x2), x3] 4 = mkF m 0 #[.val (.int x0), .val (.int x1), .val (.int x2), .val x3] [] := by
  rcases ref_cases hx3 with rfl | ⟨_, rfl⟩
  all_goals first | (simp [entryFrame, mkF, argsToLocals, Value.category]; done) | rfl
def Qcft (Z : State) (z : Int32) (fm : Value) (h0 : Heap) (n0 : Nat) (v : Option Value) (h : Heap) (L : List Loc) : Prop := v = some (.int 0) ∧ Fr n0 L ∧ h = h0
def Pcft (Z : State) (z : Int32) (fm : Value) (h0 : Heap) (n0 : Nat) (s : State) (oQ : Outcome) (U : State) : Prop := ∃ v L, oQ = .returned v ∧ Qcft Z z fm h0 n0 v U.heap L ∧ FrameEnd s oQ U L ({ frames := 0, cells := 0, slots := 0, locals := 0 } : Room).cells ({ frames := 0, cells := 0, slots := 0, locals := 0 } : Room).slots
set_option maxRecDepth 65536 in
set_option maxHeartbeats 40000000 in
theorem rmcft (l : Launch) (Z : State) (a0 : Array Value) (hw : ∀ d ∈ tables_1, d.before a0 Z = true) (ws : List Jvm.Cond) (z : Int32) (fm : Value) (h0 : Heap) (n0 : Nat) (Z0 : n0 ≤ h0.size) (rfm : fm.isRef = true) (hz0 : ¬ z < 0) :
    MetFree l (⟨"jdk/internal/util/Preconditions", "checkFromToIndex", "(IIILjava/util/function/BiFunction;)I"⟩ : MethodName) (head1 (Jvm.Cond.code (⟨"jdk/internal/util/Preconditions", "checkFromToIndex", "(IIILjava/util/function/BiFunction;)I"⟩ : MethodName) jdk_41_method_12_code 4 (some .int) :: ws) ({ frames := 0, cells := 0, slots := 0, locals := 0 } : Room)) (fun aQ U => aQ = #[(.int (0 : Int32)), (.int z), (.int z), fm] ∧ Z.Warmed39 U.vm ∧ U.heap = h0) (fun _ _ _ _ _ => True) (fun _ U oQ U' => ∃ v L, oQ = .returned v ∧ Qcft Z z fm h0 n0 v U'.heap L ∧ FrameEnd U oQ U' L ({ frames := 0, cells := 0, slots := 0, locals := 0 } : Room).cells ({ frames := 0, cells := 0, slots := 0, locals := 0 } : Room).slots) := by
  refine MetFree.of_bodySF (plainFor_of_name pn_29) hisR ?_
  intro p e s m args below meth c s₁ Bd hml0 hP hK
  obtain ⟨rfl, hZ, hh⟩ := hP
  have hx := Bd.exec
  have hby := Bd.bytes
  have hml : c.maxLocals = 4 := hml0
  have hown : s.vm.findClass "jdk/internal/util/Preconditions" = some m.cls := findClass_of_methodNamed Bd.named
  have hnm := (name_of_methodNamed Bd.named Bd.method).1
  have X0 : Stand p l e ({ frames := 0, cells := 0, slots := 0, locals := 0 } : Room) s m #[(.int (0 : Int32)), (.int z), (.int z), fm] below meth c s₁ [] 0 0 := Stand.of_body Bd
  have e0 : s₁.heap = h0 := by rw [← hh, Bd.state]; rfl
  have Nf := Fr.nil n0
  have Zs : n0 ≤ h0.size := Z0
  have Kp : Keep h0 h0 [] := Keep.refl _ _
  have szr : h0.size ≤ h0.size := Nat.le_refl _
  show own_End p e below (Pcft Z z fm h0 n0 s) (s₁.setTop (entryFrame m #[(.int (0 : Int32)), (.int z), (.int z), fm] 4))
  rw [ef_cft m _ _ _ _ rfm]
  refine own_go (fun tQ kQ => XS.iloadN X0.here hx rfl (hb hby dcft_0) rfl kQ) ?_
  show own_End p e below _ (s₁.setTop (mkF m 1 #[.val (.int (0 : Int32)), .val (.int z), .val (.int z), .val fm] [(.int (0 : Int32))]))
  refine own_go (fun tQ kQ => XS.ifNo X0.here hx rfl (hb hby dcft_1) rfl ((if0 _ _).trans (flt (by decide)).1) kQ) ?_
  show own_End p e below _ (s₁.setTop (mkF m 4 #[.val (.int (0 : Int32)), .val (.int z), .val (.int z), .val fm] []))
  refine own_go (fun tQ kQ => XS.iloadN X0.here hx rfl (hb hby dcft_4) rfl kQ) ?_
  show own_End p e below _ (s₁.setTop (mkF m 5 #[.val (.int (0 : Int32)), .val (.int z), .val (.int z), .val fm] [(.int (0 : Int32))]))
  refine own_go (fun tQ kQ => XS.iloadN X0.here hx rfl (hb hby dcft_5) rfl kQ) ?_
  show own_End p e below _ (s₁.setTop (mkF m 6 #[.val (.int (0 : Int32)), .val (.int z), .val (.int z), .val fm] [(.int z), (.int (0 : Int32))]))
  refine own_go (fun tQ kQ => XS.icmpNo X0.here hx rfl (hb hby dcft_6) rfl (flt hz0).2.2.1 kQ) ?_
  show own_End p e below _ (s₁.setTop (mkF m 9 #[.val (.int (0 : Int32)), .val (.int z), .val (.int z), .val fm] []))
  refine own_go (fun tQ kQ => XS.iloadN X0.here hx rfl (hb hby dcft_9) rfl kQ) ?_
  show own_End p e below _ (s₁.setTop (mkF m 10 #[.val (.int (0 : Int32)), .val (.int z), .val (.int z), .val fm] [(.int z)]))
  refine own_go (fun tQ kQ => XS.iloadN X0.here hx rfl (hb hby dcft_10) rfl kQ) ?_
  show own_End p e below _ (s₁.setTop (mkF m 11 #[.val (.int (0 : Int32)), .val (.int z), .val (.int z), .val fm] [(.int z), (.int z)]))
  refine own_go (fun tQ kQ => XS.icmpYes X0.here hx rfl (pc0 := 11) (pc' := 22) rfl (hb hby dcft_11) rfl (flt (by rw [Int32.lt_iff_toInt_lt]; omega)).2.2.2 (by decide) (by decide) kQ) ?_
  show own_End p e below _ (s₁.setTop (mkF m 22 #[.val (.int (0 : Int32)), .val (.int z), .val (.int z), .val fm] []))
  refine own_go (fun tQ kQ => XS.iloadN X0.here hx rfl (hb hby dcft_22) rfl kQ) ?_
  show own_End p e below _ (s₁.setTop (mkF m 23 #[.val (.int (0 : Int32)), .val (.int z), .val (.int z), .val fm] [(.int (0 : Int32))]))
  obtain ⟨fs, hr, hrun, hended, hW, hsame⟩ := X0.leave (v := some (.int (0 : Int32))) (fun h => by rw [Bd.returns] at h; cases h)
  refine ⟨_, _, (retI X0 hx Bd.returns (hb hby dcft_23) hr), hrun, hended, _, _, rfl, ?_, ⟨_, rfl⟩, hW, hsame.mono (by decide) (by decide)⟩
  show Qcft Z z fm h0 n0 _ s₁.heap _
  rw [e0]
  exact ⟨rfl, Nf, rfl⟩
theorem pd_35 : parseMethodDescriptor "(IIILjava/util/function/BiFunction;)I" = some ⟨[.int, .int, .int, (.object "java/util/function/BiFunction")], some .int⟩ := by decide +kernel
theorem dcbe_0 : decode jdk_42_method_158_code 0 = .ok (.iload_n 0, 1) := by decide +kernel
theorem dcbe_1 : decode jdk_42_method_158_code 1 = .ok (.iload_n 1, 1) := by decide +kernel
theorem dcbe_2 : decode jdk_42_method_158_code 2 = .ok (.iload_n 2, 1) := by decide +kernel
theorem dcbe_3 : decode jdk_42_method_158_code 3 = .ok (.getstatic 1053, 3) := by decide +kernel
theorem dcbe_6 : decode jdk_42_method_158_code 6 = .ok (.invokestatic 1062, 3) := by decide +kernel
theorem dcbe_9 : decode jdk_42_method_158_code 9 = .ok (.pop, 1) := by decide +kernel
theorem dcbe_10 : decode jdk_42_method_158_code 10 = .ok (.return_, 1) := by decide +kernel
theorem ef_cbe (m : MethodId) (x0 : Int32) (x1 : Int32) (x2 : Int32) : entryFrame m #[(.int x0), (.int x1), (.int x2)] 3 = mkF m 0 #[.val (.int x0), .val (.int x1), .val (.int x2)] [] := by first | (simp [entryFrame, mkF, argsToLocals, Value.category]; done) | rfl
def Qcbe (Z : State) (z : Int32) (fm : Value) (h0 : Heap) (n0 : Nat) (v : Option Value) (h : Heap) (L : List Loc) : Prop := v = none ∧ Fr n0 L ∧ h = h0
def Pcbe (Z : State) (z : Int32) (fm : Value) (h0 : Heap) (n0 : Nat) (s : State) (oQ : Outcome) (U : State) : Prop := ∃ v L, oQ = .returned v ∧ Qcbe Z z fm h0 n0 v U.heap L ∧ FrameEnd s oQ U L ({ frames := 1, cells := 0, slots := 0, locals := 15 } : Room).cells ({ frames := 1, cells := 0, slots := 0, locals := 15 } : Room).slots
set_option maxRecDepth 65536 in
set_option maxHeartbeats 40000000 in
theorem rmcbe (l : Launch) (Z : State) (a0 : Array Value) (hw : ∀ d ∈ tables_1, d.before a0 Z = true) (ws : List Jvm.Cond) (z : Int32) (fm : Value) (h0 : Heap) (n0 : Nat) (Z0 : n0 ≤ h0.size) (Ol : Old Z n0 h0) (S_fm : Sta Z Z.heap "jdk/internal/util/Preconditions" "SIOOBE_FORMATTER" "Ljava/util/function/BiFunction;" fm) (rfm : fm.isRef = true) (hz0 : ¬ z < 0) :
    MetFree l (⟨"java/lang/String", "checkBoundsBeginEnd", "(III)V"⟩ : MethodName) (head1 (Jvm.Cond.code (⟨"java/lang/String", "checkBoundsBeginEnd", "(III)V"⟩ : MethodName) jdk_42_method_158_code 3 none :: ws) ({ frames := 1, cells := 0, slots := 0, locals := 15 } : Room)) (fun aQ U => aQ = #[(.int (0 : Int32)), (.int z), (.int z)] ∧ Z.Warmed39 U.vm ∧ U.heap = h0) (fun _ _ _ _ _ => True) (fun _ U oQ U' => ∃ v L, oQ = .returned v ∧ Qcbe Z z fm h0 n0 v U'.heap L ∧ FrameEnd U oQ U' L ({ frames := 1, cells := 0, slots := 0, locals := 15 } : Room).cells ({ frames := 1, cells := 0, slots := 0, locals := 15 } : Room).slots) := by
  refine MetFree.of_bodySF (plainFor_of_name pn_27) hisR ?_
  intro p e s m args below meth c s₁ Bd hml0 hP hK
  obtain ⟨rfl, hZ, hh⟩ := hP
  have hx := Bd.exec
  have hby := Bd.bytes
  have hml : c.maxLocals = 3 := hml0
  have hown : s.vm.findClass "java/lang/String" = some m.cls := findClass_of_methodNamed Bd.named
  have hnm := (name_of_methodNamed Bd.named Bd.method).1
  have X0 : Stand p l e ({ frames := 1, cells := 0, slots := 0, locals := 15 } : Room) s m #[(.int (0 : Int32)), (.int z), (.int z)] below meth c s₁ [] 0 0 := Stand.of_body Bd
  have e0 : s₁.heap = h0 := by rw [← hh, Bd.state]; rfl
  have Nf := Fr.nil n0
  have Zs : n0 ≤ h0.size := Z0
  have Kp : Keep h0 h0 [] := Keep.refl _ _
  have szr : h0.size ≤ h0.size := Nat.le_refl _
  show own_End p e below (Pcbe Z z fm h0 n0 s) (s₁.setTop (entryFrame m #[(.int (0 : Int32)), (.int z), (.int z)] 3))
  rw [ef_cbe]
  refine own_go (fun tQ kQ => XS.iloadN X0.here hx rfl (hb hby dcbe_0) rfl kQ) ?_
  show own_End p e below _ (s₁.setTop (mkF m 1 #[.val (.int (0 : Int32)), .val (.int z), .val (.int z)] [(.int (0 : Int32))]))
  refine own_go (fun tQ kQ => XS.iloadN X0.here hx rfl (hb hby dcbe_1) rfl kQ) ?_
  show own_End p e below _ (s₁.setTop (mkF m 2 #[.val (.int (0 : Int32)), .val (.int z), .val (.int z)] [(.int z), (.int (0 : Int32))]))
  refine own_go (fun tQ kQ => XS.iloadN X0.here hx rfl (hb hby dcbe_2) rfl kQ) ?_
  show own_End p e below _ (s₁.setTop (mkF m 3 #[.val (.int (0 : Int32)), .val (.int z), .val (.int z)] [(.int z), (.int z), (.int (0 : Int32))]))
  obtain ⟨T1, X1, e1, st1⟩ := getS2 X0 hx hZ hown (host := "") (Or.inl (hw _ (List.mem_of_getElem? (i := 48) rfl))) Via.refl e0 (S_fm.ext Ol.2) (g := (mkF m 3 #[.val (.int (0 : Int32)), .val (.int z), .val (.int z)] [(.int z), (.int z), (.int (0 : Int32))])) rfl (hb hby dcbe_3)
  refine own_go (fun tQ kQ => st1 tQ kQ) ?_
  show own_End p e below _ (T1.setTop (mkF m 6 #[.val (.int (0 : Int32)), .val (.int z), .val (.int z)] [fm, (.int z), (.int z), (.int (0 : Int32))]))
  obtain ⟨_, _, ⟨T2, L2, k2, n2⟩, -, X2, ⟨Lc2, hQ2, l2, y2, z2⟩, st2⟩ := Jvm.LawKit.callS X1 hx (y := (⟨"jdk/internal/util/Preconditions", "checkFromToIndex", "(IIILjava/util/function/BiFunction;)I"⟩ : MethodName)) hown (mvT hZ (hw _ (List.mem_of_getElem? (i := 67) rfl))) (mvT hZ (hw _ (List.mem_of_getElem? (i := 68) rfl))) (mvT hZ (hw _ (List.mem_of_getElem? (i := 49) rfl))) (mvT hZ (hw _ (List.mem_of_getElem? (i := 69) rfl))) (by decide) (backOf (W := 0) (rmcft l Z a0 hw [] z fm h0 n0 Zs rfm hz0) hZ (hw _ (List.mem_of_getElem? (i := 69) rfl)) (hw _ (List.mem_of_getElem? (i := 49) rfl)) (by decide) (by decide)) (g := (mkF m 6 #[.val (.int (0 : Int32)), .val (.int z), .val (.int z)] [fm, (.int z), (.int z), (.int (0 : Int32))])) rfl (by rw [hml]; rfl) (argsL := [(.int (0 : Int32)), (.int z), (.int z), fm]) (rest := []) (lenOf pd_35 rfl) rfl (by show 2 * 0 + _ ≤ _; exact Nat.le_of_eq rfl) (hb hby dcbe_6) (fun _ _ => ⟨rfl, e1, (Nat.le_of_ble_eq_true rfl), (Nat.le_of_ble_eq_true rfl)⟩)
  dsimp only [Pt.U, Pt.locs, Pt.cells, Pt.slots] at X2 l2 y2 z2 st2 hQ2
  rw [l2, y2, z2] at X2
  obtain ⟨rfl, N2q, e2⟩ := hQ2
  have Nf := Fr.app Nf N2q
  have X2 := own_pad (k' := 0) (n' := 0) X2 (by decide) (by decide)
  refine own_go (fun tQ kQ => st2 tQ kQ) ?_
  show own_End p e below _ (T2.setTop (mkF m 9 #[.val (.int (0 : Int32)), .val (.int z), .val (.int z)] [(.int (0 : Int32))]))
  refine own_go (fun tQ kQ => XS.pop X2.here hx rfl (hb hby dcbe_9) rfl rfl kQ) ?_
  show own_End p e below _ (T2.setTop (mkF m 10 #[.val (.int (0 : Int32)), .val (.int z), .val (.int z)] []))
  obtain ⟨fs, hr, hrun, hended, hW, hsame⟩ := X2.leave (v := none) (fun _ => rfl)
  refine ⟨_, _, X2.returnOut hx Bd.returns (hb hby dcbe_10) hr, hrun, hended, _, _, rfl, ?_, ⟨_, rfl⟩, hW, hsame.mono (by decide) (by decide)⟩
  show Qcbe Z z fm h0 n0 _ T2.heap _
  rw [e2]
  exact ⟨rfl, Nf, rfl⟩
theorem pd_36 : parseMethodDescriptor "()I" = some ⟨[], some .int⟩ := by decide +kernel
theorem pd_37 : parseMethodDescriptor "(III)V" = some ⟨[.int, .int, .int], none⟩ := by decide +kernel
theorem dsub_0 : decode jdk_42_method_92_code 0 = .ok (.aload_n 0, 1) := by decide +kernel
theorem dsub_1 : decode jdk_42_method_92_code 1 = .ok (.invokevirtual 505, 3) := by decide +kernel
theorem dsub_4 : decode jdk_42_method_92_code 4 = .ok (.istore_n 3, 1) := by decide +kernel
theorem dsub_5 : decode jdk_42_method_92_code 5 = .ok (.iload_n 1, 1) := by decide +kernel
theorem dsub_6 : decode jdk_42_method_92_code 6 = .ok (.iload_n 2, 1) := by decide +kernel
theorem dsub_7 : decode jdk_42_method_92_code 7 = .ok (.iload_n 3, 1) := by decide +kernel
theorem dsub_8 : decode jdk_42_method_92_code 8 = .ok (.invokestatic 521, 3) := by decide +kernel
theorem dsub_11 : decode jdk_42_method_92_code 11 = .ok (.iload_n 1, 1) := by decide +kernel
theorem dsub_12 : decode jdk_42_method_92_code 12 = .ok (.ifCond .ne 10, 3) := by decide +kernel
theorem dsub_15 : decode jdk_42_method_92_code 15 = .ok (.iload_n 2, 1) := by decide +kernel
theorem dsub_16 : decode jdk_42_method_92_code 16 = .ok (.iload_n 3, 1) := by decide +kernel
theorem dsub_17 : decode jdk_42_method_92_code 17 = .ok (.if_icmp .ne 5, 3) := by decide +kernel
theorem dsub_20 : decode jdk_42_method_92_code 20 = .ok (.aload_n 0, 1) := by decide +kernel
theorem dsub_21 : decode jdk_42_method_92_code 21 = .ok (.areturn, 1) := by decide +kernel
theorem ef_sub (m : MethodId) (x0 : Addr) (x1 : Int32) (x2 : Int32) : entryFrame m #[(.ref x0), (.int x1), (.int x2)] 5 = mkF m 0 #[.val (.ref x0), .val (.int x1), .val (.int x2), .unset, .unset] [] := by first | (simp [entryFrame, mkF, argsToLocals, Value.category]; done) | rfl
def Qsub (Z : State) (st : Addr) (tt : Addr) (z : Int32) (bs : Nat → Int32) (cz : Int32) (fm : Value) (h0 : Heap) (n0 : Nat) (v : Option Value) (h : Heap) (L : List Loc) : Prop := v = some (.ref st) ∧ Fr n0 L ∧ h = h0
def Psub (Z : State) (st : Addr) (tt : Addr) (z : Int32) (bs : Nat → Int32) (cz : Int32) (fm : Value) (h0 : Heap) (n0 : Nat) (s : State) (oQ : Outcome) (U : State) : Prop := ∃ v L, oQ = .returned v ∧ Qsub Z st tt z bs cz fm h0 n0 v U.heap L ∧ FrameEnd s oQ U L ({ frames := 2, cells := 0, slots := 0, locals := 29 } : Room).cells ({ frames := 2, cells := 0, slots := 0, locals := 29 } : Room).slots
set_option maxRecDepth 65536 in
set_option maxHeartbeats 40000000 in
theorem rmsub (l : Launch) (Z : State) (a0 : Array Value) (hw : ∀ d ∈ tables_1, d.before a0 Z = true) (ws : List Jvm.Cond) (st : Addr) (tt : Addr) (z : Int32) (bs : Nat → Int32) (cz : Int32) (fm : Value) (h0 : Heap) (n0 : Nat) (Z0 : n0 ≤ h0.size) (E_st : Exa Z h0 st "java/lang/String") (F_value_st : Fld Z h0 st "java/lang/String" "value" "[B" (.ref tt)) (F_coder_st : Fld Z h0 st "java/lang/String" "coder" "B" (.int (0 : Int32))) (V_tt : own_Ar Z h0 tt .byte z (fun j => .int (bs j))) (Ol : Old Z n0 h0) (S_cs : Sta Z Z.heap "java/lang/String" "COMPACT_STRINGS" "Z" (.int cz)) (hcz : ¬ cz = 0) (S_fm : Sta Z Z.heap "jdk/internal/util/Preconditions" "SIOOBE_FORMATTER" "Ljava/util/function/BiFunction;" fm) (rfm : fm.isRef = true) (hz0 : ¬ z < 0) :
    MetFree l (⟨"java/lang/String", "substring", "(II)Ljava/lang/String;"⟩ : MethodName) (head1 (Jvm.Cond.code (⟨"java/lang/String", "substring", "(II)Ljava/lang/String;"⟩ : MethodName) jdk_42_method_92_code 5 (some (.object "java/lang/String")) :: ws) ({ frames := 2, cells := 0, slots := 0, locals := 29 } : Room)) (fun aQ U => aQ = #[(.ref st), (.int (0 : Int32)), (.int z)] ∧ Z.Warmed39 U.vm ∧ U.heap = h0) (fun _ _ _ _ _ => True) (fun _ U oQ U' => ∃ v L, oQ = .returned v ∧ Qsub Z st tt z bs cz fm h0 n0 v U'.heap L ∧ FrameEnd U oQ U' L ({ frames := 2, cells := 0, slots := 0, locals := 29 } : Room).cells ({ frames := 2, cells := 0, slots := 0, locals := 29 } : Room).slots) := by
  refine MetFree.of_bodySF (plainFor_of_name pn_27) hisR ?_
  intro p e s m args below meth c s₁ Bd hml0 hP hK
  obtain ⟨rfl, hZ, hh⟩ := hP
  have hx := Bd.exec
  have hby := Bd.bytes
  have hml : c.maxLocals = 5 := hml0
  have hown : s.vm.findClass "java/lang/String" = some m.cls := findClass_of_methodNamed Bd.named
  have hnm := (name_of_methodNamed Bd.named Bd.method).1
  have X0 : Stand p l e ({ frames := 2, cells := 0, slots := 0, locals := 29 } : Room) s m #[(.ref st), (.int (0 : Int32)), (.int z)] below meth c s₁ [] 0 0 := Stand.of_body Bd
  have e0 : s₁.heap = h0 := by rw [← hh, Bd.state]; rfl
  have Nf := Fr.nil n0
  have Zs : n0 ≤ h0.size := Z0
  have Kp : Keep h0 h0 [] := Keep.refl _ _
  have szr : h0.size ≤ h0.size := Nat.le_refl _
  show own_End p e below (Psub Z st tt z bs cz fm h0 n0 s) (s₁.setTop (entryFrame m #[(.ref st), (.int (0 : Int32)), (.int z)] 5))
  rw [ef_sub]
  refine own_go (fun tQ kQ => XS.aloadN X0.here hx rfl (hb hby dsub_0) rfl rfl kQ) ?_
  show own_End p e below _ (s₁.setTop (mkF m 1 #[.val (.ref st), .val (.int (0 : Int32)), .val (.int z), .unset, .unset] [(.ref st)]))
  obtain ⟨cq1, kq1, q1a, q1b, q1c⟩ := isOf hZ e0 E_st
  obtain ⟨_, _, ⟨T1, L1, k1, n1⟩, -, X1, ⟨Lc1, hQ1, l1, y1, z1⟩, st1⟩ := X0.virtualBack hx (y := (⟨"java/lang/String", "length", "()I"⟩ : MethodName)) (z := (⟨"java/lang/String", "length", "()I"⟩ : MethodName)) hown (mvT hZ (hw _ (List.mem_of_getElem? (i := 63) rfl))) (mvT hZ (hw _ (List.mem_of_getElem? (i := 19) rfl))) (notFace_of_selects (args := #[]) (mvT hZ (hw _ (List.mem_of_getElem? (i := 21) rfl)))) (mvT hZ (hw _ (List.mem_of_getElem? (i := 21) rfl))) (mvT hZ (hw _ (List.mem_of_getElem? (i := 20) rfl))) (by decide) (backOf (W := 0) (rmlen l Z a0 hw [] st tt z bs cz h0 n0 Zs E_st F_value_st F_coder_st V_tt Ol S_cs hcz) hZ (hw _ (List.mem_of_getElem? (i := 22) rfl)) (hw _ (List.mem_of_getElem? (i := 2) rfl)) (by decide) (by decide)) q1a q1c (g := (mkF m 1 #[.val (.ref st), .val (.int (0 : Int32)), .val (.int z), .unset, .unset] [(.ref st)])) rfl (by rw [hml]; rfl) (Steps.refl _) (argsL := []) (rest := []) (lenOf pd_36 rfl) rfl (by show 2 * 0 + _ ≤ _; exact Nat.le_of_eq rfl) (hb hby dsub_1) (fun _ _ => ⟨rfl, e0, (Nat.le_of_ble_eq_true rfl), (Nat.le_of_ble_eq_true rfl)⟩)
  dsimp only [Pt.U, Pt.locs, Pt.cells, Pt.slots] at X1 l1 y1 z1 st1 hQ1
  rw [l1, y1, z1] at X1
  obtain ⟨rfl, N1q, e1⟩ := hQ1
  have Nf := Fr.app Nf N1q
  have X1 := own_pad (k' := 0) (n' := 0) X1 (by decide) (by decide)
  refine own_go (fun tQ kQ => st1.trans kQ) ?_
  show own_End p e below _ (T1.setTop (mkF m 4 #[.val (.ref st), .val (.int (0 : Int32)), .val (.int z), .unset, .unset] [(.int z)]))
  refine own_go (fun tQ kQ => XS.istoreN X1.here hx rfl (hb hby dsub_4) rfl (l' := #[.val (.ref st), .val (.int (0 : Int32)), .val (.int z), .val (.int z), .unset]) rfl kQ) ?_
  show own_End p e below _ (T1.setTop (mkF m 5 #[.val (.ref st), .val (.int (0 : Int32)), .val (.int z), .val (.int z), .unset] []))
  refine own_go (fun tQ kQ => XS.iloadN X1.here hx rfl (hb hby dsub_5) rfl kQ) ?_
  show own_End p e below _ (T1.setTop (mkF m 6 #[.val (.ref st), .val (.int (0 : Int32)), .val (.int z), .val (.int z), .unset] [(.int (0 : Int32))]))
  refine own_go (fun tQ kQ => XS.iloadN X1.here hx rfl (hb hby dsub_6) rfl kQ) ?_
  show own_End p e below _ (T1.setTop (mkF m 7 #[.val (.ref st), .val (.int (0 : Int32)), .val (.int z), .val (.int z), .unset] [(.int z), (.int (0 : Int32))]))
  refine own_go (fun tQ kQ => XS.iloadN X1.here hx rfl (hb hby dsub_7) rfl kQ) ?_
  show own_End p e below _ (T1.setTop (mkF m 8 #[.val (.ref st), .val (.int (0 : Int32)), .val (.int z), .val (.int z), .unset] [(.int z), (.int z), (.int (0 : Int32))]))
  obtain ⟨_, _, ⟨T2, L2, k2, n2⟩, -, X2, ⟨Lc2, hQ2, l2, y2, z2⟩, st2⟩ := Jvm.LawKit.callS X1 hx (y := (⟨"java/lang/String", "checkBoundsBeginEnd", "(III)V"⟩ : MethodName)) hown (mvT hZ (hw _ (List.mem_of_getElem? (i := 64) rfl))) (mvT hZ (hw _ (List.mem_of_getElem? (i := 65) rfl))) (mvT hZ (hw _ (List.mem_of_getElem? (i := 2) rfl))) (mvT hZ (hw _ (List.mem_of_getElem? (i := 66) rfl))) (by decide) (backOf (W := 0) (rmcbe l Z a0 hw [] z fm h0 n0 Zs Ol S_fm rfm hz0) hZ (hw _ (List.mem_of_getElem? (i := 66) rfl)) (hw _ (List.mem_of_getElem? (i := 2) rfl)) (by decide) (by decide)) (g := (mkF m 8 #[.val (.ref st), .val (.int (0 : Int32)), .val (.int z), .val (.int z), .unset] [(.int z), (.int z), (.int (0 : Int32))])) rfl (by rw [hml]; rfl) (argsL := [(.int (0 : Int32)), (.int z), (.int z)]) (rest := []) (lenOf pd_37 rfl) rfl (by show 2 * 0 + _ ≤ _; exact Nat.le_of_eq rfl) (hb hby dsub_8) (fun _ _ => ⟨rfl, e1, (Nat.le_of_ble_eq_true rfl), (Nat.le_of_ble_eq_true rfl)⟩)
  dsimp only [Pt.U, Pt.locs, Pt.cells, Pt.slots] at X2 l2 y2 z2 st2 hQ2
  rw [l2, y2, z2] at X2
  obtain ⟨rfl, N2q, e2⟩ := hQ2
  have Nf := Fr.app Nf N2q
  have X2 := own_pad (k' := 0) (n' := 0) X2 (by decide) (by decide)
  refine own_go (fun tQ kQ => st2 tQ kQ) ?_
  show own_End p e below _ (T2.setTop (mkF m 11 #[.val (.ref st), .val (.int (0 : Int32)), .val (.int z), .val (.int z), .unset] []))
  refine own_go (fun tQ kQ => XS.iloadN X2.here hx rfl (hb hby dsub_11) rfl kQ) ?_
  show own_End p e below _ (T2.setTop (mkF m 12 #[.val (.ref st), .val (.int (0 : Int32)), .val (.int z), .val (.int z), .unset] [(.int (0 : Int32))]))
  refine own_go (fun tQ kQ => XS.ifNo X2.here hx rfl (hb hby dsub_12) rfl ((if0 _ _).trans (teq (by decide)).2) kQ) ?_
  show own_End p e below _ (T2.setTop (mkF m 15 #[.val (.ref st), .val (.int (0 : Int32)), .val (.int z), .val (.int z), .unset] []))
  refine own_go (fun tQ kQ => XS.iloadN X2.here hx rfl (hb hby dsub_15) rfl kQ) ?_
  show own_End p e below _ (T2.setTop (mkF m 16 #[.val (.ref st), .val (.int (0 : Int32)), .val (.int z), .val (.int z), .unset] [(.int z)]))
  refine own_go (fun tQ kQ => XS.iloadN X2.here hx rfl (hb hby dsub_16) rfl kQ) ?_
  show own_End p e below _ (T2.setTop (mkF m 17 #[.val (.ref st), .val (.int (0 : Int32)), .val (.int z), .val (.int z), .unset] [(.int z), (.int z)]))
  refine own_go (fun tQ kQ => XS.icmpNo X2.here hx rfl (hb hby dsub_17) rfl (teq (rfl : z = z)).2 kQ) ?_
  show own_End p e below _ (T2.setTop (mkF m 20 #[.val (.ref st), .val (.int (0 : Int32)), .val (.int z), .val (.int z), .unset] []))
  refine own_go (fun tQ kQ => XS.aloadN X2.here hx rfl (hb hby dsub_20) rfl rfl kQ) ?_
  show own_End p e below _ (T2.setTop (mkF m 21 #[.val (.ref st), .val (.int (0 : Int32)), .val (.int z), .val (.int z), .unset] [(.ref st)]))
  obtain ⟨fs, hr, hrun, hended, hW, hsame⟩ := X2.leave (v := some (.ref st)) (fun h => by rw [Bd.returns] at h; cases h)
  refine ⟨_, _, ?_, hrun, hended, _, _, rfl, ?_, ⟨_, rfl⟩, hW, hsame.mono (by decide) (by decide)⟩
  · exact (by
      jvm_step X2.here [X2.here.top, hx, (hb hby dsub_21), X2.method', Bd.returns, Value.isRef, FieldType.isReference, narrow]
      first | (intro acts; rw [hr _ acts rfl rfl rfl]) | rw [hr _ _ rfl rfl rfl]
      exact Steps.refl _)
  · show Qsub Z st tt z bs cz fm h0 n0 _ T2.heap _
    rw [e2]
    exact ⟨rfl, Nf, rfl⟩
theorem dsci__0 : decode prog_26_method_1_code 0 = .ok (.aload_n 0, 1) := by decide +kernel
theorem dsci__1 : decode prog_26_method_1_code 1 = .ok (.invokespecial 1, 3) := by decide +kernel
theorem dsci__4 : decode prog_26_method_1_code 4 = .ok (.aload_n 0, 1) := by decide +kernel
theorem dsci__5 : decode prog_26_method_1_code 5 = .ok (.aload_n 1, 1) := by decide +kernel
theorem dsci__6 : decode prog_26_method_1_code 6 = .ok (.putfield 7, 3) := by decide +kernel
theorem dsci__9 : decode prog_26_method_1_code 9 = .ok (.aload_n 0, 1) := by decide +kernel
theorem dsci__10 : decode prog_26_method_1_code 10 = .ok (.aload_n 2, 1) := by decide +kernel
theorem dsci__11 : decode prog_26_method_1_code 11 = .ok (.putfield 13, 3) := by decide +kernel
theorem dsci__14 : decode prog_26_method_1_code 14 = .ok (.aload_n 0, 1) := by decide +kernel
theorem dsci__15 : decode prog_26_method_1_code 15 = .ok (.iload_n 3, 1) := by decide +kernel
theorem dsci__16 : decode prog_26_method_1_code 16 = .ok (.putfield 16, 3) := by decide +kernel
theorem dsci__19 : decode prog_26_method_1_code 19 = .ok (.return_, 1) := by decide +kernel
theorem ef_sci_ (m : MethodId) (x0 : Addr) (x1 : Addr) (x2 : Addr) (x3 : Int32) : entryFrame m #[(.ref x0), (.ref x1), (.ref x2), (.int x3)] 4 = mkF m 0 #[.val (.ref x0), .val (.ref x1), .val (.ref x2), .val (.int x3)] [] := by first | (simp [entryFrame, mkF, argsToLocals, Value.category]; done) | rfl
def Qsci_ (Z : State) (a : Addr) (st : Addr) (dp : Int32) (h0 : Heap) (n0 : Nat) (v : Option Value) (h : Heap) (L : List Loc) : Prop := v = none ∧ Fr n0 L ∧ Keep h0 h [a]
def Psci_ (Z : State) (a : Addr) (st : Addr) (dp : Int32) (h0 : Heap) (n0 : Nat) (s : State) (oQ : Outcome) (U : State) : Prop := ∃ v L, oQ = .returned v ∧ Qsci_ Z a st dp h0 n0 v U.heap L ∧ FrameEnd s oQ U L ({ frames := 1, cells := 0, slots := 0, locals := 12 } : Room).cells ({ frames := 1, cells := 0, slots := 0, locals := 12 } : Room).slots
set_option maxRecDepth 65536 in
set_option maxHeartbeats 40000000 in
theorem rmsci_ (l : Launch) (Z : State) (a0 : Array Value) (hw : ∀ d ∈ tables_1, d.before a0 Z = true) (ws : List Jvm.Cond) (a : Addr) (st : Addr) (dp : Int32) (h0 : Heap) (n0 : Nat) (Z0 : n0 ≤ h0.size) (E_a : Exa Z h0 a "com/example/grant3/grant3/Scope") (F_path_a : Fld Z h0 a "com/example/grant3/grant3/Scope" "path" "Ljava/lang/String;" .null) (F_tenant_a : Fld Z h0 a "com/example/grant3/grant3/Scope" "tenant" "Ljava/lang/String;" .null) (F_depth_a : Fld Z h0 a "com/example/grant3/grant3/Scope" "depth" "I" (.int (0 : Int32))) (g_a : n0 ≤ a) :
    MetFree l (⟨"com/example/grant3/grant3/Scope", "<init>", "(Ljava/lang/String;Ljava/lang/String;I)V"⟩ : MethodName) (head1 (Jvm.Cond.code (⟨"com/example/grant3/grant3/Scope", "<init>", "(Ljava/lang/String;Ljava/lang/String;I)V"⟩ : MethodName) prog_26_method_1_code 4 none :: ws) ({ frames := 1, cells := 0, slots := 0, locals := 12 } : Room)) (fun aQ U => aQ = #[(.ref a), (.ref st), (.ref st), (.int dp)] ∧ Z.Warmed39 U.vm ∧ U.heap = h0) (fun _ _ _ _ _ => True) (fun _ U oQ U' => ∃ v L, oQ = .returned v ∧ Qsci_ Z a st dp h0 n0 v U'.heap L ∧ FrameEnd U oQ U' L ({ frames := 1, cells := 0, slots := 0, locals := 12 } : Room).cells ({ frames := 1, cells := 0, slots := 0, locals := 12 } : Room).slots) := by
  refine MetFree.of_bodySF (plainFor_of_name pn_34) hisR ?_
  intro p e s m args below meth c s₁ Bd hml0 hP hK
  obtain ⟨rfl, hZ, hh⟩ := hP
  have hx := Bd.exec
  have hby := Bd.bytes
  have hml : c.maxLocals = 4 := hml0
  have hown : s.vm.findClass "com/example/grant3/grant3/Scope" = some m.cls := findClass_of_methodNamed Bd.named
  have hnm := (name_of_methodNamed Bd.named Bd.method).1
  have X0 : Stand p l e ({ frames := 1, cells := 0, slots := 0, locals := 12 } : Room) s m #[(.ref a), (.ref st), (.ref st), (.int dp)] below meth c s₁ [] 0 0 := Stand.of_body Bd
  have e0 : s₁.heap = h0 := by rw [← hh, Bd.state]; rfl
  have Nf := Fr.nil n0
  have Zs : n0 ≤ h0.size := Z0
  have Kp : Keep h0 h0 [a] := Keep.refl _ _
  have szr : h0.size ≤ h0.size := Nat.le_refl _
  show own_End p e below (Psci_ Z a st dp h0 n0 s) (s₁.setTop (entryFrame m #[(.ref a), (.ref st), (.ref st), (.int dp)] 4))
  rw [ef_sci_]
  refine own_go (fun tQ kQ => XS.aloadN X0.here hx rfl (hb hby dsci__0) rfl rfl kQ) ?_
  show own_End p e below _ (s₁.setTop (mkF m 1 #[.val (.ref a), .val (.ref st), .val (.ref st), .val (.int dp)] [(.ref a)]))
  obtain ⟨T1, X1, e1, st1⟩ := initO X0 hx hZ hown (hw _ (List.mem_of_getElem? (i := 73) rfl)) (hw _ (List.mem_of_getElem? (i := 74) rfl)) (hw _ (List.mem_of_getElem? (i := 75) rfl)) e0 (g := (mkF m 1 #[.val (.ref a), .val (.ref st), .val (.ref st), .val (.int dp)] [(.ref a)])) rfl (by rw [hml]; rfl) rfl (hb hby dsci__1) (by decide) (W := 0) (by show 2 * 0 + _ ≤ _; exact Nat.le_of_eq rfl) (by decide)
  refine own_go (fun tQ kQ => st1 tQ kQ) ?_
  show own_End p e below _ (T1.setTop (mkF m 4 #[.val (.ref a), .val (.ref st), .val (.ref st), .val (.int dp)] []))
  refine own_go (fun tQ kQ => XS.aloadN X1.here hx rfl (hb hby dsci__4) rfl rfl kQ) ?_
  show own_End p e below _ (T1.setTop (mkF m 5 #[.val (.ref a), .val (.ref st), .val (.ref st), .val (.int dp)] [(.ref a)]))
  refine own_go (fun tQ kQ => XS.aloadN X1.here hx rfl (hb hby dsci__5) rfl rfl kQ) ?_
  show own_End p e below _ (T1.setTop (mkF m 6 #[.val (.ref a), .val (.ref st), .val (.ref st), .val (.int dp)] [(.ref st), (.ref a)]))
  obtain ⟨T2, h2, X2, e2, W2, st2⟩ := putF X1 hx hZ hown (host := "") (Or.inl (hw _ (List.mem_of_getElem? (i := 76) rfl))) Via.refl e1 F_path_a E_a (Or.inr ⟨(hw _ (List.mem_of_getElem? (i := 77) rfl)), rfl, hnm⟩) (hw _ (List.mem_of_getElem? (i := 57) rfl)) (ty := (.object "java/lang/String")) (by decide) rfl rfl (g := (mkF m 6 #[.val (.ref a), .val (.ref st), .val (.ref st), .val (.int dp)] [(.ref st), (.ref a)])) rfl rfl (hb hby dsci__6)
  have F_path_a := F_path_a.same W2
  have E_a := E_a.wr W2
  have F_tenant_a := F_tenant_a.other W2 (Or.inr (slot_ne (Or.inr (hw _ (List.mem_of_getElem? (i := 79) rfl))) (Or.inr (hw _ (List.mem_of_getElem? (i := 77) rfl))) (by decide) (t := (.object "java/lang/String")) (t' := (.object "java/lang/String")) (by decide) (by decide)))
  have F_depth_a := F_depth_a.other W2 (Or.inr (slot_ne (Or.inr (hw _ (List.mem_of_getElem? (i := 81) rfl))) (Or.inr (hw _ (List.mem_of_getElem? (i := 77) rfl))) (by decide) (t := .int) (t' := (.object "java/lang/String")) (by decide) (by decide)))
  have Kp := Kp.wr W2 (Or.inl (List.mem_of_getElem? (i := 0) rfl))
  have Nf := Fr.snoc X2 Nf g_a
  have Zs := Nat.le_trans Zs (Keep.of_wr W2).1
  have szr := Nat.le_trans szr (Keep.of_wr W2).1
  refine own_go (fun tQ kQ => st2 tQ kQ) ?_
  show own_End p e below _ (T2.setTop (mkF m 9 #[.val (.ref a), .val (.ref st), .val (.ref st), .val (.int dp)] []))
  refine own_go (fun tQ kQ => XS.aloadN X2.here hx rfl (hb hby dsci__9) rfl rfl kQ) ?_
  show own_End p e below _ (T2.setTop (mkF m 10 #[.val (.ref a), .val (.ref st), .val (.ref st), .val (.int dp)] [(.ref a)]))
  refine own_go (fun tQ kQ => XS.aloadN X2.here hx rfl (hb hby dsci__10) rfl rfl kQ) ?_
  show own_End p e below _ (T2.setTop (mkF m 11 #[.val (.ref a), .val (.ref st), .val (.ref st), .val (.int dp)] [(.ref st), (.ref a)]))
  obtain ⟨T3, h3, X3, e3, W3, st3⟩ := putF X2 hx hZ hown (host := "") (Or.inl (hw _ (List.mem_of_getElem? (i := 78) rfl))) Via.refl e2 F_tenant_a E_a (Or.inr ⟨(hw _ (List.mem_of_getElem? (i := 79) rfl)), rfl, hnm⟩) (hw _ (List.mem_of_getElem? (i := 57) rfl)) (ty := (.object "java/lang/String")) (by decide) rfl rfl (g := (mkF m 11 #[.val (.ref a), .val (.ref st), .val (.ref st), .val (.int dp)] [(.ref st), (.ref a)])) rfl rfl (hb hby dsci__11)
  have F_tenant_a := F_tenant_a.same W3
  have E_a := E_a.wr W3
  have F_path_a := F_path_a.other W3 (Or.inr (slot_ne (Or.inr (hw _ (List.mem_of_getElem? (i := 77) rfl))) (Or.inr (hw _ (List.mem_of_getElem? (i := 79) rfl))) (by decide) (t := (.object "java/lang/String")) (t' := (.object "java/lang/String")) (by decide) (by decide)))
  have F_depth_a := F_depth_a.other W3 (Or.inr (slot_ne (Or.inr (hw _ (List.mem_of_getElem? (i := 81) rfl))) (Or.inr (hw _ (List.mem_of_getElem? (i := 79) rfl))) (by decide) (t := .int) (t' := (.object "java/lang/String")) (by decide) (by decide)))
  have Kp := Kp.wr W3 (Or.inl (List.mem_of_getElem? (i := 0) rfl))
  have Nf := Fr.snoc X3 Nf g_a
  have Zs := Nat.le_trans Zs (Keep.of_wr W3).1
  have szr := Nat.le_trans szr (Keep.of_wr W3).1
  refine own_go (fun tQ kQ => st3 tQ kQ) ?_
  show own_End p e below _ (T3.setTop (mkF m 14 #[.val (.ref a), .val (.ref st), .val (.ref st), .val (.int dp)] []))
  refine own_go (fun tQ kQ => XS.aloadN X3.here hx rfl (hb hby dsci__14) rfl rfl kQ) ?_
  show own_End p e below _ (T3.setTop (mkF m 15 #[.val (.ref a), .val (.ref st), .val (.ref st), .val (.int dp)] [(.ref a)]))
  refine own_go (fun tQ kQ => XS.iloadN X3.here hx rfl (hb hby dsci__15) rfl kQ) ?_
  show own_End p e below _ (T3.setTop (mkF m 16 #[.val (.ref a), .val (.ref st), .val (.ref st), .val (.int dp)] [(.int dp), (.ref a)]))
  obtain ⟨T4, h4, X4, e4, W4, st4⟩ := putF X3 hx hZ hown (host := "") (Or.inl (hw _ (List.mem_of_getElem? (i := 80) rfl))) Via.refl e3 F_depth_a E_a (Or.inr ⟨(hw _ (List.mem_of_getElem? (i := 81) rfl)), rfl, hnm⟩) (hw _ (List.mem_of_getElem? (i := 57) rfl)) (ty := .int) (by decide) rfl rfl (g := (mkF m 16 #[.val (.ref a), .val (.ref st), .val (.ref st), .val (.int dp)] [(.int dp), (.ref a)])) rfl rfl (hb hby dsci__16)
  have F_depth_a := F_depth_a.same W4
  have E_a := E_a.wr W4
  have F_path_a := F_path_a.other W4 (Or.inr (slot_ne (Or.inr (hw _ (List.mem_of_getElem? (i := 77) rfl))) (Or.inr (hw _ (List.mem_of_getElem? (i := 81) rfl))) (by decide) (t := (.object "java/lang/String")) (t' := .int) (by decide) (by decide)))
  have F_tenant_a := F_tenant_a.other W4 (Or.inr (slot_ne (Or.inr (hw _ (List.mem_of_getElem? (i := 79) rfl))) (Or.inr (hw _ (List.mem_of_getElem? (i := 81) rfl))) (by decide) (t := (.object "java/lang/String")) (t' := .int) (by decide) (by decide)))
  have Kp := Kp.wr W4 (Or.inl (List.mem_of_getElem? (i := 0) rfl))
  have Nf := Fr.snoc X4 Nf g_a
  have Zs := Nat.le_trans Zs (Keep.of_wr W4).1
  have szr := Nat.le_trans szr (Keep.of_wr W4).1
  refine own_go (fun tQ kQ => st4 tQ kQ) ?_
  show own_End p e below _ (T4.setTop (mkF m 19 #[.val (.ref a), .val (.ref st), .val (.ref st), .val (.int dp)] []))
  obtain ⟨fs, hr, hrun, hended, hW, hsame⟩ := X4.leave (v := none) (fun _ => rfl)
  refine ⟨_, _, X4.returnOut hx Bd.returns (hb hby dsci__19) hr, hrun, hended, _, _, rfl, ?_, ⟨_, rfl⟩, hW, hsame.mono (by decide) (by decide)⟩
  show Qsci_ Z a st dp h0 n0 _ T4.heap _
  rw [e4]
  exact ⟨rfl, Nf, Kp⟩
theorem pd_38 : parseMethodDescriptor "(Ljava/lang/Object;Ljava/lang/String;)Ljava/lang/Object;" = some ⟨[(.object "java/lang/Object"), (.object "java/lang/String")], some (.object "java/lang/Object")⟩ := by decide +kernel
theorem pd_39 : parseMethodDescriptor "(I)C" = some ⟨[.int], some .char⟩ := by decide +kernel
theorem pd_40 : parseMethodDescriptor "(C)Z" = some ⟨[.char], some .boolean⟩ := by decide +kernel
theorem pd_41 : parseMethodDescriptor "(II)Ljava/lang/String;" = some ⟨[.int, .int], some (.object "java/lang/String")⟩ := by decide +kernel
theorem pd_42 : parseMethodDescriptor "(Ljava/lang/String;Ljava/lang/String;I)V" = some ⟨[(.object "java/lang/String"), (.object "java/lang/String"), .int], none⟩ := by decide +kernel
theorem dpa_0 : decode prog_26_method_2_code 0 = .ok (.aload_n 0, 1) := by decide +kernel
theorem dpa_1 : decode prog_26_method_2_code 1 = .ok (.ldc 20, 2) := by decide +kernel
theorem dpa_3 : decode prog_26_method_2_code 3 = .ok (.invokestatic 22, 3) := by decide +kernel
theorem dpa_6 : decode prog_26_method_2_code 6 = .ok (.pop, 1) := by decide +kernel
theorem dpa_7 : decode prog_26_method_2_code 7 = .ok (.iconst 0, 1) := by decide +kernel
theorem dpa_8 : decode prog_26_method_2_code 8 = .ok (.istore_n 1, 1) := by decide +kernel
theorem dpa_9 : decode prog_26_method_2_code 9 = .ok (.iconst 0, 1) := by decide +kernel
theorem dpa_10 : decode prog_26_method_2_code 10 = .ok (.istore_n 2, 1) := by decide +kernel
theorem dpa_11 : decode prog_26_method_2_code 11 = .ok (.iconst 0, 1) := by decide +kernel
theorem dpa_12 : decode prog_26_method_2_code 12 = .ok (.istore_n 3, 1) := by decide +kernel
theorem dpa_13 : decode prog_26_method_2_code 13 = .ok (.iconst 0, 1) := by decide +kernel
theorem dpa_14 : decode prog_26_method_2_code 14 = .ok (.istore 4, 2) := by decide +kernel
theorem dpa_16 : decode prog_26_method_2_code 16 = .ok (.iload 4, 2) := by decide +kernel
theorem dpa_18 : decode prog_26_method_2_code 18 = .ok (.aload_n 0, 1) := by decide +kernel
theorem dpa_19 : decode prog_26_method_2_code 19 = .ok (.invokevirtual 28, 3) := by decide +kernel
theorem dpa_22 : decode prog_26_method_2_code 22 = .ok (.if_icmp .gt 133, 3) := by decide +kernel
theorem dpa_25 : decode prog_26_method_2_code 25 = .ok (.iload 4, 2) := by decide +kernel
theorem dpa_27 : decode prog_26_method_2_code 27 = .ok (.aload_n 0, 1) := by decide +kernel
theorem dpa_28 : decode prog_26_method_2_code 28 = .ok (.invokevirtual 28, 3) := by decide +kernel
theorem dpa_31 : decode prog_26_method_2_code 31 = .ok (.if_icmp .eq 14, 3) := by decide +kernel
theorem dpa_34 : decode prog_26_method_2_code 34 = .ok (.aload_n 0, 1) := by decide +kernel
theorem dpa_35 : decode prog_26_method_2_code 35 = .ok (.iload 4, 2) := by decide +kernel
theorem dpa_37 : decode prog_26_method_2_code 37 = .ok (.invokevirtual 34, 3) := by decide +kernel
theorem dpa_40 : decode prog_26_method_2_code 40 = .ok (.bipush 46, 2) := by decide +kernel
theorem dpa_42 : decode prog_26_method_2_code 42 = .ok (.if_icmp .ne 72, 3) := by decide +kernel
theorem dpa_45 : decode prog_26_method_2_code 45 = .ok (.iload 4, 2) := by decide +kernel
theorem dpa_47 : decode prog_26_method_2_code 47 = .ok (.iload_n 3, 1) := by decide +kernel
theorem dpa_48 : decode prog_26_method_2_code 48 = .ok (.isub, 1) := by decide +kernel
theorem dpa_49 : decode prog_26_method_2_code 49 = .ok (.istore 5, 2) := by decide +kernel
theorem dpa_51 : decode prog_26_method_2_code 51 = .ok (.iload 5, 2) := by decide +kernel
theorem dpa_53 : decode prog_26_method_2_code 53 = .ok (.ifCond .ne 10, 3) := by decide +kernel
theorem dpa_63 : decode prog_26_method_2_code 63 = .ok (.iload 5, 2) := by decide +kernel
theorem dpa_65 : decode prog_26_method_2_code 65 = .ok (.bipush 64, 2) := by decide +kernel
theorem dpa_67 : decode prog_26_method_2_code 67 = .ok (.if_icmp .le 15, 3) := by decide +kernel
theorem dpa_82 : decode prog_26_method_2_code 82 = .ok (.iinc 1 1, 3) := by decide +kernel
theorem dpa_85 : decode prog_26_method_2_code 85 = .ok (.iload_n 1, 1) := by decide +kernel
theorem dpa_86 : decode prog_26_method_2_code 86 = .ok (.bipush 16, 2) := by decide +kernel
theorem dpa_88 : decode prog_26_method_2_code 88 = .ok (.if_icmp .le 10, 3) := by decide +kernel
theorem dpa_98 : decode prog_26_method_2_code 98 = .ok (.iload_n 1, 1) := by decide +kernel
theorem dpa_99 : decode prog_26_method_2_code 99 = .ok (.iconst 1, 1) := by decide +kernel
theorem dpa_100 : decode prog_26_method_2_code 100 = .ok (.if_icmp .ne 6, 3) := by decide +kernel
theorem dpa_103 : decode prog_26_method_2_code 103 = .ok (.iload 4, 2) := by decide +kernel
theorem dpa_105 : decode prog_26_method_2_code 105 = .ok (.istore_n 2, 1) := by decide +kernel
theorem dpa_106 : decode prog_26_method_2_code 106 = .ok (.iload 4, 2) := by decide +kernel
theorem dpa_108 : decode prog_26_method_2_code 108 = .ok (.iconst 1, 1) := by decide +kernel
theorem dpa_109 : decode prog_26_method_2_code 109 = .ok (.iadd, 1) := by decide +kernel
theorem dpa_110 : decode prog_26_method_2_code 110 = .ok (.istore_n 3, 1) := by decide +kernel
theorem dpa_111 : decode prog_26_method_2_code 111 = .ok (.goto 38, 3) := by decide +kernel
theorem dpa_114 : decode prog_26_method_2_code 114 = .ok (.aload_n 0, 1) := by decide +kernel
theorem dpa_115 : decode prog_26_method_2_code 115 = .ok (.iload 4, 2) := by decide +kernel
theorem dpa_117 : decode prog_26_method_2_code 117 = .ok (.invokevirtual 34, 3) := by decide +kernel
theorem dpa_120 : decode prog_26_method_2_code 120 = .ok (.invokestatic 50, 3) := by decide +kernel
theorem dpa_123 : decode prog_26_method_2_code 123 = .ok (.ifCond .ne 26, 3) := by decide +kernel
theorem dpa_149 : decode prog_26_method_2_code 149 = .ok (.iinc 4 1, 3) := by decide +kernel
theorem dpa_152 : decode prog_26_method_2_code 152 = .ok (.goto (-136), 3) := by decide +kernel
theorem dpa_155 : decode prog_26_method_2_code 155 = .ok (.new 8, 3) := by decide +kernel
theorem dpa_158 : decode prog_26_method_2_code 158 = .ok (.dup, 1) := by decide +kernel
theorem dpa_159 : decode prog_26_method_2_code 159 = .ok (.aload_n 0, 1) := by decide +kernel
theorem dpa_160 : decode prog_26_method_2_code 160 = .ok (.aload_n 0, 1) := by decide +kernel
theorem dpa_161 : decode prog_26_method_2_code 161 = .ok (.iconst 0, 1) := by decide +kernel
theorem dpa_162 : decode prog_26_method_2_code 162 = .ok (.iload_n 2, 1) := by decide +kernel
theorem dpa_163 : decode prog_26_method_2_code 163 = .ok (.invokevirtual 66, 3) := by decide +kernel
theorem dpa_166 : decode prog_26_method_2_code 166 = .ok (.iload_n 1, 1) := by decide +kernel
theorem dpa_167 : decode prog_26_method_2_code 167 = .ok (.invokespecial 70, 3) := by decide +kernel
theorem dpa_170 : decode prog_26_method_2_code 170 = .ok (.areturn, 1) := by decide +kernel
theorem ef_pa (m : MethodId) (x0 : Addr) : entryFrame m #[(.ref x0)] 6 = mkF m 0 #[.val (.ref x0), .unset, .unset, .unset, .unset, .unset] [] := by first | (simp [entryFrame, mkF, argsToLocals, Value.category]; done) | rfl
def Qpa (Z : State) (st : Addr) (tt : Addr) (bs : Nat → Int32) (cz : Int32) (fm : Value) (h0 : Heap) (n0 : Nat) (v : Option Value) (h : Heap) (L : List Loc) : Prop := ∃ pp, v = some (.ref pp) ∧ Fr n0 L ∧ Keep h0 h []
def Ppa (Z : State) (st : Addr) (tt : Addr) (bs : Nat → Int32) (cz : Int32) (fm : Value) (h0 : Heap) (n0 : Nat) (s : State) (oQ : Outcome) (U : State) : Prop := ∃ v L, oQ = .returned v ∧ Qpa Z st tt bs cz fm h0 n0 v U.heap L ∧ ReturnedEndW s oQ U L ({ frames := 4, cells := 3, slots := 67, locals := 53 } : Room).cells ({ frames := 4, cells := 3, slots := 67, locals := 53 } : Room).slots
set_option maxRecDepth 65536 in
set_option maxHeartbeats 40000000 in
theorem rmpa (l : Launch) (Z : State) (a0 : Array Value) (hw : ∀ d ∈ tables_1, d.before a0 Z = true) (ws : List Jvm.Cond) (st : Addr) (tt : Addr) (bs : Nat → Int32) (cz : Int32) (fm : Value) (h0 : Heap) (n0 : Nat) (Z0 : n0 ≤ h0.size) (E_st : Exa Z h0 st "java/lang/String") (F_value_st : Fld Z h0 st "java/lang/String" "value" "[B" (.ref tt)) (F_coder_st : Fld Z h0 st "java/lang/String" "coder" "B" (.int (0 : Int32))) (V_tt : own_Ar Z h0 tt .byte (4 : Int32) (fun j => .int (bs j))) (Ol : Old Z n0 h0) (S_cs : Sta Z Z.heap "java/lang/String" "COMPACT_STRINGS" "Z" (.int cz)) (hcz : ¬ cz = 0) (S_fm : Sta Z Z.heap "jdk/internal/util/Preconditions" "SIOOBE_FORMATTER" "Ljava/util/function/BiFunction;" fm) (rfm : fm.isRef = true) (hc_0 : own_ch (bs 0) = 97) (hc_1 : own_ch (bs 1) = 99) (hc_2 : own_ch (bs 2) = 109) (hc_3 : own_ch (bs 3) = 101) :
    MetFree l (⟨"com/example/grant3/grant3/Scope", "parse", "(Ljava/lang/String;)Lcom/example/grant3/grant3/Scope;"⟩ : MethodName) (head1 (Jvm.Cond.code (⟨"com/example/grant3/grant3/Scope", "parse", "(Ljava/lang/String;)Lcom/example/grant3/grant3/Scope;"⟩ : MethodName) prog_26_method_2_code 6 (some (.object "com/example/grant3/grant3/Scope")) :: ws) ({ frames := 4, cells := 3, slots := 67, locals := 53 } : Room)) (fun aQ U => aQ = #[(.ref st)] ∧ Z.Warmed39 U.vm ∧ U.heap = h0) (fun _ _ _ _ _ => True) (fun _ U oQ U' => ∃ v L, oQ = .returned v ∧ Qpa Z st tt bs cz fm h0 n0 v U'.heap L ∧ ReturnedEndW U oQ U' L ({ frames := 4, cells := 3, slots := 67, locals := 53 } : Room).cells ({ frames := 4, cells := 3, slots := 67, locals := 53 } : Room).slots) := by
  refine MetFree.of_bodySF (plainFor_of_name pn_34) hisR ?_
  intro p e s m args below meth c s₁ Bd hml0 hP hK
  obtain ⟨rfl, hZ, hh⟩ := hP
  have hx := Bd.exec
  have hby := Bd.bytes
  have hml : c.maxLocals = 6 := hml0
  have hown : (s.setVm s.vm).vm.findClass "com/example/grant3/grant3/Scope" = some m.cls := findClass_of_methodNamed Bd.named
  have hZ : Z.Warmed39 (s.setVm s.vm).vm := hZ
  have hS : s.Since s.vm h0.size := (State.WarmedH.refl s).since _
  have hkW : h0.size ≤ h0.size := Nat.le_refl _
  have hnm := (name_of_methodNamed Bd.named Bd.method).1
  have X0 : Stand p l e ({ frames := 4, cells := 3, slots := 67, locals := 53 } : Room) (s.setVm s.vm) m #[(.ref st)] below meth c s₁ [] 0 0 := Stand.of_body Bd
  have e0 : s₁.heap = h0 := by rw [← hh, Bd.state]; rfl
  have Nf := Fr.nil n0
  have Zs : n0 ≤ h0.size := Z0
  have Kp : Keep h0 h0 [] := Keep.refl _ _
  have szr : h0.size ≤ h0.size := Nat.le_refl _
  show own_End p e below (Ppa Z st tt bs cz fm h0 n0 s) (s₁.setTop (entryFrame m #[(.ref st)] 6))
  rw [ef_pa]
  have wS : ∀ d ∈ Bundle.stringAtoms, d.before a0 Z = true := by
    intro d hd
    simp only [Bundle.stringAtoms, List.mem_cons, List.not_mem_nil, or_false] at hd
    rcases hd with rfl | rfl | rfl | rfl | rfl | rfl | rfl
    · exact (hw _ (List.mem_of_getElem? (i := 2) rfl))
    · exact (hw _ (List.mem_of_getElem? (i := 3) rfl))
    · exact (hw _ (List.mem_of_getElem? (i := 4) rfl))
    · exact (hw _ (List.mem_of_getElem? (i := 5) rfl))
    · exact (hw _ (List.mem_of_getElem? (i := 6) rfl))
    · exact (hw _ (List.mem_of_getElem? (i := 7) rfl))
    · exact (hw _ (List.mem_of_getElem? (i := 8) rfl))
  refine own_go (fun tQ kQ => XS.aloadN X0.here hx rfl (hb hby dpa_0) rfl rfl kQ) ?_
  show own_End p e below _ (s₁.setTop (mkF m 1 #[.val (.ref st), .unset, .unset, .unset, .unset, .unset] [(.ref st)]))
  obtain ⟨mg, T1, h1, k1, X1, e1, E1, hS, hkW, hZ, hown, st1⟩ := ldcS X0 hx hZ hown (hw _ (List.mem_of_getElem? (i := 13) rfl)) wS e0 hS hkW (g := (mkF m 1 #[.val (.ref st), .unset, .unset, .unset, .unset, .unset] [(.ref st)])) rfl (hb hby dpa_1) (n := 60) (by decide) (by decide) (by decide) (by decide)
  have E_st := E_st.ext E1
  have F_value_st := F_value_st.ext E1
  have F_coder_st := F_coder_st.ext E1
  have V_tt := V_tt.ext E1
  have Ol := Ol.ext E1
  have Kp := Kp.ext E1
  have Zs := Nat.le_trans Zs E1.1
  have szr := Nat.le_trans szr E1.1
  have X1 := own_pad (k' := 2) (n' := 64) X1 (by decide) (by decide)
  refine own_go (fun tQ kQ => st1 tQ kQ) ?_
  show own_End p e below _ (T1.setTop (mkF m 3 #[.val (.ref st), .unset, .unset, .unset, .unset, .unset] [(.ref mg), (.ref st)]))
  obtain ⟨_, _, ⟨T2, L2, k2, n2⟩, -, X2, ⟨Lc2, hQ2, l2, y2, z2⟩, st2⟩ := Jvm.LawKit.callS X1 hx (y := (⟨"java/util/Objects", "requireNonNull", "(Ljava/lang/Object;Ljava/lang/String;)Ljava/lang/Object;"⟩ : MethodName)) hown (mvT hZ (hw _ (List.mem_of_getElem? (i := 14) rfl))) (mvT hZ (hw _ (List.mem_of_getElem? (i := 15) rfl))) (mvT hZ (hw _ (List.mem_of_getElem? (i := 16) rfl))) (mvT hZ (hw _ (List.mem_of_getElem? (i := 17) rfl))) (by decide) (backOf (W := 0) (rmrn l Z a0 hw [] st mg h1 n0 Zs ) hZ (hw _ (List.mem_of_getElem? (i := 17) rfl)) (hw _ (List.mem_of_getElem? (i := 16) rfl)) (by decide) (by decide)) (g := (mkF m 3 #[.val (.ref st), .unset, .unset, .unset, .unset, .unset] [(.ref mg), (.ref st)])) rfl (by rw [hml]; rfl) (argsL := [(.ref st), (.ref mg)]) (rest := []) (lenOf pd_38 rfl) rfl (by show 2 * 0 + _ ≤ _; exact Nat.le_of_eq rfl) (hb hby dpa_3) (fun _ _ => ⟨rfl, e1, (Nat.le_of_ble_eq_true rfl), (Nat.le_of_ble_eq_true rfl)⟩)
  dsimp only [Pt.U, Pt.locs, Pt.cells, Pt.slots] at X2 l2 y2 z2 st2 hQ2
  rw [l2, y2, z2] at X2
  obtain ⟨rfl, N2q, e2⟩ := hQ2
  have Nf := Fr.app Nf N2q
  have X2 := own_pad (k' := 2) (n' := 64) X2 (by decide) (by decide)
  refine own_go (fun tQ kQ => st2 tQ kQ) ?_
  show own_End p e below _ (T2.setTop (mkF m 6 #[.val (.ref st), .unset, .unset, .unset, .unset, .unset] [(.ref st)]))
  refine own_go (fun tQ kQ => XS.pop X2.here hx rfl (hb hby dpa_6) rfl rfl kQ) ?_
  show own_End p e below _ (T2.setTop (mkF m 7 #[.val (.ref st), .unset, .unset, .unset, .unset, .unset] []))
  refine own_go (fun tQ kQ => XS.iconst X2.here hx rfl (hb hby dpa_7) kQ) ?_
  show own_End p e below _ (T2.setTop (mkF m 8 #[.val (.ref st), .unset, .unset, .unset, .unset, .unset] [(.int (0 : Int32))]))
  refine own_go (fun tQ kQ => XS.istoreN X2.here hx rfl (hb hby dpa_8) rfl (l' := #[.val (.ref st), .val (.int (0 : Int32)), .unset, .unset, .unset, .unset]) rfl kQ) ?_
  show own_End p e below _ (T2.setTop (mkF m 9 #[.val (.ref st), .val (.int (0 : Int32)), .unset, .unset, .unset, .unset] []))
  refine own_go (fun tQ kQ => XS.iconst X2.here hx rfl (hb hby dpa_9) kQ) ?_
  show own_End p e below _ (T2.setTop (mkF m 10 #[.val (.ref st), .val (.int (0 : Int32)), .unset, .unset, .unset, .unset] [(.int (0 : Int32))]))
  refine own_go (fun tQ kQ => XS.istoreN X2.here hx rfl (hb hby dpa_10) rfl (l' := #[.val (.ref st), .val (.int (0 : Int32)), .val (.int (0 : Int32)), .unset, .unset, .unset]) rfl kQ) ?_
  show own_End p e below _ (T2.setTop (mkF m 11 #[.val (.ref st), .val (.int (0 : Int32)), .val (.int (0 : Int32)), .unset, .unset, .unset] []))
  refine own_go (fun tQ kQ => XS.iconst X2.here hx rfl (hb hby dpa_11) kQ) ?_
  show own_End p e below _ (T2.setTop (mkF m 12 #[.val (.ref st), .val (.int (0 : Int32)), .val (.int (0 : Int32)), .unset, .unset, .unset] [(.int (0 : Int32))]))
  refine own_go (fun tQ kQ => XS.istoreN X2.here hx rfl (hb hby dpa_12) rfl (l' := #[.val (.ref st), .val (.int (0 : Int32)), .val (.int (0 : Int32)), .val (.int (0 : Int32)), .unset, .unset]) rfl kQ) ?_
  show own_End p e below _ (T2.setTop (mkF m 13 #[.val (.ref st), .val (.int (0 : Int32)), .val (.int (0 : Int32)), .val (.int (0 : Int32)), .unset, .unset] []))
  refine own_go (fun tQ kQ => XS.iconst X2.here hx rfl (hb hby dpa_13) kQ) ?_
  show own_End p e below _ (T2.setTop (mkF m 14 #[.val (.ref st), .val (.int (0 : Int32)), .val (.int (0 : Int32)), .val (.int (0 : Int32)), .unset, .unset] [(.int (0 : Int32))]))
  refine own_go (fun tQ kQ => XS.istore X2.here hx rfl (hb hby dpa_14) rfl (l' := #[.val (.ref st), .val (.int (0 : Int32)), .val (.int (0 : Int32)), .val (.int (0 : Int32)), .val (.int (0 : Int32)), .unset]) rfl kQ) ?_
  show own_End p e below _ (T2.setTop (mkF m 16 #[.val (.ref st), .val (.int (0 : Int32)), .val (.int (0 : Int32)), .val (.int (0 : Int32)), .val (.int (0 : Int32)), .unset] []))
  refine own_go (fun tQ kQ => XS.iload X2.here hx rfl (hb hby dpa_16) rfl kQ) ?_
  show own_End p e below _ (T2.setTop (mkF m 18 #[.val (.ref st), .val (.int (0 : Int32)), .val (.int (0 : Int32)), .val (.int (0 : Int32)), .val (.int (0 : Int32)), .unset] [(.int (0 : Int32))]))
  refine own_go (fun tQ kQ => XS.aloadN X2.here hx rfl (hb hby dpa_18) rfl rfl kQ) ?_
  show own_End p e below _ (T2.setTop (mkF m 19 #[.val (.ref st), .val (.int (0 : Int32)), .val (.int (0 : Int32)), .val (.int (0 : Int32)), .val (.int (0 : Int32)), .unset] [(.ref st), (.int (0 : Int32))]))
  obtain ⟨cq3, kq3, q3a, q3b, q3c⟩ := isOf hZ e2 E_st
  obtain ⟨_, _, ⟨T3, L3, k3, n3⟩, -, X3, ⟨Lc3, hQ3, l3, y3, z3⟩, st3⟩ := X2.virtualBack hx (y := (⟨"java/lang/String", "length", "()I"⟩ : MethodName)) (z := (⟨"java/lang/String", "length", "()I"⟩ : MethodName)) hown (mvT hZ (hw _ (List.mem_of_getElem? (i := 18) rfl))) (mvT hZ (hw _ (List.mem_of_getElem? (i := 19) rfl))) (notFace_of_selects (args := #[]) (mvT hZ (hw _ (List.mem_of_getElem? (i := 21) rfl)))) (mvT hZ (hw _ (List.mem_of_getElem? (i := 21) rfl))) (mvT hZ (hw _ (List.mem_of_getElem? (i := 20) rfl))) (by decide) (backOf (W := 1) (rmlen l Z a0 hw [] st tt (4 : Int32) bs cz h1 n0 Zs E_st F_value_st F_coder_st V_tt Ol S_cs hcz) hZ (hw _ (List.mem_of_getElem? (i := 22) rfl)) (hw _ (List.mem_of_getElem? (i := 2) rfl)) (by decide) (by decide)) q3a q3c (g := (mkF m 19 #[.val (.ref st), .val (.int (0 : Int32)), .val (.int (0 : Int32)), .val (.int (0 : Int32)), .val (.int (0 : Int32)), .unset] [(.ref st), (.int (0 : Int32))])) rfl (by rw [hml]; rfl) (Steps.refl _) (argsL := []) (rest := [(.int (0 : Int32))]) (lenOf pd_36 rfl) rfl (by show 2 * 0 + _ ≤ _; exact Nat.le_of_eq rfl) (hb hby dpa_19) (fun _ _ => ⟨rfl, e2, (Nat.le_of_ble_eq_true rfl), (Nat.le_of_ble_eq_true rfl)⟩)
  dsimp only [Pt.U, Pt.locs, Pt.cells, Pt.slots] at X3 l3 y3 z3 st3 hQ3
  rw [l3, y3, z3] at X3
  obtain ⟨rfl, N3q, e3⟩ := hQ3
  have Nf := Fr.app Nf N3q
  have X3 := own_pad (k' := 2) (n' := 64) X3 (by decide) (by decide)
  refine own_go (fun tQ kQ => st3.trans kQ) ?_
  show own_End p e below _ (T3.setTop (mkF m 22 #[.val (.ref st), .val (.int (0 : Int32)), .val (.int (0 : Int32)), .val (.int (0 : Int32)), .val (.int (0 : Int32)), .unset] [(.int (4 : Int32)), (.int (0 : Int32))]))
  refine own_go (fun tQ kQ => XS.icmpNo X3.here hx rfl (hb hby dpa_22) rfl (flt (by decide)).2.2.1 kQ) ?_
  show own_End p e below _ (T3.setTop (mkF m 25 #[.val (.ref st), .val (.int (0 : Int32)), .val (.int (0 : Int32)), .val (.int (0 : Int32)), .val (.int (0 : Int32)), .unset] []))
  refine own_go (fun tQ kQ => XS.iload X3.here hx rfl (hb hby dpa_25) rfl kQ) ?_
  show own_End p e below _ (T3.setTop (mkF m 27 #[.val (.ref st), .val (.int (0 : Int32)), .val (.int (0 : Int32)), .val (.int (0 : Int32)), .val (.int (0 : Int32)), .unset] [(.int (0 : Int32))]))
  refine own_go (fun tQ kQ => XS.aloadN X3.here hx rfl (hb hby dpa_27) rfl rfl kQ) ?_
  show own_End p e below _ (T3.setTop (mkF m 28 #[.val (.ref st), .val (.int (0 : Int32)), .val (.int (0 : Int32)), .val (.int (0 : Int32)), .val (.int (0 : Int32)), .unset] [(.ref st), (.int (0 : Int32))]))
  obtain ⟨cq4, kq4, q4a, q4b, q4c⟩ := isOf hZ e3 E_st
  obtain ⟨_, _, ⟨T4, L4, k4, n4⟩, -, X4, ⟨Lc4, hQ4, l4, y4, z4⟩, st4⟩ := X3.virtualBack hx (y := (⟨"java/lang/String", "length", "()I"⟩ : MethodName)) (z := (⟨"java/lang/String", "length", "()I"⟩ : MethodName)) hown (mvT hZ (hw _ (List.mem_of_getElem? (i := 18) rfl))) (mvT hZ (hw _ (List.mem_of_getElem? (i := 19) rfl))) (notFace_of_selects (args := #[]) (mvT hZ (hw _ (List.mem_of_getElem? (i := 21) rfl)))) (mvT hZ (hw _ (List.mem_of_getElem? (i := 21) rfl))) (mvT hZ (hw _ (List.mem_of_getElem? (i := 20) rfl))) (by decide) (backOf (W := 1) (rmlen l Z a0 hw [] st tt (4 : Int32) bs cz h1 n0 Zs E_st F_value_st F_coder_st V_tt Ol S_cs hcz) hZ (hw _ (List.mem_of_getElem? (i := 22) rfl)) (hw _ (List.mem_of_getElem? (i := 2) rfl)) (by decide) (by decide)) q4a q4c (g := (mkF m 28 #[.val (.ref st), .val (.int (0 : Int32)), .val (.int (0 : Int32)), .val (.int (0 : Int32)), .val (.int (0 : Int32)), .unset] [(.ref st), (.int (0 : Int32))])) rfl (by rw [hml]; rfl) (Steps.refl _) (argsL := []) (rest := [(.int (0 : Int32))]) (lenOf pd_36 rfl) rfl (by show 2 * 0 + _ ≤ _; exact Nat.le_of_eq rfl) (hb hby dpa_28) (fun _ _ => ⟨rfl, e3, (Nat.le_of_ble_eq_true rfl), (Nat.le_of_ble_eq_true rfl)⟩)
  dsimp only [Pt.U, Pt.locs, Pt.cells, Pt.slots] at X4 l4 y4 z4 st4 hQ4
  rw [l4, y4, z4] at X4
  obtain ⟨rfl, N4q, e4⟩ := hQ4
  have Nf := Fr.app Nf N4q
  have X4 := own_pad (k' := 2) (n' := 64) X4 (by decide) (by decide)
  refine own_go (fun tQ kQ => st4.trans kQ) ?_
  show own_End p e below _ (T4.setTop (mkF m 31 #[.val (.ref st), .val (.int (0 : Int32)), .val (.int (0 : Int32)), .val (.int (0 : Int32)), .val (.int (0 : Int32)), .unset] [(.int (4 : Int32)), (.int (0 : Int32))]))
  refine own_go (fun tQ kQ => XS.icmpNo X4.here hx rfl (hb hby dpa_31) rfl (feq (by decide)).1 kQ) ?_
  show own_End p e below _ (T4.setTop (mkF m 34 #[.val (.ref st), .val (.int (0 : Int32)), .val (.int (0 : Int32)), .val (.int (0 : Int32)), .val (.int (0 : Int32)), .unset] []))
  refine own_go (fun tQ kQ => XS.aloadN X4.here hx rfl (hb hby dpa_34) rfl rfl kQ) ?_
  show own_End p e below _ (T4.setTop (mkF m 35 #[.val (.ref st), .val (.int (0 : Int32)), .val (.int (0 : Int32)), .val (.int (0 : Int32)), .val (.int (0 : Int32)), .unset] [(.ref st)]))
  refine own_go (fun tQ kQ => XS.iload X4.here hx rfl (hb hby dpa_35) rfl kQ) ?_
  show own_End p e below _ (T4.setTop (mkF m 37 #[.val (.ref st), .val (.int (0 : Int32)), .val (.int (0 : Int32)), .val (.int (0 : Int32)), .val (.int (0 : Int32)), .unset] [(.int (0 : Int32)), (.ref st)]))
  obtain ⟨cq5, kq5, q5a, q5b, q5c⟩ := isOf hZ e4 E_st
  obtain ⟨_, _, ⟨T5, L5, k5, n5⟩, -, X5, ⟨Lc5, hQ5, l5, y5, z5⟩, st5⟩ := X4.virtualBack hx (y := (⟨"java/lang/String", "charAt", "(I)C"⟩ : MethodName)) (z := (⟨"java/lang/String", "charAt", "(I)C"⟩ : MethodName)) hown (mvT hZ (hw _ (List.mem_of_getElem? (i := 31) rfl))) (mvT hZ (hw _ (List.mem_of_getElem? (i := 32) rfl))) (notFace_of_selects (args := #[]) (mvT hZ (hw _ (List.mem_of_getElem? (i := 34) rfl)))) (mvT hZ (hw _ (List.mem_of_getElem? (i := 34) rfl))) (mvT hZ (hw _ (List.mem_of_getElem? (i := 33) rfl))) (by decide) (backOf (W := 0) (rmchA l Z a0 hw [] st tt (4 : Int32) bs cz (0 : Int32) fm h1 n0 Zs E_st F_value_st F_coder_st V_tt Ol S_cs hcz S_fm rfm (by decide) (by decide)) hZ (hw _ (List.mem_of_getElem? (i := 35) rfl)) (hw _ (List.mem_of_getElem? (i := 2) rfl)) (by decide) (by decide)) q5a q5c (g := (mkF m 37 #[.val (.ref st), .val (.int (0 : Int32)), .val (.int (0 : Int32)), .val (.int (0 : Int32)), .val (.int (0 : Int32)), .unset] [(.int (0 : Int32)), (.ref st)])) rfl (by rw [hml]; rfl) (Steps.refl _) (argsL := [(.int (0 : Int32))]) (rest := []) (lenOf pd_39 rfl) rfl (by show 2 * 0 + _ ≤ _; exact Nat.le_of_eq rfl) (hb hby dpa_37) (fun _ _ => ⟨rfl, e4, (Nat.le_of_ble_eq_true rfl), (Nat.le_of_ble_eq_true rfl)⟩)
  dsimp only [Pt.U, Pt.locs, Pt.cells, Pt.slots] at X5 l5 y5 z5 st5 hQ5
  rw [l5, y5, z5] at X5
  obtain ⟨rfl, N5q, e5⟩ := hQ5
  have Nf := Fr.app Nf N5q
  have X5 := own_pad (k' := 2) (n' := 64) X5 (by decide) (by decide)
  refine own_go (fun tQ kQ => st5.trans kQ) ?_
  show own_End p e below _ (T5.setTop (mkF m 40 #[.val (.ref st), .val (.int (0 : Int32)), .val (.int (0 : Int32)), .val (.int (0 : Int32)), .val (.int (0 : Int32)), .unset] [(.int (own_ch (bs (0 : Int32).toNatClampNeg)))]))
  rw [show own_ch (bs (0 : Int32).toNatClampNeg) = 97 from hc_0]
  show own_End p e below _ (T5.setTop (mkF m 40 #[.val (.ref st), .val (.int (0 : Int32)), .val (.int (0 : Int32)), .val (.int (0 : Int32)), .val (.int (0 : Int32)), .unset] [(.int (97 : Int32))]))
  refine own_go (fun tQ kQ => XS.bipush X5.here hx rfl (hb hby dpa_40) kQ) ?_
  show own_End p e below _ (T5.setTop (mkF m 42 #[.val (.ref st), .val (.int (0 : Int32)), .val (.int (0 : Int32)), .val (.int (0 : Int32)), .val (.int (0 : Int32)), .unset] [(.int (46 : Int32)), (.int (97 : Int32))]))
  refine own_go (fun tQ kQ => XS.icmpYes X5.here hx rfl (pc0 := 42) (pc' := 114) rfl (hb hby dpa_42) rfl (feq (by decide)).2 (by decide) (by decide) kQ) ?_
  show own_End p e below _ (T5.setTop (mkF m 114 #[.val (.ref st), .val (.int (0 : Int32)), .val (.int (0 : Int32)), .val (.int (0 : Int32)), .val (.int (0 : Int32)), .unset] []))
  refine own_go (fun tQ kQ => XS.aloadN X5.here hx rfl (hb hby dpa_114) rfl rfl kQ) ?_
  show own_End p e below _ (T5.setTop (mkF m 115 #[.val (.ref st), .val (.int (0 : Int32)), .val (.int (0 : Int32)), .val (.int (0 : Int32)), .val (.int (0 : Int32)), .unset] [(.ref st)]))
  refine own_go (fun tQ kQ => XS.iload X5.here hx rfl (hb hby dpa_115) rfl kQ) ?_
  show own_End p e below _ (T5.setTop (mkF m 117 #[.val (.ref st), .val (.int (0 : Int32)), .val (.int (0 : Int32)), .val (.int (0 : Int32)), .val (.int (0 : Int32)), .unset] [(.int (0 : Int32)), (.ref st)]))
  obtain ⟨cq6, kq6, q6a, q6b, q6c⟩ := isOf hZ e5 E_st
  obtain ⟨_, _, ⟨T6, L6, k6, n6⟩, -, X6, ⟨Lc6, hQ6, l6, y6, z6⟩, st6⟩ := X5.virtualBack hx (y := (⟨"java/lang/String", "charAt", "(I)C"⟩ : MethodName)) (z := (⟨"java/lang/String", "charAt", "(I)C"⟩ : MethodName)) hown (mvT hZ (hw _ (List.mem_of_getElem? (i := 31) rfl))) (mvT hZ (hw _ (List.mem_of_getElem? (i := 32) rfl))) (notFace_of_selects (args := #[]) (mvT hZ (hw _ (List.mem_of_getElem? (i := 34) rfl)))) (mvT hZ (hw _ (List.mem_of_getElem? (i := 34) rfl))) (mvT hZ (hw _ (List.mem_of_getElem? (i := 33) rfl))) (by decide) (backOf (W := 0) (rmchA l Z a0 hw [] st tt (4 : Int32) bs cz (0 : Int32) fm h1 n0 Zs E_st F_value_st F_coder_st V_tt Ol S_cs hcz S_fm rfm (by decide) (by decide)) hZ (hw _ (List.mem_of_getElem? (i := 35) rfl)) (hw _ (List.mem_of_getElem? (i := 2) rfl)) (by decide) (by decide)) q6a q6c (g := (mkF m 117 #[.val (.ref st), .val (.int (0 : Int32)), .val (.int (0 : Int32)), .val (.int (0 : Int32)), .val (.int (0 : Int32)), .unset] [(.int (0 : Int32)), (.ref st)])) rfl (by rw [hml]; rfl) (Steps.refl _) (argsL := [(.int (0 : Int32))]) (rest := []) (lenOf pd_39 rfl) rfl (by show 2 * 0 + _ ≤ _; exact Nat.le_of_eq rfl) (hb hby dpa_117) (fun _ _ => ⟨rfl, e5, (Nat.le_of_ble_eq_true rfl), (Nat.le_of_ble_eq_true rfl)⟩)
  dsimp only [Pt.U, Pt.locs, Pt.cells, Pt.slots] at X6 l6 y6 z6 st6 hQ6
  rw [l6, y6, z6] at X6
  obtain ⟨rfl, N6q, e6⟩ := hQ6
  have Nf := Fr.app Nf N6q
  have X6 := own_pad (k' := 2) (n' := 64) X6 (by decide) (by decide)
  refine own_go (fun tQ kQ => st6.trans kQ) ?_
  show own_End p e below _ (T6.setTop (mkF m 120 #[.val (.ref st), .val (.int (0 : Int32)), .val (.int (0 : Int32)), .val (.int (0 : Int32)), .val (.int (0 : Int32)), .unset] [(.int (own_ch (bs (0 : Int32).toNatClampNeg)))]))
  rw [show own_ch (bs (0 : Int32).toNatClampNeg) = 97 from hc_0]
  show own_End p e below _ (T6.setTop (mkF m 120 #[.val (.ref st), .val (.int (0 : Int32)), .val (.int (0 : Int32)), .val (.int (0 : Int32)), .val (.int (0 : Int32)), .unset] [(.int (97 : Int32))]))
  obtain ⟨_, _, ⟨T7, L7, k7, n7⟩, -, X7, ⟨Lc7, hQ7, l7, y7, z7⟩, st7⟩ := Jvm.LawKit.callS X6 hx (y := (⟨"com/example/grant3/grant3/Scope", "isLabelCharacter", "(C)Z"⟩ : MethodName)) hown (mvT hZ (hw _ (List.mem_of_getElem? (i := 53) rfl))) (mvT hZ (hw _ (List.mem_of_getElem? (i := 54) rfl))) (mvT hZ (hw _ (List.mem_of_getElem? (i := 11) rfl))) (mvT hZ (hw _ (List.mem_of_getElem? (i := 55) rfl))) (by decide) (backOf (W := 0) (rmlab l Z a0 hw [] (97 : Int32) h1 n0 Zs (by decide) (by decide)) hZ (hw _ (List.mem_of_getElem? (i := 55) rfl)) (hw _ (List.mem_of_getElem? (i := 11) rfl)) (by decide) (by decide)) (g := (mkF m 120 #[.val (.ref st), .val (.int (0 : Int32)), .val (.int (0 : Int32)), .val (.int (0 : Int32)), .val (.int (0 : Int32)), .unset] [(.int (97 : Int32))])) rfl (by rw [hml]; rfl) (argsL := [(.int (97 : Int32))]) (rest := []) (lenOf pd_40 rfl) rfl (by show 2 * 0 + _ ≤ _; exact Nat.le_of_eq rfl) (hb hby dpa_120) (fun _ _ => ⟨rfl, e6, (Nat.le_of_ble_eq_true rfl), (Nat.le_of_ble_eq_true rfl)⟩)
  dsimp only [Pt.U, Pt.locs, Pt.cells, Pt.slots] at X7 l7 y7 z7 st7 hQ7
  rw [l7, y7, z7] at X7
  obtain ⟨rfl, N7q, e7⟩ := hQ7
  have Nf := Fr.app Nf N7q
  have X7 := own_pad (k' := 2) (n' := 64) X7 (by decide) (by decide)
  refine own_go (fun tQ kQ => st7 tQ kQ) ?_
  show own_End p e below _ (T7.setTop (mkF m 123 #[.val (.ref st), .val (.int (0 : Int32)), .val (.int (0 : Int32)), .val (.int (0 : Int32)), .val (.int (0 : Int32)), .unset] [(.int (1 : Int32))]))
  refine own_go (fun tQ kQ => XS.ifYes X7.here hx rfl (pc0 := 123) (pc' := 149) rfl (hb hby dpa_123) rfl ((if0 _ _).trans (feq (by decide)).2) (by decide) (by decide) kQ) ?_
  show own_End p e below _ (T7.setTop (mkF m 149 #[.val (.ref st), .val (.int (0 : Int32)), .val (.int (0 : Int32)), .val (.int (0 : Int32)), .val (.int (0 : Int32)), .unset] []))
  refine own_go (fun tQ kQ => XS.iinc X7.here hx rfl (hb hby dpa_149) rfl (l' := #[.val (.ref st), .val (.int (0 : Int32)), .val (.int (0 : Int32)), .val (.int (0 : Int32)), .val (.int ((0 : Int32) + (1 : Int32))), .unset]) rfl kQ) ?_
  show own_End p e below _ (T7.setTop (mkF m 152 #[.val (.ref st), .val (.int (0 : Int32)), .val (.int (0 : Int32)), .val (.int (0 : Int32)), .val (.int ((0 : Int32) + (1 : Int32))), .unset] []))
  rw [show ((0 : Int32) + (1 : Int32)) = (1 : Int32) by decide]
  show own_End p e below _ (T7.setTop (mkF m 152 #[.val (.ref st), .val (.int (0 : Int32)), .val (.int (0 : Int32)), .val (.int (0 : Int32)), .val (.int (1 : Int32)), .unset] []))
  refine own_go (fun tQ kQ => XS.goto X7.here hx rfl (pc0 := 152) (pc' := 16) rfl (hb hby dpa_152) (by decide) (by decide) kQ) ?_
  show own_End p e below _ (T7.setTop (mkF m 16 #[.val (.ref st), .val (.int (0 : Int32)), .val (.int (0 : Int32)), .val (.int (0 : Int32)), .val (.int (1 : Int32)), .unset] []))
  refine own_go (fun tQ kQ => XS.iload X7.here hx rfl (hb hby dpa_16) rfl kQ) ?_
  show own_End p e below _ (T7.setTop (mkF m 18 #[.val (.ref st), .val (.int (0 : Int32)), .val (.int (0 : Int32)), .val (.int (0 : Int32)), .val (.int (1 : Int32)), .unset] [(.int (1 : Int32))]))
  refine own_go (fun tQ kQ => XS.aloadN X7.here hx rfl (hb hby dpa_18) rfl rfl kQ) ?_
  show own_End p e below _ (T7.setTop (mkF m 19 #[.val (.ref st), .val (.int (0 : Int32)), .val (.int (0 : Int32)), .val (.int (0 : Int32)), .val (.int (1 : Int32)), .unset] [(.ref st), (.int (1 : Int32))]))
  obtain ⟨cq8, kq8, q8a, q8b, q8c⟩ := isOf hZ e7 E_st
  obtain ⟨_, _, ⟨T8, L8, k8, n8⟩, -, X8, ⟨Lc8, hQ8, l8, y8, z8⟩, st8⟩ := X7.virtualBack hx (y := (⟨"java/lang/String", "length", "()I"⟩ : MethodName)) (z := (⟨"java/lang/String", "length", "()I"⟩ : MethodName)) hown (mvT hZ (hw _ (List.mem_of_getElem? (i := 18) rfl))) (mvT hZ (hw _ (List.mem_of_getElem? (i := 19) rfl))) (notFace_of_selects (args := #[]) (mvT hZ (hw _ (List.mem_of_getElem? (i := 21) rfl)))) (mvT hZ (hw _ (List.mem_of_getElem? (i := 21) rfl))) (mvT hZ (hw _ (List.mem_of_getElem? (i := 20) rfl))) (by decide) (backOf (W := 1) (rmlen l Z a0 hw [] st tt (4 : Int32) bs cz h1 n0 Zs E_st F_value_st F_coder_st V_tt Ol S_cs hcz) hZ (hw _ (List.mem_of_getElem? (i := 22) rfl)) (hw _ (List.mem_of_getElem? (i := 2) rfl)) (by decide) (by decide)) q8a q8c (g := (mkF m 19 #[.val (.ref st), .val (.int (0 : Int32)), .val (.int (0 : Int32)), .val (.int (0 : Int32)), .val (.int (1 : Int32)), .unset] [(.ref st), (.int (1 : Int32))])) rfl (by rw [hml]; rfl) (Steps.refl _) (argsL := []) (rest := [(.int (1 : Int32))]) (lenOf pd_36 rfl) rfl (by show 2 * 0 + _ ≤ _; exact Nat.le_of_eq rfl) (hb hby dpa_19) (fun _ _ => ⟨rfl, e7, (Nat.le_of_ble_eq_true rfl), (Nat.le_of_ble_eq_true rfl)⟩)
  dsimp only [Pt.U, Pt.locs, Pt.cells, Pt.slots] at X8 l8 y8 z8 st8 hQ8
  rw [l8, y8, z8] at X8
  obtain ⟨rfl, N8q, e8⟩ := hQ8
  have Nf := Fr.app Nf N8q
  have X8 := own_pad (k' := 2) (n' := 64) X8 (by decide) (by decide)
  refine own_go (fun tQ kQ => st8.trans kQ) ?_
  show own_End p e below _ (T8.setTop (mkF m 22 #[.val (.ref st), .val (.int (0 : Int32)), .val (.int (0 : Int32)), .val (.int (0 : Int32)), .val (.int (1 : Int32)), .unset] [(.int (4 : Int32)), (.int (1 : Int32))]))
  refine own_go (fun tQ kQ => XS.icmpNo X8.here hx rfl (hb hby dpa_22) rfl (flt (by decide)).2.2.1 kQ) ?_
  show own_End p e below _ (T8.setTop (mkF m 25 #[.val (.ref st), .val (.int (0 : Int32)), .val (.int (0 : Int32)), .val (.int (0 : Int32)), .val (.int (1 : Int32)), .unset] []))
  refine own_go (fun tQ kQ => XS.iload X8.here hx rfl (hb hby dpa_25) rfl kQ) ?_
  show own_End p e below _ (T8.setTop (mkF m 27 #[.val (.ref st), .val (.int (0 : Int32)), .val (.int (0 : Int32)), .val (.int (0 : Int32)), .val (.int (1 : Int32)), .unset] [(.int (1 : Int32))]))
  refine own_go (fun tQ kQ => XS.aloadN X8.here hx rfl (hb hby dpa_27) rfl rfl kQ) ?_
  show own_End p e below _ (T8.setTop (mkF m 28 #[.val (.ref st), .val (.int (0 : Int32)), .val (.int (0 : Int32)), .val (.int (0 : Int32)), .val (.int (1 : Int32)), .unset] [(.ref st), (.int (1 : Int32))]))
  obtain ⟨cq9, kq9, q9a, q9b, q9c⟩ := isOf hZ e8 E_st
  obtain ⟨_, _, ⟨T9, L9, k9, n9⟩, -, X9, ⟨Lc9, hQ9, l9, y9, z9⟩, st9⟩ := X8.virtualBack hx (y := (⟨"java/lang/String", "length", "()I"⟩ : MethodName)) (z := (⟨"java/lang/String", "length", "()I"⟩ : MethodName)) hown (mvT hZ (hw _ (List.mem_of_getElem? (i := 18) rfl))) (mvT hZ (hw _ (List.mem_of_getElem? (i := 19) rfl))) (notFace_of_selects (args := #[]) (mvT hZ (hw _ (List.mem_of_getElem? (i := 21) rfl)))) (mvT hZ (hw _ (List.mem_of_getElem? (i := 21) rfl))) (mvT hZ (hw _ (List.mem_of_getElem? (i := 20) rfl))) (by decide) (backOf (W := 1) (rmlen l Z a0 hw [] st tt (4 : Int32) bs cz h1 n0 Zs E_st F_value_st F_coder_st V_tt Ol S_cs hcz) hZ (hw _ (List.mem_of_getElem? (i := 22) rfl)) (hw _ (List.mem_of_getElem? (i := 2) rfl)) (by decide) (by decide)) q9a q9c (g := (mkF m 28 #[.val (.ref st), .val (.int (0 : Int32)), .val (.int (0 : Int32)), .val (.int (0 : Int32)), .val (.int (1 : Int32)), .unset] [(.ref st), (.int (1 : Int32))])) rfl (by rw [hml]; rfl) (Steps.refl _) (argsL := []) (rest := [(.int (1 : Int32))]) (lenOf pd_36 rfl) rfl (by show 2 * 0 + _ ≤ _; exact Nat.le_of_eq rfl) (hb hby dpa_28) (fun _ _ => ⟨rfl, e8, (Nat.le_of_ble_eq_true rfl), (Nat.le_of_ble_eq_true rfl)⟩)
  dsimp only [Pt.U, Pt.locs, Pt.cells, Pt.slots] at X9 l9 y9 z9 st9 hQ9
  rw [l9, y9, z9] at X9
  obtain ⟨rfl, N9q, e9⟩ := hQ9
  have Nf := Fr.app Nf N9q
  have X9 := own_pad (k' := 2) (n' := 64) X9 (by decide) (by decide)
  refine own_go (fun tQ kQ => st9.trans kQ) ?_
  show own_End p e below _ (T9.setTop (mkF m 31 #[.val (.ref st), .val (.int (0 : Int32)), .val (.int (0 : Int32)), .val (.int (0 : Int32)), .val (.int (1 : Int32)), .unset] [(.int (4 : Int32)), (.int (1 : Int32))]))
  refine own_go (fun tQ kQ => XS.icmpNo X9.here hx rfl (hb hby dpa_31) rfl (feq (by decide)).1 kQ) ?_
  show own_End p e below _ (T9.setTop (mkF m 34 #[.val (.ref st), .val (.int (0 : Int32)), .val (.int (0 : Int32)), .val (.int (0 : Int32)), .val (.int (1 : Int32)), .unset] []))
  refine own_go (fun tQ kQ => XS.aloadN X9.here hx rfl (hb hby dpa_34) rfl rfl kQ) ?_
  show own_End p e below _ (T9.setTop (mkF m 35 #[.val (.ref st), .val (.int (0 : Int32)), .val (.int (0 : Int32)), .val (.int (0 : Int32)), .val (.int (1 : Int32)), .unset] [(.ref st)]))
  refine own_go (fun tQ kQ => XS.iload X9.here hx rfl (hb hby dpa_35) rfl kQ) ?_
  show own_End p e below _ (T9.setTop (mkF m 37 #[.val (.ref st), .val (.int (0 : Int32)), .val (.int (0 : Int32)), .val (.int (0 : Int32)), .val (.int (1 : Int32)), .unset] [(.int (1 : Int32)), (.ref st)]))
  obtain ⟨cq10, kq10, q10a, q10b, q10c⟩ := isOf hZ e9 E_st
  obtain ⟨_, _, ⟨T10, L10, k10, n10⟩, -, X10, ⟨Lc10, hQ10, l10, y10, z10⟩, st10⟩ := X9.virtualBack hx (y := (⟨"java/lang/String", "charAt", "(I)C"⟩ : MethodName)) (z := (⟨"java/lang/String", "charAt", "(I)C"⟩ : MethodName)) hown (mvT hZ (hw _ (List.mem_of_getElem? (i := 31) rfl))) (mvT hZ (hw _ (List.mem_of_getElem? (i := 32) rfl))) (notFace_of_selects (args := #[]) (mvT hZ (hw _ (List.mem_of_getElem? (i := 34) rfl)))) (mvT hZ (hw _ (List.mem_of_getElem? (i := 34) rfl))) (mvT hZ (hw _ (List.mem_of_getElem? (i := 33) rfl))) (by decide) (backOf (W := 0) (rmchA l Z a0 hw [] st tt (4 : Int32) bs cz (1 : Int32) fm h1 n0 Zs E_st F_value_st F_coder_st V_tt Ol S_cs hcz S_fm rfm (by decide) (by decide)) hZ (hw _ (List.mem_of_getElem? (i := 35) rfl)) (hw _ (List.mem_of_getElem? (i := 2) rfl)) (by decide) (by decide)) q10a q10c (g := (mkF m 37 #[.val (.ref st), .val (.int (0 : Int32)), .val (.int (0 : Int32)), .val (.int (0 : Int32)), .val (.int (1 : Int32)), .unset] [(.int (1 : Int32)), (.ref st)])) rfl (by rw [hml]; rfl) (Steps.refl _) (argsL := [(.int (1 : Int32))]) (rest := []) (lenOf pd_39 rfl) rfl (by show 2 * 0 + _ ≤ _; exact Nat.le_of_eq rfl) (hb hby dpa_37) (fun _ _ => ⟨rfl, e9, (Nat.le_of_ble_eq_true rfl), (Nat.le_of_ble_eq_true rfl)⟩)
  dsimp only [Pt.U, Pt.locs, Pt.cells, Pt.slots] at X10 l10 y10 z10 st10 hQ10
  rw [l10, y10, z10] at X10
  obtain ⟨rfl, N10q, e10⟩ := hQ10
  have Nf := Fr.app Nf N10q
  have X10 := own_pad (k' := 2) (n' := 64) X10 (by decide) (by decide)
  refine own_go (fun tQ kQ => st10.trans kQ) ?_
  show own_End p e below _ (T10.setTop (mkF m 40 #[.val (.ref st), .val (.int (0 : Int32)), .val (.int (0 : Int32)), .val (.int (0 : Int32)), .val (.int (1 : Int32)), .unset] [(.int (own_ch (bs (1 : Int32).toNatClampNeg)))]))
  rw [show own_ch (bs (1 : Int32).toNatClampNeg) = 99 from hc_1]
  show own_End p e below _ (T10.setTop (mkF m 40 #[.val (.ref st), .val (.int (0 : Int32)), .val (.int (0 : Int32)), .val (.int (0 : Int32)), .val (.int (1 : Int32)), .unset] [(.int (99 : Int32))]))
  refine own_go (fun tQ kQ => XS.bipush X10.here hx rfl (hb hby dpa_40) kQ) ?_
  show own_End p e below _ (T10.setTop (mkF m 42 #[.val (.ref st), .val (.int (0 : Int32)), .val (.int (0 : Int32)), .val (.int (0 : Int32)), .val (.int (1 : Int32)), .unset] [(.int (46 : Int32)), (.int (99 : Int32))]))
  refine own_go (fun tQ kQ => XS.icmpYes X10.here hx rfl (pc0 := 42) (pc' := 114) rfl (hb hby dpa_42) rfl (feq (by decide)).2 (by decide) (by decide) kQ) ?_
  show own_End p e below _ (T10.setTop (mkF m 114 #[.val (.ref st), .val (.int (0 : Int32)), .val (.int (0 : Int32)), .val (.int (0 : Int32)), .val (.int (1 : Int32)), .unset] []))
  refine own_go (fun tQ kQ => XS.aloadN X10.here hx rfl (hb hby dpa_114) rfl rfl kQ) ?_
  show own_End p e below _ (T10.setTop (mkF m 115 #[.val (.ref st), .val (.int (0 : Int32)), .val (.int (0 : Int32)), .val (.int (0 : Int32)), .val (.int (1 : Int32)), .unset] [(.ref st)]))
  refine own_go (fun tQ kQ => XS.iload X10.here hx rfl (hb hby dpa_115) rfl kQ) ?_
  show own_End p e below _ (T10.setTop (mkF m 117 #[.val (.ref st), .val (.int (0 : Int32)), .val (.int (0 : Int32)), .val (.int (0 : Int32)), .val (.int (1 : Int32)), .unset] [(.int (1 : Int32)), (.ref st)]))
  obtain ⟨cq11, kq11, q11a, q11b, q11c⟩ := isOf hZ e10 E_st
  obtain ⟨_, _, ⟨T11, L11, k11, n11⟩, -, X11, ⟨Lc11, hQ11, l11, y11, z11⟩, st11⟩ := X10.virtualBack hx (y := (⟨"java/lang/String", "charAt", "(I)C"⟩ : MethodName)) (z := (⟨"java/lang/String", "charAt", "(I)C"⟩ : MethodName)) hown (mvT hZ (hw _ (List.mem_of_getElem? (i := 31) rfl))) (mvT hZ (hw _ (List.mem_of_getElem? (i := 32) rfl))) (notFace_of_selects (args := #[]) (mvT hZ (hw _ (List.mem_of_getElem? (i := 34) rfl)))) (mvT hZ (hw _ (List.mem_of_getElem? (i := 34) rfl))) (mvT hZ (hw _ (List.mem_of_getElem? (i := 33) rfl))) (by decide) (backOf (W := 0) (rmchA l Z a0 hw [] st tt (4 : Int32) bs cz (1 : Int32) fm h1 n0 Zs E_st F_value_st F_coder_st V_tt Ol S_cs hcz S_fm rfm (by decide) (by decide)) hZ (hw _ (List.mem_of_getElem? (i := 35) rfl)) (hw _ (List.mem_of_getElem? (i := 2) rfl)) (by decide) (by decide)) q11a q11c (g := (mkF m 117 #[.val (.ref st), .val (.int (0 : Int32)), .val (.int (0 : Int32)), .val (.int (0 : Int32)), .val (.int (1 : Int32)), .unset] [(.int (1 : Int32)), (.ref st)])) rfl (by rw [hml]; rfl) (Steps.refl _) (argsL := [(.int (1 : Int32))]) (rest := []) (lenOf pd_39 rfl) rfl (by show 2 * 0 + _ ≤ _; exact Nat.le_of_eq rfl) (hb hby dpa_117) (fun _ _ => ⟨rfl, e10, (Nat.le_of_ble_eq_true rfl), (Nat.le_of_ble_eq_true rfl)⟩)
  dsimp only [Pt.U, Pt.locs, Pt.cells, Pt.slots] at X11 l11 y11 z11 st11 hQ11
  rw [l11, y11, z11] at X11
  obtain ⟨rfl, N11q, e11⟩ := hQ11
  have Nf := Fr.app Nf N11q
  have X11 := own_pad (k' := 2) (n' := 64) X11 (by decide) (by decide)
  refine own_go (fun tQ kQ => st11.trans kQ) ?_
  show own_End p e below _ (T11.setTop (mkF m 120 #[.val (.ref st), .val (.int (0 : Int32)), .val (.int (0 : Int32)), .val (.int (0 : Int32)), .val (.int (1 : Int32)), .unset] [(.int (own_ch (bs (1 : Int32).toNatClampNeg)))]))
  rw [show own_ch (bs (1 : Int32).toNatClampNeg) = 99 from hc_1]
  show own_End p e below _ (T11.setTop (mkF m 120 #[.val (.ref st), .val (.int (0 : Int32)), .val (.int (0 : Int32)), .val (.int (0 : Int32)), .val (.int (1 : Int32)), .unset] [(.int (99 : Int32))]))
  obtain ⟨_, _, ⟨T12, L12, k12, n12⟩, -, X12, ⟨Lc12, hQ12, l12, y12, z12⟩, st12⟩ := Jvm.LawKit.callS X11 hx (y := (⟨"com/example/grant3/grant3/Scope", "isLabelCharacter", "(C)Z"⟩ : MethodName)) hown (mvT hZ (hw _ (List.mem_of_getElem? (i := 53) rfl))) (mvT hZ (hw _ (List.mem_of_getElem? (i := 54) rfl))) (mvT hZ (hw _ (List.mem_of_getElem? (i := 11) rfl))) (mvT hZ (hw _ (List.mem_of_getElem? (i := 55) rfl))) (by decide) (backOf (W := 0) (rmlab l Z a0 hw [] (99 : Int32) h1 n0 Zs (by decide) (by decide)) hZ (hw _ (List.mem_of_getElem? (i := 55) rfl)) (hw _ (List.mem_of_getElem? (i := 11) rfl)) (by decide) (by decide)) (g := (mkF m 120 #[.val (.ref st), .val (.int (0 : Int32)), .val (.int (0 : Int32)), .val (.int (0 : Int32)), .val (.int (1 : Int32)), .unset] [(.int (99 : Int32))])) rfl (by rw [hml]; rfl) (argsL := [(.int (99 : Int32))]) (rest := []) (lenOf pd_40 rfl) rfl (by show 2 * 0 + _ ≤ _; exact Nat.le_of_eq rfl) (hb hby dpa_120) (fun _ _ => ⟨rfl, e11, (Nat.le_of_ble_eq_true rfl), (Nat.le_of_ble_eq_true rfl)⟩)
  dsimp only [Pt.U, Pt.locs, Pt.cells, Pt.slots] at X12 l12 y12 z12 st12 hQ12
  rw [l12, y12, z12] at X12
  obtain ⟨rfl, N12q, e12⟩ := hQ12
  have Nf := Fr.app Nf N12q
  have X12 := own_pad (k' := 2) (n' := 64) X12 (by decide) (by decide)
  refine own_go (fun tQ kQ => st12 tQ kQ) ?_
  show own_End p e below _ (T12.setTop (mkF m 123 #[.val (.ref st), .val (.int (0 : Int32)), .val (.int (0 : Int32)), .val (.int (0 : Int32)), .val (.int (1 : Int32)), .unset] [(.int (1 : Int32))]))
  refine own_go (fun tQ kQ => XS.ifYes X12.here hx rfl (pc0 := 123) (pc' := 149) rfl (hb hby dpa_123) rfl ((if0 _ _).trans (feq (by decide)).2) (by decide) (by decide) kQ) ?_
  show own_End p e below _ (T12.setTop (mkF m 149 #[.val (.ref st), .val (.int (0 : Int32)), .val (.int (0 : Int32)), .val (.int (0 : Int32)), .val (.int (1 : Int32)), .unset] []))
  refine own_go (fun tQ kQ => XS.iinc X12.here hx rfl (hb hby dpa_149) rfl (l' := #[.val (.ref st), .val (.int (0 : Int32)), .val (.int (0 : Int32)), .val (.int (0 : Int32)), .val (.int ((1 : Int32) + (1 : Int32))), .unset]) rfl kQ) ?_
  show own_End p e below _ (T12.setTop (mkF m 152 #[.val (.ref st), .val (.int (0 : Int32)), .val (.int (0 : Int32)), .val (.int (0 : Int32)), .val (.int ((1 : Int32) + (1 : Int32))), .unset] []))
  rw [show ((1 : Int32) + (1 : Int32)) = (2 : Int32) by decide]
  show own_End p e below _ (T12.setTop (mkF m 152 #[.val (.ref st), .val (.int (0 : Int32)), .val (.int (0 : Int32)), .val (.int (0 : Int32)), .val (.int (2 : Int32)), .unset] []))
  refine own_go (fun tQ kQ => XS.goto X12.here hx rfl (pc0 := 152) (pc' := 16) rfl (hb hby dpa_152) (by decide) (by decide) kQ) ?_
  show own_End p e below _ (T12.setTop (mkF m 16 #[.val (.ref st), .val (.int (0 : Int32)), .val (.int (0 : Int32)), .val (.int (0 : Int32)), .val (.int (2 : Int32)), .unset] []))
  refine own_go (fun tQ kQ => XS.iload X12.here hx rfl (hb hby dpa_16) rfl kQ) ?_
  show own_End p e below _ (T12.setTop (mkF m 18 #[.val (.ref st), .val (.int (0 : Int32)), .val (.int (0 : Int32)), .val (.int (0 : Int32)), .val (.int (2 : Int32)), .unset] [(.int (2 : Int32))]))
  refine own_go (fun tQ kQ => XS.aloadN X12.here hx rfl (hb hby dpa_18) rfl rfl kQ) ?_
  show own_End p e below _ (T12.setTop (mkF m 19 #[.val (.ref st), .val (.int (0 : Int32)), .val (.int (0 : Int32)), .val (.int (0 : Int32)), .val (.int (2 : Int32)), .unset] [(.ref st), (.int (2 : Int32))]))
  obtain ⟨cq13, kq13, q13a, q13b, q13c⟩ := isOf hZ e12 E_st
  obtain ⟨_, _, ⟨T13, L13, k13, n13⟩, -, X13, ⟨Lc13, hQ13, l13, y13, z13⟩, st13⟩ := X12.virtualBack hx (y := (⟨"java/lang/String", "length", "()I"⟩ : MethodName)) (z := (⟨"java/lang/String", "length", "()I"⟩ : MethodName)) hown (mvT hZ (hw _ (List.mem_of_getElem? (i := 18) rfl))) (mvT hZ (hw _ (List.mem_of_getElem? (i := 19) rfl))) (notFace_of_selects (args := #[]) (mvT hZ (hw _ (List.mem_of_getElem? (i := 21) rfl)))) (mvT hZ (hw _ (List.mem_of_getElem? (i := 21) rfl))) (mvT hZ (hw _ (List.mem_of_getElem? (i := 20) rfl))) (by decide) (backOf (W := 1) (rmlen l Z a0 hw [] st tt (4 : Int32) bs cz h1 n0 Zs E_st F_value_st F_coder_st V_tt Ol S_cs hcz) hZ (hw _ (List.mem_of_getElem? (i := 22) rfl)) (hw _ (List.mem_of_getElem? (i := 2) rfl)) (by decide) (by decide)) q13a q13c (g := (mkF m 19 #[.val (.ref st), .val (.int (0 : Int32)), .val (.int (0 : Int32)), .val (.int (0 : Int32)), .val (.int (2 : Int32)), .unset] [(.ref st), (.int (2 : Int32))])) rfl (by rw [hml]; rfl) (Steps.refl _) (argsL := []) (rest := [(.int (2 : Int32))]) (lenOf pd_36 rfl) rfl (by show 2 * 0 + _ ≤ _; exact Nat.le_of_eq rfl) (hb hby dpa_19) (fun _ _ => ⟨rfl, e12, (Nat.le_of_ble_eq_true rfl), (Nat.le_of_ble_eq_true rfl)⟩)
  dsimp only [Pt.U, Pt.locs, Pt.cells, Pt.slots] at X13 l13 y13 z13 st13 hQ13
  rw [l13, y13, z13] at X13
  obtain ⟨rfl, N13q, e13⟩ := hQ13
  have Nf := Fr.app Nf N13q
  have X13 := own_pad (k' := 2) (n' := 64) X13 (by decide) (by decide)
  refine own_go (fun tQ kQ => st13.trans kQ) ?_
  show own_End p e below _ (T13.setTop (mkF m 22 #[.val (.ref st), .val (.int (0 : Int32)), .val (.int (0 : Int32)), .val (.int (0 : Int32)), .val (.int (2 : Int32)), .unset] [(.int (4 : Int32)), (.int (2 : Int32))]))
  refine own_go (fun tQ kQ => XS.icmpNo X13.here hx rfl (hb hby dpa_22) rfl (flt (by decide)).2.2.1 kQ) ?_
  show own_End p e below _ (T13.setTop (mkF m 25 #[.val (.ref st), .val (.int (0 : Int32)), .val (.int (0 : Int32)), .val (.int (0 : Int32)), .val (.int (2 : Int32)), .unset] []))
  refine own_go (fun tQ kQ => XS.iload X13.here hx rfl (hb hby dpa_25) rfl kQ) ?_
  show own_End p e below _ (T13.setTop (mkF m 27 #[.val (.ref st), .val (.int (0 : Int32)), .val (.int (0 : Int32)), .val (.int (0 : Int32)), .val (.int (2 : Int32)), .unset] [(.int (2 : Int32))]))
  refine own_go (fun tQ kQ => XS.aloadN X13.here hx rfl (hb hby dpa_27) rfl rfl kQ) ?_
  show own_End p e below _ (T13.setTop (mkF m 28 #[.val (.ref st), .val (.int (0 : Int32)), .val (.int (0 : Int32)), .val (.int (0 : Int32)), .val (.int (2 : Int32)), .unset] [(.ref st), (.int (2 : Int32))]))
  obtain ⟨cq14, kq14, q14a, q14b, q14c⟩ := isOf hZ e13 E_st
  obtain ⟨_, _, ⟨T14, L14, k14, n14⟩, -, X14, ⟨Lc14, hQ14, l14, y14, z14⟩, st14⟩ := X13.virtualBack hx (y := (⟨"java/lang/String", "length", "()I"⟩ : MethodName)) (z := (⟨"java/lang/String", "length", "()I"⟩ : MethodName)) hown (mvT hZ (hw _ (List.mem_of_getElem? (i := 18) rfl))) (mvT hZ (hw _ (List.mem_of_getElem? (i := 19) rfl))) (notFace_of_selects (args := #[]) (mvT hZ (hw _ (List.mem_of_getElem? (i := 21) rfl)))) (mvT hZ (hw _ (List.mem_of_getElem? (i := 21) rfl))) (mvT hZ (hw _ (List.mem_of_getElem? (i := 20) rfl))) (by decide) (backOf (W := 1) (rmlen l Z a0 hw [] st tt (4 : Int32) bs cz h1 n0 Zs E_st F_value_st F_coder_st V_tt Ol S_cs hcz) hZ (hw _ (List.mem_of_getElem? (i := 22) rfl)) (hw _ (List.mem_of_getElem? (i := 2) rfl)) (by decide) (by decide)) q14a q14c (g := (mkF m 28 #[.val (.ref st), .val (.int (0 : Int32)), .val (.int (0 : Int32)), .val (.int (0 : Int32)), .val (.int (2 : Int32)), .unset] [(.ref st), (.int (2 : Int32))])) rfl (by rw [hml]; rfl) (Steps.refl _) (argsL := []) (rest := [(.int (2 : Int32))]) (lenOf pd_36 rfl) rfl (by show 2 * 0 + _ ≤ _; exact Nat.le_of_eq rfl) (hb hby dpa_28) (fun _ _ => ⟨rfl, e13, (Nat.le_of_ble_eq_true rfl), (Nat.le_of_ble_eq_true rfl)⟩)
  dsimp only [Pt.U, Pt.locs, Pt.cells, Pt.slots] at X14 l14 y14 z14 st14 hQ14
  rw [l14, y14, z14] at X14
  obtain ⟨rfl, N14q, e14⟩ := hQ14
  have Nf := Fr.app Nf N14q
  have X14 := own_pad (k' := 2) (n' := 64) X14 (by decide) (by decide)
  refine own_go (fun tQ kQ => st14.trans kQ) ?_
  show own_End p e below _ (T14.setTop (mkF m 31 #[.val (.ref st), .val (.int (0 : Int32)), .val (.int (0 : Int32)), .val (.int (0 : Int32)), .val (.int (2 : Int32)), .unset] [(.int (4 : Int32)), (.int (2 : Int32))]))
  refine own_go (fun tQ kQ => XS.icmpNo X14.here hx rfl (hb hby dpa_31) rfl (feq (by decide)).1 kQ) ?_
  show own_End p e below _ (T14.setTop (mkF m 34 #[.val (.ref st), .val (.int (0 : Int32)), .val (.int (0 : Int32)), .val (.int (0 : Int32)), .val (.int (2 : Int32)), .unset] []))
  refine own_go (fun tQ kQ => XS.aloadN X14.here hx rfl (hb hby dpa_34) rfl rfl kQ) ?_
  show own_End p e below _ (T14.setTop (mkF m 35 #[.val (.ref st), .val (.int (0 : Int32)), .val (.int (0 : Int32)), .val (.int (0 : Int32)), .val (.int (2 : Int32)), .unset] [(.ref st)]))
  refine own_go (fun tQ kQ => XS.iload X14.here hx rfl (hb hby dpa_35) rfl kQ) ?_
  show own_End p e below _ (T14.setTop (mkF m 37 #[.val (.ref st), .val (.int (0 : Int32)), .val (.int (0 : Int32)), .val (.int (0 : Int32)), .val (.int (2 : Int32)), .unset] [(.int (2 : Int32)), (.ref st)]))
  obtain ⟨cq15, kq15, q15a, q15b, q15c⟩ := isOf hZ e14 E_st
  obtain ⟨_, _, ⟨T15, L15, k15, n15⟩, -, X15, ⟨Lc15, hQ15, l15, y15, z15⟩, st15⟩ := X14.virtualBack hx (y := (⟨"java/lang/String", "charAt", "(I)C"⟩ : MethodName)) (z := (⟨"java/lang/String", "charAt", "(I)C"⟩ : MethodName)) hown (mvT hZ (hw _ (List.mem_of_getElem? (i := 31) rfl))) (mvT hZ (hw _ (List.mem_of_getElem? (i := 32) rfl))) (notFace_of_selects (args := #[]) (mvT hZ (hw _ (List.mem_of_getElem? (i := 34) rfl)))) (mvT hZ (hw _ (List.mem_of_getElem? (i := 34) rfl))) (mvT hZ (hw _ (List.mem_of_getElem? (i := 33) rfl))) (by decide) (backOf (W := 0) (rmchA l Z a0 hw [] st tt (4 : Int32) bs cz (2 : Int32) fm h1 n0 Zs E_st F_value_st F_coder_st V_tt Ol S_cs hcz S_fm rfm (by decide) (by decide)) hZ (hw _ (List.mem_of_getElem? (i := 35) rfl)) (hw _ (List.mem_of_getElem? (i := 2) rfl)) (by decide) (by decide)) q15a q15c (g := (mkF m 37 #[.val (.ref st), .val (.int (0 : Int32)), .val (.int (0 : Int32)), .val (.int (0 : Int32)), .val (.int (2 : Int32)), .unset] [(.int (2 : Int32)), (.ref st)])) rfl (by rw [hml]; rfl) (Steps.refl _) (argsL := [(.int (2 : Int32))]) (rest := []) (lenOf pd_39 rfl) rfl (by show 2 * 0 + _ ≤ _; exact Nat.le_of_eq rfl) (hb hby dpa_37) (fun _ _ => ⟨rfl, e14, (Nat.le_of_ble_eq_true rfl), (Nat.le_of_ble_eq_true rfl)⟩)
  dsimp only [Pt.U, Pt.locs, Pt.cells, Pt.slots] at X15 l15 y15 z15 st15 hQ15
  rw [l15, y15, z15] at X15
  obtain ⟨rfl, N15q, e15⟩ := hQ15
  have Nf := Fr.app Nf N15q
  have X15 := own_pad (k' := 2) (n' := 64) X15 (by decide) (by decide)
  refine own_go (fun tQ kQ => st15.trans kQ) ?_
  show own_End p e below _ (T15.setTop (mkF m 40 #[.val (.ref st), .val (.int (0 : Int32)), .val (.int (0 : Int32)), .val (.int (0 : Int32)), .val (.int (2 : Int32)), .unset] [(.int (own_ch (bs (2 : Int32).toNatClampNeg)))]))
  rw [show own_ch (bs (2 : Int32).toNatClampNeg) = 109 from hc_2]
  show own_End p e below _ (T15.setTop (mkF m 40 #[.val (.ref st), .val (.int (0 : Int32)), .val (.int (0 : Int32)), .val (.int (0 : Int32)), .val (.int (2 : Int32)), .unset] [(.int (109 : Int32))]))
  refine own_go (fun tQ kQ => XS.bipush X15.here hx rfl (hb hby dpa_40) kQ) ?_
  show own_End p e below _ (T15.setTop (mkF m 42 #[.val (.ref st), .val (.int (0 : Int32)), .val (.int (0 : Int32)), .val (.int (0 : Int32)), .val (.int (2 : Int32)), .unset] [(.int (46 : Int32)), (.int (109 : Int32))]))
  refine own_go (fun tQ kQ => XS.icmpYes X15.here hx rfl (pc0 := 42) (pc' := 114) rfl (hb hby dpa_42) rfl (feq (by decide)).2 (by decide) (by decide) kQ) ?_
  show own_End p e below _ (T15.setTop (mkF m 114 #[.val (.ref st), .val (.int (0 : Int32)), .val (.int (0 : Int32)), .val (.int (0 : Int32)), .val (.int (2 : Int32)), .unset] []))
  refine own_go (fun tQ kQ => XS.aloadN X15.here hx rfl (hb hby dpa_114) rfl rfl kQ) ?_
  show own_End p e below _ (T15.setTop (mkF m 115 #[.val (.ref st), .val (.int (0 : Int32)), .val (.int (0 : Int32)), .val (.int (0 : Int32)), .val (.int (2 : Int32)), .unset] [(.ref st)]))
  refine own_go (fun tQ kQ => XS.iload X15.here hx rfl (hb hby dpa_115) rfl kQ) ?_
  show own_End p e below _ (T15.setTop (mkF m 117 #[.val (.ref st), .val (.int (0 : Int32)), .val (.int (0 : Int32)), .val (.int (0 : Int32)), .val (.int (2 : Int32)), .unset] [(.int (2 : Int32)), (.ref st)]))
  obtain ⟨cq16, kq16, q16a, q16b, q16c⟩ := isOf hZ e15 E_st
  obtain ⟨_, _, ⟨T16, L16, k16, n16⟩, -, X16, ⟨Lc16, hQ16, l16, y16, z16⟩, st16⟩ := X15.virtualBack hx (y := (⟨"java/lang/String", "charAt", "(I)C"⟩ : MethodName)) (z := (⟨"java/lang/String", "charAt", "(I)C"⟩ : MethodName)) hown (mvT hZ (hw _ (List.mem_of_getElem? (i := 31) rfl))) (mvT hZ (hw _ (List.mem_of_getElem? (i := 32) rfl))) (notFace_of_selects (args := #[]) (mvT hZ (hw _ (List.mem_of_getElem? (i := 34) rfl)))) (mvT hZ (hw _ (List.mem_of_getElem? (i := 34) rfl))) (mvT hZ (hw _ (List.mem_of_getElem? (i := 33) rfl))) (by decide) (backOf (W := 0) (rmchA l Z a0 hw [] st tt (4 : Int32) bs cz (2 : Int32) fm h1 n0 Zs E_st F_value_st F_coder_st V_tt Ol S_cs hcz S_fm rfm (by decide) (by decide)) hZ (hw _ (List.mem_of_getElem? (i := 35) rfl)) (hw _ (List.mem_of_getElem? (i := 2) rfl)) (by decide) (by decide)) q16a q16c (g := (mkF m 117 #[.val (.ref st), .val (.int (0 : Int32)), .val (.int (0 : Int32)), .val (.int (0 : Int32)), .val (.int (2 : Int32)), .unset] [(.int (2 : Int32)), (.ref st)])) rfl (by rw [hml]; rfl) (Steps.refl _) (argsL := [(.int (2 : Int32))]) (rest := []) (lenOf pd_39 rfl) rfl (by show 2 * 0 + _ ≤ _; exact Nat.le_of_eq rfl) (hb hby dpa_117) (fun _ _ => ⟨rfl, e15, (Nat.le_of_ble_eq_true rfl), (Nat.le_of_ble_eq_true rfl)⟩)
  dsimp only [Pt.U, Pt.locs, Pt.cells, Pt.slots] at X16 l16 y16 z16 st16 hQ16
  rw [l16, y16, z16] at X16
  obtain ⟨rfl, N16q, e16⟩ := hQ16
  have Nf := Fr.app Nf N16q
  have X16 := own_pad (k' := 2) (n' := 64) X16 (by decide) (by decide)
  refine own_go (fun tQ kQ => st16.trans kQ) ?_
  show own_End p e below _ (T16.setTop (mkF m 120 #[.val (.ref st), .val (.int (0 : Int32)), .val (.int (0 : Int32)), .val (.int (0 : Int32)), .val (.int (2 : Int32)), .unset] [(.int (own_ch (bs (2 : Int32).toNatClampNeg)))]))
  rw [show own_ch (bs (2 : Int32).toNatClampNeg) = 109 from hc_2]
  show own_End p e below _ (T16.setTop (mkF m 120 #[.val (.ref st), .val (.int (0 : Int32)), .val (.int (0 : Int32)), .val (.int (0 : Int32)), .val (.int (2 : Int32)), .unset] [(.int (109 : Int32))]))
  obtain ⟨_, _, ⟨T17, L17, k17, n17⟩, -, X17, ⟨Lc17, hQ17, l17, y17, z17⟩, st17⟩ := Jvm.LawKit.callS X16 hx (y := (⟨"com/example/grant3/grant3/Scope", "isLabelCharacter", "(C)Z"⟩ : MethodName)) hown (mvT hZ (hw _ (List.mem_of_getElem? (i := 53) rfl))) (mvT hZ (hw _ (List.mem_of_getElem? (i := 54) rfl))) (mvT hZ (hw _ (List.mem_of_getElem? (i := 11) rfl))) (mvT hZ (hw _ (List.mem_of_getElem? (i := 55) rfl))) (by decide) (backOf (W := 0) (rmlab l Z a0 hw [] (109 : Int32) h1 n0 Zs (by decide) (by decide)) hZ (hw _ (List.mem_of_getElem? (i := 55) rfl)) (hw _ (List.mem_of_getElem? (i := 11) rfl)) (by decide) (by decide)) (g := (mkF m 120 #[.val (.ref st), .val (.int (0 : Int32)), .val (.int (0 : Int32)), .val (.int (0 : Int32)), .val (.int (2 : Int32)), .unset] [(.int (109 : Int32))])) rfl (by rw [hml]; rfl) (argsL := [(.int (109 : Int32))]) (rest := []) (lenOf pd_40 rfl) rfl (by show 2 * 0 + _ ≤ _; exact Nat.le_of_eq rfl) (hb hby dpa_120) (fun _ _ => ⟨rfl, e16, (Nat.le_of_ble_eq_true rfl), (Nat.le_of_ble_eq_true rfl)⟩)
  dsimp only [Pt.U, Pt.locs, Pt.cells, Pt.slots] at X17 l17 y17 z17 st17 hQ17
  rw [l17, y17, z17] at X17
  obtain ⟨rfl, N17q, e17⟩ := hQ17
  have Nf := Fr.app Nf N17q
  have X17 := own_pad (k' := 2) (n' := 64) X17 (by decide) (by decide)
  refine own_go (fun tQ kQ => st17 tQ kQ) ?_
  show own_End p e below _ (T17.setTop (mkF m 123 #[.val (.ref st), .val (.int (0 : Int32)), .val (.int (0 : Int32)), .val (.int (0 : Int32)), .val (.int (2 : Int32)), .unset] [(.int (1 : Int32))]))
  refine own_go (fun tQ kQ => XS.ifYes X17.here hx rfl (pc0 := 123) (pc' := 149) rfl (hb hby dpa_123) rfl ((if0 _ _).trans (feq (by decide)).2) (by decide) (by decide) kQ) ?_
  show own_End p e below _ (T17.setTop (mkF m 149 #[.val (.ref st), .val (.int (0 : Int32)), .val (.int (0 : Int32)), .val (.int (0 : Int32)), .val (.int (2 : Int32)), .unset] []))
  refine own_go (fun tQ kQ => XS.iinc X17.here hx rfl (hb hby dpa_149) rfl (l' := #[.val (.ref st), .val (.int (0 : Int32)), .val (.int (0 : Int32)), .val (.int (0 : Int32)), .val (.int ((2 : Int32) + (1 : Int32))), .unset]) rfl kQ) ?_
  show own_End p e below _ (T17.setTop (mkF m 152 #[.val (.ref st), .val (.int (0 : Int32)), .val (.int (0 : Int32)), .val (.int (0 : Int32)), .val (.int ((2 : Int32) + (1 : Int32))), .unset] []))
  rw [show ((2 : Int32) + (1 : Int32)) = (3 : Int32) by decide]
  show own_End p e below _ (T17.setTop (mkF m 152 #[.val (.ref st), .val (.int (0 : Int32)), .val (.int (0 : Int32)), .val (.int (0 : Int32)), .val (.int (3 : Int32)), .unset] []))
  refine own_go (fun tQ kQ => XS.goto X17.here hx rfl (pc0 := 152) (pc' := 16) rfl (hb hby dpa_152) (by decide) (by decide) kQ) ?_
  show own_End p e below _ (T17.setTop (mkF m 16 #[.val (.ref st), .val (.int (0 : Int32)), .val (.int (0 : Int32)), .val (.int (0 : Int32)), .val (.int (3 : Int32)), .unset] []))
  refine own_go (fun tQ kQ => XS.iload X17.here hx rfl (hb hby dpa_16) rfl kQ) ?_
  show own_End p e below _ (T17.setTop (mkF m 18 #[.val (.ref st), .val (.int (0 : Int32)), .val (.int (0 : Int32)), .val (.int (0 : Int32)), .val (.int (3 : Int32)), .unset] [(.int (3 : Int32))]))
  refine own_go (fun tQ kQ => XS.aloadN X17.here hx rfl (hb hby dpa_18) rfl rfl kQ) ?_
  show own_End p e below _ (T17.setTop (mkF m 19 #[.val (.ref st), .val (.int (0 : Int32)), .val (.int (0 : Int32)), .val (.int (0 : Int32)), .val (.int (3 : Int32)), .unset] [(.ref st), (.int (3 : Int32))]))
  obtain ⟨cq18, kq18, q18a, q18b, q18c⟩ := isOf hZ e17 E_st
  obtain ⟨_, _, ⟨T18, L18, k18, n18⟩, -, X18, ⟨Lc18, hQ18, l18, y18, z18⟩, st18⟩ := X17.virtualBack hx (y := (⟨"java/lang/String", "length", "()I"⟩ : MethodName)) (z := (⟨"java/lang/String", "length", "()I"⟩ : MethodName)) hown (mvT hZ (hw _ (List.mem_of_getElem? (i := 18) rfl))) (mvT hZ (hw _ (List.mem_of_getElem? (i := 19) rfl))) (notFace_of_selects (args := #[]) (mvT hZ (hw _ (List.mem_of_getElem? (i := 21) rfl)))) (mvT hZ (hw _ (List.mem_of_getElem? (i := 21) rfl))) (mvT hZ (hw _ (List.mem_of_getElem? (i := 20) rfl))) (by decide) (backOf (W := 1) (rmlen l Z a0 hw [] st tt (4 : Int32) bs cz h1 n0 Zs E_st F_value_st F_coder_st V_tt Ol S_cs hcz) hZ (hw _ (List.mem_of_getElem? (i := 22) rfl)) (hw _ (List.mem_of_getElem? (i := 2) rfl)) (by decide) (by decide)) q18a q18c (g := (mkF m 19 #[.val (.ref st), .val (.int (0 : Int32)), .val (.int (0 : Int32)), .val (.int (0 : Int32)), .val (.int (3 : Int32)), .unset] [(.ref st), (.int (3 : Int32))])) rfl (by rw [hml]; rfl) (Steps.refl _) (argsL := []) (rest := [(.int (3 : Int32))]) (lenOf pd_36 rfl) rfl (by show 2 * 0 + _ ≤ _; exact Nat.le_of_eq rfl) (hb hby dpa_19) (fun _ _ => ⟨rfl, e17, (Nat.le_of_ble_eq_true rfl), (Nat.le_of_ble_eq_true rfl)⟩)
  dsimp only [Pt.U, Pt.locs, Pt.cells, Pt.slots] at X18 l18 y18 z18 st18 hQ18
  rw [l18, y18, z18] at X18
  obtain ⟨rfl, N18q, e18⟩ := hQ18
  have Nf := Fr.app Nf N18q
  have X18 := own_pad (k' := 2) (n' := 64) X18 (by decide) (by decide)
  refine own_go (fun tQ kQ => st18.trans kQ) ?_
  show own_End p e below _ (T18.setTop (mkF m 22 #[.val (.ref st), .val (.int (0 : Int32)), .val (.int (0 : Int32)), .val (.int (0 : Int32)), .val (.int (3 : Int32)), .unset] [(.int (4 : Int32)), (.int (3 : Int32))]))
  refine own_go (fun tQ kQ => XS.icmpNo X18.here hx rfl (hb hby dpa_22) rfl (flt (by decide)).2.2.1 kQ) ?_
  show own_End p e below _ (T18.setTop (mkF m 25 #[.val (.ref st), .val (.int (0 : Int32)), .val (.int (0 : Int32)), .val (.int (0 : Int32)), .val (.int (3 : Int32)), .unset] []))
  refine own_go (fun tQ kQ => XS.iload X18.here hx rfl (hb hby dpa_25) rfl kQ) ?_
  show own_End p e below _ (T18.setTop (mkF m 27 #[.val (.ref st), .val (.int (0 : Int32)), .val (.int (0 : Int32)), .val (.int (0 : Int32)), .val (.int (3 : Int32)), .unset] [(.int (3 : Int32))]))
  refine own_go (fun tQ kQ => XS.aloadN X18.here hx rfl (hb hby dpa_27) rfl rfl kQ) ?_
  show own_End p e below _ (T18.setTop (mkF m 28 #[.val (.ref st), .val (.int (0 : Int32)), .val (.int (0 : Int32)), .val (.int (0 : Int32)), .val (.int (3 : Int32)), .unset] [(.ref st), (.int (3 : Int32))]))
  obtain ⟨cq19, kq19, q19a, q19b, q19c⟩ := isOf hZ e18 E_st
  obtain ⟨_, _, ⟨T19, L19, k19, n19⟩, -, X19, ⟨Lc19, hQ19, l19, y19, z19⟩, st19⟩ := X18.virtualBack hx (y := (⟨"java/lang/String", "length", "()I"⟩ : MethodName)) (z := (⟨"java/lang/String", "length", "()I"⟩ : MethodName)) hown (mvT hZ (hw _ (List.mem_of_getElem? (i := 18) rfl))) (mvT hZ (hw _ (List.mem_of_getElem? (i := 19) rfl))) (notFace_of_selects (args := #[]) (mvT hZ (hw _ (List.mem_of_getElem? (i := 21) rfl)))) (mvT hZ (hw _ (List.mem_of_getElem? (i := 21) rfl))) (mvT hZ (hw _ (List.mem_of_getElem? (i := 20) rfl))) (by decide) (backOf (W := 1) (rmlen l Z a0 hw [] st tt (4 : Int32) bs cz h1 n0 Zs E_st F_value_st F_coder_st V_tt Ol S_cs hcz) hZ (hw _ (List.mem_of_getElem? (i := 22) rfl)) (hw _ (List.mem_of_getElem? (i := 2) rfl)) (by decide) (by decide)) q19a q19c (g := (mkF m 28 #[.val (.ref st), .val (.int (0 : Int32)), .val (.int (0 : Int32)), .val (.int (0 : Int32)), .val (.int (3 : Int32)), .unset] [(.ref st), (.int (3 : Int32))])) rfl (by rw [hml]; rfl) (Steps.refl _) (argsL := []) (rest := [(.int (3 : Int32))]) (lenOf pd_36 rfl) rfl (by show 2 * 0 + _ ≤ _; exact Nat.le_of_eq rfl) (hb hby dpa_28) (fun _ _ => ⟨rfl, e18, (Nat.le_of_ble_eq_true rfl), (Nat.le_of_ble_eq_true rfl)⟩)
  dsimp only [Pt.U, Pt.locs, Pt.cells, Pt.slots] at X19 l19 y19 z19 st19 hQ19
  rw [l19, y19, z19] at X19
  obtain ⟨rfl, N19q, e19⟩ := hQ19
  have Nf := Fr.app Nf N19q
  have X19 := own_pad (k' := 2) (n' := 64) X19 (by decide) (by decide)
  refine own_go (fun tQ kQ => st19.trans kQ) ?_
  show own_End p e below _ (T19.setTop (mkF m 31 #[.val (.ref st), .val (.int (0 : Int32)), .val (.int (0 : Int32)), .val (.int (0 : Int32)), .val (.int (3 : Int32)), .unset] [(.int (4 : Int32)), (.int (3 : Int32))]))
  refine own_go (fun tQ kQ => XS.icmpNo X19.here hx rfl (hb hby dpa_31) rfl (feq (by decide)).1 kQ) ?_
  show own_End p e below _ (T19.setTop (mkF m 34 #[.val (.ref st), .val (.int (0 : Int32)), .val (.int (0 : Int32)), .val (.int (0 : Int32)), .val (.int (3 : Int32)), .unset] []))
  refine own_go (fun tQ kQ => XS.aloadN X19.here hx rfl (hb hby dpa_34) rfl rfl kQ) ?_
  show own_End p e below _ (T19.setTop (mkF m 35 #[.val (.ref st), .val (.int (0 : Int32)), .val (.int (0 : Int32)), .val (.int (0 : Int32)), .val (.int (3 : Int32)), .unset] [(.ref st)]))
  refine own_go (fun tQ kQ => XS.iload X19.here hx rfl (hb hby dpa_35) rfl kQ) ?_
  show own_End p e below _ (T19.setTop (mkF m 37 #[.val (.ref st), .val (.int (0 : Int32)), .val (.int (0 : Int32)), .val (.int (0 : Int32)), .val (.int (3 : Int32)), .unset] [(.int (3 : Int32)), (.ref st)]))
  obtain ⟨cq20, kq20, q20a, q20b, q20c⟩ := isOf hZ e19 E_st
  obtain ⟨_, _, ⟨T20, L20, k20, n20⟩, -, X20, ⟨Lc20, hQ20, l20, y20, z20⟩, st20⟩ := X19.virtualBack hx (y := (⟨"java/lang/String", "charAt", "(I)C"⟩ : MethodName)) (z := (⟨"java/lang/String", "charAt", "(I)C"⟩ : MethodName)) hown (mvT hZ (hw _ (List.mem_of_getElem? (i := 31) rfl))) (mvT hZ (hw _ (List.mem_of_getElem? (i := 32) rfl))) (notFace_of_selects (args := #[]) (mvT hZ (hw _ (List.mem_of_getElem? (i := 34) rfl)))) (mvT hZ (hw _ (List.mem_of_getElem? (i := 34) rfl))) (mvT hZ (hw _ (List.mem_of_getElem? (i := 33) rfl))) (by decide) (backOf (W := 0) (rmchA l Z a0 hw [] st tt (4 : Int32) bs cz (3 : Int32) fm h1 n0 Zs E_st F_value_st F_coder_st V_tt Ol S_cs hcz S_fm rfm (by decide) (by decide)) hZ (hw _ (List.mem_of_getElem? (i := 35) rfl)) (hw _ (List.mem_of_getElem? (i := 2) rfl)) (by decide) (by decide)) q20a q20c (g := (mkF m 37 #[.val (.ref st), .val (.int (0 : Int32)), .val (.int (0 : Int32)), .val (.int (0 : Int32)), .val (.int (3 : Int32)), .unset] [(.int (3 : Int32)), (.ref st)])) rfl (by rw [hml]; rfl) (Steps.refl _) (argsL := [(.int (3 : Int32))]) (rest := []) (lenOf pd_39 rfl) rfl (by show 2 * 0 + _ ≤ _; exact Nat.le_of_eq rfl) (hb hby dpa_37) (fun _ _ => ⟨rfl, e19, (Nat.le_of_ble_eq_true rfl), (Nat.le_of_ble_eq_true rfl)⟩)
  dsimp only [Pt.U, Pt.locs, Pt.cells, Pt.slots] at X20 l20 y20 z20 st20 hQ20
  rw [l20, y20, z20] at X20
  obtain ⟨rfl, N20q, e20⟩ := hQ20
  have Nf := Fr.app Nf N20q
  have X20 := own_pad (k' := 2) (n' := 64) X20 (by decide) (by decide)
  refine own_go (fun tQ kQ => st20.trans kQ) ?_
  show own_End p e below _ (T20.setTop (mkF m 40 #[.val (.ref st), .val (.int (0 : Int32)), .val (.int (0 : Int32)), .val (.int (0 : Int32)), .val (.int (3 : Int32)), .unset] [(.int (own_ch (bs (3 : Int32).toNatClampNeg)))]))
  rw [show own_ch (bs (3 : Int32).toNatClampNeg) = 101 from hc_3]
  show own_End p e below _ (T20.setTop (mkF m 40 #[.val (.ref st), .val (.int (0 : Int32)), .val (.int (0 : Int32)), .val (.int (0 : Int32)), .val (.int (3 : Int32)), .unset] [(.int (101 : Int32))]))
  refine own_go (fun tQ kQ => XS.bipush X20.here hx rfl (hb hby dpa_40) kQ) ?_
  show own_End p e below _ (T20.setTop (mkF m 42 #[.val (.ref st), .val (.int (0 : Int32)), .val (.int (0 : Int32)), .val (.int (0 : Int32)), .val (.int (3 : Int32)), .unset] [(.int (46 : Int32)), (.int (101 : Int32))]))
  refine own_go (fun tQ kQ => XS.icmpYes X20.here hx rfl (pc0 := 42) (pc' := 114) rfl (hb hby dpa_42) rfl (feq (by decide)).2 (by decide) (by decide) kQ) ?_
  show own_End p e below _ (T20.setTop (mkF m 114 #[.val (.ref st), .val (.int (0 : Int32)), .val (.int (0 : Int32)), .val (.int (0 : Int32)), .val (.int (3 : Int32)), .unset] []))
  refine own_go (fun tQ kQ => XS.aloadN X20.here hx rfl (hb hby dpa_114) rfl rfl kQ) ?_
  show own_End p e below _ (T20.setTop (mkF m 115 #[.val (.ref st), .val (.int (0 : Int32)), .val (.int (0 : Int32)), .val (.int (0 : Int32)), .val (.int (3 : Int32)), .unset] [(.ref st)]))
  refine own_go (fun tQ kQ => XS.iload X20.here hx rfl (hb hby dpa_115) rfl kQ) ?_
  show own_End p e below _ (T20.setTop (mkF m 117 #[.val (.ref st), .val (.int (0 : Int32)), .val (.int (0 : Int32)), .val (.int (0 : Int32)), .val (.int (3 : Int32)), .unset] [(.int (3 : Int32)), (.ref st)]))
  obtain ⟨cq21, kq21, q21a, q21b, q21c⟩ := isOf hZ e20 E_st
  obtain ⟨_, _, ⟨T21, L21, k21, n21⟩, -, X21, ⟨Lc21, hQ21, l21, y21, z21⟩, st21⟩ := X20.virtualBack hx (y := (⟨"java/lang/String", "charAt", "(I)C"⟩ : MethodName)) (z := (⟨"java/lang/String", "charAt", "(I)C"⟩ : MethodName)) hown (mvT hZ (hw _ (List.mem_of_getElem? (i := 31) rfl))) (mvT hZ (hw _ (List.mem_of_getElem? (i := 32) rfl))) (notFace_of_selects (args := #[]) (mvT hZ (hw _ (List.mem_of_getElem? (i := 34) rfl)))) (mvT hZ (hw _ (List.mem_of_getElem? (i := 34) rfl))) (mvT hZ (hw _ (List.mem_of_getElem? (i := 33) rfl))) (by decide) (backOf (W := 0) (rmchA l Z a0 hw [] st tt (4 : Int32) bs cz (3 : Int32) fm h1 n0 Zs E_st F_value_st F_coder_st V_tt Ol S_cs hcz S_fm rfm (by decide) (by decide)) hZ (hw _ (List.mem_of_getElem? (i := 35) rfl)) (hw _ (List.mem_of_getElem? (i := 2) rfl)) (by decide) (by decide)) q21a q21c (g := (mkF m 117 #[.val (.ref st), .val (.int (0 : Int32)), .val (.int (0 : Int32)), .val (.int (0 : Int32)), .val (.int (3 : Int32)), .unset] [(.int (3 : Int32)), (.ref st)])) rfl (by rw [hml]; rfl) (Steps.refl _) (argsL := [(.int (3 : Int32))]) (rest := []) (lenOf pd_39 rfl) rfl (by show 2 * 0 + _ ≤ _; exact Nat.le_of_eq rfl) (hb hby dpa_117) (fun _ _ => ⟨rfl, e20, (Nat.le_of_ble_eq_true rfl), (Nat.le_of_ble_eq_true rfl)⟩)
  dsimp only [Pt.U, Pt.locs, Pt.cells, Pt.slots] at X21 l21 y21 z21 st21 hQ21
  rw [l21, y21, z21] at X21
  obtain ⟨rfl, N21q, e21⟩ := hQ21
  have Nf := Fr.app Nf N21q
  have X21 := own_pad (k' := 2) (n' := 64) X21 (by decide) (by decide)
  refine own_go (fun tQ kQ => st21.trans kQ) ?_
  show own_End p e below _ (T21.setTop (mkF m 120 #[.val (.ref st), .val (.int (0 : Int32)), .val (.int (0 : Int32)), .val (.int (0 : Int32)), .val (.int (3 : Int32)), .unset] [(.int (own_ch (bs (3 : Int32).toNatClampNeg)))]))
  rw [show own_ch (bs (3 : Int32).toNatClampNeg) = 101 from hc_3]
  show own_End p e below _ (T21.setTop (mkF m 120 #[.val (.ref st), .val (.int (0 : Int32)), .val (.int (0 : Int32)), .val (.int (0 : Int32)), .val (.int (3 : Int32)), .unset] [(.int (101 : Int32))]))
  obtain ⟨_, _, ⟨T22, L22, k22, n22⟩, -, X22, ⟨Lc22, hQ22, l22, y22, z22⟩, st22⟩ := Jvm.LawKit.callS X21 hx (y := (⟨"com/example/grant3/grant3/Scope", "isLabelCharacter", "(C)Z"⟩ : MethodName)) hown (mvT hZ (hw _ (List.mem_of_getElem? (i := 53) rfl))) (mvT hZ (hw _ (List.mem_of_getElem? (i := 54) rfl))) (mvT hZ (hw _ (List.mem_of_getElem? (i := 11) rfl))) (mvT hZ (hw _ (List.mem_of_getElem? (i := 55) rfl))) (by decide) (backOf (W := 0) (rmlab l Z a0 hw [] (101 : Int32) h1 n0 Zs (by decide) (by decide)) hZ (hw _ (List.mem_of_getElem? (i := 55) rfl)) (hw _ (List.mem_of_getElem? (i := 11) rfl)) (by decide) (by decide)) (g := (mkF m 120 #[.val (.ref st), .val (.int (0 : Int32)), .val (.int (0 : Int32)), .val (.int (0 : Int32)), .val (.int (3 : Int32)), .unset] [(.int (101 : Int32))])) rfl (by rw [hml]; rfl) (argsL := [(.int (101 : Int32))]) (rest := []) (lenOf pd_40 rfl) rfl (by show 2 * 0 + _ ≤ _; exact Nat.le_of_eq rfl) (hb hby dpa_120) (fun _ _ => ⟨rfl, e21, (Nat.le_of_ble_eq_true rfl), (Nat.le_of_ble_eq_true rfl)⟩)
  dsimp only [Pt.U, Pt.locs, Pt.cells, Pt.slots] at X22 l22 y22 z22 st22 hQ22
  rw [l22, y22, z22] at X22
  obtain ⟨rfl, N22q, e22⟩ := hQ22
  have Nf := Fr.app Nf N22q
  have X22 := own_pad (k' := 2) (n' := 64) X22 (by decide) (by decide)
  refine own_go (fun tQ kQ => st22 tQ kQ) ?_
  show own_End p e below _ (T22.setTop (mkF m 123 #[.val (.ref st), .val (.int (0 : Int32)), .val (.int (0 : Int32)), .val (.int (0 : Int32)), .val (.int (3 : Int32)), .unset] [(.int (1 : Int32))]))
  refine own_go (fun tQ kQ => XS.ifYes X22.here hx rfl (pc0 := 123) (pc' := 149) rfl (hb hby dpa_123) rfl ((if0 _ _).trans (feq (by decide)).2) (by decide) (by decide) kQ) ?_
  show own_End p e below _ (T22.setTop (mkF m 149 #[.val (.ref st), .val (.int (0 : Int32)), .val (.int (0 : Int32)), .val (.int (0 : Int32)), .val (.int (3 : Int32)), .unset] []))
  refine own_go (fun tQ kQ => XS.iinc X22.here hx rfl (hb hby dpa_149) rfl (l' := #[.val (.ref st), .val (.int (0 : Int32)), .val (.int (0 : Int32)), .val (.int (0 : Int32)), .val (.int ((3 : Int32) + (1 : Int32))), .unset]) rfl kQ) ?_
  show own_End p e below _ (T22.setTop (mkF m 152 #[.val (.ref st), .val (.int (0 : Int32)), .val (.int (0 : Int32)), .val (.int (0 : Int32)), .val (.int ((3 : Int32) + (1 : Int32))), .unset] []))
  rw [show ((3 : Int32) + (1 : Int32)) = (4 : Int32) by decide]
  show own_End p e below _ (T22.setTop (mkF m 152 #[.val (.ref st), .val (.int (0 : Int32)), .val (.int (0 : Int32)), .val (.int (0 : Int32)), .val (.int (4 : Int32)), .unset] []))
  refine own_go (fun tQ kQ => XS.goto X22.here hx rfl (pc0 := 152) (pc' := 16) rfl (hb hby dpa_152) (by decide) (by decide) kQ) ?_
  show own_End p e below _ (T22.setTop (mkF m 16 #[.val (.ref st), .val (.int (0 : Int32)), .val (.int (0 : Int32)), .val (.int (0 : Int32)), .val (.int (4 : Int32)), .unset] []))
  refine own_go (fun tQ kQ => XS.iload X22.here hx rfl (hb hby dpa_16) rfl kQ) ?_
  show own_End p e below _ (T22.setTop (mkF m 18 #[.val (.ref st), .val (.int (0 : Int32)), .val (.int (0 : Int32)), .val (.int (0 : Int32)), .val (.int (4 : Int32)), .unset] [(.int (4 : Int32))]))
  refine own_go (fun tQ kQ => XS.aloadN X22.here hx rfl (hb hby dpa_18) rfl rfl kQ) ?_
  show own_End p e below _ (T22.setTop (mkF m 19 #[.val (.ref st), .val (.int (0 : Int32)), .val (.int (0 : Int32)), .val (.int (0 : Int32)), .val (.int (4 : Int32)), .unset] [(.ref st), (.int (4 : Int32))]))
  obtain ⟨cq23, kq23, q23a, q23b, q23c⟩ := isOf hZ e22 E_st
  obtain ⟨_, _, ⟨T23, L23, k23, n23⟩, -, X23, ⟨Lc23, hQ23, l23, y23, z23⟩, st23⟩ := X22.virtualBack hx (y := (⟨"java/lang/String", "length", "()I"⟩ : MethodName)) (z := (⟨"java/lang/String", "length", "()I"⟩ : MethodName)) hown (mvT hZ (hw _ (List.mem_of_getElem? (i := 18) rfl))) (mvT hZ (hw _ (List.mem_of_getElem? (i := 19) rfl))) (notFace_of_selects (args := #[]) (mvT hZ (hw _ (List.mem_of_getElem? (i := 21) rfl)))) (mvT hZ (hw _ (List.mem_of_getElem? (i := 21) rfl))) (mvT hZ (hw _ (List.mem_of_getElem? (i := 20) rfl))) (by decide) (backOf (W := 1) (rmlen l Z a0 hw [] st tt (4 : Int32) bs cz h1 n0 Zs E_st F_value_st F_coder_st V_tt Ol S_cs hcz) hZ (hw _ (List.mem_of_getElem? (i := 22) rfl)) (hw _ (List.mem_of_getElem? (i := 2) rfl)) (by decide) (by decide)) q23a q23c (g := (mkF m 19 #[.val (.ref st), .val (.int (0 : Int32)), .val (.int (0 : Int32)), .val (.int (0 : Int32)), .val (.int (4 : Int32)), .unset] [(.ref st), (.int (4 : Int32))])) rfl (by rw [hml]; rfl) (Steps.refl _) (argsL := []) (rest := [(.int (4 : Int32))]) (lenOf pd_36 rfl) rfl (by show 2 * 0 + _ ≤ _; exact Nat.le_of_eq rfl) (hb hby dpa_19) (fun _ _ => ⟨rfl, e22, (Nat.le_of_ble_eq_true rfl), (Nat.le_of_ble_eq_true rfl)⟩)
  dsimp only [Pt.U, Pt.locs, Pt.cells, Pt.slots] at X23 l23 y23 z23 st23 hQ23
  rw [l23, y23, z23] at X23
  obtain ⟨rfl, N23q, e23⟩ := hQ23
  have Nf := Fr.app Nf N23q
  have X23 := own_pad (k' := 2) (n' := 64) X23 (by decide) (by decide)
  refine own_go (fun tQ kQ => st23.trans kQ) ?_
  show own_End p e below _ (T23.setTop (mkF m 22 #[.val (.ref st), .val (.int (0 : Int32)), .val (.int (0 : Int32)), .val (.int (0 : Int32)), .val (.int (4 : Int32)), .unset] [(.int (4 : Int32)), (.int (4 : Int32))]))
  refine own_go (fun tQ kQ => XS.icmpNo X23.here hx rfl (hb hby dpa_22) rfl (flt (by decide)).2.2.1 kQ) ?_
  show own_End p e below _ (T23.setTop (mkF m 25 #[.val (.ref st), .val (.int (0 : Int32)), .val (.int (0 : Int32)), .val (.int (0 : Int32)), .val (.int (4 : Int32)), .unset] []))
  refine own_go (fun tQ kQ => XS.iload X23.here hx rfl (hb hby dpa_25) rfl kQ) ?_
  show own_End p e below _ (T23.setTop (mkF m 27 #[.val (.ref st), .val (.int (0 : Int32)), .val (.int (0 : Int32)), .val (.int (0 : Int32)), .val (.int (4 : Int32)), .unset] [(.int (4 : Int32))]))
  refine own_go (fun tQ kQ => XS.aloadN X23.here hx rfl (hb hby dpa_27) rfl rfl kQ) ?_
  show own_End p e below _ (T23.setTop (mkF m 28 #[.val (.ref st), .val (.int (0 : Int32)), .val (.int (0 : Int32)), .val (.int (0 : Int32)), .val (.int (4 : Int32)), .unset] [(.ref st), (.int (4 : Int32))]))
  obtain ⟨cq24, kq24, q24a, q24b, q24c⟩ := isOf hZ e23 E_st
  obtain ⟨_, _, ⟨T24, L24, k24, n24⟩, -, X24, ⟨Lc24, hQ24, l24, y24, z24⟩, st24⟩ := X23.virtualBack hx (y := (⟨"java/lang/String", "length", "()I"⟩ : MethodName)) (z := (⟨"java/lang/String", "length", "()I"⟩ : MethodName)) hown (mvT hZ (hw _ (List.mem_of_getElem? (i := 18) rfl))) (mvT hZ (hw _ (List.mem_of_getElem? (i := 19) rfl))) (notFace_of_selects (args := #[]) (mvT hZ (hw _ (List.mem_of_getElem? (i := 21) rfl)))) (mvT hZ (hw _ (List.mem_of_getElem? (i := 21) rfl))) (mvT hZ (hw _ (List.mem_of_getElem? (i := 20) rfl))) (by decide) (backOf (W := 1) (rmlen l Z a0 hw [] st tt (4 : Int32) bs cz h1 n0 Zs E_st F_value_st F_coder_st V_tt Ol S_cs hcz) hZ (hw _ (List.mem_of_getElem? (i := 22) rfl)) (hw _ (List.mem_of_getElem? (i := 2) rfl)) (by decide) (by decide)) q24a q24c (g := (mkF m 28 #[.val (.ref st), .val (.int (0 : Int32)), .val (.int (0 : Int32)), .val (.int (0 : Int32)), .val (.int (4 : Int32)), .unset] [(.ref st), (.int (4 : Int32))])) rfl (by rw [hml]; rfl) (Steps.refl _) (argsL := []) (rest := [(.int (4 : Int32))]) (lenOf pd_36 rfl) rfl (by show 2 * 0 + _ ≤ _; exact Nat.le_of_eq rfl) (hb hby dpa_28) (fun _ _ => ⟨rfl, e23, (Nat.le_of_ble_eq_true rfl), (Nat.le_of_ble_eq_true rfl)⟩)
  dsimp only [Pt.U, Pt.locs, Pt.cells, Pt.slots] at X24 l24 y24 z24 st24 hQ24
  rw [l24, y24, z24] at X24
  obtain ⟨rfl, N24q, e24⟩ := hQ24
  have Nf := Fr.app Nf N24q
  have X24 := own_pad (k' := 2) (n' := 64) X24 (by decide) (by decide)
  refine own_go (fun tQ kQ => st24.trans kQ) ?_
  show own_End p e below _ (T24.setTop (mkF m 31 #[.val (.ref st), .val (.int (0 : Int32)), .val (.int (0 : Int32)), .val (.int (0 : Int32)), .val (.int (4 : Int32)), .unset] [(.int (4 : Int32)), (.int (4 : Int32))]))
  refine own_go (fun tQ kQ => XS.icmpYes X24.here hx rfl (pc0 := 31) (pc' := 45) rfl (hb hby dpa_31) rfl (teq (by decide)).1 (by decide) (by decide) kQ) ?_
  show own_End p e below _ (T24.setTop (mkF m 45 #[.val (.ref st), .val (.int (0 : Int32)), .val (.int (0 : Int32)), .val (.int (0 : Int32)), .val (.int (4 : Int32)), .unset] []))
  refine own_go (fun tQ kQ => XS.iload X24.here hx rfl (hb hby dpa_45) rfl kQ) ?_
  show own_End p e below _ (T24.setTop (mkF m 47 #[.val (.ref st), .val (.int (0 : Int32)), .val (.int (0 : Int32)), .val (.int (0 : Int32)), .val (.int (4 : Int32)), .unset] [(.int (4 : Int32))]))
  refine own_go (fun tQ kQ => XS.iloadN X24.here hx rfl (hb hby dpa_47) rfl kQ) ?_
  show own_End p e below _ (T24.setTop (mkF m 48 #[.val (.ref st), .val (.int (0 : Int32)), .val (.int (0 : Int32)), .val (.int (0 : Int32)), .val (.int (4 : Int32)), .unset] [(.int (0 : Int32)), (.int (4 : Int32))]))
  refine own_go (fun tQ kQ => XS.isub X24.here hx rfl (hb hby dpa_48) rfl kQ) ?_
  show own_End p e below _ (T24.setTop (mkF m 49 #[.val (.ref st), .val (.int (0 : Int32)), .val (.int (0 : Int32)), .val (.int (0 : Int32)), .val (.int (4 : Int32)), .unset] [(.int ((4 : Int32) - (0 : Int32)))]))
  refine own_go (fun tQ kQ => XS.istore X24.here hx rfl (hb hby dpa_49) rfl (l' := #[.val (.ref st), .val (.int (0 : Int32)), .val (.int (0 : Int32)), .val (.int (0 : Int32)), .val (.int (4 : Int32)), .val (.int ((4 : Int32) - (0 : Int32)))]) rfl kQ) ?_
  show own_End p e below _ (T24.setTop (mkF m 51 #[.val (.ref st), .val (.int (0 : Int32)), .val (.int (0 : Int32)), .val (.int (0 : Int32)), .val (.int (4 : Int32)), .val (.int ((4 : Int32) - (0 : Int32)))] []))
  refine own_go (fun tQ kQ => XS.iload X24.here hx rfl (hb hby dpa_51) rfl kQ) ?_
  show own_End p e below _ (T24.setTop (mkF m 53 #[.val (.ref st), .val (.int (0 : Int32)), .val (.int (0 : Int32)), .val (.int (0 : Int32)), .val (.int (4 : Int32)), .val (.int ((4 : Int32) - (0 : Int32)))] [(.int ((4 : Int32) - (0 : Int32)))]))
  rw [show ((4 : Int32) - (0 : Int32)) = (4 : Int32) by decide]
  show own_End p e below _ (T24.setTop (mkF m 53 #[.val (.ref st), .val (.int (0 : Int32)), .val (.int (0 : Int32)), .val (.int (0 : Int32)), .val (.int (4 : Int32)), .val (.int (4 : Int32))] [(.int (4 : Int32))]))
  refine own_go (fun tQ kQ => XS.ifYes X24.here hx rfl (pc0 := 53) (pc' := 63) rfl (hb hby dpa_53) rfl ((if0 _ _).trans (feq (by decide)).2) (by decide) (by decide) kQ) ?_
  show own_End p e below _ (T24.setTop (mkF m 63 #[.val (.ref st), .val (.int (0 : Int32)), .val (.int (0 : Int32)), .val (.int (0 : Int32)), .val (.int (4 : Int32)), .val (.int (4 : Int32))] []))
  refine own_go (fun tQ kQ => XS.iload X24.here hx rfl (hb hby dpa_63) rfl kQ) ?_
  show own_End p e below _ (T24.setTop (mkF m 65 #[.val (.ref st), .val (.int (0 : Int32)), .val (.int (0 : Int32)), .val (.int (0 : Int32)), .val (.int (4 : Int32)), .val (.int (4 : Int32))] [(.int (4 : Int32))]))
  refine own_go (fun tQ kQ => XS.bipush X24.here hx rfl (hb hby dpa_65) kQ) ?_
  show own_End p e below _ (T24.setTop (mkF m 67 #[.val (.ref st), .val (.int (0 : Int32)), .val (.int (0 : Int32)), .val (.int (0 : Int32)), .val (.int (4 : Int32)), .val (.int (4 : Int32))] [(.int (64 : Int32)), (.int (4 : Int32))]))
  refine own_go (fun tQ kQ => XS.icmpYes X24.here hx rfl (pc0 := 67) (pc' := 82) rfl (hb hby dpa_67) rfl (flt (by decide)).2.2.2 (by decide) (by decide) kQ) ?_
  show own_End p e below _ (T24.setTop (mkF m 82 #[.val (.ref st), .val (.int (0 : Int32)), .val (.int (0 : Int32)), .val (.int (0 : Int32)), .val (.int (4 : Int32)), .val (.int (4 : Int32))] []))
  refine own_go (fun tQ kQ => XS.iinc X24.here hx rfl (hb hby dpa_82) rfl (l' := #[.val (.ref st), .val (.int ((0 : Int32) + (1 : Int32))), .val (.int (0 : Int32)), .val (.int (0 : Int32)), .val (.int (4 : Int32)), .val (.int (4 : Int32))]) rfl kQ) ?_
  show own_End p e below _ (T24.setTop (mkF m 85 #[.val (.ref st), .val (.int ((0 : Int32) + (1 : Int32))), .val (.int (0 : Int32)), .val (.int (0 : Int32)), .val (.int (4 : Int32)), .val (.int (4 : Int32))] []))
  rw [show ((0 : Int32) + (1 : Int32)) = (1 : Int32) by decide]
  show own_End p e below _ (T24.setTop (mkF m 85 #[.val (.ref st), .val (.int (1 : Int32)), .val (.int (0 : Int32)), .val (.int (0 : Int32)), .val (.int (4 : Int32)), .val (.int (4 : Int32))] []))
  refine own_go (fun tQ kQ => XS.iloadN X24.here hx rfl (hb hby dpa_85) rfl kQ) ?_
  show own_End p e below _ (T24.setTop (mkF m 86 #[.val (.ref st), .val (.int (1 : Int32)), .val (.int (0 : Int32)), .val (.int (0 : Int32)), .val (.int (4 : Int32)), .val (.int (4 : Int32))] [(.int (1 : Int32))]))
  refine own_go (fun tQ kQ => XS.bipush X24.here hx rfl (hb hby dpa_86) kQ) ?_
  show own_End p e below _ (T24.setTop (mkF m 88 #[.val (.ref st), .val (.int (1 : Int32)), .val (.int (0 : Int32)), .val (.int (0 : Int32)), .val (.int (4 : Int32)), .val (.int (4 : Int32))] [(.int (16 : Int32)), (.int (1 : Int32))]))
  refine own_go (fun tQ kQ => XS.icmpYes X24.here hx rfl (pc0 := 88) (pc' := 98) rfl (hb hby dpa_88) rfl (flt (by decide)).2.2.2 (by decide) (by decide) kQ) ?_
  show own_End p e below _ (T24.setTop (mkF m 98 #[.val (.ref st), .val (.int (1 : Int32)), .val (.int (0 : Int32)), .val (.int (0 : Int32)), .val (.int (4 : Int32)), .val (.int (4 : Int32))] []))
  refine own_go (fun tQ kQ => XS.iloadN X24.here hx rfl (hb hby dpa_98) rfl kQ) ?_
  show own_End p e below _ (T24.setTop (mkF m 99 #[.val (.ref st), .val (.int (1 : Int32)), .val (.int (0 : Int32)), .val (.int (0 : Int32)), .val (.int (4 : Int32)), .val (.int (4 : Int32))] [(.int (1 : Int32))]))
  refine own_go (fun tQ kQ => XS.iconst X24.here hx rfl (hb hby dpa_99) kQ) ?_
  show own_End p e below _ (T24.setTop (mkF m 100 #[.val (.ref st), .val (.int (1 : Int32)), .val (.int (0 : Int32)), .val (.int (0 : Int32)), .val (.int (4 : Int32)), .val (.int (4 : Int32))] [(.int (1 : Int32)), (.int (1 : Int32))]))
  refine own_go (fun tQ kQ => XS.icmpNo X24.here hx rfl (hb hby dpa_100) rfl (teq (by decide)).2 kQ) ?_
  show own_End p e below _ (T24.setTop (mkF m 103 #[.val (.ref st), .val (.int (1 : Int32)), .val (.int (0 : Int32)), .val (.int (0 : Int32)), .val (.int (4 : Int32)), .val (.int (4 : Int32))] []))
  refine own_go (fun tQ kQ => XS.iload X24.here hx rfl (hb hby dpa_103) rfl kQ) ?_
  show own_End p e below _ (T24.setTop (mkF m 105 #[.val (.ref st), .val (.int (1 : Int32)), .val (.int (0 : Int32)), .val (.int (0 : Int32)), .val (.int (4 : Int32)), .val (.int (4 : Int32))] [(.int (4 : Int32))]))
  refine own_go (fun tQ kQ => XS.istoreN X24.here hx rfl (hb hby dpa_105) rfl (l' := #[.val (.ref st), .val (.int (1 : Int32)), .val (.int (4 : Int32)), .val (.int (0 : Int32)), .val (.int (4 : Int32)), .val (.int (4 : Int32))]) rfl kQ) ?_
  show own_End p e below _ (T24.setTop (mkF m 106 #[.val (.ref st), .val (.int (1 : Int32)), .val (.int (4 : Int32)), .val (.int (0 : Int32)), .val (.int (4 : Int32)), .val (.int (4 : Int32))] []))
  refine own_go (fun tQ kQ => XS.iload X24.here hx rfl (hb hby dpa_106) rfl kQ) ?_
  show own_End p e below _ (T24.setTop (mkF m 108 #[.val (.ref st), .val (.int (1 : Int32)), .val (.int (4 : Int32)), .val (.int (0 : Int32)), .val (.int (4 : Int32)), .val (.int (4 : Int32))] [(.int (4 : Int32))]))
  refine own_go (fun tQ kQ => XS.iconst X24.here hx rfl (hb hby dpa_108) kQ) ?_
  show own_End p e below _ (T24.setTop (mkF m 109 #[.val (.ref st), .val (.int (1 : Int32)), .val (.int (4 : Int32)), .val (.int (0 : Int32)), .val (.int (4 : Int32)), .val (.int (4 : Int32))] [(.int (1 : Int32)), (.int (4 : Int32))]))
  refine own_go (fun tQ kQ => XS.iadd X24.here hx rfl (hb hby dpa_109) rfl kQ) ?_
  show own_End p e below _ (T24.setTop (mkF m 110 #[.val (.ref st), .val (.int (1 : Int32)), .val (.int (4 : Int32)), .val (.int (0 : Int32)), .val (.int (4 : Int32)), .val (.int (4 : Int32))] [(.int ((4 : Int32) + (1 : Int32)))]))
  refine own_go (fun tQ kQ => XS.istoreN X24.here hx rfl (hb hby dpa_110) rfl (l' := #[.val (.ref st), .val (.int (1 : Int32)), .val (.int (4 : Int32)), .val (.int ((4 : Int32) + (1 : Int32))), .val (.int (4 : Int32)), .val (.int (4 : Int32))]) rfl kQ) ?_
  show own_End p e below _ (T24.setTop (mkF m 111 #[.val (.ref st), .val (.int (1 : Int32)), .val (.int (4 : Int32)), .val (.int ((4 : Int32) + (1 : Int32))), .val (.int (4 : Int32)), .val (.int (4 : Int32))] []))
  rw [show ((4 : Int32) + (1 : Int32)) = (5 : Int32) by decide]
  show own_End p e below _ (T24.setTop (mkF m 111 #[.val (.ref st), .val (.int (1 : Int32)), .val (.int (4 : Int32)), .val (.int (5 : Int32)), .val (.int (4 : Int32)), .val (.int (4 : Int32))] []))
  refine own_go (fun tQ kQ => XS.goto X24.here hx rfl (pc0 := 111) (pc' := 149) rfl (hb hby dpa_111) (by decide) (by decide) kQ) ?_
  show own_End p e below _ (T24.setTop (mkF m 149 #[.val (.ref st), .val (.int (1 : Int32)), .val (.int (4 : Int32)), .val (.int (5 : Int32)), .val (.int (4 : Int32)), .val (.int (4 : Int32))] []))
  refine own_go (fun tQ kQ => XS.iinc X24.here hx rfl (hb hby dpa_149) rfl (l' := #[.val (.ref st), .val (.int (1 : Int32)), .val (.int (4 : Int32)), .val (.int (5 : Int32)), .val (.int ((4 : Int32) + (1 : Int32))), .val (.int (4 : Int32))]) rfl kQ) ?_
  show own_End p e below _ (T24.setTop (mkF m 152 #[.val (.ref st), .val (.int (1 : Int32)), .val (.int (4 : Int32)), .val (.int (5 : Int32)), .val (.int ((4 : Int32) + (1 : Int32))), .val (.int (4 : Int32))] []))
  rw [show ((4 : Int32) + (1 : Int32)) = (5 : Int32) by decide]
  show own_End p e below _ (T24.setTop (mkF m 152 #[.val (.ref st), .val (.int (1 : Int32)), .val (.int (4 : Int32)), .val (.int (5 : Int32)), .val (.int (5 : Int32)), .val (.int (4 : Int32))] []))
  refine own_go (fun tQ kQ => XS.goto X24.here hx rfl (pc0 := 152) (pc' := 16) rfl (hb hby dpa_152) (by decide) (by decide) kQ) ?_
  show own_End p e below _ (T24.setTop (mkF m 16 #[.val (.ref st), .val (.int (1 : Int32)), .val (.int (4 : Int32)), .val (.int (5 : Int32)), .val (.int (5 : Int32)), .val (.int (4 : Int32))] []))
  refine own_go (fun tQ kQ => XS.iload X24.here hx rfl (hb hby dpa_16) rfl kQ) ?_
  show own_End p e below _ (T24.setTop (mkF m 18 #[.val (.ref st), .val (.int (1 : Int32)), .val (.int (4 : Int32)), .val (.int (5 : Int32)), .val (.int (5 : Int32)), .val (.int (4 : Int32))] [(.int (5 : Int32))]))
  refine own_go (fun tQ kQ => XS.aloadN X24.here hx rfl (hb hby dpa_18) rfl rfl kQ) ?_
  show own_End p e below _ (T24.setTop (mkF m 19 #[.val (.ref st), .val (.int (1 : Int32)), .val (.int (4 : Int32)), .val (.int (5 : Int32)), .val (.int (5 : Int32)), .val (.int (4 : Int32))] [(.ref st), (.int (5 : Int32))]))
  obtain ⟨cq25, kq25, q25a, q25b, q25c⟩ := isOf hZ e24 E_st
  obtain ⟨_, _, ⟨T25, L25, k25, n25⟩, -, X25, ⟨Lc25, hQ25, l25, y25, z25⟩, st25⟩ := X24.virtualBack hx (y := (⟨"java/lang/String", "length", "()I"⟩ : MethodName)) (z := (⟨"java/lang/String", "length", "()I"⟩ : MethodName)) hown (mvT hZ (hw _ (List.mem_of_getElem? (i := 18) rfl))) (mvT hZ (hw _ (List.mem_of_getElem? (i := 19) rfl))) (notFace_of_selects (args := #[]) (mvT hZ (hw _ (List.mem_of_getElem? (i := 21) rfl)))) (mvT hZ (hw _ (List.mem_of_getElem? (i := 21) rfl))) (mvT hZ (hw _ (List.mem_of_getElem? (i := 20) rfl))) (by decide) (backOf (W := 1) (rmlen l Z a0 hw [] st tt (4 : Int32) bs cz h1 n0 Zs E_st F_value_st F_coder_st V_tt Ol S_cs hcz) hZ (hw _ (List.mem_of_getElem? (i := 22) rfl)) (hw _ (List.mem_of_getElem? (i := 2) rfl)) (by decide) (by decide)) q25a q25c (g := (mkF m 19 #[.val (.ref st), .val (.int (1 : Int32)), .val (.int (4 : Int32)), .val (.int (5 : Int32)), .val (.int (5 : Int32)), .val (.int (4 : Int32))] [(.ref st), (.int (5 : Int32))])) rfl (by rw [hml]; rfl) (Steps.refl _) (argsL := []) (rest := [(.int (5 : Int32))]) (lenOf pd_36 rfl) rfl (by show 2 * 0 + _ ≤ _; exact Nat.le_of_eq rfl) (hb hby dpa_19) (fun _ _ => ⟨rfl, e24, (Nat.le_of_ble_eq_true rfl), (Nat.le_of_ble_eq_true rfl)⟩)
  dsimp only [Pt.U, Pt.locs, Pt.cells, Pt.slots] at X25 l25 y25 z25 st25 hQ25
  rw [l25, y25, z25] at X25
  obtain ⟨rfl, N25q, e25⟩ := hQ25
  have Nf := Fr.app Nf N25q
  have X25 := own_pad (k' := 2) (n' := 64) X25 (by decide) (by decide)
  refine own_go (fun tQ kQ => st25.trans kQ) ?_
  show own_End p e below _ (T25.setTop (mkF m 22 #[.val (.ref st), .val (.int (1 : Int32)), .val (.int (4 : Int32)), .val (.int (5 : Int32)), .val (.int (5 : Int32)), .val (.int (4 : Int32))] [(.int (4 : Int32)), (.int (5 : Int32))]))
  refine own_go (fun tQ kQ => XS.icmpYes X25.here hx rfl (pc0 := 22) (pc' := 155) rfl (hb hby dpa_22) rfl (tlt (by decide)).2.2.1 (by decide) (by decide) kQ) ?_
  show own_End p e below _ (T25.setTop (mkF m 155 #[.val (.ref st), .val (.int (1 : Int32)), .val (.int (4 : Int32)), .val (.int (5 : Int32)), .val (.int (5 : Int32)), .val (.int (4 : Int32))] []))
  obtain ⟨T26, h26, X26, e26, E26, A26, D26, -, st26⟩ := newO X25 hx hZ hown (hw _ (List.mem_of_getElem? (i := 56) rfl)) (hw _ (List.mem_of_getElem? (i := 57) rfl)) (hw _ (List.mem_of_getElem? (i := 11) rfl)) e25 (g := (mkF m 155 #[.val (.ref st), .val (.int (1 : Int32)), .val (.int (4 : Int32)), .val (.int (5 : Int32)), .val (.int (5 : Int32)), .val (.int (4 : Int32))] [])) rfl (hb hby dpa_155) (by decide) (by decide)
  obtain ⟨pp, g26⟩ : ∃ z, z = h1.size := ⟨_, rfl⟩
  rw [← g26] at A26 D26 st26
  have ne_st_pp : st ≠ pp := Nat.ne_of_lt (Nat.lt_of_lt_of_le E_st.lt (Nat.le_of_eq g26.symm))
  have ne_tt_pp : tt ≠ pp := Nat.ne_of_lt (Nat.lt_of_lt_of_le V_tt.lt (Nat.le_of_eq g26.symm))
  have g_pp : n0 ≤ pp := Nat.le_trans Zs (Nat.le_of_eq g26.symm)
  have sz_pp : h0.size ≤ pp := Nat.le_trans szr (Nat.le_of_eq g26.symm)
  have E_st := E_st.ext E26
  have F_value_st := F_value_st.ext E26
  have F_coder_st := F_coder_st.ext E26
  have V_tt := V_tt.ext E26
  have Ol := Ol.ext E26
  have Kp := Kp.ext E26
  have Zs := Nat.le_trans Zs E26.1
  have szr := Nat.le_trans szr E26.1
  have hkW := Nat.le_trans hkW E26.1
  have E_pp := A26
  have F_path_pp : Fld Z h26 pp "com/example/grant3/grant3/Scope" "path" "Ljava/lang/String;" .null := D26 (Or.inr (hw _ (List.mem_of_getElem? (i := 77) rfl))) (ty := (.object "java/lang/String")) (by decide)
  have F_tenant_pp : Fld Z h26 pp "com/example/grant3/grant3/Scope" "tenant" "Ljava/lang/String;" .null := D26 (Or.inr (hw _ (List.mem_of_getElem? (i := 79) rfl))) (ty := (.object "java/lang/String")) (by decide)
  have F_depth_pp : Fld Z h26 pp "com/example/grant3/grant3/Scope" "depth" "I" (.int (0 : Int32)) := D26 (Or.inr (hw _ (List.mem_of_getElem? (i := 81) rfl))) (ty := .int) (by decide)
  have X26 := own_pad (k' := 3) (n' := 67) X26 (by decide) (by decide)
  refine own_go (fun tQ kQ => st26 tQ kQ) ?_
  show own_End p e below _ (T26.setTop (mkF m 158 #[.val (.ref st), .val (.int (1 : Int32)), .val (.int (4 : Int32)), .val (.int (5 : Int32)), .val (.int (5 : Int32)), .val (.int (4 : Int32))] [(.ref pp)]))
  refine own_go (fun tQ kQ => XS.dup X26.here hx rfl (hb hby dpa_158) rfl rfl kQ) ?_
  show own_End p e below _ (T26.setTop (mkF m 159 #[.val (.ref st), .val (.int (1 : Int32)), .val (.int (4 : Int32)), .val (.int (5 : Int32)), .val (.int (5 : Int32)), .val (.int (4 : Int32))] [(.ref pp), (.ref pp)]))
  refine own_go (fun tQ kQ => XS.aloadN X26.here hx rfl (hb hby dpa_159) rfl rfl kQ) ?_
  show own_End p e below _ (T26.setTop (mkF m 160 #[.val (.ref st), .val (.int (1 : Int32)), .val (.int (4 : Int32)), .val (.int (5 : Int32)), .val (.int (5 : Int32)), .val (.int (4 : Int32))] [(.ref st), (.ref pp), (.ref pp)]))
  refine own_go (fun tQ kQ => XS.aloadN X26.here hx rfl (hb hby dpa_160) rfl rfl kQ) ?_
  show own_End p e below _ (T26.setTop (mkF m 161 #[.val (.ref st), .val (.int (1 : Int32)), .val (.int (4 : Int32)), .val (.int (5 : Int32)), .val (.int (5 : Int32)), .val (.int (4 : Int32))] [(.ref st), (.ref st), (.ref pp), (.ref pp)]))
  refine own_go (fun tQ kQ => XS.iconst X26.here hx rfl (hb hby dpa_161) kQ) ?_
  show own_End p e below _ (T26.setTop (mkF m 162 #[.val (.ref st), .val (.int (1 : Int32)), .val (.int (4 : Int32)), .val (.int (5 : Int32)), .val (.int (5 : Int32)), .val (.int (4 : Int32))] [(.int (0 : Int32)), (.ref st), (.ref st), (.ref pp), (.ref pp)]))
  refine own_go (fun tQ kQ => XS.iloadN X26.here hx rfl (hb hby dpa_162) rfl kQ) ?_
  show own_End p e below _ (T26.setTop (mkF m 163 #[.val (.ref st), .val (.int (1 : Int32)), .val (.int (4 : Int32)), .val (.int (5 : Int32)), .val (.int (5 : Int32)), .val (.int (4 : Int32))] [(.int (4 : Int32)), (.int (0 : Int32)), (.ref st), (.ref st), (.ref pp), (.ref pp)]))
  obtain ⟨cq27, kq27, q27a, q27b, q27c⟩ := isOf hZ e26 E_st
  obtain ⟨_, _, ⟨T27, L27, k27, n27⟩, -, X27, ⟨Lc27, hQ27, l27, y27, z27⟩, st27⟩ := X26.virtualBack hx (y := (⟨"java/lang/String", "substring", "(II)Ljava/lang/String;"⟩ : MethodName)) (z := (⟨"java/lang/String", "substring", "(II)Ljava/lang/String;"⟩ : MethodName)) hown (mvT hZ (hw _ (List.mem_of_getElem? (i := 58) rfl))) (mvT hZ (hw _ (List.mem_of_getElem? (i := 59) rfl))) (notFace_of_selects (args := #[]) (mvT hZ (hw _ (List.mem_of_getElem? (i := 61) rfl)))) (mvT hZ (hw _ (List.mem_of_getElem? (i := 61) rfl))) (mvT hZ (hw _ (List.mem_of_getElem? (i := 60) rfl))) (by decide) (backOf (W := 3) (rmsub l Z a0 hw [] st tt (4 : Int32) bs cz fm h26 n0 Zs E_st F_value_st F_coder_st V_tt Ol S_cs hcz S_fm rfm (by decide)) hZ (hw _ (List.mem_of_getElem? (i := 62) rfl)) (hw _ (List.mem_of_getElem? (i := 2) rfl)) (by decide) (by decide)) q27a q27c (g := (mkF m 163 #[.val (.ref st), .val (.int (1 : Int32)), .val (.int (4 : Int32)), .val (.int (5 : Int32)), .val (.int (5 : Int32)), .val (.int (4 : Int32))] [(.int (4 : Int32)), (.int (0 : Int32)), (.ref st), (.ref st), (.ref pp), (.ref pp)])) rfl (by rw [hml]; rfl) (Steps.refl _) (argsL := [(.int (0 : Int32)), (.int (4 : Int32))]) (rest := [(.ref st), (.ref pp), (.ref pp)]) (lenOf pd_41 rfl) rfl (by show 2 * 0 + _ ≤ _; exact Nat.le_of_eq rfl) (hb hby dpa_163) (fun _ _ => ⟨rfl, e26, (Nat.le_of_ble_eq_true rfl), (Nat.le_of_ble_eq_true rfl)⟩)
  dsimp only [Pt.U, Pt.locs, Pt.cells, Pt.slots] at X27 l27 y27 z27 st27 hQ27
  rw [l27, y27, z27] at X27
  obtain ⟨rfl, N27q, e27⟩ := hQ27
  have Nf := Fr.app Nf N27q
  have X27 := own_pad (k' := 3) (n' := 67) X27 (by decide) (by decide)
  refine own_go (fun tQ kQ => st27.trans kQ) ?_
  show own_End p e below _ (T27.setTop (mkF m 166 #[.val (.ref st), .val (.int (1 : Int32)), .val (.int (4 : Int32)), .val (.int (5 : Int32)), .val (.int (5 : Int32)), .val (.int (4 : Int32))] [(.ref st), (.ref st), (.ref pp), (.ref pp)]))
  refine own_go (fun tQ kQ => XS.iloadN X27.here hx rfl (hb hby dpa_166) rfl kQ) ?_
  show own_End p e below _ (T27.setTop (mkF m 167 #[.val (.ref st), .val (.int (1 : Int32)), .val (.int (4 : Int32)), .val (.int (5 : Int32)), .val (.int (5 : Int32)), .val (.int (4 : Int32))] [(.int (1 : Int32)), (.ref st), (.ref st), (.ref pp), (.ref pp)]))
  obtain ⟨_, _, ⟨T28, L28, k28, n28⟩, -, X28, ⟨Lc28, hQ28, l28, y28, z28⟩, st28⟩ := X27.specialBack hx (y := (⟨"com/example/grant3/grant3/Scope", "<init>", "(Ljava/lang/String;Ljava/lang/String;I)V"⟩ : MethodName)) rfl hown (mvT hZ (hw _ (List.mem_of_getElem? (i := 70) rfl))) (mvT hZ (hw _ (List.mem_of_getElem? (i := 71) rfl))) (mvT hZ (hw _ (List.mem_of_getElem? (i := 72) rfl))) (by decide) (backOf (W := 1) (rmsci_ l Z a0 hw [] pp st (1 : Int32) h26 n0 Zs E_pp F_path_pp F_tenant_pp F_depth_pp g_pp) hZ (hw _ (List.mem_of_getElem? (i := 72) rfl)) (hw _ (List.mem_of_getElem? (i := 11) rfl)) (by decide) (by decide)) (g := (mkF m 167 #[.val (.ref st), .val (.int (1 : Int32)), .val (.int (4 : Int32)), .val (.int (5 : Int32)), .val (.int (5 : Int32)), .val (.int (4 : Int32))] [(.int (1 : Int32)), (.ref st), (.ref st), (.ref pp), (.ref pp)])) rfl (by rw [hml]; rfl) (Steps.refl _) (a := pp) (argsL := [(.ref st), (.ref st), (.int (1 : Int32))]) (rest := [(.ref pp)]) (lenOf pd_42 rfl) rfl (by show 2 * 0 + _ ≤ _; exact Nat.le_of_eq rfl) (hb hby dpa_167) (fun _ _ => ⟨rfl, e27, (Nat.le_of_ble_eq_true rfl), (Nat.le_of_ble_eq_true rfl)⟩)
  dsimp only [Pt.U, Pt.locs, Pt.cells, Pt.slots] at X28 l28 y28 z28 st28 hQ28
  rw [l28, y28, z28] at X28
  obtain ⟨rfl, N28q, K28⟩ := hQ28
  have Nf := Fr.app Nf N28q
  have E_st := E_st.keep K28
  have F_value_st := F_value_st.keep K28 (ninS ne_st_pp nin0)
  have F_coder_st := F_coder_st.keep K28 (ninS ne_st_pp nin0)
  have V_tt := V_tt.keep K28 (ninS ne_tt_pp nin0)
  have Ol := Ol.keep K28 (allS g_pp all0)
  have E_pp := E_pp.keep K28
  have Kp := Kp.trans K28 (allS (Or.inr sz_pp) all0)
  have Zs := Nat.le_trans Zs K28.1
  have szr := Nat.le_trans szr K28.1
  have hkW := Nat.le_trans hkW K28.1
  have X28 := own_pad (k' := 3) (n' := 67) X28 (by decide) (by decide)
  refine own_go (fun tQ kQ => st28.trans kQ) ?_
  show own_End p e below _ (T28.setTop (mkF m 170 #[.val (.ref st), .val (.int (1 : Int32)), .val (.int (4 : Int32)), .val (.int (5 : Int32)), .val (.int (5 : Int32)), .val (.int (4 : Int32))] [(.ref pp)]))
  obtain ⟨fs, hr, hrun, hended, hend⟩ := X28.leaveW hS hkW (v := some (.ref pp)) (fun h => by rw [Bd.returns] at h; cases h)
  refine ⟨_, _, ?_, hrun, hended, _, _, rfl, ?_, ⟨hend.1, hend.2.1, hend.2.2.1, hend.2.2.2.mono (by decide) (by decide)⟩⟩
  · exact (by
      jvm_step X28.here [X28.here.top, hx, (hb hby dpa_170), X28.method', Bd.returns, Value.isRef, FieldType.isReference, narrow]
      first | (intro acts; rw [hr _ acts rfl rfl rfl]) | rw [hr _ _ rfl rfl rfl]
      exact Steps.refl _)
  · show Qpa Z st tt bs cz fm h0 n0 _ T28.heap _
    exact ⟨pp, rfl, Nf, Kp⟩
theorem dri_0 : decode prog_4_method_1_code 0 = .ok (.aload_n 0, 1) := by decide +kernel
theorem dri_1 : decode prog_4_method_1_code 1 = .ok (.invokespecial 1, 3) := by decide +kernel
theorem dri_4 : decode prog_4_method_1_code 4 = .ok (.aload_n 1, 1) := by decide +kernel
theorem dri_5 : decode prog_4_method_1_code 5 = .ok (.ldc 7, 2) := by decide +kernel
theorem dri_7 : decode prog_4_method_1_code 7 = .ok (.invokestatic 9, 3) := by decide +kernel
theorem dri_10 : decode prog_4_method_1_code 10 = .ok (.pop, 1) := by decide +kernel
theorem dri_11 : decode prog_4_method_1_code 11 = .ok (.aload_n 2, 1) := by decide +kernel
theorem dri_12 : decode prog_4_method_1_code 12 = .ok (.ldc 15, 2) := by decide +kernel
theorem dri_14 : decode prog_4_method_1_code 14 = .ok (.invokestatic 9, 3) := by decide +kernel
theorem dri_17 : decode prog_4_method_1_code 17 = .ok (.pop, 1) := by decide +kernel
theorem dri_18 : decode prog_4_method_1_code 18 = .ok (.aload_n 3, 1) := by decide +kernel
theorem dri_19 : decode prog_4_method_1_code 19 = .ok (.invokestatic 17, 3) := by decide +kernel
theorem dri_22 : decode prog_4_method_1_code 22 = .ok (.astore_n 3, 1) := by decide +kernel
theorem dri_23 : decode prog_4_method_1_code 23 = .ok (.aload_n 0, 1) := by decide +kernel
theorem dri_24 : decode prog_4_method_1_code 24 = .ok (.aload_n 1, 1) := by decide +kernel
theorem dri_25 : decode prog_4_method_1_code 25 = .ok (.putfield 23, 3) := by decide +kernel
theorem dri_28 : decode prog_4_method_1_code 28 = .ok (.aload_n 0, 1) := by decide +kernel
theorem dri_29 : decode prog_4_method_1_code 29 = .ok (.aload_n 2, 1) := by decide +kernel
theorem dri_30 : decode prog_4_method_1_code 30 = .ok (.putfield 29, 3) := by decide +kernel
theorem dri_33 : decode prog_4_method_1_code 33 = .ok (.aload_n 0, 1) := by decide +kernel
theorem dri_34 : decode prog_4_method_1_code 34 = .ok (.aload_n 3, 1) := by decide +kernel
theorem dri_35 : decode prog_4_method_1_code 35 = .ok (.putfield 33, 3) := by decide +kernel
theorem dri_38 : decode prog_4_method_1_code 38 = .ok (.return_, 1) := by decide +kernel
theorem pn_43 : plainName "com/example/grant3/grant3/Explanation$Reason" = true := by first | (simp [plainName, overriddenIn]; done) | decide +kernel
theorem ef_ri (m : MethodId) (x0 : Addr) (x1 : Addr) (x2 : Addr) (x3 : Addr) : entryFrame m #[(.ref x0), (.ref x1), (.ref x2), (.ref x3)] 4 = mkF m 0 #[.val (.ref x0), .val (.ref x1), .val (.ref x2), .val (.ref x3)] [] := by first | (simp [entryFrame, mkF, argsToLocals, Value.category]; done) | rfl
def Qri (Z : State) (rr : Addr) (ro : Addr) (sp : Addr) (a : Addr) (el : Addr) (h0 : Heap) (n0 : Nat) (v : Option Value) (h : Heap) (L : List Loc) : Prop := v = none ∧ Fr n0 L ∧ Keep h0 h [rr]
def Pri (Z : State) (rr : Addr) (ro : Addr) (sp : Addr) (a : Addr) (el : Addr) (h0 : Heap) (n0 : Nat) (s : State) (oQ : Outcome) (U : State) : Prop := ∃ v L, oQ = .returned v ∧ Qri Z rr ro sp a el h0 n0 v U.heap L ∧ ReturnedEndW s oQ U L ({ frames := 3, cells := 4, slots := 96, locals := 37 } : Room).cells ({ frames := 3, cells := 4, slots := 96, locals := 37 } : Room).slots
set_option maxRecDepth 65536 in
set_option maxHeartbeats 40000000 in
theorem rmri (l : Launch) (Z : State) (a0 : Array Value) (hw : ∀ d ∈ tables_1, d.before a0 Z = true) (ws : List Jvm.Cond) (rr : Addr) (ro : Addr) (sp : Addr) (a : Addr) (el : Addr) (h0 : Heap) (n0 : Nat) (Z0 : n0 ≤ h0.size) (E_rr : Exa Z h0 rr "com/example/grant3/grant3/Explanation$Reason") (F_role_rr : Fld Z h0 rr "com/example/grant3/grant3/Explanation$Reason" "role" "Ljava/lang/String;" .null) (F_scope_rr : Fld Z h0 rr "com/example/grant3/grant3/Explanation$Reason" "scope" "Lcom/example/grant3/grant3/Scope;" .null) (F_chain_rr : Fld Z h0 rr "com/example/grant3/grant3/Explanation$Reason" "chain" "Ljava/util/List;" .null) (g_rr : n0 ≤ rr) (E_a : Exa Z h0 a "java/util/ArrayList") (F_size_a : Fld Z h0 a "java/util/ArrayList" "size" "I" (.int (0 : Int32))) (Ol : Old Z n0 h0) (S_el : Sta Z Z.heap "java/util/ImmutableCollections" "EMPTY_LIST" "Ljava/util/ImmutableCollections$ListN;" (.ref el)) :
    MetFree l (⟨"com/example/grant3/grant3/Explanation$Reason", "<init>", "(Ljava/lang/String;Lcom/example/grant3/grant3/Scope;Ljava/util/List;)V"⟩ : MethodName) (head1 (Jvm.Cond.code (⟨"com/example/grant3/grant3/Explanation$Reason", "<init>", "(Ljava/lang/String;Lcom/example/grant3/grant3/Scope;Ljava/util/List;)V"⟩ : MethodName) prog_4_method_1_code 4 none :: ws) ({ frames := 3, cells := 4, slots := 96, locals := 37 } : Room)) (fun aQ U => aQ = #[(.ref rr), (.ref ro), (.ref sp), (.ref a)] ∧ Z.Warmed39 U.vm ∧ U.heap = h0) (fun _ _ _ _ _ => True) (fun _ U oQ U' => ∃ v L, oQ = .returned v ∧ Qri Z rr ro sp a el h0 n0 v U'.heap L ∧ ReturnedEndW U oQ U' L ({ frames := 3, cells := 4, slots := 96, locals := 37 } : Room).cells ({ frames := 3, cells := 4, slots := 96, locals := 37 } : Room).slots) := by
  refine MetFree.of_bodySF (plainFor_of_name pn_43) hisR ?_
  intro p e s m args below meth c s₁ Bd hml0 hP hK
  obtain ⟨rfl, hZ, hh⟩ := hP
  have hx := Bd.exec
  have hby := Bd.bytes
  have hml : c.maxLocals = 4 := hml0
  have hown : (s.setVm s.vm).vm.findClass "com/example/grant3/grant3/Explanation$Reason" = some m.cls := findClass_of_methodNamed Bd.named
  have hZ : Z.Warmed39 (s.setVm s.vm).vm := hZ
  have hS : s.Since s.vm h0.size := (State.WarmedH.refl s).since _
  have hkW : h0.size ≤ h0.size := Nat.le_refl _
  have hnm := (name_of_methodNamed Bd.named Bd.method).1
  have X0 : Stand p l e ({ frames := 3, cells := 4, slots := 96, locals := 37 } : Room) (s.setVm s.vm) m #[(.ref rr), (.ref ro), (.ref sp), (.ref a)] below meth c s₁ [] 0 0 := Stand.of_body Bd
  have e0 : s₁.heap = h0 := by rw [← hh, Bd.state]; rfl
  have Nf := Fr.nil n0
  have Zs : n0 ≤ h0.size := Z0
  have Kp : Keep h0 h0 [rr] := Keep.refl _ _
  have szr : h0.size ≤ h0.size := Nat.le_refl _
  show own_End p e below (Pri Z rr ro sp a el h0 n0 s) (s₁.setTop (entryFrame m #[(.ref rr), (.ref ro), (.ref sp), (.ref a)] 4))
  rw [ef_ri]
  have wS : ∀ d ∈ Bundle.stringAtoms, d.before a0 Z = true := by
    intro d hd
    simp only [Bundle.stringAtoms, List.mem_cons, List.not_mem_nil, or_false] at hd
    rcases hd with rfl | rfl | rfl | rfl | rfl | rfl | rfl
    · exact (hw _ (List.mem_of_getElem? (i := 2) rfl))
    · exact (hw _ (List.mem_of_getElem? (i := 3) rfl))
    · exact (hw _ (List.mem_of_getElem? (i := 4) rfl))
    · exact (hw _ (List.mem_of_getElem? (i := 5) rfl))
    · exact (hw _ (List.mem_of_getElem? (i := 6) rfl))
    · exact (hw _ (List.mem_of_getElem? (i := 7) rfl))
    · exact (hw _ (List.mem_of_getElem? (i := 8) rfl))
  refine own_go (fun tQ kQ => XS.aloadN X0.here hx rfl (hb hby dri_0) rfl rfl kQ) ?_
  show own_End p e below _ (s₁.setTop (mkF m 1 #[.val (.ref rr), .val (.ref ro), .val (.ref sp), .val (.ref a)] [(.ref rr)]))
  obtain ⟨_, _, ⟨T1, L1, k1, n1⟩, -, X1, ⟨Lc1, hQ1, l1, y1, z1⟩, st1⟩ := X0.specialBack hx (y := (⟨"java/lang/Record", "<init>", "()V"⟩ : MethodName)) rfl hown (mvT hZ (hw _ (List.mem_of_getElem? (i := 132) rfl))) (mvT hZ (hw _ (List.mem_of_getElem? (i := 133) rfl))) (mvT hZ (hw _ (List.mem_of_getElem? (i := 136) rfl))) (by decide) (backOf (W := 0) (rmR l Z a0 hw [] rr h0 n0 Zs ) hZ (hw _ (List.mem_of_getElem? (i := 136) rfl)) (hw _ (List.mem_of_getElem? (i := 135) rfl)) (by decide) (by decide)) (g := (mkF m 1 #[.val (.ref rr), .val (.ref ro), .val (.ref sp), .val (.ref a)] [(.ref rr)])) rfl (by rw [hml]; rfl) (Steps.refl _) (a := rr) (argsL := []) (rest := []) (lenOf pd_2 rfl) rfl (by show 2 * 0 + _ ≤ _; exact Nat.le_of_eq rfl) (hb hby dri_1) (fun _ _ => ⟨rfl, e0, (Nat.le_of_ble_eq_true rfl), (Nat.le_of_ble_eq_true rfl)⟩)
  dsimp only [Pt.U, Pt.locs, Pt.cells, Pt.slots] at X1 l1 y1 z1 st1 hQ1
  rw [l1, y1, z1] at X1
  obtain ⟨rfl, N1q, e1⟩ := hQ1
  have Nf := Fr.app Nf N1q
  have X1 := own_pad (k' := 0) (n' := 0) X1 (by decide) (by decide)
  refine own_go (fun tQ kQ => st1.trans kQ) ?_
  show own_End p e below _ (T1.setTop (mkF m 4 #[.val (.ref rr), .val (.ref ro), .val (.ref sp), .val (.ref a)] []))
  refine own_go (fun tQ kQ => XS.aloadN X1.here hx rfl (hb hby dri_4) rfl rfl kQ) ?_
  show own_End p e below _ (T1.setTop (mkF m 5 #[.val (.ref rr), .val (.ref ro), .val (.ref sp), .val (.ref a)] [(.ref ro)]))
  obtain ⟨m1, T2, h2, k2, X2, e2, E2, hS, hkW, hZ, hown, st2⟩ := ldcS X1 hx hZ hown (hw _ (List.mem_of_getElem? (i := 138) rfl)) wS e1 hS hkW (g := (mkF m 5 #[.val (.ref rr), .val (.ref ro), .val (.ref sp), .val (.ref a)] [(.ref ro)])) rfl (hb hby dri_5) (n := 48) (by decide) (by decide) (by decide) (by decide)
  have E_rr := E_rr.ext E2
  have F_role_rr := F_role_rr.ext E2
  have F_scope_rr := F_scope_rr.ext E2
  have F_chain_rr := F_chain_rr.ext E2
  have E_a := E_a.ext E2
  have F_size_a := F_size_a.ext E2
  have Ol := Ol.ext E2
  have Kp := Kp.ext E2
  have Zs := Nat.le_trans Zs E2.1
  have szr := Nat.le_trans szr E2.1
  have X2 := own_pad (k' := 2) (n' := 52) X2 (by decide) (by decide)
  refine own_go (fun tQ kQ => st2 tQ kQ) ?_
  show own_End p e below _ (T2.setTop (mkF m 7 #[.val (.ref rr), .val (.ref ro), .val (.ref sp), .val (.ref a)] [(.ref m1), (.ref ro)]))
  obtain ⟨_, _, ⟨T3, L3, k3, n3⟩, -, X3, ⟨Lc3, hQ3, l3, y3, z3⟩, st3⟩ := Jvm.LawKit.callS X2 hx (y := (⟨"java/util/Objects", "requireNonNull", "(Ljava/lang/Object;Ljava/lang/String;)Ljava/lang/Object;"⟩ : MethodName)) hown (mvT hZ (hw _ (List.mem_of_getElem? (i := 139) rfl))) (mvT hZ (hw _ (List.mem_of_getElem? (i := 15) rfl))) (mvT hZ (hw _ (List.mem_of_getElem? (i := 16) rfl))) (mvT hZ (hw _ (List.mem_of_getElem? (i := 17) rfl))) (by decide) (backOf (W := 0) (rmrn l Z a0 hw [] ro m1 h2 n0 Zs ) hZ (hw _ (List.mem_of_getElem? (i := 17) rfl)) (hw _ (List.mem_of_getElem? (i := 16) rfl)) (by decide) (by decide)) (g := (mkF m 7 #[.val (.ref rr), .val (.ref ro), .val (.ref sp), .val (.ref a)] [(.ref m1), (.ref ro)])) rfl (by rw [hml]; rfl) (argsL := [(.ref ro), (.ref m1)]) (rest := []) (lenOf pd_38 rfl) rfl (by show 2 * 0 + _ ≤ _; exact Nat.le_of_eq rfl) (hb hby dri_7) (fun _ _ => ⟨rfl, e2, (Nat.le_of_ble_eq_true rfl), (Nat.le_of_ble_eq_true rfl)⟩)
  dsimp only [Pt.U, Pt.locs, Pt.cells, Pt.slots] at X3 l3 y3 z3 st3 hQ3
  rw [l3, y3, z3] at X3
  obtain ⟨rfl, N3q, e3⟩ := hQ3
  have Nf := Fr.app Nf N3q
  have X3 := own_pad (k' := 2) (n' := 52) X3 (by decide) (by decide)
  refine own_go (fun tQ kQ => st3 tQ kQ) ?_
  show own_End p e below _ (T3.setTop (mkF m 10 #[.val (.ref rr), .val (.ref ro), .val (.ref sp), .val (.ref a)] [(.ref ro)]))
  refine own_go (fun tQ kQ => XS.pop X3.here hx rfl (hb hby dri_10) rfl rfl kQ) ?_
  show own_End p e below _ (T3.setTop (mkF m 11 #[.val (.ref rr), .val (.ref ro), .val (.ref sp), .val (.ref a)] []))
  refine own_go (fun tQ kQ => XS.aloadN X3.here hx rfl (hb hby dri_11) rfl rfl kQ) ?_
  show own_End p e below _ (T3.setTop (mkF m 12 #[.val (.ref rr), .val (.ref ro), .val (.ref sp), .val (.ref a)] [(.ref sp)]))
  obtain ⟨m2, T4, h4, k4, X4, e4, E4, hS, hkW, hZ, hown, st4⟩ := ldcS X3 hx hZ hown (hw _ (List.mem_of_getElem? (i := 140) rfl)) wS e3 hS hkW (g := (mkF m 12 #[.val (.ref rr), .val (.ref ro), .val (.ref sp), .val (.ref a)] [(.ref sp)])) rfl (hb hby dri_12) (n := 40) (by decide) (by decide) (by decide) (by decide)
  have E_rr := E_rr.ext E4
  have F_role_rr := F_role_rr.ext E4
  have F_scope_rr := F_scope_rr.ext E4
  have F_chain_rr := F_chain_rr.ext E4
  have E_a := E_a.ext E4
  have F_size_a := F_size_a.ext E4
  have Ol := Ol.ext E4
  have Kp := Kp.ext E4
  have Zs := Nat.le_trans Zs E4.1
  have szr := Nat.le_trans szr E4.1
  have X4 := own_pad (k' := 4) (n' := 96) X4 (by decide) (by decide)
  refine own_go (fun tQ kQ => st4 tQ kQ) ?_
  show own_End p e below _ (T4.setTop (mkF m 14 #[.val (.ref rr), .val (.ref ro), .val (.ref sp), .val (.ref a)] [(.ref m2), (.ref sp)]))
  obtain ⟨_, _, ⟨T5, L5, k5, n5⟩, -, X5, ⟨Lc5, hQ5, l5, y5, z5⟩, st5⟩ := Jvm.LawKit.callS X4 hx (y := (⟨"java/util/Objects", "requireNonNull", "(Ljava/lang/Object;Ljava/lang/String;)Ljava/lang/Object;"⟩ : MethodName)) hown (mvT hZ (hw _ (List.mem_of_getElem? (i := 139) rfl))) (mvT hZ (hw _ (List.mem_of_getElem? (i := 15) rfl))) (mvT hZ (hw _ (List.mem_of_getElem? (i := 16) rfl))) (mvT hZ (hw _ (List.mem_of_getElem? (i := 17) rfl))) (by decide) (backOf (W := 0) (rmrn l Z a0 hw [] sp m2 h4 n0 Zs ) hZ (hw _ (List.mem_of_getElem? (i := 17) rfl)) (hw _ (List.mem_of_getElem? (i := 16) rfl)) (by decide) (by decide)) (g := (mkF m 14 #[.val (.ref rr), .val (.ref ro), .val (.ref sp), .val (.ref a)] [(.ref m2), (.ref sp)])) rfl (by rw [hml]; rfl) (argsL := [(.ref sp), (.ref m2)]) (rest := []) (lenOf pd_38 rfl) rfl (by show 2 * 0 + _ ≤ _; exact Nat.le_of_eq rfl) (hb hby dri_14) (fun _ _ => ⟨rfl, e4, (Nat.le_of_ble_eq_true rfl), (Nat.le_of_ble_eq_true rfl)⟩)
  dsimp only [Pt.U, Pt.locs, Pt.cells, Pt.slots] at X5 l5 y5 z5 st5 hQ5
  rw [l5, y5, z5] at X5
  obtain ⟨rfl, N5q, e5⟩ := hQ5
  have Nf := Fr.app Nf N5q
  have X5 := own_pad (k' := 4) (n' := 96) X5 (by decide) (by decide)
  refine own_go (fun tQ kQ => st5 tQ kQ) ?_
  show own_End p e below _ (T5.setTop (mkF m 17 #[.val (.ref rr), .val (.ref ro), .val (.ref sp), .val (.ref a)] [(.ref sp)]))
  refine own_go (fun tQ kQ => XS.pop X5.here hx rfl (hb hby dri_17) rfl rfl kQ) ?_
  show own_End p e below _ (T5.setTop (mkF m 18 #[.val (.ref rr), .val (.ref ro), .val (.ref sp), .val (.ref a)] []))
  refine own_go (fun tQ kQ => XS.aloadN X5.here hx rfl (hb hby dri_18) rfl rfl kQ) ?_
  show own_End p e below _ (T5.setTop (mkF m 19 #[.val (.ref rr), .val (.ref ro), .val (.ref sp), .val (.ref a)] [(.ref a)]))
  obtain ⟨_, _, ⟨T6, L6, k6, n6⟩, -, X6, ⟨Lc6, hQ6, l6, y6, z6⟩, st6⟩ := Jvm.LawKit.callS X5 hx (y := (⟨"java/util/List", "copyOf", "(Ljava/util/Collection;)Ljava/util/List;"⟩ : MethodName)) hown (mvT hZ (hw _ (List.mem_of_getElem? (i := 141) rfl))) (mvT hZ (hw _ (List.mem_of_getElem? (i := 142) rfl))) (mvT hZ (hw _ (List.mem_of_getElem? (i := 143) rfl))) (mvT hZ (hw _ (List.mem_of_getElem? (i := 144) rfl))) (by decide) (backOf (W := 0) (rmco0 l Z a0 hw [] a el h4 n0 Zs E_a F_size_a Ol S_el) hZ (hw _ (List.mem_of_getElem? (i := 144) rfl)) (hw _ (List.mem_of_getElem? (i := 143) rfl)) (by decide) (by decide)) (g := (mkF m 19 #[.val (.ref rr), .val (.ref ro), .val (.ref sp), .val (.ref a)] [(.ref a)])) rfl (by rw [hml]; rfl) (argsL := [(.ref a)]) (rest := []) (lenOf pd_23 rfl) rfl (by show 2 * 0 + _ ≤ _; exact Nat.le_of_eq rfl) (hb hby dri_19) (fun _ _ => ⟨rfl, e5, (Nat.le_of_ble_eq_true rfl), (Nat.le_of_ble_eq_true rfl)⟩)
  dsimp only [Pt.U, Pt.locs, Pt.cells, Pt.slots] at X6 l6 y6 z6 st6 hQ6
  rw [l6, y6, z6] at X6
  obtain ⟨rfl, N6q, e6⟩ := hQ6
  have Nf := Fr.app Nf N6q
  have X6 := own_pad (k' := 4) (n' := 96) X6 (by decide) (by decide)
  refine own_go (fun tQ kQ => st6 tQ kQ) ?_
  show own_End p e below _ (T6.setTop (mkF m 22 #[.val (.ref rr), .val (.ref ro), .val (.ref sp), .val (.ref a)] [(.ref el)]))
  refine own_go (fun tQ kQ => XS.astoreN X6.here hx rfl (hb hby dri_22) rfl rfl (l' := #[.val (.ref rr), .val (.ref ro), .val (.ref sp), .val (.ref el)]) rfl kQ) ?_
  show own_End p e below _ (T6.setTop (mkF m 23 #[.val (.ref rr), .val (.ref ro), .val (.ref sp), .val (.ref el)] []))
  refine own_go (fun tQ kQ => XS.aloadN X6.here hx rfl (hb hby dri_23) rfl rfl kQ) ?_
  show own_End p e below _ (T6.setTop (mkF m 24 #[.val (.ref rr), .val (.ref ro), .val (.ref sp), .val (.ref el)] [(.ref rr)]))
  refine own_go (fun tQ kQ => XS.aloadN X6.here hx rfl (hb hby dri_24) rfl rfl kQ) ?_
  show own_End p e below _ (T6.setTop (mkF m 25 #[.val (.ref rr), .val (.ref ro), .val (.ref sp), .val (.ref el)] [(.ref ro), (.ref rr)]))
  obtain ⟨T7, h7, X7, e7, W7, st7⟩ := putF X6 hx hZ hown (host := "") (Or.inl (hw _ (List.mem_of_getElem? (i := 170) rfl))) Via.refl e6 F_role_rr E_rr (Or.inr ⟨(hw _ (List.mem_of_getElem? (i := 171) rfl)), rfl, hnm⟩) (hw _ (List.mem_of_getElem? (i := 103) rfl)) (ty := (.object "java/lang/String")) (by decide) rfl rfl (g := (mkF m 25 #[.val (.ref rr), .val (.ref ro), .val (.ref sp), .val (.ref el)] [(.ref ro), (.ref rr)])) rfl rfl (hb hby dri_25)
  have F_role_rr := F_role_rr.same W7
  have E_rr := E_rr.wr W7
  have F_scope_rr := F_scope_rr.other W7 (Or.inr (slot_ne (Or.inr (hw _ (List.mem_of_getElem? (i := 173) rfl))) (Or.inr (hw _ (List.mem_of_getElem? (i := 171) rfl))) (by decide) (t := (.object "com/example/grant3/grant3/Scope")) (t' := (.object "java/lang/String")) (by decide) (by decide)))
  have F_chain_rr := F_chain_rr.other W7 (Or.inr (slot_ne (Or.inr (hw _ (List.mem_of_getElem? (i := 175) rfl))) (Or.inr (hw _ (List.mem_of_getElem? (i := 171) rfl))) (by decide) (t := (.object "java/util/List")) (t' := (.object "java/lang/String")) (by decide) (by decide)))
  have Ol := Ol.wr W7 g_rr
  have Kp := Kp.wr W7 (Or.inl (List.mem_of_getElem? (i := 0) rfl))
  have Nf := Fr.snoc X7 Nf g_rr
  have Zs := Nat.le_trans Zs (Keep.of_wr W7).1
  have szr := Nat.le_trans szr (Keep.of_wr W7).1
  have hkW := Nat.le_trans hkW (Keep.of_wr W7).1
  refine own_go (fun tQ kQ => st7 tQ kQ) ?_
  show own_End p e below _ (T7.setTop (mkF m 28 #[.val (.ref rr), .val (.ref ro), .val (.ref sp), .val (.ref el)] []))
  refine own_go (fun tQ kQ => XS.aloadN X7.here hx rfl (hb hby dri_28) rfl rfl kQ) ?_
  show own_End p e below _ (T7.setTop (mkF m 29 #[.val (.ref rr), .val (.ref ro), .val (.ref sp), .val (.ref el)] [(.ref rr)]))
  refine own_go (fun tQ kQ => XS.aloadN X7.here hx rfl (hb hby dri_29) rfl rfl kQ) ?_
  show own_End p e below _ (T7.setTop (mkF m 30 #[.val (.ref rr), .val (.ref ro), .val (.ref sp), .val (.ref el)] [(.ref sp), (.ref rr)]))
  obtain ⟨T8, h8, X8, e8, W8, st8⟩ := putF X7 hx hZ hown (host := "") (Or.inl (hw _ (List.mem_of_getElem? (i := 172) rfl))) Via.refl e7 F_scope_rr E_rr (Or.inr ⟨(hw _ (List.mem_of_getElem? (i := 173) rfl)), rfl, hnm⟩) (hw _ (List.mem_of_getElem? (i := 103) rfl)) (ty := (.object "com/example/grant3/grant3/Scope")) (by decide) rfl rfl (g := (mkF m 30 #[.val (.ref rr), .val (.ref ro), .val (.ref sp), .val (.ref el)] [(.ref sp), (.ref rr)])) rfl rfl (hb hby dri_30)
  have F_scope_rr := F_scope_rr.same W8
  have E_rr := E_rr.wr W8
  have F_role_rr := F_role_rr.other W8 (Or.inr (slot_ne (Or.inr (hw _ (List.mem_of_getElem? (i := 171) rfl))) (Or.inr (hw _ (List.mem_of_getElem? (i := 173) rfl))) (by decide) (t := (.object "java/lang/String")) (t' := (.object "com/example/grant3/grant3/Scope")) (by decide) (by decide)))
  have F_chain_rr := F_chain_rr.other W8 (Or.inr (slot_ne (Or.inr (hw _ (List.mem_of_getElem? (i := 175) rfl))) (Or.inr (hw _ (List.mem_of_getElem? (i := 173) rfl))) (by decide) (t := (.object "java/util/List")) (t' := (.object "com/example/grant3/grant3/Scope")) (by decide) (by decide)))
  have Ol := Ol.wr W8 g_rr
  have Kp := Kp.wr W8 (Or.inl (List.mem_of_getElem? (i := 0) rfl))
  have Nf := Fr.snoc X8 Nf g_rr
  have Zs := Nat.le_trans Zs (Keep.of_wr W8).1
  have szr := Nat.le_trans szr (Keep.of_wr W8).1
  have hkW := Nat.le_trans hkW (Keep.of_wr W8).1
  refine own_go (fun tQ kQ => st8 tQ kQ) ?_
  show own_End p e below _ (T8.setTop (mkF m 33 #[.val (.ref rr), .val (.ref ro), .val (.ref sp), .val (.ref el)] []))
  refine own_go (fun tQ kQ => XS.aloadN X8.here hx rfl (hb hby dri_33) rfl rfl kQ) ?_
  show own_End p e below _ (T8.setTop (mkF m 34 #[.val (.ref rr), .val (.ref ro), .val (.ref sp), .val (.ref el)] [(.ref rr)]))
  refine own_go (fun tQ kQ => XS.aloadN X8.here hx rfl (hb hby dri_34) rfl rfl kQ) ?_
  show own_End p e below _ (T8.setTop (mkF m 35 #[.val (.ref rr), .val (.ref ro), .val (.ref sp), .val (.ref el)] [(.ref el), (.ref rr)]))
  obtain ⟨T9, h9, X9, e9, W9, st9⟩ := putF X8 hx hZ hown (host := "") (Or.inl (hw _ (List.mem_of_getElem? (i := 174) rfl))) Via.refl e8 F_chain_rr E_rr (Or.inr ⟨(hw _ (List.mem_of_getElem? (i := 175) rfl)), rfl, hnm⟩) (hw _ (List.mem_of_getElem? (i := 103) rfl)) (ty := (.object "java/util/List")) (by decide) rfl rfl (g := (mkF m 35 #[.val (.ref rr), .val (.ref ro), .val (.ref sp), .val (.ref el)] [(.ref el), (.ref rr)])) rfl rfl (hb hby dri_35)
  have F_chain_rr := F_chain_rr.same W9
  have E_rr := E_rr.wr W9
  have F_role_rr := F_role_rr.other W9 (Or.inr (slot_ne (Or.inr (hw _ (List.mem_of_getElem? (i := 171) rfl))) (Or.inr (hw _ (List.mem_of_getElem? (i := 175) rfl))) (by decide) (t := (.object "java/lang/String")) (t' := (.object "java/util/List")) (by decide) (by decide)))
  have F_scope_rr := F_scope_rr.other W9 (Or.inr (slot_ne (Or.inr (hw _ (List.mem_of_getElem? (i := 173) rfl))) (Or.inr (hw _ (List.mem_of_getElem? (i := 175) rfl))) (by decide) (t := (.object "com/example/grant3/grant3/Scope")) (t' := (.object "java/util/List")) (by decide) (by decide)))
  have Ol := Ol.wr W9 g_rr
  have Kp := Kp.wr W9 (Or.inl (List.mem_of_getElem? (i := 0) rfl))
  have Nf := Fr.snoc X9 Nf g_rr
  have Zs := Nat.le_trans Zs (Keep.of_wr W9).1
  have szr := Nat.le_trans szr (Keep.of_wr W9).1
  have hkW := Nat.le_trans hkW (Keep.of_wr W9).1
  refine own_go (fun tQ kQ => st9 tQ kQ) ?_
  show own_End p e below _ (T9.setTop (mkF m 38 #[.val (.ref rr), .val (.ref ro), .val (.ref sp), .val (.ref el)] []))
  obtain ⟨fs, hr, hrun, hended, hend⟩ := X9.leaveW hS (by rw [e9]; exact hkW) (v := none) (fun _ => rfl)
  refine ⟨_, _, X9.returnOut hx Bd.returns (hb hby dri_38) hr, hrun, hended, _, _, rfl, ?_, ⟨hend.1, hend.2.1, hend.2.2.1, hend.2.2.2.mono (by decide) (by decide)⟩⟩
  show Qri Z rr ro sp a el h0 n0 _ T9.heap _
  rw [e9]
  exact ⟨rfl, Nf, Kp⟩
theorem pd_44 : parseMethodDescriptor "(Ljava/lang/String;)Lcom/example/grant3/grant3/Scope;" = some ⟨[(.object "java/lang/String")], some (.object "com/example/grant3/grant3/Scope")⟩ := by decide +kernel
theorem pd_45 : parseMethodDescriptor "([C)V" = some ⟨[(.array .char)], none⟩ := by decide +kernel
theorem pd_46 : parseMethodDescriptor "(Ljava/lang/String;Lcom/example/grant3/grant3/Scope;Ljava/util/List;)V" = some ⟨[(.object "java/lang/String"), (.object "com/example/grant3/grant3/Scope"), (.object "java/util/List")], none⟩ := by decide +kernel
theorem pd_47 : parseMethodDescriptor "(ZLjava/util/List;)V" = some ⟨[.boolean, (.object "java/util/List")], none⟩ := by decide +kernel
theorem pd_48 : parseMethodDescriptor "(Ljava/lang/Object;)Z" = some ⟨[(.object "java/lang/Object")], some .boolean⟩ := by decide +kernel
theorem pn_49 : plainName "com/example/grant3/grant3/ExplanationAllowedPinLaw" = true := by first | (simp [plainName, overriddenIn]; done) | decide +kernel
theorem ef_0 (m : MethodId) (x0 : Int32) (x1 : Int32) (x2 : Int32) : entryFrame m #[(.int x0), (.int x1), (.int x2)] maxLocals = mkF m 0 #[.val (.int x0), .val (.int x1), .val (.int x2), .unset, .unset, .unset, .unset, .unset, .unset, .unset, .unset, .unset] [] := by first | (simp [entryFrame, mkF, argsToLocals, Value.category, maxLocals]; done) | rfl
def Q0 (Z : State) (i0 : Int32) (i1 : Int32) (i2 : Int32) (cz : Int32) (fm : Value) (de : Addr) (fd : Nat → Value) (el : Addr) (ee : Addr) (fe : Nat → Value) (em : Addr) (mr : Addr) (h0 : Heap) (n0 : Nat) (v : Option Value) (h : Heap) (L : List Loc) : Prop := v = some (.int 1) ∧ Fr n0 L
def P0 (Z : State) (i0 : Int32) (i1 : Int32) (i2 : Int32) (cz : Int32) (fm : Value) (de : Addr) (fd : Nat → Value) (el : Addr) (ee : Addr) (fe : Nat → Value) (em : Addr) (mr : Addr) (h0 : Heap) (n0 : Nat) (s : State) (oQ : Outcome) (U : State) : Prop := ∃ v L, oQ = .returned v ∧ Q0 Z i0 i1 i2 cz fm de fd el ee fe em mr h0 n0 v U.heap L ∧ ReturnedEndW s oQ U L 19 214
set_option maxRecDepth 65536 in
set_option maxHeartbeats 40000000 in
theorem rm0 (l : Launch) (Z : State) (a0 : Array Value) (hw : ∀ d ∈ tables_1, d.before a0 Z = true) (ws : List Jvm.Cond) (i0 : Int32) (i1 : Int32) (i2 : Int32) (cz : Int32) (fm : Value) (de : Addr) (fd : Nat → Value) (el : Addr) (ee : Addr) (fe : Nat → Value) (em : Addr) (mr : Addr) (h0 : Heap) (n0 : Nat) (Z0 : n0 ≤ h0.size) (Ol : Old Z n0 h0) (S_cs : Sta Z Z.heap "java/lang/String" "COMPACT_STRINGS" "Z" (.int cz)) (hcz : ¬ cz = 0) (S_fm : Sta Z Z.heap "jdk/internal/util/Preconditions" "SIOOBE_FORMATTER" "Ljava/util/function/BiFunction;" fm) (rfm : fm.isRef = true) (S_de : Sta Z Z.heap "java/util/ArrayList" "DEFAULTCAPACITY_EMPTY_ELEMENTDATA" "[Ljava/lang/Object;" (.ref de)) (V_de : own_Ar Z Z.heap de (.object "java/lang/Object") (0 : Int32) fd) (S_el : Sta Z Z.heap "java/util/ImmutableCollections" "EMPTY_LIST" "Ljava/util/ImmutableCollections$ListN;" (.ref el)) (E_el : Exa Z Z.heap el "java/util/ImmutableCollections$ListN") (F_el : Fld Z Z.heap el "java/util/ImmutableCollections$ListN" "elements" "[Ljava/lang/Object;" (.ref ee)) (V_ee : own_Ar Z Z.heap ee (.object "java/lang/Object") (0 : Int32) fe) (S_em : Sta Z Z.heap "java/util/ImmutableCollections" "EMPTY" "Ljava/lang/Object;" (.ref em)) (M_r : Mir Z "[Ljava/lang/Object;" mr) (hEL : EW Z a0 own_EL) :
    MetFree l x (head1 (Jvm.Cond.code x code maxLocals ret :: ws) room_1) (fun aQ U => aQ = #[(.int i0), (.int i1), (.int i2)] ∧ Z.Warmed39 U.vm ∧ U.heap = h0 ∧ CHv Z own_EL U.vm h0) (fun _ _ _ _ _ => True) (fun _ U oQ U' => ∃ v L, oQ = .returned v ∧ Q0 Z i0 i1 i2 cz fm de fd el ee fe em mr h0 n0 v U'.heap L ∧ ReturnedEndW U oQ U' L 19 214) := by
  refine MetFree.of_bodySF (plainFor_of_name pn_49) hisR ?_
  intro p e s m args below meth c s₁ Bd hml0 hP hK
  obtain ⟨rfl, hZ, hh, H0⟩ := hP
  have hx := Bd.exec
  have hby := Bd.bytes
  have hml : c.maxLocals = 12 := hml0
  have hown : (s.setVm s.vm).vm.findClass "com/example/grant3/grant3/ExplanationAllowedPinLaw" = some m.cls := findClass_of_methodNamed Bd.named
  have hZ : Z.Warmed39 (s.setVm s.vm).vm := hZ
  have hS : s.Since s.vm h0.size := (State.WarmedH.refl s).since _
  have hkW : h0.size ≤ h0.size := Nat.le_refl _
  have hnm := (name_of_methodNamed Bd.named Bd.method).1
  have X0 : Stand p l e room_1 (s.setVm s.vm) m #[(.int i0), (.int i1), (.int i2)] below meth c s₁ [] 0 0 := Stand.of_body Bd
  have e0 : s₁.heap = h0 := by rw [← hh, Bd.state]; rfl
  have Nf := Fr.nil n0
  have Zs : n0 ≤ h0.size := Z0
  have Kp : Keep h0 h0 [] := Keep.refl _ _
  have szr : h0.size ≤ h0.size := Nat.le_refl _
  show own_End p e below (P0 Z i0 i1 i2 cz fm de fd el ee fe em mr h0 n0 s) (s₁.setTop (entryFrame m #[(.int i0), (.int i1), (.int i2)] maxLocals))
  rw [ef_0]
  have wS : ∀ d ∈ Bundle.stringAtoms, d.before a0 Z = true := by
    intro d hd
    simp only [Bundle.stringAtoms, List.mem_cons, List.not_mem_nil, or_false] at hd
    rcases hd with rfl | rfl | rfl | rfl | rfl | rfl | rfl
    · exact (hw _ (List.mem_of_getElem? (i := 2) rfl))
    · exact (hw _ (List.mem_of_getElem? (i := 3) rfl))
    · exact (hw _ (List.mem_of_getElem? (i := 4) rfl))
    · exact (hw _ (List.mem_of_getElem? (i := 5) rfl))
    · exact (hw _ (List.mem_of_getElem? (i := 6) rfl))
    · exact (hw _ (List.mem_of_getElem? (i := 7) rfl))
    · exact (hw _ (List.mem_of_getElem? (i := 8) rfl))
  have hws : ∀ d ∈ StrChars.Road.words, d.before a0 Z = true := fun d hd => hw d ((by decide +kernel : ∀ d ∈ StrChars.Road.words, d ∈ tables_1) d hd)
  have J11 : ∀ (sb : Int32) (T : State) (locs : List Loc) (h : Heap) (vm0 : Vm) (k0 : Nat) (X : Stand p l e room_1 (s.setVm vm0) m #[(.int i0), (.int i1), (.int i2)] below meth c T locs 0 0) (eT : T.heap = h) (Nf : Fr n0 locs) (Zs : n0 ≤ h.size) (Kp : Keep h0 h []) (szr : h0.size ≤ h.size) (hS : s.Since vm0 k0) (hkW : k0 ≤ h.size) (hZ : Z.Warmed39 (s.setVm vm0).vm) (hown : (s.setVm vm0).vm.findClass "com/example/grant3/grant3/ExplanationAllowedPinLaw" = some m.cls) (Ol : Old Z n0 h) (hsb : sb = 0 ∨ sb = 1) (hvm : vm0 = s.vm), own_End p e below (P0 Z i0 i1 i2 cz fm de fd el ee fe em mr h0 n0 s) (T.setTop (mkF m 11 #[.val (.int i0), .val (.int i1), .val (.int i2), .unset, .unset, .unset, .unset, .unset, .unset, .unset, .unset, .unset] [(.int sb)])) := by
    intro sb T locs h vm0 k0 X eT Nf Zs Kp szr hS hkW hZ hown Ol hsb hvm
    subst hvm
    refine own_go (fun tQ kQ => XS.istoreN X.here hx rfl (hb hby at_11) rfl (l' := #[.val (.int i0), .val (.int i1), .val (.int i2), .val (.int sb), .unset, .unset, .unset, .unset, .unset, .unset, .unset, .unset]) rfl kQ) ?_
    show own_End p e below _ (T.setTop (mkF m 12 #[.val (.int i0), .val (.int i1), .val (.int i2), .val (.int sb), .unset, .unset, .unset, .unset, .unset, .unset, .unset, .unset] []))
    refine own_go (fun tQ kQ => XS.iloadN X.here hx rfl (hb hby at_12) rfl kQ) ?_
    show own_End p e below _ (T.setTop (mkF m 13 #[.val (.int i0), .val (.int i1), .val (.int i2), .val (.int sb), .unset, .unset, .unset, .unset, .unset, .unset, .unset, .unset] [(.int i1)]))
    refine own_go (fun tQ kQ => X.ldcInt hx hown (mvT hZ (hw _ (List.mem_of_getElem? (i := 0) rfl))) (g := (mkF m 13 #[.val (.int i0), .val (.int i1), .val (.int i2), .val (.int sb), .unset, .unset, .unset, .unset, .unset, .unset, .unset, .unset] [(.int i1)])) rfl (hb hby at_13) _ kQ) ?_
    show own_End p e below _ (T.setTop (mkF m 15 #[.val (.int i0), .val (.int i1), .val (.int i2), .val (.int sb), .unset, .unset, .unset, .unset, .unset, .unset, .unset, .unset] [(.int (2147483647 : Int32)), (.int i1)]))
    refine own_go (fun tQ kQ => XS.iand X.here hx rfl (hb hby at_15) rfl kQ) ?_
    show own_End p e below _ (T.setTop (mkF m 16 #[.val (.int i0), .val (.int i1), .val (.int i2), .val (.int sb), .unset, .unset, .unset, .unset, .unset, .unset, .unset, .unset] [(.int (i1 &&& (2147483647 : Int32)))]))
    refine own_go (fun tQ kQ => XS.iconst X.here hx rfl (hb hby at_16) kQ) ?_
    show own_End p e below _ (T.setTop (mkF m 17 #[.val (.int i0), .val (.int i1), .val (.int i2), .val (.int sb), .unset, .unset, .unset, .unset, .unset, .unset, .unset, .unset] [(.int (3 : Int32)), (.int (i1 &&& (2147483647 : Int32)))]))
    refine own_go (fun tQ kQ => iremM (g := (mkF m 17 #[.val (.int i0), .val (.int i1), .val (.int i2), .val (.int sb), .unset, .unset, .unset, .unset, .unset, .unset, .unset, .unset] [(.int (3 : Int32)), (.int (i1 &&& (2147483647 : Int32)))])) X hx rfl (hb hby at_17) rfl (by decide) kQ) ?_
    show own_End p e below _ (T.setTop (mkF m 18 #[.val (.int i0), .val (.int i1), .val (.int i2), .val (.int sb), .unset, .unset, .unset, .unset, .unset, .unset, .unset, .unset] [(.int ((i1 &&& (2147483647 : Int32)) % (3 : Int32)))]))
    refine own_go (fun tQ kQ => XS.istore X.here hx rfl (hb hby at_18) rfl (l' := #[.val (.int i0), .val (.int i1), .val (.int i2), .val (.int sb), .val (.int ((i1 &&& (2147483647 : Int32)) % (3 : Int32))), .unset, .unset, .unset, .unset, .unset, .unset, .unset]) rfl kQ) ?_
    show own_End p e below _ (T.setTop (mkF m 20 #[.val (.int i0), .val (.int i1), .val (.int i2), .val (.int sb), .val (.int ((i1 &&& (2147483647 : Int32)) % (3 : Int32))), .unset, .unset, .unset, .unset, .unset, .unset, .unset] []))
    have hcn := own_cnt i1
    generalize ((i1 &&& (2147483647 : Int32)) % (3 : Int32)) = cn at hcn ⊢
    show own_End p e below _ (T.setTop (mkF m 20 #[.val (.int i0), .val (.int i1), .val (.int i2), .val (.int sb), .val (.int cn), .unset, .unset, .unset, .unset, .unset, .unset, .unset] []))
    have CH := CHr.ext (Z := Z) (EL := own_EL) (vm := s.vm) ⟨Kp.1, fun a c q => Kp.2.1 a c q nin0⟩ H0
    obtain ⟨st, T1, h1, k1, tt, kb1, X1, e1, E1, hS, hkW, hZ, hown, E_st, F_coder_st, F_value_st, Kv1, -, -, C1, -, Sf1, st1⟩ := ldcCH X hx hZ hown (hw _ (List.mem_of_getElem? (i := 1) rfl)) wS eT hS hkW hEL (List.mem_of_getElem? (i := 0) rfl) CH.1 (vs := [.int (97 : Int32), .int (99 : Int32), .int (109 : Int32), .int (101 : Int32)]) (z := (4 : Int32)) ⟨by decide, by decide⟩ (by decide) rfl (g := (mkF m 20 #[.val (.int i0), .val (.int i1), .val (.int i2), .val (.int sb), .val (.int cn), .unset, .unset, .unset, .unset, .unset, .unset, .unset] [])) rfl (hb hby at_20) (n := 16) (by decide) (by decide) (by decide) (by decide)
    have CR := CH.trans C1
    have Ol := Ol.ext E1
    have Kp := Kp.ext E1
    have Zs := Nat.le_trans Zs E1.1
    have szr := Nat.le_trans szr E1.1
    have X1 := own_pad (k' := 2) (n' := 20) X1 (by decide) (by decide)
    refine own_go (fun tQ kQ => st1 tQ kQ) ?_
    show own_End p e below _ (T1.setTop (mkF m 22 #[.val (.int i0), .val (.int i1), .val (.int i2), .val (.int sb), .val (.int cn), .unset, .unset, .unset, .unset, .unset, .unset, .unset] [(.ref st)]))
    have V_tt : own_Ar Z h1 tt .byte (4 : Int32) (fun j => .int ((fun j => ([97, 99, 109, 101] : List Int32).getD j 0) j)) := (own_Ar.of_arv Kv1).turn (fun j hj => by
      have hj' : j < 4 := hj
      have hj2 : j = 0 ∨ j = 1 ∨ j = 2 ∨ j = 3 := by omega
      rcases hj2 with rfl | rfl | rfl | rfl <;> rfl)
    obtain ⟨_, _, ⟨T2, L2, k2, n2⟩, -, X2, S2, G2, ⟨Lc2, hQ2, l2, y2, z2⟩, st2⟩ := Jvm.RoadKit.callSS X1 hx (y := (⟨"com/example/grant3/grant3/Scope", "parse", "(Ljava/lang/String;)Lcom/example/grant3/grant3/Scope;"⟩ : MethodName)) hown (mvT hZ (hw _ (List.mem_of_getElem? (i := 9) rfl))) (mvT hZ (hw _ (List.mem_of_getElem? (i := 10) rfl))) (mvT hZ (hw _ (List.mem_of_getElem? (i := 11) rfl))) (mvT hZ (hw _ (List.mem_of_getElem? (i := 12) rfl))) (by decide) (backOfS (W := 0) (rmpa l Z a0 hw [] st tt (fun j => ([97, 99, 109, 101] : List Int32).getD j 0) cz fm h1 n0 Zs E_st F_value_st F_coder_st V_tt Ol S_cs hcz S_fm rfm (by decide) (by decide) (by decide) (by decide)) hZ (hw _ (List.mem_of_getElem? (i := 12) rfl)) (hw _ (List.mem_of_getElem? (i := 11) rfl)) (by decide) (by decide)) (g := (mkF m 22 #[.val (.int i0), .val (.int i1), .val (.int i2), .val (.int sb), .val (.int cn), .unset, .unset, .unset, .unset, .unset, .unset, .unset] [(.ref st)])) rfl (by rw [hml]; rfl) (argsL := [(.ref st)]) (rest := []) (lenOf pd_44 rfl) rfl (by show 2 * 0 + _ ≤ _; exact Nat.le_of_eq rfl) (hb hby at_22) (fun _ _ => ⟨rfl, e1, (Nat.le_of_ble_eq_true rfl), (Nat.le_of_ble_eq_true rfl)⟩)
    dsimp only [Pt.U, Pt.locs, Pt.cells, Pt.slots] at X2 l2 y2 z2 st2 hQ2 S2 G2
    rw [l2, y2, z2] at X2
    obtain ⟨X2, hS, hZ, hown⟩ := rebS hS (by rw [e1]; exact hkW) X2 S2 G2 hZ hown
    have hkW : T2.heap.size ≤ T2.heap.size := Nat.le_refl _
    obtain ⟨pp, rfl, N2q, K2⟩ := hQ2
    have Nf := Fr.app Nf N2q
    have Ol := Ol.keep K2 all0
    have E_st := E_st.keep K2
    have F_value_st := F_value_st.keep K2 nin0
    have F_coder_st := F_coder_st.keep K2 nin0
    have V_tt := V_tt.keep K2 nin0
    have Kp := Kp.trans K2 all0
    have Zs := Nat.le_trans Zs K2.1
    have szr := Nat.le_trans szr K2.1
    have X2 := own_pad (k' := 5) (n' := 87) X2 (by decide) (by decide)
    refine own_go (fun tQ kQ => st2.trans kQ) ?_
    show own_End p e below _ (T2.setTop (mkF m 25 #[.val (.int i0), .val (.int i1), .val (.int i2), .val (.int sb), .val (.int cn), .unset, .unset, .unset, .unset, .unset, .unset, .unset] [(.ref pp)]))
    refine own_go (fun tQ kQ => XS.astore X2.here hx rfl (hb hby at_25) rfl rfl (l' := #[.val (.int i0), .val (.int i1), .val (.int i2), .val (.int sb), .val (.int cn), .val (.ref pp), .unset, .unset, .unset, .unset, .unset, .unset]) rfl kQ) ?_
    show own_End p e below _ (T2.setTop (mkF m 27 #[.val (.int i0), .val (.int i1), .val (.int i2), .val (.int sb), .val (.int cn), .val (.ref pp), .unset, .unset, .unset, .unset, .unset, .unset] []))
    refine own_go (fun tQ kQ => XS.iconst X2.here hx rfl (hb hby at_27) kQ) ?_
    show own_End p e below _ (T2.setTop (mkF m 28 #[.val (.int i0), .val (.int i1), .val (.int i2), .val (.int sb), .val (.int cn), .val (.ref pp), .unset, .unset, .unset, .unset, .unset, .unset] [(.int (1 : Int32))]))
    obtain ⟨T3, h3, k3, X3, e3, E3, A3, st3⟩ := newP X2 hx hZ (hw _ (List.mem_of_getElem? (i := 82) rfl)) rfl (g := (mkF m 28 #[.val (.int i0), .val (.int i1), .val (.int i2), .val (.int sb), .val (.int cn), .val (.ref pp), .unset, .unset, .unset, .unset, .unset, .unset] [(.int (1 : Int32))])) rfl (hb hby at_28) rfl (by decide) (cap := 1) (by decide) (by decide) (by decide) (by decide)
    obtain ⟨ca, g3⟩ : ∃ z, z = T2.heap.size := ⟨_, rfl⟩
    rw [← g3] at A3 st3
    have g_ca : n0 ≤ ca := Nat.le_trans Zs (Nat.le_of_eq g3.symm)
    have sz_ca : h0.size ≤ ca := Nat.le_trans szr (Nat.le_of_eq g3.symm)
    have Ol := Ol.ext E3
    have Kp := Kp.ext E3
    have Zs := Nat.le_trans Zs E3.1
    have szr := Nat.le_trans szr E3.1
    have hkW := Nat.le_trans hkW E3.1
    have V_ca : own_Ar Z h3 ca .char (1 : Int32) (fun _ => (.int (0 : Int32))) := own_Ar.new A3 (by decide)
    have X3 := own_pad (k' := 6) (n' := 88) X3 (by decide) (by decide)
    refine own_go (fun tQ kQ => st3 tQ kQ) ?_
    show own_End p e below _ (T3.setTop (mkF m 30 #[.val (.int i0), .val (.int i1), .val (.int i2), .val (.int sb), .val (.int cn), .val (.ref pp), .unset, .unset, .unset, .unset, .unset, .unset] [(.ref ca)]))
    refine own_go (fun tQ kQ => XS.astore X3.here hx rfl (hb hby at_30) rfl rfl (l' := #[.val (.int i0), .val (.int i1), .val (.int i2), .val (.int sb), .val (.int cn), .val (.ref pp), .val (.ref ca), .unset, .unset, .unset, .unset, .unset]) rfl kQ) ?_
    show own_End p e below _ (T3.setTop (mkF m 32 #[.val (.int i0), .val (.int i1), .val (.int i2), .val (.int sb), .val (.int cn), .val (.ref pp), .val (.ref ca), .unset, .unset, .unset, .unset, .unset] []))
    refine own_go (fun tQ kQ => XS.aload X3.here hx rfl (hb hby at_32) rfl rfl kQ) ?_
    show own_End p e below _ (T3.setTop (mkF m 34 #[.val (.int i0), .val (.int i1), .val (.int i2), .val (.int sb), .val (.int cn), .val (.ref pp), .val (.ref ca), .unset, .unset, .unset, .unset, .unset] [(.ref ca)]))
    refine own_go (fun tQ kQ => XS.iconst X3.here hx rfl (hb hby at_34) kQ) ?_
    show own_End p e below _ (T3.setTop (mkF m 35 #[.val (.int i0), .val (.int i1), .val (.int i2), .val (.int sb), .val (.int cn), .val (.ref pp), .val (.ref ca), .unset, .unset, .unset, .unset, .unset] [(.int (0 : Int32)), (.ref ca)]))
    refine own_go (fun tQ kQ => XS.iloadN X3.here hx rfl (hb hby at_35) rfl kQ) ?_
    show own_End p e below _ (T3.setTop (mkF m 36 #[.val (.int i0), .val (.int i1), .val (.int i2), .val (.int sb), .val (.int cn), .val (.ref pp), .val (.ref ca), .unset, .unset, .unset, .unset, .unset] [(.int i2), (.int (0 : Int32)), (.ref ca)]))
    refine own_go (fun tQ kQ => XS.sipush X3.here hx rfl (hb hby at_36) kQ) ?_
    show own_End p e below _ (T3.setTop (mkF m 39 #[.val (.int i0), .val (.int i1), .val (.int i2), .val (.int sb), .val (.int cn), .val (.ref pp), .val (.ref ca), .unset, .unset, .unset, .unset, .unset] [(.int (255 : Int32)), (.int i2), (.int (0 : Int32)), (.ref ca)]))
    refine own_go (fun tQ kQ => XS.iand X3.here hx rfl (hb hby at_39) rfl kQ) ?_
    show own_End p e below _ (T3.setTop (mkF m 40 #[.val (.int i0), .val (.int i1), .val (.int i2), .val (.int sb), .val (.int cn), .val (.ref pp), .val (.ref ca), .unset, .unset, .unset, .unset, .unset] [(.int (i2 &&& (255 : Int32))), (.int (0 : Int32)), (.ref ca)]))
    refine own_go (fun tQ kQ => XS.i2c X3.here hx rfl (hb hby at_40) rfl kQ) ?_
    show own_End p e below _ (T3.setTop (mkF m 41 #[.val (.int i0), .val (.int i1), .val (.int i2), .val (.int sb), .val (.int cn), .val (.ref pp), .val (.ref ca), .unset, .unset, .unset, .unset, .unset] [(.int ((i2 &&& (255 : Int32)).toUInt32.toUInt16.toUInt32.toInt32)), (.int (0 : Int32)), (.ref ca)]))
    obtain ⟨cl4, Ar4, S4, M4, H4⟩ := id V_ca
    have hin4 := inb_of (j := (0 : Int32)) S4 ⟨(by decide), (by decide)⟩
    obtain ⟨T5, h5, X5, e5, W5, st5⟩ := stC X3 hx hZ e3 Ar4 (j := (0 : Int32)) hin4 (g := (mkF m 41 #[.val (.int i0), .val (.int i1), .val (.int i2), .val (.int sb), .val (.int cn), .val (.ref pp), .val (.ref ca), .unset, .unset, .unset, .unset, .unset] [(.int ((i2 &&& (255 : Int32)).toUInt32.toUInt16.toUInt32.toInt32)), (.int (0 : Int32)), (.ref ca)])) rfl rfl (hb hby at_41)
    have V_ca := own_Ar_set Ar4 S4 M4 H4 W5
    have Ol := Ol.wr W5 g_ca
    have Kp := Kp.wr W5 (Or.inr sz_ca)
    have Nf := Fr.snoc X5 Nf g_ca
    have Zs := Nat.le_trans Zs (Keep.of_wr W5).1
    have szr := Nat.le_trans szr (Keep.of_wr W5).1
    have hkW := Nat.le_trans hkW (Keep.of_wr W5).1
    refine own_go (fun tQ kQ => st5 tQ kQ) ?_
    show own_End p e below _ (T5.setTop (mkF m 42 #[.val (.int i0), .val (.int i1), .val (.int i2), .val (.int sb), .val (.int cn), .val (.ref pp), .val (.ref ca), .unset, .unset, .unset, .unset, .unset] []))
    obtain ⟨c0, hc0, ec0⟩ := own_role i2
    obtain ⟨T6, h6, X6, e6, E6, A6, D6, -, st6⟩ := newO X5 hx hZ hown (hw _ (List.mem_of_getElem? (i := 83) rfl)) (hw _ (List.mem_of_getElem? (i := 3) rfl)) (hw _ (List.mem_of_getElem? (i := 2) rfl)) e5 (g := (mkF m 42 #[.val (.int i0), .val (.int i1), .val (.int i2), .val (.int sb), .val (.int cn), .val (.ref pp), .val (.ref ca), .unset, .unset, .unset, .unset, .unset] [])) rfl (hb hby at_42) (by decide) (by decide)
    obtain ⟨ro, g6⟩ : ∃ z, z = h5.size := ⟨_, rfl⟩
    rw [← g6] at A6 D6 st6
    have ne_ca_ro : ca ≠ ro := Nat.ne_of_lt (Nat.lt_of_lt_of_le V_ca.lt (Nat.le_of_eq g6.symm))
    have g_ro : n0 ≤ ro := Nat.le_trans Zs (Nat.le_of_eq g6.symm)
    have sz_ro : h0.size ≤ ro := Nat.le_trans szr (Nat.le_of_eq g6.symm)
    have Ol := Ol.ext E6
    have V_ca := V_ca.ext E6
    have Kp := Kp.ext E6
    have Zs := Nat.le_trans Zs E6.1
    have szr := Nat.le_trans szr E6.1
    have hkW := Nat.le_trans hkW E6.1
    have E_ro := A6
    have F_value_ro : Fld Z h6 ro "java/lang/String" "value" "[B" .null := D6 (Or.inr (hw _ (List.mem_of_getElem? (i := 5) rfl))) (ty := (.array .byte)) (by decide)
    have F_coder_ro : Fld Z h6 ro "java/lang/String" "coder" "B" (.int (0 : Int32)) := D6 (Or.inr (hw _ (List.mem_of_getElem? (i := 6) rfl))) (ty := .byte) (by decide)
    have X6 := own_pad (k' := 7) (n' := 92) X6 (by decide) (by decide)
    refine own_go (fun tQ kQ => st6 tQ kQ) ?_
    show own_End p e below _ (T6.setTop (mkF m 45 #[.val (.int i0), .val (.int i1), .val (.int i2), .val (.int sb), .val (.int cn), .val (.ref pp), .val (.ref ca), .unset, .unset, .unset, .unset, .unset] [(.ref ro)]))
    refine own_go (fun tQ kQ => XS.dup X6.here hx rfl (hb hby at_45) rfl rfl kQ) ?_
    show own_End p e below _ (T6.setTop (mkF m 46 #[.val (.int i0), .val (.int i1), .val (.int i2), .val (.int sb), .val (.int cn), .val (.ref pp), .val (.ref ca), .unset, .unset, .unset, .unset, .unset] [(.ref ro), (.ref ro)]))
    refine own_go (fun tQ kQ => XS.aload X6.here hx rfl (hb hby at_46) rfl rfl kQ) ?_
    show own_End p e below _ (T6.setTop (mkF m 48 #[.val (.int i0), .val (.int i1), .val (.int i2), .val (.int sb), .val (.int cn), .val (.ref pp), .val (.ref ca), .unset, .unset, .unset, .unset, .unset] [(.ref ca), (.ref ro), (.ref ro)]))
    obtain ⟨kca, V_ca⟩ := V_ca.arv (vs := ([c0] : List Int32).map Value.int) (d := .int (0 : Int32)) (fun j hj => by
      have hj' : j < 1 := hj
      have hj2 : j = 0 := by omega
      subst hj2
      exact congrArg Value.int ec0) (fun j hj => by
      have hj' : j < 1 := hj
      have hj2 : j = 0 := by omega
      subst hj2
      exact own_fit hc0)
    have hcc : ∀ c ∈ ([c0] : List Int32), own_c c := by
      intro c hc
      simp only [List.mem_cons, List.not_mem_nil, or_false] at hc
      subst hc; exact hc0
    obtain ⟨_, _, ⟨T7, L7, k7, n7⟩, -, X7, ⟨Lc7, hQ7, l7, y7, z7⟩, st7⟩ := X6.specialBack hx (y := (⟨"java/lang/String", "<init>", "([C)V"⟩ : MethodName)) rfl hown (mvT hZ (hw _ (List.mem_of_getElem? (i := 84) rfl))) (mvT hZ (hw _ (List.mem_of_getElem? (i := 85) rfl))) (mvT hZ (hw _ (List.mem_of_getElem? (i := 86) rfl))) (by decide) (StrChars.Road.backV (W := 1) hZ hws (kI := 4) (hw _ (List.mem_of_getElem? (i := 3) rfl)) (cs := ([c0] : List Int32)) (bs := ([c0] : List Int32).map (fun c => c.toInt8.toInt32)) (n := 1) g_ro Zs E_ro F_value_ro F_coder_ro V_ca (S_cs.ext Ol.2) hcz rfl rfl (by decide) (by decide) hcc rfl (by decide) (by decide)) (g := (mkF m 48 #[.val (.int i0), .val (.int i1), .val (.int i2), .val (.int sb), .val (.int cn), .val (.ref pp), .val (.ref ca), .unset, .unset, .unset, .unset, .unset] [(.ref ca), (.ref ro), (.ref ro)])) rfl (by rw [hml]; rfl) (Steps.refl _) (a := ro) (argsL := [(.ref ca)]) (rest := [(.ref ro)]) (lenOf pd_45 rfl) rfl (by show 2 * 0 + _ ≤ _; exact Nat.le_of_eq rfl) (hb hby at_48) (fun _ _ => ⟨rfl, e6, (Nat.le_of_ble_eq_true rfl), (Nat.le_of_ble_eq_true rfl)⟩)
    dsimp only [Pt.U, Pt.locs, Pt.cells, Pt.slots] at X7 l7 y7 z7 st7 hQ7
    rw [l7, y7, z7] at X7
    obtain ⟨rfl, N7q, K7, -, -, tt, kb, -, hb7, -, -, Kv⟩ := hQ7
    have Nf := Fr.app Nf N7q
    have Ol := Ol.keep K7 (allS g_ro all0)
    have E_ro := E_ro.keep K7
    have V_ca := V_ca.keep K7 (ninS ne_ca_ro nin0)
    have Kp := Kp.trans K7 (allS (Or.inr sz_ro) all0)
    have Zs := Nat.le_trans Zs K7.1
    have szr := Nat.le_trans szr K7.1
    have hkW := Nat.le_trans hkW K7.1
    have X7 := own_pad (k' := 8) (n' := 93) X7 (by decide) (by decide)
    refine own_go (fun tQ kQ => st7.trans kQ) ?_
    show own_End p e below _ (T7.setTop (mkF m 51 #[.val (.int i0), .val (.int i1), .val (.int i2), .val (.int sb), .val (.int cn), .val (.ref pp), .val (.ref ca), .unset, .unset, .unset, .unset, .unset] [(.ref ro)]))
    refine own_go (fun tQ kQ => XS.astore X7.here hx rfl (hb hby at_51) rfl rfl (l' := #[.val (.int i0), .val (.int i1), .val (.int i2), .val (.int sb), .val (.int cn), .val (.ref pp), .val (.ref ca), .val (.ref ro), .unset, .unset, .unset, .unset]) rfl kQ) ?_
    show own_End p e below _ (T7.setTop (mkF m 53 #[.val (.int i0), .val (.int i1), .val (.int i2), .val (.int sb), .val (.int cn), .val (.ref pp), .val (.ref ca), .val (.ref ro), .unset, .unset, .unset, .unset] []))
    obtain ⟨T8, h8, X8, e8, E8, A8, D8, -, st8⟩ := newO X7 hx hZ hown (hw _ (List.mem_of_getElem? (i := 102) rfl)) (hw _ (List.mem_of_getElem? (i := 103) rfl)) (hw _ (List.mem_of_getElem? (i := 104) rfl)) rfl (g := (mkF m 53 #[.val (.int i0), .val (.int i1), .val (.int i2), .val (.int sb), .val (.int cn), .val (.ref pp), .val (.ref ca), .val (.ref ro), .unset, .unset, .unset, .unset] [])) rfl (hb hby at_53) (by decide) (by decide)
    obtain ⟨rr, g8⟩ : ∃ z, z = T7.heap.size := ⟨_, rfl⟩
    rw [← g8] at A8 D8 st8
    have g_rr : n0 ≤ rr := Nat.le_trans Zs (Nat.le_of_eq g8.symm)
    have sz_rr : h0.size ≤ rr := Nat.le_trans szr (Nat.le_of_eq g8.symm)
    have Ol := Ol.ext E8
    have Kp := Kp.ext E8
    have Zs := Nat.le_trans Zs E8.1
    have szr := Nat.le_trans szr E8.1
    have hkW := Nat.le_trans hkW E8.1
    have E_rr := A8
    have F_role_rr : Fld Z h8 rr "com/example/grant3/grant3/Explanation$Reason" "role" "Ljava/lang/String;" .null := D8 (Or.inr (hw _ (List.mem_of_getElem? (i := 171) rfl))) (ty := (.object "java/lang/String")) (by decide)
    have F_scope_rr : Fld Z h8 rr "com/example/grant3/grant3/Explanation$Reason" "scope" "Lcom/example/grant3/grant3/Scope;" .null := D8 (Or.inr (hw _ (List.mem_of_getElem? (i := 173) rfl))) (ty := (.object "com/example/grant3/grant3/Scope")) (by decide)
    have F_chain_rr : Fld Z h8 rr "com/example/grant3/grant3/Explanation$Reason" "chain" "Ljava/util/List;" .null := D8 (Or.inr (hw _ (List.mem_of_getElem? (i := 175) rfl))) (ty := (.object "java/util/List")) (by decide)
    have X8 := own_pad (k' := 9) (n' := 96) X8 (by decide) (by decide)
    refine own_go (fun tQ kQ => st8 tQ kQ) ?_
    show own_End p e below _ (T8.setTop (mkF m 56 #[.val (.int i0), .val (.int i1), .val (.int i2), .val (.int sb), .val (.int cn), .val (.ref pp), .val (.ref ca), .val (.ref ro), .unset, .unset, .unset, .unset] [(.ref rr)]))
    refine own_go (fun tQ kQ => XS.dup X8.here hx rfl (hb hby at_56) rfl rfl kQ) ?_
    show own_End p e below _ (T8.setTop (mkF m 57 #[.val (.int i0), .val (.int i1), .val (.int i2), .val (.int sb), .val (.int cn), .val (.ref pp), .val (.ref ca), .val (.ref ro), .unset, .unset, .unset, .unset] [(.ref rr), (.ref rr)]))
    refine own_go (fun tQ kQ => XS.aload X8.here hx rfl (hb hby at_57) rfl rfl kQ) ?_
    show own_End p e below _ (T8.setTop (mkF m 59 #[.val (.int i0), .val (.int i1), .val (.int i2), .val (.int sb), .val (.int cn), .val (.ref pp), .val (.ref ca), .val (.ref ro), .unset, .unset, .unset, .unset] [(.ref ro), (.ref rr), (.ref rr)]))
    refine own_go (fun tQ kQ => XS.aload X8.here hx rfl (hb hby at_59) rfl rfl kQ) ?_
    show own_End p e below _ (T8.setTop (mkF m 61 #[.val (.int i0), .val (.int i1), .val (.int i2), .val (.int sb), .val (.int cn), .val (.ref pp), .val (.ref ca), .val (.ref ro), .unset, .unset, .unset, .unset] [(.ref pp), (.ref ro), (.ref rr), (.ref rr)]))
    obtain ⟨T9, h9, X9, e9, E9, A9, D9, -, st9⟩ := newO X8 hx hZ hown (hw _ (List.mem_of_getElem? (i := 105) rfl)) (hw _ (List.mem_of_getElem? (i := 106) rfl)) (hw _ (List.mem_of_getElem? (i := 107) rfl)) e8 (g := (mkF m 61 #[.val (.int i0), .val (.int i1), .val (.int i2), .val (.int sb), .val (.int cn), .val (.ref pp), .val (.ref ca), .val (.ref ro), .unset, .unset, .unset, .unset] [(.ref pp), (.ref ro), (.ref rr), (.ref rr)])) rfl (hb hby at_61) (by decide) (by decide)
    obtain ⟨l1, g9⟩ : ∃ z, z = h8.size := ⟨_, rfl⟩
    rw [← g9] at A9 D9 st9
    have ne_rr_l1 : rr ≠ l1 := Nat.ne_of_lt (Nat.lt_of_lt_of_le E_rr.lt (Nat.le_of_eq g9.symm))
    have g_l1 : n0 ≤ l1 := Nat.le_trans Zs (Nat.le_of_eq g9.symm)
    have sz_l1 : h0.size ≤ l1 := Nat.le_trans szr (Nat.le_of_eq g9.symm)
    have Ol := Ol.ext E9
    have E_rr := E_rr.ext E9
    have F_role_rr := F_role_rr.ext E9
    have F_scope_rr := F_scope_rr.ext E9
    have F_chain_rr := F_chain_rr.ext E9
    have Kp := Kp.ext E9
    have Zs := Nat.le_trans Zs E9.1
    have szr := Nat.le_trans szr E9.1
    have hkW := Nat.le_trans hkW E9.1
    have E_l1 := A9
    have F_modCount_l1 : Fld Z h9 l1 "java/util/AbstractList" "modCount" "I" (.int (0 : Int32)) := D9 (Or.inl (hw _ (List.mem_of_getElem? (i := 125) rfl))) (ty := .int) (by decide)
    have F_elementData_l1 : Fld Z h9 l1 "java/util/ArrayList" "elementData" "[Ljava/lang/Object;" .null := D9 (Or.inl (hw _ (List.mem_of_getElem? (i := 128) rfl))) (ty := (.array (.object "java/lang/Object"))) (by decide)
    have F_size_l1 : Fld Z h9 l1 "java/util/ArrayList" "size" "I" (.int (0 : Int32)) := D9 (Or.inl (hw _ (List.mem_of_getElem? (i := 165) rfl))) (ty := .int) (by decide)
    have X9 := own_pad (k' := 10) (n' := 99) X9 (by decide) (by decide)
    refine own_go (fun tQ kQ => st9 tQ kQ) ?_
    show own_End p e below _ (T9.setTop (mkF m 64 #[.val (.int i0), .val (.int i1), .val (.int i2), .val (.int sb), .val (.int cn), .val (.ref pp), .val (.ref ca), .val (.ref ro), .unset, .unset, .unset, .unset] [(.ref l1), (.ref pp), (.ref ro), (.ref rr), (.ref rr)]))
    refine own_go (fun tQ kQ => XS.dup X9.here hx rfl (hb hby at_64) rfl rfl kQ) ?_
    show own_End p e below _ (T9.setTop (mkF m 65 #[.val (.int i0), .val (.int i1), .val (.int i2), .val (.int sb), .val (.int cn), .val (.ref pp), .val (.ref ca), .val (.ref ro), .unset, .unset, .unset, .unset] [(.ref l1), (.ref l1), (.ref pp), (.ref ro), (.ref rr), (.ref rr)]))
    obtain ⟨_, _, ⟨T10, L10, k10, n10⟩, -, X10, ⟨Lc10, hQ10, l10, y10, z10⟩, st10⟩ := X9.specialBack hx (y := (⟨"java/util/ArrayList", "<init>", "()V"⟩ : MethodName)) rfl hown (mvT hZ (hw _ (List.mem_of_getElem? (i := 108) rfl))) (mvT hZ (hw _ (List.mem_of_getElem? (i := 109) rfl))) (mvT hZ (hw _ (List.mem_of_getElem? (i := 110) rfl))) (by decide) (backOf (W := 5) (rmAlI l Z a0 hw [] l1 de h9 n0 Zs E_l1 F_modCount_l1 F_elementData_l1 F_size_l1 g_l1 Ol S_de) hZ (hw _ (List.mem_of_getElem? (i := 110) rfl)) (hw _ (List.mem_of_getElem? (i := 107) rfl)) (by decide) (by decide)) (g := (mkF m 65 #[.val (.int i0), .val (.int i1), .val (.int i2), .val (.int sb), .val (.int cn), .val (.ref pp), .val (.ref ca), .val (.ref ro), .unset, .unset, .unset, .unset] [(.ref l1), (.ref l1), (.ref pp), (.ref ro), (.ref rr), (.ref rr)])) rfl (by rw [hml]; rfl) (Steps.refl _) (a := l1) (argsL := []) (rest := [(.ref l1), (.ref pp), (.ref ro), (.ref rr), (.ref rr)]) (lenOf pd_2 rfl) rfl (by show 2 * 0 + _ ≤ _; exact Nat.le_of_eq rfl) (hb hby at_65) (fun _ _ => ⟨rfl, e9, (Nat.le_of_ble_eq_true rfl), (Nat.le_of_ble_eq_true rfl)⟩)
    dsimp only [Pt.U, Pt.locs, Pt.cells, Pt.slots] at X10 l10 y10 z10 st10 hQ10
    rw [l10, y10, z10] at X10
    obtain ⟨rfl, N10q, K10, F_modCount_l1, F_elementData_l1, F_size_l1⟩ := hQ10
    have Nf := Fr.app Nf N10q
    have Ol := Ol.keep K10 (allS g_l1 all0)
    have E_rr := E_rr.keep K10
    have F_role_rr := F_role_rr.keep K10 (ninS ne_rr_l1 nin0)
    have F_scope_rr := F_scope_rr.keep K10 (ninS ne_rr_l1 nin0)
    have F_chain_rr := F_chain_rr.keep K10 (ninS ne_rr_l1 nin0)
    have E_l1 := E_l1.keep K10
    have Kp := Kp.trans K10 (allS (Or.inr sz_l1) all0)
    have Zs := Nat.le_trans Zs K10.1
    have szr := Nat.le_trans szr K10.1
    have hkW := Nat.le_trans hkW K10.1
    have X10 := own_pad (k' := 10) (n' := 99) X10 (by decide) (by decide)
    refine own_go (fun tQ kQ => st10.trans kQ) ?_
    show own_End p e below _ (T10.setTop (mkF m 68 #[.val (.int i0), .val (.int i1), .val (.int i2), .val (.int sb), .val (.int cn), .val (.ref pp), .val (.ref ca), .val (.ref ro), .unset, .unset, .unset, .unset] [(.ref l1), (.ref pp), (.ref ro), (.ref rr), (.ref rr)]))
    obtain ⟨_, _, ⟨T11, L11, k11, n11⟩, -, X11, S11, G11, ⟨Lc11, hQ11, l11, y11, z11⟩, st11⟩ := X10.specialBackS hx (y := (⟨"com/example/grant3/grant3/Explanation$Reason", "<init>", "(Ljava/lang/String;Lcom/example/grant3/grant3/Scope;Ljava/util/List;)V"⟩ : MethodName)) rfl hown (mvT hZ (hw _ (List.mem_of_getElem? (i := 129) rfl))) (mvT hZ (hw _ (List.mem_of_getElem? (i := 130) rfl))) (mvT hZ (hw _ (List.mem_of_getElem? (i := 131) rfl))) (by decide) (backOfS (W := 1) (rmri l Z a0 hw [] rr ro pp l1 el T10.heap n0 Zs E_rr F_role_rr F_scope_rr F_chain_rr g_rr E_l1 F_size_l1 Ol S_el) hZ (hw _ (List.mem_of_getElem? (i := 131) rfl)) (hw _ (List.mem_of_getElem? (i := 104) rfl)) (by decide) (by decide)) (g := (mkF m 68 #[.val (.int i0), .val (.int i1), .val (.int i2), .val (.int sb), .val (.int cn), .val (.ref pp), .val (.ref ca), .val (.ref ro), .unset, .unset, .unset, .unset] [(.ref l1), (.ref pp), (.ref ro), (.ref rr), (.ref rr)])) rfl (by rw [hml]; rfl) (Steps.refl _) (a := rr) (argsL := [(.ref ro), (.ref pp), (.ref l1)]) (rest := [(.ref rr)]) (lenOf pd_46 rfl) rfl (by show 2 * 0 + _ ≤ _; exact Nat.le_of_eq rfl) (hb hby at_68) (fun _ _ => ⟨rfl, rfl, (Nat.le_of_ble_eq_true rfl), (Nat.le_of_ble_eq_true rfl)⟩)
    dsimp only [Pt.U, Pt.locs, Pt.cells, Pt.slots] at X11 l11 y11 z11 st11 hQ11 S11 G11
    rw [l11, y11, z11] at X11
    obtain ⟨X11, hS, hZ, hown⟩ := rebS hS hkW X11 S11 G11 hZ hown
    have hkW : T11.heap.size ≤ T11.heap.size := Nat.le_refl _
    obtain ⟨rfl, N11q, K11⟩ := hQ11
    have Nf := Fr.app Nf N11q
    have Ol := Ol.keep K11 (allS g_rr all0)
    have E_rr := E_rr.keep K11
    have E_l1 := E_l1.keep K11
    have F_modCount_l1 := F_modCount_l1.keep K11 (ninS (Ne.symm ne_rr_l1) nin0)
    have F_elementData_l1 := F_elementData_l1.keep K11 (ninS (Ne.symm ne_rr_l1) nin0)
    have F_size_l1 := F_size_l1.keep K11 (ninS (Ne.symm ne_rr_l1) nin0)
    have Kp := Kp.trans K11 (allS (Or.inr sz_rr) all0)
    have Zs := Nat.le_trans Zs K11.1
    have szr := Nat.le_trans szr K11.1
    have X11 := own_pad (k' := 14) (n' := 195) X11 (by decide) (by decide)
    refine own_go (fun tQ kQ => st11.trans kQ) ?_
    show own_End p e below _ (T11.setTop (mkF m 71 #[.val (.int i0), .val (.int i1), .val (.int i2), .val (.int sb), .val (.int cn), .val (.ref pp), .val (.ref ca), .val (.ref ro), .unset, .unset, .unset, .unset] [(.ref rr)]))
    refine own_go (fun tQ kQ => XS.astore X11.here hx rfl (hb hby at_71) rfl rfl (l' := #[.val (.int i0), .val (.int i1), .val (.int i2), .val (.int sb), .val (.int cn), .val (.ref pp), .val (.ref ca), .val (.ref ro), .val (.ref rr), .unset, .unset, .unset]) rfl kQ) ?_
    show own_End p e below _ (T11.setTop (mkF m 73 #[.val (.int i0), .val (.int i1), .val (.int i2), .val (.int sb), .val (.int cn), .val (.ref pp), .val (.ref ca), .val (.ref ro), .val (.ref rr), .unset, .unset, .unset] []))
    obtain ⟨T12, h12, X12, e12, E12, A12, D12, -, st12⟩ := newO X11 hx hZ hown (hw _ (List.mem_of_getElem? (i := 105) rfl)) (hw _ (List.mem_of_getElem? (i := 106) rfl)) (hw _ (List.mem_of_getElem? (i := 107) rfl)) rfl (g := (mkF m 73 #[.val (.int i0), .val (.int i1), .val (.int i2), .val (.int sb), .val (.int cn), .val (.ref pp), .val (.ref ca), .val (.ref ro), .val (.ref rr), .unset, .unset, .unset] [])) rfl (hb hby at_73) (by decide) (by decide)
    obtain ⟨al, g12⟩ : ∃ z, z = T11.heap.size := ⟨_, rfl⟩
    rw [← g12] at A12 D12 st12
    have ne_rr_al : rr ≠ al := Nat.ne_of_lt (Nat.lt_of_lt_of_le E_rr.lt (Nat.le_of_eq g12.symm))
    have g_al : n0 ≤ al := Nat.le_trans Zs (Nat.le_of_eq g12.symm)
    have sz_al : h0.size ≤ al := Nat.le_trans szr (Nat.le_of_eq g12.symm)
    have Ol := Ol.ext E12
    have E_rr := E_rr.ext E12
    have Kp := Kp.ext E12
    have Zs := Nat.le_trans Zs E12.1
    have szr := Nat.le_trans szr E12.1
    have hkW := Nat.le_trans hkW E12.1
    have E_al := A12
    have F_modCount_al : Fld Z h12 al "java/util/AbstractList" "modCount" "I" (.int (0 : Int32)) := D12 (Or.inl (hw _ (List.mem_of_getElem? (i := 125) rfl))) (ty := .int) (by decide)
    have F_elementData_al : Fld Z h12 al "java/util/ArrayList" "elementData" "[Ljava/lang/Object;" .null := D12 (Or.inl (hw _ (List.mem_of_getElem? (i := 128) rfl))) (ty := (.array (.object "java/lang/Object"))) (by decide)
    have F_size_al : Fld Z h12 al "java/util/ArrayList" "size" "I" (.int (0 : Int32)) := D12 (Or.inl (hw _ (List.mem_of_getElem? (i := 165) rfl))) (ty := .int) (by decide)
    have X12 := own_pad (k' := 15) (n' := 198) X12 (by decide) (by decide)
    refine own_go (fun tQ kQ => st12 tQ kQ) ?_
    show own_End p e below _ (T12.setTop (mkF m 76 #[.val (.int i0), .val (.int i1), .val (.int i2), .val (.int sb), .val (.int cn), .val (.ref pp), .val (.ref ca), .val (.ref ro), .val (.ref rr), .unset, .unset, .unset] [(.ref al)]))
    refine own_go (fun tQ kQ => XS.dup X12.here hx rfl (hb hby at_76) rfl rfl kQ) ?_
    show own_End p e below _ (T12.setTop (mkF m 77 #[.val (.int i0), .val (.int i1), .val (.int i2), .val (.int sb), .val (.int cn), .val (.ref pp), .val (.ref ca), .val (.ref ro), .val (.ref rr), .unset, .unset, .unset] [(.ref al), (.ref al)]))
    obtain ⟨_, _, ⟨T13, L13, k13, n13⟩, -, X13, ⟨Lc13, hQ13, l13, y13, z13⟩, st13⟩ := X12.specialBack hx (y := (⟨"java/util/ArrayList", "<init>", "()V"⟩ : MethodName)) rfl hown (mvT hZ (hw _ (List.mem_of_getElem? (i := 108) rfl))) (mvT hZ (hw _ (List.mem_of_getElem? (i := 109) rfl))) (mvT hZ (hw _ (List.mem_of_getElem? (i := 110) rfl))) (by decide) (backOf (W := 1) (rmAlI l Z a0 hw [] al de h12 n0 Zs E_al F_modCount_al F_elementData_al F_size_al g_al Ol S_de) hZ (hw _ (List.mem_of_getElem? (i := 110) rfl)) (hw _ (List.mem_of_getElem? (i := 107) rfl)) (by decide) (by decide)) (g := (mkF m 77 #[.val (.int i0), .val (.int i1), .val (.int i2), .val (.int sb), .val (.int cn), .val (.ref pp), .val (.ref ca), .val (.ref ro), .val (.ref rr), .unset, .unset, .unset] [(.ref al), (.ref al)])) rfl (by rw [hml]; rfl) (Steps.refl _) (a := al) (argsL := []) (rest := [(.ref al)]) (lenOf pd_2 rfl) rfl (by show 2 * 0 + _ ≤ _; exact Nat.le_of_eq rfl) (hb hby at_77) (fun _ _ => ⟨rfl, e12, (Nat.le_of_ble_eq_true rfl), (Nat.le_of_ble_eq_true rfl)⟩)
    dsimp only [Pt.U, Pt.locs, Pt.cells, Pt.slots] at X13 l13 y13 z13 st13 hQ13
    rw [l13, y13, z13] at X13
    obtain ⟨rfl, N13q, K13, F_modCount_al, F_elementData_al, F_size_al⟩ := hQ13
    have Nf := Fr.app Nf N13q
    have Ol := Ol.keep K13 (allS g_al all0)
    have E_rr := E_rr.keep K13
    have E_al := E_al.keep K13
    have Kp := Kp.trans K13 (allS (Or.inr sz_al) all0)
    have Zs := Nat.le_trans Zs K13.1
    have szr := Nat.le_trans szr K13.1
    have hkW := Nat.le_trans hkW K13.1
    have X13 := own_pad (k' := 15) (n' := 198) X13 (by decide) (by decide)
    refine own_go (fun tQ kQ => st13.trans kQ) ?_
    show own_End p e below _ (T13.setTop (mkF m 80 #[.val (.int i0), .val (.int i1), .val (.int i2), .val (.int sb), .val (.int cn), .val (.ref pp), .val (.ref ca), .val (.ref ro), .val (.ref rr), .unset, .unset, .unset] [(.ref al)]))
    refine own_go (fun tQ kQ => XS.astore X13.here hx rfl (hb hby at_80) rfl rfl (l' := #[.val (.int i0), .val (.int i1), .val (.int i2), .val (.int sb), .val (.int cn), .val (.ref pp), .val (.ref ca), .val (.ref ro), .val (.ref rr), .val (.ref al), .unset, .unset]) rfl kQ) ?_
    show own_End p e below _ (T13.setTop (mkF m 82 #[.val (.int i0), .val (.int i1), .val (.int i2), .val (.int sb), .val (.int cn), .val (.ref pp), .val (.ref ca), .val (.ref ro), .val (.ref rr), .val (.ref al), .unset, .unset] []))
    rcases hcn with hcn | hcn | hcn
    ·
      rw [hcn]
      show own_End p e below _ (T13.setTop (mkF m 82 #[.val (.int i0), .val (.int i1), .val (.int i2), .val (.int sb), .val (.int (0 : Int32)), .val (.ref pp), .val (.ref ca), .val (.ref ro), .val (.ref rr), .val (.ref al), .unset, .unset] []))
      refine own_go (fun tQ kQ => XS.iload X13.here hx rfl (hb hby at_82) rfl kQ) ?_
      show own_End p e below _ (T13.setTop (mkF m 84 #[.val (.int i0), .val (.int i1), .val (.int i2), .val (.int sb), .val (.int (0 : Int32)), .val (.ref pp), .val (.ref ca), .val (.ref ro), .val (.ref rr), .val (.ref al), .unset, .unset] [(.int (0 : Int32))]))
      refine own_go (fun tQ kQ => XS.iconst X13.here hx rfl (hb hby at_84) kQ) ?_
      show own_End p e below _ (T13.setTop (mkF m 85 #[.val (.int i0), .val (.int i1), .val (.int i2), .val (.int sb), .val (.int (0 : Int32)), .val (.ref pp), .val (.ref ca), .val (.ref ro), .val (.ref rr), .val (.ref al), .unset, .unset] [(.int (1 : Int32)), (.int (0 : Int32))]))
      refine own_go (fun tQ kQ => XS.icmpYes X13.here hx rfl (pc0 := 85) (pc' := 96) rfl (hb hby at_85) rfl (tlt (by decide)).1 (by decide) (by decide) kQ) ?_
      show own_End p e below _ (T13.setTop (mkF m 96 #[.val (.int i0), .val (.int i1), .val (.int i2), .val (.int sb), .val (.int (0 : Int32)), .val (.ref pp), .val (.ref ca), .val (.ref ro), .val (.ref rr), .val (.ref al), .unset, .unset] []))
      refine own_go (fun tQ kQ => XS.iload X13.here hx rfl (hb hby at_96) rfl kQ) ?_
      show own_End p e below _ (T13.setTop (mkF m 98 #[.val (.int i0), .val (.int i1), .val (.int i2), .val (.int sb), .val (.int (0 : Int32)), .val (.ref pp), .val (.ref ca), .val (.ref ro), .val (.ref rr), .val (.ref al), .unset, .unset] [(.int (0 : Int32))]))
      refine own_go (fun tQ kQ => XS.iconst X13.here hx rfl (hb hby at_98) kQ) ?_
      show own_End p e below _ (T13.setTop (mkF m 99 #[.val (.int i0), .val (.int i1), .val (.int i2), .val (.int sb), .val (.int (0 : Int32)), .val (.ref pp), .val (.ref ca), .val (.ref ro), .val (.ref rr), .val (.ref al), .unset, .unset] [(.int (2 : Int32)), (.int (0 : Int32))]))
      refine own_go (fun tQ kQ => XS.icmpYes X13.here hx rfl (pc0 := 99) (pc' := 110) rfl (hb hby at_99) rfl (tlt (by decide)).1 (by decide) (by decide) kQ) ?_
      show own_End p e below _ (T13.setTop (mkF m 110 #[.val (.int i0), .val (.int i1), .val (.int i2), .val (.int sb), .val (.int (0 : Int32)), .val (.ref pp), .val (.ref ca), .val (.ref ro), .val (.ref rr), .val (.ref al), .unset, .unset] []))
      obtain ⟨T14, h14, X14, e14, E14, A14, D14, -, st14⟩ := newO X13 hx hZ hown (hw _ (List.mem_of_getElem? (i := 176) rfl)) (hw _ (List.mem_of_getElem? (i := 177) rfl)) (hw _ (List.mem_of_getElem? (i := 178) rfl)) rfl (g := (mkF m 110 #[.val (.int i0), .val (.int i1), .val (.int i2), .val (.int sb), .val (.int (0 : Int32)), .val (.ref pp), .val (.ref ca), .val (.ref ro), .val (.ref rr), .val (.ref al), .unset, .unset] [])) rfl (hb hby at_110) (by decide) (by decide)
      obtain ⟨xp, g14⟩ : ∃ z, z = T13.heap.size := ⟨_, rfl⟩
      rw [← g14] at A14 D14 st14
      have ne_rr_xp : rr ≠ xp := Nat.ne_of_lt (Nat.lt_of_lt_of_le E_rr.lt (Nat.le_of_eq g14.symm))
      have ne_al_xp : al ≠ xp := Nat.ne_of_lt (Nat.lt_of_lt_of_le E_al.lt (Nat.le_of_eq g14.symm))
      have g_xp : n0 ≤ xp := Nat.le_trans Zs (Nat.le_of_eq g14.symm)
      have sz_xp : h0.size ≤ xp := Nat.le_trans szr (Nat.le_of_eq g14.symm)
      have Ol := Ol.ext E14
      have E_rr := E_rr.ext E14
      have E_al := E_al.ext E14
      have F_modCount_al := F_modCount_al.ext E14
      have F_elementData_al := F_elementData_al.ext E14
      have F_size_al := F_size_al.ext E14
      have Kp := Kp.ext E14
      have Zs := Nat.le_trans Zs E14.1
      have szr := Nat.le_trans szr E14.1
      have hkW := Nat.le_trans hkW E14.1
      have E_xp := A14
      have F_superadmin_xp : Fld Z h14 xp "com/example/grant3/grant3/Explanation" "superadmin" "Z" (.int (0 : Int32)) := D14 (Or.inr (hw _ (List.mem_of_getElem? (i := 185) rfl))) (ty := .boolean) (by decide)
      have F_because_xp : Fld Z h14 xp "com/example/grant3/grant3/Explanation" "because" "Ljava/util/List;" .null := D14 (Or.inr (hw _ (List.mem_of_getElem? (i := 187) rfl))) (ty := (.object "java/util/List")) (by decide)
      have X14 := own_pad (k' := 16) (n' := 200) X14 (by decide) (by decide)
      refine own_go (fun tQ kQ => st14 tQ kQ) ?_
      show own_End p e below _ (T14.setTop (mkF m 113 #[.val (.int i0), .val (.int i1), .val (.int i2), .val (.int sb), .val (.int (0 : Int32)), .val (.ref pp), .val (.ref ca), .val (.ref ro), .val (.ref rr), .val (.ref al), .unset, .unset] [(.ref xp)]))
      refine own_go (fun tQ kQ => XS.dup X14.here hx rfl (hb hby at_113) rfl rfl kQ) ?_
      show own_End p e below _ (T14.setTop (mkF m 114 #[.val (.int i0), .val (.int i1), .val (.int i2), .val (.int sb), .val (.int (0 : Int32)), .val (.ref pp), .val (.ref ca), .val (.ref ro), .val (.ref rr), .val (.ref al), .unset, .unset] [(.ref xp), (.ref xp)]))
      refine own_go (fun tQ kQ => XS.iloadN X14.here hx rfl (hb hby at_114) rfl kQ) ?_
      show own_End p e below _ (T14.setTop (mkF m 115 #[.val (.int i0), .val (.int i1), .val (.int i2), .val (.int sb), .val (.int (0 : Int32)), .val (.ref pp), .val (.ref ca), .val (.ref ro), .val (.ref rr), .val (.ref al), .unset, .unset] [(.int sb), (.ref xp), (.ref xp)]))
      refine own_go (fun tQ kQ => XS.aload X14.here hx rfl (hb hby at_115) rfl rfl kQ) ?_
      show own_End p e below _ (T14.setTop (mkF m 117 #[.val (.int i0), .val (.int i1), .val (.int i2), .val (.int sb), .val (.int (0 : Int32)), .val (.ref pp), .val (.ref ca), .val (.ref ro), .val (.ref rr), .val (.ref al), .unset, .unset] [(.ref al), (.int sb), (.ref xp), (.ref xp)]))
      have hsv : narrow .boolean (.int sb) = .int sb ∧ fits .boolean (.int sb) = true := by rcases hsb with q | q <;> rw [q] <;> exact ⟨rfl, rfl⟩
      obtain ⟨_, _, ⟨T15, L15, k15, n15⟩, -, X15, ⟨Lc15, hQ15, l15, y15, z15⟩, st15⟩ := X14.specialBack hx (y := (⟨"com/example/grant3/grant3/Explanation", "<init>", "(ZLjava/util/List;)V"⟩ : MethodName)) rfl hown (mvT hZ (hw _ (List.mem_of_getElem? (i := 179) rfl))) (mvT hZ (hw _ (List.mem_of_getElem? (i := 180) rfl))) (mvT hZ (hw _ (List.mem_of_getElem? (i := 181) rfl))) (by decide) (backOf (W := 1) (rmei0 l Z a0 hw [] xp sb al el h14 n0 Zs E_xp F_superadmin_xp F_because_xp g_xp hsv E_al F_size_al Ol S_el) hZ (hw _ (List.mem_of_getElem? (i := 181) rfl)) (hw _ (List.mem_of_getElem? (i := 178) rfl)) (by decide) (by decide)) (g := (mkF m 117 #[.val (.int i0), .val (.int i1), .val (.int i2), .val (.int sb), .val (.int (0 : Int32)), .val (.ref pp), .val (.ref ca), .val (.ref ro), .val (.ref rr), .val (.ref al), .unset, .unset] [(.ref al), (.int sb), (.ref xp), (.ref xp)])) rfl (by rw [hml]; rfl) (Steps.refl _) (a := xp) (argsL := [(.int sb), (.ref al)]) (rest := [(.ref xp)]) (lenOf pd_47 rfl) rfl (by show 2 * 0 + _ ≤ _; exact Nat.le_of_eq rfl) (hb hby at_117) (fun _ _ => ⟨rfl, e14, (Nat.le_of_ble_eq_true rfl), (Nat.le_of_ble_eq_true rfl)⟩)
      dsimp only [Pt.U, Pt.locs, Pt.cells, Pt.slots] at X15 l15 y15 z15 st15 hQ15
      rw [l15, y15, z15] at X15
      obtain ⟨rfl, N15q, K15, F_superadmin_xp, F_because_xp⟩ := hQ15
      have Nf := Fr.app Nf N15q
      have Ol := Ol.keep K15 (allS g_xp all0)
      have E_rr := E_rr.keep K15
      have E_al := E_al.keep K15
      have F_modCount_al := F_modCount_al.keep K15 (ninS ne_al_xp nin0)
      have F_elementData_al := F_elementData_al.keep K15 (ninS ne_al_xp nin0)
      have F_size_al := F_size_al.keep K15 (ninS ne_al_xp nin0)
      have E_xp := E_xp.keep K15
      have Kp := Kp.trans K15 (allS (Or.inr sz_xp) all0)
      have Zs := Nat.le_trans Zs K15.1
      have szr := Nat.le_trans szr K15.1
      have hkW := Nat.le_trans hkW K15.1
      have X15 := own_pad (k' := 16) (n' := 200) X15 (by decide) (by decide)
      refine own_go (fun tQ kQ => st15.trans kQ) ?_
      show own_End p e below _ (T15.setTop (mkF m 120 #[.val (.int i0), .val (.int i1), .val (.int i2), .val (.int sb), .val (.int (0 : Int32)), .val (.ref pp), .val (.ref ca), .val (.ref ro), .val (.ref rr), .val (.ref al), .unset, .unset] [(.ref xp)]))
      refine own_go (fun tQ kQ => XS.astore X15.here hx rfl (hb hby at_120) rfl rfl (l' := #[.val (.int i0), .val (.int i1), .val (.int i2), .val (.int sb), .val (.int (0 : Int32)), .val (.ref pp), .val (.ref ca), .val (.ref ro), .val (.ref rr), .val (.ref al), .val (.ref xp), .unset]) rfl kQ) ?_
      show own_End p e below _ (T15.setTop (mkF m 122 #[.val (.int i0), .val (.int i1), .val (.int i2), .val (.int sb), .val (.int (0 : Int32)), .val (.ref pp), .val (.ref ca), .val (.ref ro), .val (.ref rr), .val (.ref al), .val (.ref xp), .unset] []))
      refine own_go (fun tQ kQ => XS.aload X15.here hx rfl (hb hby at_122) rfl rfl kQ) ?_
      show own_End p e below _ (T15.setTop (mkF m 124 #[.val (.int i0), .val (.int i1), .val (.int i2), .val (.int sb), .val (.int (0 : Int32)), .val (.ref pp), .val (.ref ca), .val (.ref ro), .val (.ref rr), .val (.ref al), .val (.ref xp), .unset] [(.ref al)]))
      refine own_go (fun tQ kQ => XS.aload X15.here hx rfl (hb hby at_124) rfl rfl kQ) ?_
      show own_End p e below _ (T15.setTop (mkF m 126 #[.val (.int i0), .val (.int i1), .val (.int i2), .val (.int sb), .val (.int (0 : Int32)), .val (.ref pp), .val (.ref ca), .val (.ref ro), .val (.ref rr), .val (.ref al), .val (.ref xp), .unset] [(.ref rr), (.ref al)]))
      obtain ⟨cq16, kq16, q16a, q16b, q16c⟩ := isOf hZ rfl E_al
      obtain ⟨_, _, ⟨T16, L16, k16, n16⟩, -, X16, ⟨Lc16, hQ16, l16, y16, z16⟩, st16⟩ := X15.virtualBack hx (y := (⟨"java/util/ArrayList", "add", "(Ljava/lang/Object;)Z"⟩ : MethodName)) (z := (⟨"java/util/ArrayList", "add", "(Ljava/lang/Object;)Z"⟩ : MethodName)) hown (mvT hZ (hw _ (List.mem_of_getElem? (i := 188) rfl))) (mvT hZ (hw _ (List.mem_of_getElem? (i := 189) rfl))) (notFace_of_selects (args := #[]) (mvT hZ (hw _ (List.mem_of_getElem? (i := 191) rfl)))) (mvT hZ (hw _ (List.mem_of_getElem? (i := 191) rfl))) (mvT hZ (hw _ (List.mem_of_getElem? (i := 190) rfl))) (by decide) (backOf (W := 0) (rma1 l Z a0 hw [] al de fd (0 : Int32) rr T15.heap n0 Zs E_al F_modCount_al F_elementData_al F_size_al g_al Ol S_de V_de E_rr) hZ (hw _ (List.mem_of_getElem? (i := 192) rfl)) (hw _ (List.mem_of_getElem? (i := 107) rfl)) (by decide) (by decide)) q16a q16c (g := (mkF m 126 #[.val (.int i0), .val (.int i1), .val (.int i2), .val (.int sb), .val (.int (0 : Int32)), .val (.ref pp), .val (.ref ca), .val (.ref ro), .val (.ref rr), .val (.ref al), .val (.ref xp), .unset] [(.ref rr), (.ref al)])) rfl (by rw [hml]; rfl) (Steps.refl _) (argsL := [(.ref rr)]) (rest := []) (lenOf pd_48 rfl) rfl (by show 2 * 0 + _ ≤ _; exact Nat.le_of_eq rfl) (hb hby at_126) (fun _ _ => ⟨rfl, rfl, (Nat.le_of_ble_eq_true rfl), (Nat.le_of_ble_eq_true rfl)⟩)
      dsimp only [Pt.U, Pt.locs, Pt.cells, Pt.slots] at X16 l16 y16 z16 st16 hQ16
      rw [l16, y16, z16] at X16
      obtain ⟨b, rfl, N16q, K16, hb16, F_modCount_al, F_elementData_al, F_size_al, E_b, V_b⟩ := hQ16
      have Nf := Fr.app Nf N16q
      have ne_rr_b : rr ≠ b := Nat.ne_of_lt (Nat.lt_of_lt_of_le E_rr.lt hb16)
      have ne_al_b : al ≠ b := Nat.ne_of_lt (Nat.lt_of_lt_of_le E_al.lt hb16)
      have ne_xp_b : xp ≠ b := Nat.ne_of_lt (Nat.lt_of_lt_of_le E_xp.lt hb16)
      have g_b : n0 ≤ b := Nat.le_trans Zs hb16
      have sz_b : h0.size ≤ b := Nat.le_trans szr hb16
      have Ol := Ol.keep K16 (allS g_al all0)
      have E_rr := E_rr.keep K16
      have E_al := E_al.keep K16
      have E_xp := E_xp.keep K16
      have F_superadmin_xp := F_superadmin_xp.keep K16 (ninS (Ne.symm ne_al_xp) nin0)
      have F_because_xp := F_because_xp.keep K16 (ninS (Ne.symm ne_al_xp) nin0)
      have Kp := Kp.trans K16 (allS (Or.inr sz_al) all0)
      have Zs := Nat.le_trans Zs K16.1
      have szr := Nat.le_trans szr K16.1
      have hkW := Nat.le_trans hkW K16.1
      have X16 := own_pad (k' := 17) (n' := 210) X16 (by decide) (by decide)
      refine own_go (fun tQ kQ => st16.trans kQ) ?_
      show own_End p e below _ (T16.setTop (mkF m 129 #[.val (.int i0), .val (.int i1), .val (.int i2), .val (.int sb), .val (.int (0 : Int32)), .val (.ref pp), .val (.ref ca), .val (.ref ro), .val (.ref rr), .val (.ref al), .val (.ref xp), .unset] [(.int (1 : Int32))]))
      refine own_go (fun tQ kQ => XS.pop X16.here hx rfl (hb hby at_129) rfl rfl kQ) ?_
      show own_End p e below _ (T16.setTop (mkF m 130 #[.val (.int i0), .val (.int i1), .val (.int i2), .val (.int sb), .val (.int (0 : Int32)), .val (.ref pp), .val (.ref ca), .val (.ref ro), .val (.ref rr), .val (.ref al), .val (.ref xp), .unset] []))
      refine own_go (fun tQ kQ => XS.iloadN X16.here hx rfl (hb hby at_130) rfl kQ) ?_
      show own_End p e below _ (T16.setTop (mkF m 131 #[.val (.int i0), .val (.int i1), .val (.int i2), .val (.int sb), .val (.int (0 : Int32)), .val (.ref pp), .val (.ref ca), .val (.ref ro), .val (.ref rr), .val (.ref al), .val (.ref xp), .unset] [(.int sb)]))
      rcases hsb with hsb | hsb
      ·
        rw [hsb] at F_superadmin_xp ⊢
        show own_End p e below _ (T16.setTop (mkF m 131 #[.val (.int i0), .val (.int i1), .val (.int i2), .val (.int (0 : Int32)), .val (.int (0 : Int32)), .val (.ref pp), .val (.ref ca), .val (.ref ro), .val (.ref rr), .val (.ref al), .val (.ref xp), .unset] [(.int (0 : Int32))]))
        refine own_go (fun tQ kQ => XS.ifNo X16.here hx rfl (hb hby at_131) rfl ((if0 _ _).trans (teq (by decide)).2) kQ) ?_
        show own_End p e below _ (T16.setTop (mkF m 134 #[.val (.int i0), .val (.int i1), .val (.int i2), .val (.int (0 : Int32)), .val (.int (0 : Int32)), .val (.ref pp), .val (.ref ca), .val (.ref ro), .val (.ref rr), .val (.ref al), .val (.ref xp), .unset] []))
        refine own_go (fun tQ kQ => XS.iload X16.here hx rfl (hb hby at_134) rfl kQ) ?_
        show own_End p e below _ (T16.setTop (mkF m 136 #[.val (.int i0), .val (.int i1), .val (.int i2), .val (.int (0 : Int32)), .val (.int (0 : Int32)), .val (.ref pp), .val (.ref ca), .val (.ref ro), .val (.ref rr), .val (.ref al), .val (.ref xp), .unset] [(.int (0 : Int32))]))
        refine own_go (fun tQ kQ => XS.ifYes X16.here hx rfl (pc0 := 136) (pc' := 143) rfl (hb hby at_136) rfl ((if0 _ _).trans (flt (by decide)).2.2.2) (by decide) (by decide) kQ) ?_
        show own_End p e below _ (T16.setTop (mkF m 143 #[.val (.int i0), .val (.int i1), .val (.int i2), .val (.int (0 : Int32)), .val (.int (0 : Int32)), .val (.ref pp), .val (.ref ca), .val (.ref ro), .val (.ref rr), .val (.ref al), .val (.ref xp), .unset] []))
        refine own_go (fun tQ kQ => XS.iconst X16.here hx rfl (hb hby at_143) kQ) ?_
        show own_End p e below _ (T16.setTop (mkF m 144 #[.val (.int i0), .val (.int i1), .val (.int i2), .val (.int (0 : Int32)), .val (.int (0 : Int32)), .val (.ref pp), .val (.ref ca), .val (.ref ro), .val (.ref rr), .val (.ref al), .val (.ref xp), .unset] [(.int (0 : Int32))]))
        refine own_go (fun tQ kQ => XS.istore X16.here hx rfl (hb hby at_144) rfl (l' := #[.val (.int i0), .val (.int i1), .val (.int i2), .val (.int (0 : Int32)), .val (.int (0 : Int32)), .val (.ref pp), .val (.ref ca), .val (.ref ro), .val (.ref rr), .val (.ref al), .val (.ref xp), .val (.int (0 : Int32))]) rfl kQ) ?_
        show own_End p e below _ (T16.setTop (mkF m 146 #[.val (.int i0), .val (.int i1), .val (.int i2), .val (.int (0 : Int32)), .val (.int (0 : Int32)), .val (.ref pp), .val (.ref ca), .val (.ref ro), .val (.ref rr), .val (.ref al), .val (.ref xp), .val (.int (0 : Int32))] []))
        refine own_go (fun tQ kQ => XS.aload X16.here hx rfl (hb hby at_146) rfl rfl kQ) ?_
        show own_End p e below _ (T16.setTop (mkF m 148 #[.val (.int i0), .val (.int i1), .val (.int i2), .val (.int (0 : Int32)), .val (.int (0 : Int32)), .val (.ref pp), .val (.ref ca), .val (.ref ro), .val (.ref rr), .val (.ref al), .val (.ref xp), .val (.int (0 : Int32))] [(.ref xp)]))
        obtain ⟨cq17, kq17, q17a, q17b, q17c⟩ := isOf hZ rfl E_xp
        obtain ⟨_, _, ⟨T17, L17, k17, n17⟩, -, X17, ⟨Lc17, hQ17, l17, y17, z17⟩, st17⟩ := X16.virtualBack hx (y := (⟨"com/example/grant3/grant3/Explanation", "allowed", "()Z"⟩ : MethodName)) (z := (⟨"com/example/grant3/grant3/Explanation", "allowed", "()Z"⟩ : MethodName)) hown (mvT hZ (hw _ (List.mem_of_getElem? (i := 217) rfl))) (mvT hZ (hw _ (List.mem_of_getElem? (i := 218) rfl))) (notFace_of_selects (args := #[]) (mvT hZ (hw _ (List.mem_of_getElem? (i := 220) rfl)))) (mvT hZ (hw _ (List.mem_of_getElem? (i := 220) rfl))) (mvT hZ (hw _ (List.mem_of_getElem? (i := 219) rfl))) (by decide) (backOf (W := 0) (rmawe l Z a0 hw [] xp el ee fe T16.heap n0 Zs F_superadmin_xp F_because_xp (E_el.ext Ol.2) (F_el.ext Ol.2) (V_ee.ext Ol.2)) hZ (hw _ (List.mem_of_getElem? (i := 221) rfl)) (hw _ (List.mem_of_getElem? (i := 178) rfl)) (by decide) (by decide)) q17a q17c (g := (mkF m 148 #[.val (.int i0), .val (.int i1), .val (.int i2), .val (.int (0 : Int32)), .val (.int (0 : Int32)), .val (.ref pp), .val (.ref ca), .val (.ref ro), .val (.ref rr), .val (.ref al), .val (.ref xp), .val (.int (0 : Int32))] [(.ref xp)])) rfl (by rw [hml]; rfl) (Steps.refl _) (argsL := []) (rest := []) (lenOf pd_20 rfl) rfl (by show 2 * 0 + _ ≤ _; exact Nat.le_of_eq rfl) (hb hby at_148) (fun _ _ => ⟨rfl, rfl, (Nat.le_of_ble_eq_true rfl), (Nat.le_of_ble_eq_true rfl)⟩)
        dsimp only [Pt.U, Pt.locs, Pt.cells, Pt.slots] at X17 l17 y17 z17 st17 hQ17
        rw [l17, y17, z17] at X17
        obtain ⟨rfl, N17q, e17⟩ := hQ17
        have Nf := Fr.app Nf N17q
        have X17 := own_pad (k' := 17) (n' := 210) X17 (by decide) (by decide)
        refine own_go (fun tQ kQ => st17.trans kQ) ?_
        show own_End p e below _ (T17.setTop (mkF m 151 #[.val (.int i0), .val (.int i1), .val (.int i2), .val (.int (0 : Int32)), .val (.int (0 : Int32)), .val (.ref pp), .val (.ref ca), .val (.ref ro), .val (.ref rr), .val (.ref al), .val (.ref xp), .val (.int (0 : Int32))] [(.int (0 : Int32))]))
        refine own_go (fun tQ kQ => XS.iload X17.here hx rfl (hb hby at_151) rfl kQ) ?_
        show own_End p e below _ (T17.setTop (mkF m 153 #[.val (.int i0), .val (.int i1), .val (.int i2), .val (.int (0 : Int32)), .val (.int (0 : Int32)), .val (.ref pp), .val (.ref ca), .val (.ref ro), .val (.ref rr), .val (.ref al), .val (.ref xp), .val (.int (0 : Int32))] [(.int (0 : Int32)), (.int (0 : Int32))]))
        refine own_go (fun tQ kQ => XS.icmpNo X17.here hx rfl (hb hby at_153) rfl (teq (by decide)).2 kQ) ?_
        show own_End p e below _ (T17.setTop (mkF m 156 #[.val (.int i0), .val (.int i1), .val (.int i2), .val (.int (0 : Int32)), .val (.int (0 : Int32)), .val (.ref pp), .val (.ref ca), .val (.ref ro), .val (.ref rr), .val (.ref al), .val (.ref xp), .val (.int (0 : Int32))] []))
        refine own_go (fun tQ kQ => XS.iconst X17.here hx rfl (hb hby at_156) kQ) ?_
        show own_End p e below _ (T17.setTop (mkF m 157 #[.val (.int i0), .val (.int i1), .val (.int i2), .val (.int (0 : Int32)), .val (.int (0 : Int32)), .val (.ref pp), .val (.ref ca), .val (.ref ro), .val (.ref rr), .val (.ref al), .val (.ref xp), .val (.int (0 : Int32))] [(.int (1 : Int32))]))
        refine own_go (fun tQ kQ => XS.goto X17.here hx rfl (pc0 := 157) (pc' := 161) rfl (hb hby at_157) (by decide) (by decide) kQ) ?_
        show own_End p e below _ (T17.setTop (mkF m 161 #[.val (.int i0), .val (.int i1), .val (.int i2), .val (.int (0 : Int32)), .val (.int (0 : Int32)), .val (.ref pp), .val (.ref ca), .val (.ref ro), .val (.ref rr), .val (.ref al), .val (.ref xp), .val (.int (0 : Int32))] [(.int (1 : Int32))]))
        obtain ⟨fs, hr, hrun, hended, hend⟩ := X17.leaveW hS (by rw [e17]; exact hkW) (v := some (.int (1 : Int32))) (fun h => by rw [Bd.returns] at h; cases h)
        refine ⟨_, _, (retN X17 hx (t := .boolean) Bd.returns (by simp) (hb hby at_161) hr), hrun, hended, _, _, rfl, ?_, ⟨hend.1, hend.2.1, hend.2.2.1, hend.2.2.2.mono (by decide) (by decide)⟩⟩
        show Q0 Z i0 i1 i2 cz fm de fd el ee fe em mr h0 n0 _ T17.heap _
        rw [e17]
        exact ⟨rfl, Nf⟩
      ·
        rw [hsb] at F_superadmin_xp ⊢
        show own_End p e below _ (T16.setTop (mkF m 131 #[.val (.int i0), .val (.int i1), .val (.int i2), .val (.int (1 : Int32)), .val (.int (0 : Int32)), .val (.ref pp), .val (.ref ca), .val (.ref ro), .val (.ref rr), .val (.ref al), .val (.ref xp), .unset] [(.int (1 : Int32))]))
        refine own_go (fun tQ kQ => XS.ifYes X16.here hx rfl (pc0 := 131) (pc' := 139) rfl (hb hby at_131) rfl ((if0 _ _).trans (feq (by decide)).2) (by decide) (by decide) kQ) ?_
        show own_End p e below _ (T16.setTop (mkF m 139 #[.val (.int i0), .val (.int i1), .val (.int i2), .val (.int (1 : Int32)), .val (.int (0 : Int32)), .val (.ref pp), .val (.ref ca), .val (.ref ro), .val (.ref rr), .val (.ref al), .val (.ref xp), .unset] []))
        refine own_go (fun tQ kQ => XS.iconst X16.here hx rfl (hb hby at_139) kQ) ?_
        show own_End p e below _ (T16.setTop (mkF m 140 #[.val (.int i0), .val (.int i1), .val (.int i2), .val (.int (1 : Int32)), .val (.int (0 : Int32)), .val (.ref pp), .val (.ref ca), .val (.ref ro), .val (.ref rr), .val (.ref al), .val (.ref xp), .unset] [(.int (1 : Int32))]))
        refine own_go (fun tQ kQ => XS.goto X16.here hx rfl (pc0 := 140) (pc' := 144) rfl (hb hby at_140) (by decide) (by decide) kQ) ?_
        show own_End p e below _ (T16.setTop (mkF m 144 #[.val (.int i0), .val (.int i1), .val (.int i2), .val (.int (1 : Int32)), .val (.int (0 : Int32)), .val (.ref pp), .val (.ref ca), .val (.ref ro), .val (.ref rr), .val (.ref al), .val (.ref xp), .unset] [(.int (1 : Int32))]))
        refine own_go (fun tQ kQ => XS.istore X16.here hx rfl (hb hby at_144) rfl (l' := #[.val (.int i0), .val (.int i1), .val (.int i2), .val (.int (1 : Int32)), .val (.int (0 : Int32)), .val (.ref pp), .val (.ref ca), .val (.ref ro), .val (.ref rr), .val (.ref al), .val (.ref xp), .val (.int (1 : Int32))]) rfl kQ) ?_
        show own_End p e below _ (T16.setTop (mkF m 146 #[.val (.int i0), .val (.int i1), .val (.int i2), .val (.int (1 : Int32)), .val (.int (0 : Int32)), .val (.ref pp), .val (.ref ca), .val (.ref ro), .val (.ref rr), .val (.ref al), .val (.ref xp), .val (.int (1 : Int32))] []))
        refine own_go (fun tQ kQ => XS.aload X16.here hx rfl (hb hby at_146) rfl rfl kQ) ?_
        show own_End p e below _ (T16.setTop (mkF m 148 #[.val (.int i0), .val (.int i1), .val (.int i2), .val (.int (1 : Int32)), .val (.int (0 : Int32)), .val (.ref pp), .val (.ref ca), .val (.ref ro), .val (.ref rr), .val (.ref al), .val (.ref xp), .val (.int (1 : Int32))] [(.ref xp)]))
        obtain ⟨cq18, kq18, q18a, q18b, q18c⟩ := isOf hZ rfl E_xp
        obtain ⟨_, _, ⟨T18, L18, k18, n18⟩, -, X18, ⟨Lc18, hQ18, l18, y18, z18⟩, st18⟩ := X16.virtualBack hx (y := (⟨"com/example/grant3/grant3/Explanation", "allowed", "()Z"⟩ : MethodName)) (z := (⟨"com/example/grant3/grant3/Explanation", "allowed", "()Z"⟩ : MethodName)) hown (mvT hZ (hw _ (List.mem_of_getElem? (i := 217) rfl))) (mvT hZ (hw _ (List.mem_of_getElem? (i := 218) rfl))) (notFace_of_selects (args := #[]) (mvT hZ (hw _ (List.mem_of_getElem? (i := 220) rfl)))) (mvT hZ (hw _ (List.mem_of_getElem? (i := 220) rfl))) (mvT hZ (hw _ (List.mem_of_getElem? (i := 219) rfl))) (by decide) (backOf (W := 0) (rmaw1 l Z a0 hw [] xp T16.heap n0 Zs F_superadmin_xp) hZ (hw _ (List.mem_of_getElem? (i := 221) rfl)) (hw _ (List.mem_of_getElem? (i := 178) rfl)) (by decide) (by decide)) q18a q18c (g := (mkF m 148 #[.val (.int i0), .val (.int i1), .val (.int i2), .val (.int (1 : Int32)), .val (.int (0 : Int32)), .val (.ref pp), .val (.ref ca), .val (.ref ro), .val (.ref rr), .val (.ref al), .val (.ref xp), .val (.int (1 : Int32))] [(.ref xp)])) rfl (by rw [hml]; rfl) (Steps.refl _) (argsL := []) (rest := []) (lenOf pd_20 rfl) rfl (by show 2 * 0 + _ ≤ _; exact Nat.le_of_eq rfl) (hb hby at_148) (fun _ _ => ⟨rfl, rfl, (Nat.le_of_ble_eq_true rfl), (Nat.le_of_ble_eq_true rfl)⟩)
        dsimp only [Pt.U, Pt.locs, Pt.cells, Pt.slots] at X18 l18 y18 z18 st18 hQ18
        rw [l18, y18, z18] at X18
        obtain ⟨rfl, N18q, e18⟩ := hQ18
        have Nf := Fr.app Nf N18q
        have X18 := own_pad (k' := 17) (n' := 210) X18 (by decide) (by decide)
        refine own_go (fun tQ kQ => st18.trans kQ) ?_
        show own_End p e below _ (T18.setTop (mkF m 151 #[.val (.int i0), .val (.int i1), .val (.int i2), .val (.int (1 : Int32)), .val (.int (0 : Int32)), .val (.ref pp), .val (.ref ca), .val (.ref ro), .val (.ref rr), .val (.ref al), .val (.ref xp), .val (.int (1 : Int32))] [(.int (1 : Int32))]))
        refine own_go (fun tQ kQ => XS.iload X18.here hx rfl (hb hby at_151) rfl kQ) ?_
        show own_End p e below _ (T18.setTop (mkF m 153 #[.val (.int i0), .val (.int i1), .val (.int i2), .val (.int (1 : Int32)), .val (.int (0 : Int32)), .val (.ref pp), .val (.ref ca), .val (.ref ro), .val (.ref rr), .val (.ref al), .val (.ref xp), .val (.int (1 : Int32))] [(.int (1 : Int32)), (.int (1 : Int32))]))
        refine own_go (fun tQ kQ => XS.icmpNo X18.here hx rfl (hb hby at_153) rfl (teq (by decide)).2 kQ) ?_
        show own_End p e below _ (T18.setTop (mkF m 156 #[.val (.int i0), .val (.int i1), .val (.int i2), .val (.int (1 : Int32)), .val (.int (0 : Int32)), .val (.ref pp), .val (.ref ca), .val (.ref ro), .val (.ref rr), .val (.ref al), .val (.ref xp), .val (.int (1 : Int32))] []))
        refine own_go (fun tQ kQ => XS.iconst X18.here hx rfl (hb hby at_156) kQ) ?_
        show own_End p e below _ (T18.setTop (mkF m 157 #[.val (.int i0), .val (.int i1), .val (.int i2), .val (.int (1 : Int32)), .val (.int (0 : Int32)), .val (.ref pp), .val (.ref ca), .val (.ref ro), .val (.ref rr), .val (.ref al), .val (.ref xp), .val (.int (1 : Int32))] [(.int (1 : Int32))]))
        refine own_go (fun tQ kQ => XS.goto X18.here hx rfl (pc0 := 157) (pc' := 161) rfl (hb hby at_157) (by decide) (by decide) kQ) ?_
        show own_End p e below _ (T18.setTop (mkF m 161 #[.val (.int i0), .val (.int i1), .val (.int i2), .val (.int (1 : Int32)), .val (.int (0 : Int32)), .val (.ref pp), .val (.ref ca), .val (.ref ro), .val (.ref rr), .val (.ref al), .val (.ref xp), .val (.int (1 : Int32))] [(.int (1 : Int32))]))
        obtain ⟨fs, hr, hrun, hended, hend⟩ := X18.leaveW hS (by rw [e18]; exact hkW) (v := some (.int (1 : Int32))) (fun h => by rw [Bd.returns] at h; cases h)
        refine ⟨_, _, (retN X18 hx (t := .boolean) Bd.returns (by simp) (hb hby at_161) hr), hrun, hended, _, _, rfl, ?_, ⟨hend.1, hend.2.1, hend.2.2.1, hend.2.2.2.mono (by decide) (by decide)⟩⟩
        show Q0 Z i0 i1 i2 cz fm de fd el ee fe em mr h0 n0 _ T18.heap _
        rw [e18]
        exact ⟨rfl, Nf⟩
    ·
      rw [hcn]
      show own_End p e below _ (T13.setTop (mkF m 82 #[.val (.int i0), .val (.int i1), .val (.int i2), .val (.int sb), .val (.int (1 : Int32)), .val (.ref pp), .val (.ref ca), .val (.ref ro), .val (.ref rr), .val (.ref al), .unset, .unset] []))
      refine own_go (fun tQ kQ => XS.iload X13.here hx rfl (hb hby at_82) rfl kQ) ?_
      show own_End p e below _ (T13.setTop (mkF m 84 #[.val (.int i0), .val (.int i1), .val (.int i2), .val (.int sb), .val (.int (1 : Int32)), .val (.ref pp), .val (.ref ca), .val (.ref ro), .val (.ref rr), .val (.ref al), .unset, .unset] [(.int (1 : Int32))]))
      refine own_go (fun tQ kQ => XS.iconst X13.here hx rfl (hb hby at_84) kQ) ?_
      show own_End p e below _ (T13.setTop (mkF m 85 #[.val (.int i0), .val (.int i1), .val (.int i2), .val (.int sb), .val (.int (1 : Int32)), .val (.ref pp), .val (.ref ca), .val (.ref ro), .val (.ref rr), .val (.ref al), .unset, .unset] [(.int (1 : Int32)), (.int (1 : Int32))]))
      refine own_go (fun tQ kQ => XS.icmpNo X13.here hx rfl (hb hby at_85) rfl (flt (by decide)).1 kQ) ?_
      show own_End p e below _ (T13.setTop (mkF m 88 #[.val (.int i0), .val (.int i1), .val (.int i2), .val (.int sb), .val (.int (1 : Int32)), .val (.ref pp), .val (.ref ca), .val (.ref ro), .val (.ref rr), .val (.ref al), .unset, .unset] []))
      refine own_go (fun tQ kQ => XS.aload X13.here hx rfl (hb hby at_88) rfl rfl kQ) ?_
      show own_End p e below _ (T13.setTop (mkF m 90 #[.val (.int i0), .val (.int i1), .val (.int i2), .val (.int sb), .val (.int (1 : Int32)), .val (.ref pp), .val (.ref ca), .val (.ref ro), .val (.ref rr), .val (.ref al), .unset, .unset] [(.ref al)]))
      refine own_go (fun tQ kQ => XS.aload X13.here hx rfl (hb hby at_90) rfl rfl kQ) ?_
      show own_End p e below _ (T13.setTop (mkF m 92 #[.val (.int i0), .val (.int i1), .val (.int i2), .val (.int sb), .val (.int (1 : Int32)), .val (.ref pp), .val (.ref ca), .val (.ref ro), .val (.ref rr), .val (.ref al), .unset, .unset] [(.ref rr), (.ref al)]))
      obtain ⟨cq19, kq19, q19a, q19b, q19c⟩ := isOf hZ rfl E_al
      obtain ⟨_, _, ⟨T19, L19, k19, n19⟩, -, X19, ⟨Lc19, hQ19, l19, y19, z19⟩, st19⟩ := X13.virtualBack hx (y := (⟨"java/util/ArrayList", "add", "(Ljava/lang/Object;)Z"⟩ : MethodName)) (z := (⟨"java/util/ArrayList", "add", "(Ljava/lang/Object;)Z"⟩ : MethodName)) hown (mvT hZ (hw _ (List.mem_of_getElem? (i := 188) rfl))) (mvT hZ (hw _ (List.mem_of_getElem? (i := 189) rfl))) (notFace_of_selects (args := #[]) (mvT hZ (hw _ (List.mem_of_getElem? (i := 191) rfl)))) (mvT hZ (hw _ (List.mem_of_getElem? (i := 191) rfl))) (mvT hZ (hw _ (List.mem_of_getElem? (i := 190) rfl))) (by decide) (backOf (W := 0) (rma1 l Z a0 hw [] al de fd (0 : Int32) rr T13.heap n0 Zs E_al F_modCount_al F_elementData_al F_size_al g_al Ol S_de V_de E_rr) hZ (hw _ (List.mem_of_getElem? (i := 192) rfl)) (hw _ (List.mem_of_getElem? (i := 107) rfl)) (by decide) (by decide)) q19a q19c (g := (mkF m 92 #[.val (.int i0), .val (.int i1), .val (.int i2), .val (.int sb), .val (.int (1 : Int32)), .val (.ref pp), .val (.ref ca), .val (.ref ro), .val (.ref rr), .val (.ref al), .unset, .unset] [(.ref rr), (.ref al)])) rfl (by rw [hml]; rfl) (Steps.refl _) (argsL := [(.ref rr)]) (rest := []) (lenOf pd_48 rfl) rfl (by show 2 * 0 + _ ≤ _; exact Nat.le_of_eq rfl) (hb hby at_92) (fun _ _ => ⟨rfl, rfl, (Nat.le_of_ble_eq_true rfl), (Nat.le_of_ble_eq_true rfl)⟩)
      dsimp only [Pt.U, Pt.locs, Pt.cells, Pt.slots] at X19 l19 y19 z19 st19 hQ19
      rw [l19, y19, z19] at X19
      obtain ⟨b, rfl, N19q, K19, hb19, F_modCount_al, F_elementData_al, F_size_al, E_b, V_b⟩ := hQ19
      have Nf := Fr.app Nf N19q
      have ne_rr_b : rr ≠ b := Nat.ne_of_lt (Nat.lt_of_lt_of_le E_rr.lt hb19)
      have ne_al_b : al ≠ b := Nat.ne_of_lt (Nat.lt_of_lt_of_le E_al.lt hb19)
      have g_b : n0 ≤ b := Nat.le_trans Zs hb19
      have sz_b : h0.size ≤ b := Nat.le_trans szr hb19
      have Ol := Ol.keep K19 (allS g_al all0)
      have E_rr := E_rr.keep K19
      have E_al := E_al.keep K19
      have Kp := Kp.trans K19 (allS (Or.inr sz_al) all0)
      have Zs := Nat.le_trans Zs K19.1
      have szr := Nat.le_trans szr K19.1
      have hkW := Nat.le_trans hkW K19.1
      have X19 := own_pad (k' := 16) (n' := 208) X19 (by decide) (by decide)
      refine own_go (fun tQ kQ => st19.trans kQ) ?_
      show own_End p e below _ (T19.setTop (mkF m 95 #[.val (.int i0), .val (.int i1), .val (.int i2), .val (.int sb), .val (.int (1 : Int32)), .val (.ref pp), .val (.ref ca), .val (.ref ro), .val (.ref rr), .val (.ref al), .unset, .unset] [(.int (1 : Int32))]))
      refine own_go (fun tQ kQ => XS.pop X19.here hx rfl (hb hby at_95) rfl rfl kQ) ?_
      show own_End p e below _ (T19.setTop (mkF m 96 #[.val (.int i0), .val (.int i1), .val (.int i2), .val (.int sb), .val (.int (1 : Int32)), .val (.ref pp), .val (.ref ca), .val (.ref ro), .val (.ref rr), .val (.ref al), .unset, .unset] []))
      refine own_go (fun tQ kQ => XS.iload X19.here hx rfl (hb hby at_96) rfl kQ) ?_
      show own_End p e below _ (T19.setTop (mkF m 98 #[.val (.int i0), .val (.int i1), .val (.int i2), .val (.int sb), .val (.int (1 : Int32)), .val (.ref pp), .val (.ref ca), .val (.ref ro), .val (.ref rr), .val (.ref al), .unset, .unset] [(.int (1 : Int32))]))
      refine own_go (fun tQ kQ => XS.iconst X19.here hx rfl (hb hby at_98) kQ) ?_
      show own_End p e below _ (T19.setTop (mkF m 99 #[.val (.int i0), .val (.int i1), .val (.int i2), .val (.int sb), .val (.int (1 : Int32)), .val (.ref pp), .val (.ref ca), .val (.ref ro), .val (.ref rr), .val (.ref al), .unset, .unset] [(.int (2 : Int32)), (.int (1 : Int32))]))
      refine own_go (fun tQ kQ => XS.icmpYes X19.here hx rfl (pc0 := 99) (pc' := 110) rfl (hb hby at_99) rfl (tlt (by decide)).1 (by decide) (by decide) kQ) ?_
      show own_End p e below _ (T19.setTop (mkF m 110 #[.val (.int i0), .val (.int i1), .val (.int i2), .val (.int sb), .val (.int (1 : Int32)), .val (.ref pp), .val (.ref ca), .val (.ref ro), .val (.ref rr), .val (.ref al), .unset, .unset] []))
      obtain ⟨T20, h20, X20, e20, E20, A20, D20, -, st20⟩ := newO X19 hx hZ hown (hw _ (List.mem_of_getElem? (i := 176) rfl)) (hw _ (List.mem_of_getElem? (i := 177) rfl)) (hw _ (List.mem_of_getElem? (i := 178) rfl)) rfl (g := (mkF m 110 #[.val (.int i0), .val (.int i1), .val (.int i2), .val (.int sb), .val (.int (1 : Int32)), .val (.ref pp), .val (.ref ca), .val (.ref ro), .val (.ref rr), .val (.ref al), .unset, .unset] [])) rfl (hb hby at_110) (by decide) (by decide)
      obtain ⟨xp, g20⟩ : ∃ z, z = T19.heap.size := ⟨_, rfl⟩
      rw [← g20] at A20 D20 st20
      have ne_rr_xp : rr ≠ xp := Nat.ne_of_lt (Nat.lt_of_lt_of_le E_rr.lt (Nat.le_of_eq g20.symm))
      have ne_al_xp : al ≠ xp := Nat.ne_of_lt (Nat.lt_of_lt_of_le E_al.lt (Nat.le_of_eq g20.symm))
      have ne_b_xp : b ≠ xp := Nat.ne_of_lt (Nat.lt_of_lt_of_le E_b.lt (Nat.le_of_eq g20.symm))
      have g_xp : n0 ≤ xp := Nat.le_trans Zs (Nat.le_of_eq g20.symm)
      have sz_xp : h0.size ≤ xp := Nat.le_trans szr (Nat.le_of_eq g20.symm)
      have Ol := Ol.ext E20
      have E_rr := E_rr.ext E20
      have E_al := E_al.ext E20
      have F_modCount_al := F_modCount_al.ext E20
      have F_elementData_al := F_elementData_al.ext E20
      have F_size_al := F_size_al.ext E20
      have E_b := E_b.ext E20
      have V_b := V_b.ext E20
      have Kp := Kp.ext E20
      have Zs := Nat.le_trans Zs E20.1
      have szr := Nat.le_trans szr E20.1
      have hkW := Nat.le_trans hkW E20.1
      have E_xp := A20
      have F_superadmin_xp : Fld Z h20 xp "com/example/grant3/grant3/Explanation" "superadmin" "Z" (.int (0 : Int32)) := D20 (Or.inr (hw _ (List.mem_of_getElem? (i := 185) rfl))) (ty := .boolean) (by decide)
      have F_because_xp : Fld Z h20 xp "com/example/grant3/grant3/Explanation" "because" "Ljava/util/List;" .null := D20 (Or.inr (hw _ (List.mem_of_getElem? (i := 187) rfl))) (ty := (.object "java/util/List")) (by decide)
      have X20 := own_pad (k' := 17) (n' := 210) X20 (by decide) (by decide)
      refine own_go (fun tQ kQ => st20 tQ kQ) ?_
      show own_End p e below _ (T20.setTop (mkF m 113 #[.val (.int i0), .val (.int i1), .val (.int i2), .val (.int sb), .val (.int (1 : Int32)), .val (.ref pp), .val (.ref ca), .val (.ref ro), .val (.ref rr), .val (.ref al), .unset, .unset] [(.ref xp)]))
      refine own_go (fun tQ kQ => XS.dup X20.here hx rfl (hb hby at_113) rfl rfl kQ) ?_
      show own_End p e below _ (T20.setTop (mkF m 114 #[.val (.int i0), .val (.int i1), .val (.int i2), .val (.int sb), .val (.int (1 : Int32)), .val (.ref pp), .val (.ref ca), .val (.ref ro), .val (.ref rr), .val (.ref al), .unset, .unset] [(.ref xp), (.ref xp)]))
      refine own_go (fun tQ kQ => XS.iloadN X20.here hx rfl (hb hby at_114) rfl kQ) ?_
      show own_End p e below _ (T20.setTop (mkF m 115 #[.val (.int i0), .val (.int i1), .val (.int i2), .val (.int sb), .val (.int (1 : Int32)), .val (.ref pp), .val (.ref ca), .val (.ref ro), .val (.ref rr), .val (.ref al), .unset, .unset] [(.int sb), (.ref xp), (.ref xp)]))
      refine own_go (fun tQ kQ => XS.aload X20.here hx rfl (hb hby at_115) rfl rfl kQ) ?_
      show own_End p e below _ (T20.setTop (mkF m 117 #[.val (.int i0), .val (.int i1), .val (.int i2), .val (.int sb), .val (.int (1 : Int32)), .val (.ref pp), .val (.ref ca), .val (.ref ro), .val (.ref rr), .val (.ref al), .unset, .unset] [(.ref al), (.int sb), (.ref xp), (.ref xp)]))
      have hsv : narrow .boolean (.int sb) = .int sb ∧ fits .boolean (.int sb) = true := by rcases hsb with q | q <;> rw [q] <;> exact ⟨rfl, rfl⟩
      have hfr : ∀ j, j < 1 → ((fun j => if j = (0 : Int32).toNatClampNeg then .ref rr else .null) : Nat → Value) j = Value.ref rr := (fun j hj => by
        have hj2 : j = 0 := by omega
        rcases hj2 with rfl <;> rfl)
      have hff : ∀ j, fits (.object "java/lang/Object") (((fun j => if j = (0 : Int32).toNatClampNeg then .ref rr else .null) : Nat → Value) j) = true := fun j => by
        dsimp only
        split
        · rfl
        · rfl
      obtain ⟨_, _, ⟨T21, L21, k21, n21⟩, -, X21, ⟨Lc21, hQ21, l21, y21, z21⟩, st21⟩ := X20.specialBack hx (y := (⟨"com/example/grant3/grant3/Explanation", "<init>", "(ZLjava/util/List;)V"⟩ : MethodName)) rfl hown (mvT hZ (hw _ (List.mem_of_getElem? (i := 179) rfl))) (mvT hZ (hw _ (List.mem_of_getElem? (i := 180) rfl))) (mvT hZ (hw _ (List.mem_of_getElem? (i := 181) rfl))) (by decide) (backOf (W := 1) (rmei1 l Z a0 hw [] xp sb al ((0 : Int32) + (1 : Int32)) b (fun j => if j = (0 : Int32).toNatClampNeg then .ref rr else .null) mr rr em h20 n0 Zs E_xp F_superadmin_xp F_because_xp g_xp hsv E_al F_modCount_al F_elementData_al F_size_al E_b V_b M_r E_rr hff hfr Ol S_em) hZ (hw _ (List.mem_of_getElem? (i := 181) rfl)) (hw _ (List.mem_of_getElem? (i := 178) rfl)) (by decide) (by decide)) (g := (mkF m 117 #[.val (.int i0), .val (.int i1), .val (.int i2), .val (.int sb), .val (.int (1 : Int32)), .val (.ref pp), .val (.ref ca), .val (.ref ro), .val (.ref rr), .val (.ref al), .unset, .unset] [(.ref al), (.int sb), (.ref xp), (.ref xp)])) rfl (by rw [hml]; rfl) (Steps.refl _) (a := xp) (argsL := [(.int sb), (.ref al)]) (rest := [(.ref xp)]) (lenOf pd_47 rfl) rfl (by show 2 * 0 + _ ≤ _; exact Nat.le_of_eq rfl) (hb hby at_117) (fun _ _ => ⟨rfl, e20, (Nat.le_of_ble_eq_true rfl), (Nat.le_of_ble_eq_true rfl)⟩)
      dsimp only [Pt.U, Pt.locs, Pt.cells, Pt.slots] at X21 l21 y21 z21 st21 hQ21
      rw [l21, y21, z21] at X21
      obtain ⟨r, rfl, N21q, K21, hb21, E_r, F_superadmin_xp, F_because_xp⟩ := hQ21
      have Nf := Fr.app Nf N21q
      have ne_rr_r : rr ≠ r := Nat.ne_of_lt (Nat.lt_of_lt_of_le E_rr.lt hb21)
      have ne_al_r : al ≠ r := Nat.ne_of_lt (Nat.lt_of_lt_of_le E_al.lt hb21)
      have ne_b_r : b ≠ r := Nat.ne_of_lt (Nat.lt_of_lt_of_le E_b.lt hb21)
      have ne_xp_r : xp ≠ r := Nat.ne_of_lt (Nat.lt_of_lt_of_le E_xp.lt hb21)
      have g_r : n0 ≤ r := Nat.le_trans Zs hb21
      have sz_r : h0.size ≤ r := Nat.le_trans szr hb21
      have Ol := Ol.keep K21 (allS g_xp all0)
      have E_rr := E_rr.keep K21
      have E_al := E_al.keep K21
      have F_modCount_al := F_modCount_al.keep K21 (ninS ne_al_xp nin0)
      have F_elementData_al := F_elementData_al.keep K21 (ninS ne_al_xp nin0)
      have F_size_al := F_size_al.keep K21 (ninS ne_al_xp nin0)
      have E_b := E_b.keep K21
      have V_b := V_b.keep K21 (ninS ne_b_xp nin0)
      have E_xp := E_xp.keep K21
      have Kp := Kp.trans K21 (allS (Or.inr sz_xp) all0)
      have Zs := Nat.le_trans Zs K21.1
      have szr := Nat.le_trans szr K21.1
      have hkW := Nat.le_trans hkW K21.1
      have X21 := own_pad (k' := 19) (n' := 213) X21 (by decide) (by decide)
      refine own_go (fun tQ kQ => st21.trans kQ) ?_
      show own_End p e below _ (T21.setTop (mkF m 120 #[.val (.int i0), .val (.int i1), .val (.int i2), .val (.int sb), .val (.int (1 : Int32)), .val (.ref pp), .val (.ref ca), .val (.ref ro), .val (.ref rr), .val (.ref al), .unset, .unset] [(.ref xp)]))
      refine own_go (fun tQ kQ => XS.astore X21.here hx rfl (hb hby at_120) rfl rfl (l' := #[.val (.int i0), .val (.int i1), .val (.int i2), .val (.int sb), .val (.int (1 : Int32)), .val (.ref pp), .val (.ref ca), .val (.ref ro), .val (.ref rr), .val (.ref al), .val (.ref xp), .unset]) rfl kQ) ?_
      show own_End p e below _ (T21.setTop (mkF m 122 #[.val (.int i0), .val (.int i1), .val (.int i2), .val (.int sb), .val (.int (1 : Int32)), .val (.ref pp), .val (.ref ca), .val (.ref ro), .val (.ref rr), .val (.ref al), .val (.ref xp), .unset] []))
      refine own_go (fun tQ kQ => XS.aload X21.here hx rfl (hb hby at_122) rfl rfl kQ) ?_
      show own_End p e below _ (T21.setTop (mkF m 124 #[.val (.int i0), .val (.int i1), .val (.int i2), .val (.int sb), .val (.int (1 : Int32)), .val (.ref pp), .val (.ref ca), .val (.ref ro), .val (.ref rr), .val (.ref al), .val (.ref xp), .unset] [(.ref al)]))
      refine own_go (fun tQ kQ => XS.aload X21.here hx rfl (hb hby at_124) rfl rfl kQ) ?_
      show own_End p e below _ (T21.setTop (mkF m 126 #[.val (.int i0), .val (.int i1), .val (.int i2), .val (.int sb), .val (.int (1 : Int32)), .val (.ref pp), .val (.ref ca), .val (.ref ro), .val (.ref rr), .val (.ref al), .val (.ref xp), .unset] [(.ref rr), (.ref al)]))
      obtain ⟨cq22, kq22, q22a, q22b, q22c⟩ := isOf hZ rfl E_al
      obtain ⟨_, _, ⟨T22, L22, k22, n22⟩, -, X22, ⟨Lc22, hQ22, l22, y22, z22⟩, st22⟩ := X21.virtualBack hx (y := (⟨"java/util/ArrayList", "add", "(Ljava/lang/Object;)Z"⟩ : MethodName)) (z := (⟨"java/util/ArrayList", "add", "(Ljava/lang/Object;)Z"⟩ : MethodName)) hown (mvT hZ (hw _ (List.mem_of_getElem? (i := 188) rfl))) (mvT hZ (hw _ (List.mem_of_getElem? (i := 189) rfl))) (notFace_of_selects (args := #[]) (mvT hZ (hw _ (List.mem_of_getElem? (i := 191) rfl)))) (mvT hZ (hw _ (List.mem_of_getElem? (i := 191) rfl))) (mvT hZ (hw _ (List.mem_of_getElem? (i := 190) rfl))) (by decide) (backOf (W := 0) (rma2 l Z a0 hw [] al b (fun j => if j = (0 : Int32).toNatClampNeg then .ref rr else .null) ((0 : Int32) + (1 : Int32)) (1 : Int32) rr T21.heap n0 Zs E_al F_modCount_al F_elementData_al F_size_al g_al V_b g_b ne_al_b (by decide) (by decide) E_rr) hZ (hw _ (List.mem_of_getElem? (i := 192) rfl)) (hw _ (List.mem_of_getElem? (i := 107) rfl)) (by decide) (by decide)) q22a q22c (g := (mkF m 126 #[.val (.int i0), .val (.int i1), .val (.int i2), .val (.int sb), .val (.int (1 : Int32)), .val (.ref pp), .val (.ref ca), .val (.ref ro), .val (.ref rr), .val (.ref al), .val (.ref xp), .unset] [(.ref rr), (.ref al)])) rfl (by rw [hml]; rfl) (Steps.refl _) (argsL := [(.ref rr)]) (rest := []) (lenOf pd_48 rfl) rfl (by show 2 * 0 + _ ≤ _; exact Nat.le_of_eq rfl) (hb hby at_126) (fun _ _ => ⟨rfl, rfl, (Nat.le_of_ble_eq_true rfl), (Nat.le_of_ble_eq_true rfl)⟩)
      dsimp only [Pt.U, Pt.locs, Pt.cells, Pt.slots] at X22 l22 y22 z22 st22 hQ22
      rw [l22, y22, z22] at X22
      obtain ⟨rfl, N22q, K22, F_modCount_al, F_elementData_al, F_size_al, V_b⟩ := hQ22
      have Nf := Fr.app Nf N22q
      have Ol := Ol.keep K22 (allS g_al (allS g_b all0))
      have E_rr := E_rr.keep K22
      have E_al := E_al.keep K22
      have E_b := E_b.keep K22
      have E_xp := E_xp.keep K22
      have E_r := E_r.keep K22
      have F_superadmin_xp := F_superadmin_xp.keep K22 (ninS (Ne.symm ne_al_xp) (ninS (Ne.symm ne_b_xp) nin0))
      have F_because_xp := F_because_xp.keep K22 (ninS (Ne.symm ne_al_xp) (ninS (Ne.symm ne_b_xp) nin0))
      have Kp := Kp.trans K22 (allS (Or.inr sz_al) (allS (Or.inr sz_b) all0))
      have Zs := Nat.le_trans Zs K22.1
      have szr := Nat.le_trans szr K22.1
      have hkW := Nat.le_trans hkW K22.1
      have X22 := own_pad (k' := 19) (n' := 213) X22 (by decide) (by decide)
      rw [show ((1 : Int32) + (1 : Int32)) = (2 : Int32) by decide] at F_size_al
      refine own_go (fun tQ kQ => st22.trans kQ) ?_
      show own_End p e below _ (T22.setTop (mkF m 129 #[.val (.int i0), .val (.int i1), .val (.int i2), .val (.int sb), .val (.int (1 : Int32)), .val (.ref pp), .val (.ref ca), .val (.ref ro), .val (.ref rr), .val (.ref al), .val (.ref xp), .unset] [(.int (1 : Int32))]))
      refine own_go (fun tQ kQ => XS.pop X22.here hx rfl (hb hby at_129) rfl rfl kQ) ?_
      show own_End p e below _ (T22.setTop (mkF m 130 #[.val (.int i0), .val (.int i1), .val (.int i2), .val (.int sb), .val (.int (1 : Int32)), .val (.ref pp), .val (.ref ca), .val (.ref ro), .val (.ref rr), .val (.ref al), .val (.ref xp), .unset] []))
      refine own_go (fun tQ kQ => XS.iloadN X22.here hx rfl (hb hby at_130) rfl kQ) ?_
      show own_End p e below _ (T22.setTop (mkF m 131 #[.val (.int i0), .val (.int i1), .val (.int i2), .val (.int sb), .val (.int (1 : Int32)), .val (.ref pp), .val (.ref ca), .val (.ref ro), .val (.ref rr), .val (.ref al), .val (.ref xp), .unset] [(.int sb)]))
      rcases hsb with hsb | hsb
      ·
        rw [hsb] at F_superadmin_xp ⊢
        show own_End p e below _ (T22.setTop (mkF m 131 #[.val (.int i0), .val (.int i1), .val (.int i2), .val (.int (0 : Int32)), .val (.int (1 : Int32)), .val (.ref pp), .val (.ref ca), .val (.ref ro), .val (.ref rr), .val (.ref al), .val (.ref xp), .unset] [(.int (0 : Int32))]))
        refine own_go (fun tQ kQ => XS.ifNo X22.here hx rfl (hb hby at_131) rfl ((if0 _ _).trans (teq (by decide)).2) kQ) ?_
        show own_End p e below _ (T22.setTop (mkF m 134 #[.val (.int i0), .val (.int i1), .val (.int i2), .val (.int (0 : Int32)), .val (.int (1 : Int32)), .val (.ref pp), .val (.ref ca), .val (.ref ro), .val (.ref rr), .val (.ref al), .val (.ref xp), .unset] []))
        refine own_go (fun tQ kQ => XS.iload X22.here hx rfl (hb hby at_134) rfl kQ) ?_
        show own_End p e below _ (T22.setTop (mkF m 136 #[.val (.int i0), .val (.int i1), .val (.int i2), .val (.int (0 : Int32)), .val (.int (1 : Int32)), .val (.ref pp), .val (.ref ca), .val (.ref ro), .val (.ref rr), .val (.ref al), .val (.ref xp), .unset] [(.int (1 : Int32))]))
        refine own_go (fun tQ kQ => XS.ifNo X22.here hx rfl (hb hby at_136) rfl ((if0 _ _).trans (tlt (by decide)).2.2.2) kQ) ?_
        show own_End p e below _ (T22.setTop (mkF m 139 #[.val (.int i0), .val (.int i1), .val (.int i2), .val (.int (0 : Int32)), .val (.int (1 : Int32)), .val (.ref pp), .val (.ref ca), .val (.ref ro), .val (.ref rr), .val (.ref al), .val (.ref xp), .unset] []))
        refine own_go (fun tQ kQ => XS.iconst X22.here hx rfl (hb hby at_139) kQ) ?_
        show own_End p e below _ (T22.setTop (mkF m 140 #[.val (.int i0), .val (.int i1), .val (.int i2), .val (.int (0 : Int32)), .val (.int (1 : Int32)), .val (.ref pp), .val (.ref ca), .val (.ref ro), .val (.ref rr), .val (.ref al), .val (.ref xp), .unset] [(.int (1 : Int32))]))
        refine own_go (fun tQ kQ => XS.goto X22.here hx rfl (pc0 := 140) (pc' := 144) rfl (hb hby at_140) (by decide) (by decide) kQ) ?_
        show own_End p e below _ (T22.setTop (mkF m 144 #[.val (.int i0), .val (.int i1), .val (.int i2), .val (.int (0 : Int32)), .val (.int (1 : Int32)), .val (.ref pp), .val (.ref ca), .val (.ref ro), .val (.ref rr), .val (.ref al), .val (.ref xp), .unset] [(.int (1 : Int32))]))
        refine own_go (fun tQ kQ => XS.istore X22.here hx rfl (hb hby at_144) rfl (l' := #[.val (.int i0), .val (.int i1), .val (.int i2), .val (.int (0 : Int32)), .val (.int (1 : Int32)), .val (.ref pp), .val (.ref ca), .val (.ref ro), .val (.ref rr), .val (.ref al), .val (.ref xp), .val (.int (1 : Int32))]) rfl kQ) ?_
        show own_End p e below _ (T22.setTop (mkF m 146 #[.val (.int i0), .val (.int i1), .val (.int i2), .val (.int (0 : Int32)), .val (.int (1 : Int32)), .val (.ref pp), .val (.ref ca), .val (.ref ro), .val (.ref rr), .val (.ref al), .val (.ref xp), .val (.int (1 : Int32))] []))
        refine own_go (fun tQ kQ => XS.aload X22.here hx rfl (hb hby at_146) rfl rfl kQ) ?_
        show own_End p e below _ (T22.setTop (mkF m 148 #[.val (.int i0), .val (.int i1), .val (.int i2), .val (.int (0 : Int32)), .val (.int (1 : Int32)), .val (.ref pp), .val (.ref ca), .val (.ref ro), .val (.ref rr), .val (.ref al), .val (.ref xp), .val (.int (1 : Int32))] [(.ref xp)]))
        obtain ⟨cq23, kq23, q23a, q23b, q23c⟩ := isOf hZ rfl E_xp
        obtain ⟨_, _, ⟨T23, L23, k23, n23⟩, -, X23, ⟨Lc23, hQ23, l23, y23, z23⟩, st23⟩ := X22.virtualBack hx (y := (⟨"com/example/grant3/grant3/Explanation", "allowed", "()Z"⟩ : MethodName)) (z := (⟨"com/example/grant3/grant3/Explanation", "allowed", "()Z"⟩ : MethodName)) hown (mvT hZ (hw _ (List.mem_of_getElem? (i := 217) rfl))) (mvT hZ (hw _ (List.mem_of_getElem? (i := 218) rfl))) (notFace_of_selects (args := #[]) (mvT hZ (hw _ (List.mem_of_getElem? (i := 220) rfl)))) (mvT hZ (hw _ (List.mem_of_getElem? (i := 220) rfl))) (mvT hZ (hw _ (List.mem_of_getElem? (i := 219) rfl))) (by decide) (backOf (W := 0) (rmawr l Z a0 hw [] xp r T22.heap n0 Zs F_superadmin_xp F_because_xp E_r) hZ (hw _ (List.mem_of_getElem? (i := 221) rfl)) (hw _ (List.mem_of_getElem? (i := 178) rfl)) (by decide) (by decide)) q23a q23c (g := (mkF m 148 #[.val (.int i0), .val (.int i1), .val (.int i2), .val (.int (0 : Int32)), .val (.int (1 : Int32)), .val (.ref pp), .val (.ref ca), .val (.ref ro), .val (.ref rr), .val (.ref al), .val (.ref xp), .val (.int (1 : Int32))] [(.ref xp)])) rfl (by rw [hml]; rfl) (Steps.refl _) (argsL := []) (rest := []) (lenOf pd_20 rfl) rfl (by show 2 * 0 + _ ≤ _; exact Nat.le_of_eq rfl) (hb hby at_148) (fun _ _ => ⟨rfl, rfl, (Nat.le_of_ble_eq_true rfl), (Nat.le_of_ble_eq_true rfl)⟩)
        dsimp only [Pt.U, Pt.locs, Pt.cells, Pt.slots] at X23 l23 y23 z23 st23 hQ23
        rw [l23, y23, z23] at X23
        obtain ⟨rfl, N23q, e23⟩ := hQ23
        have Nf := Fr.app Nf N23q
        have X23 := own_pad (k' := 19) (n' := 213) X23 (by decide) (by decide)
        refine own_go (fun tQ kQ => st23.trans kQ) ?_
        show own_End p e below _ (T23.setTop (mkF m 151 #[.val (.int i0), .val (.int i1), .val (.int i2), .val (.int (0 : Int32)), .val (.int (1 : Int32)), .val (.ref pp), .val (.ref ca), .val (.ref ro), .val (.ref rr), .val (.ref al), .val (.ref xp), .val (.int (1 : Int32))] [(.int (1 : Int32))]))
        refine own_go (fun tQ kQ => XS.iload X23.here hx rfl (hb hby at_151) rfl kQ) ?_
        show own_End p e below _ (T23.setTop (mkF m 153 #[.val (.int i0), .val (.int i1), .val (.int i2), .val (.int (0 : Int32)), .val (.int (1 : Int32)), .val (.ref pp), .val (.ref ca), .val (.ref ro), .val (.ref rr), .val (.ref al), .val (.ref xp), .val (.int (1 : Int32))] [(.int (1 : Int32)), (.int (1 : Int32))]))
        refine own_go (fun tQ kQ => XS.icmpNo X23.here hx rfl (hb hby at_153) rfl (teq (by decide)).2 kQ) ?_
        show own_End p e below _ (T23.setTop (mkF m 156 #[.val (.int i0), .val (.int i1), .val (.int i2), .val (.int (0 : Int32)), .val (.int (1 : Int32)), .val (.ref pp), .val (.ref ca), .val (.ref ro), .val (.ref rr), .val (.ref al), .val (.ref xp), .val (.int (1 : Int32))] []))
        refine own_go (fun tQ kQ => XS.iconst X23.here hx rfl (hb hby at_156) kQ) ?_
        show own_End p e below _ (T23.setTop (mkF m 157 #[.val (.int i0), .val (.int i1), .val (.int i2), .val (.int (0 : Int32)), .val (.int (1 : Int32)), .val (.ref pp), .val (.ref ca), .val (.ref ro), .val (.ref rr), .val (.ref al), .val (.ref xp), .val (.int (1 : Int32))] [(.int (1 : Int32))]))
        refine own_go (fun tQ kQ => XS.goto X23.here hx rfl (pc0 := 157) (pc' := 161) rfl (hb hby at_157) (by decide) (by decide) kQ) ?_
        show own_End p e below _ (T23.setTop (mkF m 161 #[.val (.int i0), .val (.int i1), .val (.int i2), .val (.int (0 : Int32)), .val (.int (1 : Int32)), .val (.ref pp), .val (.ref ca), .val (.ref ro), .val (.ref rr), .val (.ref al), .val (.ref xp), .val (.int (1 : Int32))] [(.int (1 : Int32))]))
        obtain ⟨fs, hr, hrun, hended, hend⟩ := X23.leaveW hS (by rw [e23]; exact hkW) (v := some (.int (1 : Int32))) (fun h => by rw [Bd.returns] at h; cases h)
        refine ⟨_, _, (retN X23 hx (t := .boolean) Bd.returns (by simp) (hb hby at_161) hr), hrun, hended, _, _, rfl, ?_, ⟨hend.1, hend.2.1, hend.2.2.1, hend.2.2.2.mono (by decide) (by decide)⟩⟩
        show Q0 Z i0 i1 i2 cz fm de fd el ee fe em mr h0 n0 _ T23.heap _
        rw [e23]
        exact ⟨rfl, Nf⟩
      ·
        rw [hsb] at F_superadmin_xp ⊢
        show own_End p e below _ (T22.setTop (mkF m 131 #[.val (.int i0), .val (.int i1), .val (.int i2), .val (.int (1 : Int32)), .val (.int (1 : Int32)), .val (.ref pp), .val (.ref ca), .val (.ref ro), .val (.ref rr), .val (.ref al), .val (.ref xp), .unset] [(.int (1 : Int32))]))
        refine own_go (fun tQ kQ => XS.ifYes X22.here hx rfl (pc0 := 131) (pc' := 139) rfl (hb hby at_131) rfl ((if0 _ _).trans (feq (by decide)).2) (by decide) (by decide) kQ) ?_
        show own_End p e below _ (T22.setTop (mkF m 139 #[.val (.int i0), .val (.int i1), .val (.int i2), .val (.int (1 : Int32)), .val (.int (1 : Int32)), .val (.ref pp), .val (.ref ca), .val (.ref ro), .val (.ref rr), .val (.ref al), .val (.ref xp), .unset] []))
        refine own_go (fun tQ kQ => XS.iconst X22.here hx rfl (hb hby at_139) kQ) ?_
        show own_End p e below _ (T22.setTop (mkF m 140 #[.val (.int i0), .val (.int i1), .val (.int i2), .val (.int (1 : Int32)), .val (.int (1 : Int32)), .val (.ref pp), .val (.ref ca), .val (.ref ro), .val (.ref rr), .val (.ref al), .val (.ref xp), .unset] [(.int (1 : Int32))]))
        refine own_go (fun tQ kQ => XS.goto X22.here hx rfl (pc0 := 140) (pc' := 144) rfl (hb hby at_140) (by decide) (by decide) kQ) ?_
        show own_End p e below _ (T22.setTop (mkF m 144 #[.val (.int i0), .val (.int i1), .val (.int i2), .val (.int (1 : Int32)), .val (.int (1 : Int32)), .val (.ref pp), .val (.ref ca), .val (.ref ro), .val (.ref rr), .val (.ref al), .val (.ref xp), .unset] [(.int (1 : Int32))]))
        refine own_go (fun tQ kQ => XS.istore X22.here hx rfl (hb hby at_144) rfl (l' := #[.val (.int i0), .val (.int i1), .val (.int i2), .val (.int (1 : Int32)), .val (.int (1 : Int32)), .val (.ref pp), .val (.ref ca), .val (.ref ro), .val (.ref rr), .val (.ref al), .val (.ref xp), .val (.int (1 : Int32))]) rfl kQ) ?_
        show own_End p e below _ (T22.setTop (mkF m 146 #[.val (.int i0), .val (.int i1), .val (.int i2), .val (.int (1 : Int32)), .val (.int (1 : Int32)), .val (.ref pp), .val (.ref ca), .val (.ref ro), .val (.ref rr), .val (.ref al), .val (.ref xp), .val (.int (1 : Int32))] []))
        refine own_go (fun tQ kQ => XS.aload X22.here hx rfl (hb hby at_146) rfl rfl kQ) ?_
        show own_End p e below _ (T22.setTop (mkF m 148 #[.val (.int i0), .val (.int i1), .val (.int i2), .val (.int (1 : Int32)), .val (.int (1 : Int32)), .val (.ref pp), .val (.ref ca), .val (.ref ro), .val (.ref rr), .val (.ref al), .val (.ref xp), .val (.int (1 : Int32))] [(.ref xp)]))
        obtain ⟨cq24, kq24, q24a, q24b, q24c⟩ := isOf hZ rfl E_xp
        obtain ⟨_, _, ⟨T24, L24, k24, n24⟩, -, X24, ⟨Lc24, hQ24, l24, y24, z24⟩, st24⟩ := X22.virtualBack hx (y := (⟨"com/example/grant3/grant3/Explanation", "allowed", "()Z"⟩ : MethodName)) (z := (⟨"com/example/grant3/grant3/Explanation", "allowed", "()Z"⟩ : MethodName)) hown (mvT hZ (hw _ (List.mem_of_getElem? (i := 217) rfl))) (mvT hZ (hw _ (List.mem_of_getElem? (i := 218) rfl))) (notFace_of_selects (args := #[]) (mvT hZ (hw _ (List.mem_of_getElem? (i := 220) rfl)))) (mvT hZ (hw _ (List.mem_of_getElem? (i := 220) rfl))) (mvT hZ (hw _ (List.mem_of_getElem? (i := 219) rfl))) (by decide) (backOf (W := 0) (rmaw1 l Z a0 hw [] xp T22.heap n0 Zs F_superadmin_xp) hZ (hw _ (List.mem_of_getElem? (i := 221) rfl)) (hw _ (List.mem_of_getElem? (i := 178) rfl)) (by decide) (by decide)) q24a q24c (g := (mkF m 148 #[.val (.int i0), .val (.int i1), .val (.int i2), .val (.int (1 : Int32)), .val (.int (1 : Int32)), .val (.ref pp), .val (.ref ca), .val (.ref ro), .val (.ref rr), .val (.ref al), .val (.ref xp), .val (.int (1 : Int32))] [(.ref xp)])) rfl (by rw [hml]; rfl) (Steps.refl _) (argsL := []) (rest := []) (lenOf pd_20 rfl) rfl (by show 2 * 0 + _ ≤ _; exact Nat.le_of_eq rfl) (hb hby at_148) (fun _ _ => ⟨rfl, rfl, (Nat.le_of_ble_eq_true rfl), (Nat.le_of_ble_eq_true rfl)⟩)
        dsimp only [Pt.U, Pt.locs, Pt.cells, Pt.slots] at X24 l24 y24 z24 st24 hQ24
        rw [l24, y24, z24] at X24
        obtain ⟨rfl, N24q, e24⟩ := hQ24
        have Nf := Fr.app Nf N24q
        have X24 := own_pad (k' := 19) (n' := 213) X24 (by decide) (by decide)
        refine own_go (fun tQ kQ => st24.trans kQ) ?_
        show own_End p e below _ (T24.setTop (mkF m 151 #[.val (.int i0), .val (.int i1), .val (.int i2), .val (.int (1 : Int32)), .val (.int (1 : Int32)), .val (.ref pp), .val (.ref ca), .val (.ref ro), .val (.ref rr), .val (.ref al), .val (.ref xp), .val (.int (1 : Int32))] [(.int (1 : Int32))]))
        refine own_go (fun tQ kQ => XS.iload X24.here hx rfl (hb hby at_151) rfl kQ) ?_
        show own_End p e below _ (T24.setTop (mkF m 153 #[.val (.int i0), .val (.int i1), .val (.int i2), .val (.int (1 : Int32)), .val (.int (1 : Int32)), .val (.ref pp), .val (.ref ca), .val (.ref ro), .val (.ref rr), .val (.ref al), .val (.ref xp), .val (.int (1 : Int32))] [(.int (1 : Int32)), (.int (1 : Int32))]))
        refine own_go (fun tQ kQ => XS.icmpNo X24.here hx rfl (hb hby at_153) rfl (teq (by decide)).2 kQ) ?_
        show own_End p e below _ (T24.setTop (mkF m 156 #[.val (.int i0), .val (.int i1), .val (.int i2), .val (.int (1 : Int32)), .val (.int (1 : Int32)), .val (.ref pp), .val (.ref ca), .val (.ref ro), .val (.ref rr), .val (.ref al), .val (.ref xp), .val (.int (1 : Int32))] []))
        refine own_go (fun tQ kQ => XS.iconst X24.here hx rfl (hb hby at_156) kQ) ?_
        show own_End p e below _ (T24.setTop (mkF m 157 #[.val (.int i0), .val (.int i1), .val (.int i2), .val (.int (1 : Int32)), .val (.int (1 : Int32)), .val (.ref pp), .val (.ref ca), .val (.ref ro), .val (.ref rr), .val (.ref al), .val (.ref xp), .val (.int (1 : Int32))] [(.int (1 : Int32))]))
        refine own_go (fun tQ kQ => XS.goto X24.here hx rfl (pc0 := 157) (pc' := 161) rfl (hb hby at_157) (by decide) (by decide) kQ) ?_
        show own_End p e below _ (T24.setTop (mkF m 161 #[.val (.int i0), .val (.int i1), .val (.int i2), .val (.int (1 : Int32)), .val (.int (1 : Int32)), .val (.ref pp), .val (.ref ca), .val (.ref ro), .val (.ref rr), .val (.ref al), .val (.ref xp), .val (.int (1 : Int32))] [(.int (1 : Int32))]))
        obtain ⟨fs, hr, hrun, hended, hend⟩ := X24.leaveW hS (by rw [e24]; exact hkW) (v := some (.int (1 : Int32))) (fun h => by rw [Bd.returns] at h; cases h)
        refine ⟨_, _, (retN X24 hx (t := .boolean) Bd.returns (by simp) (hb hby at_161) hr), hrun, hended, _, _, rfl, ?_, ⟨hend.1, hend.2.1, hend.2.2.1, hend.2.2.2.mono (by decide) (by decide)⟩⟩
        show Q0 Z i0 i1 i2 cz fm de fd el ee fe em mr h0 n0 _ T24.heap _
        rw [e24]
        exact ⟨rfl, Nf⟩
    ·
      rw [hcn]
      show own_End p e below _ (T13.setTop (mkF m 82 #[.val (.int i0), .val (.int i1), .val (.int i2), .val (.int sb), .val (.int (2 : Int32)), .val (.ref pp), .val (.ref ca), .val (.ref ro), .val (.ref rr), .val (.ref al), .unset, .unset] []))
      refine own_go (fun tQ kQ => XS.iload X13.here hx rfl (hb hby at_82) rfl kQ) ?_
      show own_End p e below _ (T13.setTop (mkF m 84 #[.val (.int i0), .val (.int i1), .val (.int i2), .val (.int sb), .val (.int (2 : Int32)), .val (.ref pp), .val (.ref ca), .val (.ref ro), .val (.ref rr), .val (.ref al), .unset, .unset] [(.int (2 : Int32))]))
      refine own_go (fun tQ kQ => XS.iconst X13.here hx rfl (hb hby at_84) kQ) ?_
      show own_End p e below _ (T13.setTop (mkF m 85 #[.val (.int i0), .val (.int i1), .val (.int i2), .val (.int sb), .val (.int (2 : Int32)), .val (.ref pp), .val (.ref ca), .val (.ref ro), .val (.ref rr), .val (.ref al), .unset, .unset] [(.int (1 : Int32)), (.int (2 : Int32))]))
      refine own_go (fun tQ kQ => XS.icmpNo X13.here hx rfl (hb hby at_85) rfl (flt (by decide)).1 kQ) ?_
      show own_End p e below _ (T13.setTop (mkF m 88 #[.val (.int i0), .val (.int i1), .val (.int i2), .val (.int sb), .val (.int (2 : Int32)), .val (.ref pp), .val (.ref ca), .val (.ref ro), .val (.ref rr), .val (.ref al), .unset, .unset] []))
      refine own_go (fun tQ kQ => XS.aload X13.here hx rfl (hb hby at_88) rfl rfl kQ) ?_
      show own_End p e below _ (T13.setTop (mkF m 90 #[.val (.int i0), .val (.int i1), .val (.int i2), .val (.int sb), .val (.int (2 : Int32)), .val (.ref pp), .val (.ref ca), .val (.ref ro), .val (.ref rr), .val (.ref al), .unset, .unset] [(.ref al)]))
      refine own_go (fun tQ kQ => XS.aload X13.here hx rfl (hb hby at_90) rfl rfl kQ) ?_
      show own_End p e below _ (T13.setTop (mkF m 92 #[.val (.int i0), .val (.int i1), .val (.int i2), .val (.int sb), .val (.int (2 : Int32)), .val (.ref pp), .val (.ref ca), .val (.ref ro), .val (.ref rr), .val (.ref al), .unset, .unset] [(.ref rr), (.ref al)]))
      obtain ⟨cq25, kq25, q25a, q25b, q25c⟩ := isOf hZ rfl E_al
      obtain ⟨_, _, ⟨T25, L25, k25, n25⟩, -, X25, ⟨Lc25, hQ25, l25, y25, z25⟩, st25⟩ := X13.virtualBack hx (y := (⟨"java/util/ArrayList", "add", "(Ljava/lang/Object;)Z"⟩ : MethodName)) (z := (⟨"java/util/ArrayList", "add", "(Ljava/lang/Object;)Z"⟩ : MethodName)) hown (mvT hZ (hw _ (List.mem_of_getElem? (i := 188) rfl))) (mvT hZ (hw _ (List.mem_of_getElem? (i := 189) rfl))) (notFace_of_selects (args := #[]) (mvT hZ (hw _ (List.mem_of_getElem? (i := 191) rfl)))) (mvT hZ (hw _ (List.mem_of_getElem? (i := 191) rfl))) (mvT hZ (hw _ (List.mem_of_getElem? (i := 190) rfl))) (by decide) (backOf (W := 0) (rma1 l Z a0 hw [] al de fd (0 : Int32) rr T13.heap n0 Zs E_al F_modCount_al F_elementData_al F_size_al g_al Ol S_de V_de E_rr) hZ (hw _ (List.mem_of_getElem? (i := 192) rfl)) (hw _ (List.mem_of_getElem? (i := 107) rfl)) (by decide) (by decide)) q25a q25c (g := (mkF m 92 #[.val (.int i0), .val (.int i1), .val (.int i2), .val (.int sb), .val (.int (2 : Int32)), .val (.ref pp), .val (.ref ca), .val (.ref ro), .val (.ref rr), .val (.ref al), .unset, .unset] [(.ref rr), (.ref al)])) rfl (by rw [hml]; rfl) (Steps.refl _) (argsL := [(.ref rr)]) (rest := []) (lenOf pd_48 rfl) rfl (by show 2 * 0 + _ ≤ _; exact Nat.le_of_eq rfl) (hb hby at_92) (fun _ _ => ⟨rfl, rfl, (Nat.le_of_ble_eq_true rfl), (Nat.le_of_ble_eq_true rfl)⟩)
      dsimp only [Pt.U, Pt.locs, Pt.cells, Pt.slots] at X25 l25 y25 z25 st25 hQ25
      rw [l25, y25, z25] at X25
      obtain ⟨b, rfl, N25q, K25, hb25, F_modCount_al, F_elementData_al, F_size_al, E_b, V_b⟩ := hQ25
      have Nf := Fr.app Nf N25q
      have ne_rr_b : rr ≠ b := Nat.ne_of_lt (Nat.lt_of_lt_of_le E_rr.lt hb25)
      have ne_al_b : al ≠ b := Nat.ne_of_lt (Nat.lt_of_lt_of_le E_al.lt hb25)
      have g_b : n0 ≤ b := Nat.le_trans Zs hb25
      have sz_b : h0.size ≤ b := Nat.le_trans szr hb25
      have Ol := Ol.keep K25 (allS g_al all0)
      have E_rr := E_rr.keep K25
      have E_al := E_al.keep K25
      have Kp := Kp.trans K25 (allS (Or.inr sz_al) all0)
      have Zs := Nat.le_trans Zs K25.1
      have szr := Nat.le_trans szr K25.1
      have hkW := Nat.le_trans hkW K25.1
      have X25 := own_pad (k' := 16) (n' := 208) X25 (by decide) (by decide)
      refine own_go (fun tQ kQ => st25.trans kQ) ?_
      show own_End p e below _ (T25.setTop (mkF m 95 #[.val (.int i0), .val (.int i1), .val (.int i2), .val (.int sb), .val (.int (2 : Int32)), .val (.ref pp), .val (.ref ca), .val (.ref ro), .val (.ref rr), .val (.ref al), .unset, .unset] [(.int (1 : Int32))]))
      refine own_go (fun tQ kQ => XS.pop X25.here hx rfl (hb hby at_95) rfl rfl kQ) ?_
      show own_End p e below _ (T25.setTop (mkF m 96 #[.val (.int i0), .val (.int i1), .val (.int i2), .val (.int sb), .val (.int (2 : Int32)), .val (.ref pp), .val (.ref ca), .val (.ref ro), .val (.ref rr), .val (.ref al), .unset, .unset] []))
      refine own_go (fun tQ kQ => XS.iload X25.here hx rfl (hb hby at_96) rfl kQ) ?_
      show own_End p e below _ (T25.setTop (mkF m 98 #[.val (.int i0), .val (.int i1), .val (.int i2), .val (.int sb), .val (.int (2 : Int32)), .val (.ref pp), .val (.ref ca), .val (.ref ro), .val (.ref rr), .val (.ref al), .unset, .unset] [(.int (2 : Int32))]))
      refine own_go (fun tQ kQ => XS.iconst X25.here hx rfl (hb hby at_98) kQ) ?_
      show own_End p e below _ (T25.setTop (mkF m 99 #[.val (.int i0), .val (.int i1), .val (.int i2), .val (.int sb), .val (.int (2 : Int32)), .val (.ref pp), .val (.ref ca), .val (.ref ro), .val (.ref rr), .val (.ref al), .unset, .unset] [(.int (2 : Int32)), (.int (2 : Int32))]))
      refine own_go (fun tQ kQ => XS.icmpNo X25.here hx rfl (hb hby at_99) rfl (flt (by decide)).1 kQ) ?_
      show own_End p e below _ (T25.setTop (mkF m 102 #[.val (.int i0), .val (.int i1), .val (.int i2), .val (.int sb), .val (.int (2 : Int32)), .val (.ref pp), .val (.ref ca), .val (.ref ro), .val (.ref rr), .val (.ref al), .unset, .unset] []))
      refine own_go (fun tQ kQ => XS.aload X25.here hx rfl (hb hby at_102) rfl rfl kQ) ?_
      show own_End p e below _ (T25.setTop (mkF m 104 #[.val (.int i0), .val (.int i1), .val (.int i2), .val (.int sb), .val (.int (2 : Int32)), .val (.ref pp), .val (.ref ca), .val (.ref ro), .val (.ref rr), .val (.ref al), .unset, .unset] [(.ref al)]))
      refine own_go (fun tQ kQ => XS.aload X25.here hx rfl (hb hby at_104) rfl rfl kQ) ?_
      show own_End p e below _ (T25.setTop (mkF m 106 #[.val (.int i0), .val (.int i1), .val (.int i2), .val (.int sb), .val (.int (2 : Int32)), .val (.ref pp), .val (.ref ca), .val (.ref ro), .val (.ref rr), .val (.ref al), .unset, .unset] [(.ref rr), (.ref al)]))
      obtain ⟨cq26, kq26, q26a, q26b, q26c⟩ := isOf hZ rfl E_al
      obtain ⟨_, _, ⟨T26, L26, k26, n26⟩, -, X26, ⟨Lc26, hQ26, l26, y26, z26⟩, st26⟩ := X25.virtualBack hx (y := (⟨"java/util/ArrayList", "add", "(Ljava/lang/Object;)Z"⟩ : MethodName)) (z := (⟨"java/util/ArrayList", "add", "(Ljava/lang/Object;)Z"⟩ : MethodName)) hown (mvT hZ (hw _ (List.mem_of_getElem? (i := 188) rfl))) (mvT hZ (hw _ (List.mem_of_getElem? (i := 189) rfl))) (notFace_of_selects (args := #[]) (mvT hZ (hw _ (List.mem_of_getElem? (i := 191) rfl)))) (mvT hZ (hw _ (List.mem_of_getElem? (i := 191) rfl))) (mvT hZ (hw _ (List.mem_of_getElem? (i := 190) rfl))) (by decide) (backOf (W := 0) (rma2 l Z a0 hw [] al b (fun j => if j = (0 : Int32).toNatClampNeg then .ref rr else .null) ((0 : Int32) + (1 : Int32)) (1 : Int32) rr T25.heap n0 Zs E_al F_modCount_al F_elementData_al F_size_al g_al V_b g_b ne_al_b (by decide) (by decide) E_rr) hZ (hw _ (List.mem_of_getElem? (i := 192) rfl)) (hw _ (List.mem_of_getElem? (i := 107) rfl)) (by decide) (by decide)) q26a q26c (g := (mkF m 106 #[.val (.int i0), .val (.int i1), .val (.int i2), .val (.int sb), .val (.int (2 : Int32)), .val (.ref pp), .val (.ref ca), .val (.ref ro), .val (.ref rr), .val (.ref al), .unset, .unset] [(.ref rr), (.ref al)])) rfl (by rw [hml]; rfl) (Steps.refl _) (argsL := [(.ref rr)]) (rest := []) (lenOf pd_48 rfl) rfl (by show 2 * 0 + _ ≤ _; exact Nat.le_of_eq rfl) (hb hby at_106) (fun _ _ => ⟨rfl, rfl, (Nat.le_of_ble_eq_true rfl), (Nat.le_of_ble_eq_true rfl)⟩)
      dsimp only [Pt.U, Pt.locs, Pt.cells, Pt.slots] at X26 l26 y26 z26 st26 hQ26
      rw [l26, y26, z26] at X26
      obtain ⟨rfl, N26q, K26, F_modCount_al, F_elementData_al, F_size_al, V_b⟩ := hQ26
      have Nf := Fr.app Nf N26q
      have Ol := Ol.keep K26 (allS g_al (allS g_b all0))
      have E_rr := E_rr.keep K26
      have E_al := E_al.keep K26
      have E_b := E_b.keep K26
      have Kp := Kp.trans K26 (allS (Or.inr sz_al) (allS (Or.inr sz_b) all0))
      have Zs := Nat.le_trans Zs K26.1
      have szr := Nat.le_trans szr K26.1
      have hkW := Nat.le_trans hkW K26.1
      have X26 := own_pad (k' := 16) (n' := 208) X26 (by decide) (by decide)
      rw [show ((1 : Int32) + (1 : Int32)) = (2 : Int32) by decide] at F_size_al
      refine own_go (fun tQ kQ => st26.trans kQ) ?_
      show own_End p e below _ (T26.setTop (mkF m 109 #[.val (.int i0), .val (.int i1), .val (.int i2), .val (.int sb), .val (.int (2 : Int32)), .val (.ref pp), .val (.ref ca), .val (.ref ro), .val (.ref rr), .val (.ref al), .unset, .unset] [(.int (1 : Int32))]))
      refine own_go (fun tQ kQ => XS.pop X26.here hx rfl (hb hby at_109) rfl rfl kQ) ?_
      show own_End p e below _ (T26.setTop (mkF m 110 #[.val (.int i0), .val (.int i1), .val (.int i2), .val (.int sb), .val (.int (2 : Int32)), .val (.ref pp), .val (.ref ca), .val (.ref ro), .val (.ref rr), .val (.ref al), .unset, .unset] []))
      obtain ⟨T27, h27, X27, e27, E27, A27, D27, -, st27⟩ := newO X26 hx hZ hown (hw _ (List.mem_of_getElem? (i := 176) rfl)) (hw _ (List.mem_of_getElem? (i := 177) rfl)) (hw _ (List.mem_of_getElem? (i := 178) rfl)) rfl (g := (mkF m 110 #[.val (.int i0), .val (.int i1), .val (.int i2), .val (.int sb), .val (.int (2 : Int32)), .val (.ref pp), .val (.ref ca), .val (.ref ro), .val (.ref rr), .val (.ref al), .unset, .unset] [])) rfl (hb hby at_110) (by decide) (by decide)
      obtain ⟨xp, g27⟩ : ∃ z, z = T26.heap.size := ⟨_, rfl⟩
      rw [← g27] at A27 D27 st27
      have ne_rr_xp : rr ≠ xp := Nat.ne_of_lt (Nat.lt_of_lt_of_le E_rr.lt (Nat.le_of_eq g27.symm))
      have ne_al_xp : al ≠ xp := Nat.ne_of_lt (Nat.lt_of_lt_of_le E_al.lt (Nat.le_of_eq g27.symm))
      have ne_b_xp : b ≠ xp := Nat.ne_of_lt (Nat.lt_of_lt_of_le E_b.lt (Nat.le_of_eq g27.symm))
      have g_xp : n0 ≤ xp := Nat.le_trans Zs (Nat.le_of_eq g27.symm)
      have sz_xp : h0.size ≤ xp := Nat.le_trans szr (Nat.le_of_eq g27.symm)
      have Ol := Ol.ext E27
      have E_rr := E_rr.ext E27
      have E_al := E_al.ext E27
      have E_b := E_b.ext E27
      have F_modCount_al := F_modCount_al.ext E27
      have F_elementData_al := F_elementData_al.ext E27
      have F_size_al := F_size_al.ext E27
      have V_b := V_b.ext E27
      have Kp := Kp.ext E27
      have Zs := Nat.le_trans Zs E27.1
      have szr := Nat.le_trans szr E27.1
      have hkW := Nat.le_trans hkW E27.1
      have E_xp := A27
      have F_superadmin_xp : Fld Z h27 xp "com/example/grant3/grant3/Explanation" "superadmin" "Z" (.int (0 : Int32)) := D27 (Or.inr (hw _ (List.mem_of_getElem? (i := 185) rfl))) (ty := .boolean) (by decide)
      have F_because_xp : Fld Z h27 xp "com/example/grant3/grant3/Explanation" "because" "Ljava/util/List;" .null := D27 (Or.inr (hw _ (List.mem_of_getElem? (i := 187) rfl))) (ty := (.object "java/util/List")) (by decide)
      have X27 := own_pad (k' := 17) (n' := 210) X27 (by decide) (by decide)
      refine own_go (fun tQ kQ => st27 tQ kQ) ?_
      show own_End p e below _ (T27.setTop (mkF m 113 #[.val (.int i0), .val (.int i1), .val (.int i2), .val (.int sb), .val (.int (2 : Int32)), .val (.ref pp), .val (.ref ca), .val (.ref ro), .val (.ref rr), .val (.ref al), .unset, .unset] [(.ref xp)]))
      refine own_go (fun tQ kQ => XS.dup X27.here hx rfl (hb hby at_113) rfl rfl kQ) ?_
      show own_End p e below _ (T27.setTop (mkF m 114 #[.val (.int i0), .val (.int i1), .val (.int i2), .val (.int sb), .val (.int (2 : Int32)), .val (.ref pp), .val (.ref ca), .val (.ref ro), .val (.ref rr), .val (.ref al), .unset, .unset] [(.ref xp), (.ref xp)]))
      refine own_go (fun tQ kQ => XS.iloadN X27.here hx rfl (hb hby at_114) rfl kQ) ?_
      show own_End p e below _ (T27.setTop (mkF m 115 #[.val (.int i0), .val (.int i1), .val (.int i2), .val (.int sb), .val (.int (2 : Int32)), .val (.ref pp), .val (.ref ca), .val (.ref ro), .val (.ref rr), .val (.ref al), .unset, .unset] [(.int sb), (.ref xp), (.ref xp)]))
      refine own_go (fun tQ kQ => XS.aload X27.here hx rfl (hb hby at_115) rfl rfl kQ) ?_
      show own_End p e below _ (T27.setTop (mkF m 117 #[.val (.int i0), .val (.int i1), .val (.int i2), .val (.int sb), .val (.int (2 : Int32)), .val (.ref pp), .val (.ref ca), .val (.ref ro), .val (.ref rr), .val (.ref al), .unset, .unset] [(.ref al), (.int sb), (.ref xp), (.ref xp)]))
      have hsv : narrow .boolean (.int sb) = .int sb ∧ fits .boolean (.int sb) = true := by rcases hsb with q | q <;> rw [q] <;> exact ⟨rfl, rfl⟩
      have hfr : ∀ j, j < 2 → ((fun j => if j = (1 : Int32).toNatClampNeg then .ref rr else (fun j => if j = (0 : Int32).toNatClampNeg then .ref rr else .null) j) : Nat → Value) j = Value.ref rr := (fun j hj => by
        have hj2 : j = 0 ∨ j = 1 := by omega
        rcases hj2 with rfl | rfl <;> rfl)
      have hff : ∀ j, fits (.object "java/lang/Object") (((fun j => if j = (1 : Int32).toNatClampNeg then .ref rr else (fun j => if j = (0 : Int32).toNatClampNeg then .ref rr else .null) j) : Nat → Value) j) = true := fun j => by
        dsimp only
        split
        · rfl
        · split <;> rfl
      obtain ⟨_, _, ⟨T28, L28, k28, n28⟩, -, X28, ⟨Lc28, hQ28, l28, y28, z28⟩, st28⟩ := X27.specialBack hx (y := (⟨"com/example/grant3/grant3/Explanation", "<init>", "(ZLjava/util/List;)V"⟩ : MethodName)) rfl hown (mvT hZ (hw _ (List.mem_of_getElem? (i := 179) rfl))) (mvT hZ (hw _ (List.mem_of_getElem? (i := 180) rfl))) (mvT hZ (hw _ (List.mem_of_getElem? (i := 181) rfl))) (by decide) (backOf (W := 1) (rmei2 l Z a0 hw [] xp sb al (((0 : Int32) + (1 : Int32)) + (1 : Int32)) b (fun j => if j = (1 : Int32).toNatClampNeg then .ref rr else (fun j => if j = (0 : Int32).toNatClampNeg then .ref rr else .null) j) mr rr em h27 n0 Zs E_xp F_superadmin_xp F_because_xp g_xp hsv E_al F_modCount_al F_elementData_al F_size_al E_b V_b M_r E_rr hff hfr Ol S_em) hZ (hw _ (List.mem_of_getElem? (i := 181) rfl)) (hw _ (List.mem_of_getElem? (i := 178) rfl)) (by decide) (by decide)) (g := (mkF m 117 #[.val (.int i0), .val (.int i1), .val (.int i2), .val (.int sb), .val (.int (2 : Int32)), .val (.ref pp), .val (.ref ca), .val (.ref ro), .val (.ref rr), .val (.ref al), .unset, .unset] [(.ref al), (.int sb), (.ref xp), (.ref xp)])) rfl (by rw [hml]; rfl) (Steps.refl _) (a := xp) (argsL := [(.int sb), (.ref al)]) (rest := [(.ref xp)]) (lenOf pd_47 rfl) rfl (by show 2 * 0 + _ ≤ _; exact Nat.le_of_eq rfl) (hb hby at_117) (fun _ _ => ⟨rfl, e27, (Nat.le_of_ble_eq_true rfl), (Nat.le_of_ble_eq_true rfl)⟩)
      dsimp only [Pt.U, Pt.locs, Pt.cells, Pt.slots] at X28 l28 y28 z28 st28 hQ28
      rw [l28, y28, z28] at X28
      obtain ⟨r, rfl, N28q, K28, hb28, E_r, F_superadmin_xp, F_because_xp⟩ := hQ28
      have Nf := Fr.app Nf N28q
      have ne_rr_r : rr ≠ r := Nat.ne_of_lt (Nat.lt_of_lt_of_le E_rr.lt hb28)
      have ne_al_r : al ≠ r := Nat.ne_of_lt (Nat.lt_of_lt_of_le E_al.lt hb28)
      have ne_b_r : b ≠ r := Nat.ne_of_lt (Nat.lt_of_lt_of_le E_b.lt hb28)
      have ne_xp_r : xp ≠ r := Nat.ne_of_lt (Nat.lt_of_lt_of_le E_xp.lt hb28)
      have g_r : n0 ≤ r := Nat.le_trans Zs hb28
      have sz_r : h0.size ≤ r := Nat.le_trans szr hb28
      have Ol := Ol.keep K28 (allS g_xp all0)
      have E_rr := E_rr.keep K28
      have E_al := E_al.keep K28
      have E_b := E_b.keep K28
      have F_modCount_al := F_modCount_al.keep K28 (ninS ne_al_xp nin0)
      have F_elementData_al := F_elementData_al.keep K28 (ninS ne_al_xp nin0)
      have F_size_al := F_size_al.keep K28 (ninS ne_al_xp nin0)
      have V_b := V_b.keep K28 (ninS ne_b_xp nin0)
      have E_xp := E_xp.keep K28
      have Kp := Kp.trans K28 (allS (Or.inr sz_xp) all0)
      have Zs := Nat.le_trans Zs K28.1
      have szr := Nat.le_trans szr K28.1
      have hkW := Nat.le_trans hkW K28.1
      have X28 := own_pad (k' := 19) (n' := 214) X28 (by decide) (by decide)
      refine own_go (fun tQ kQ => st28.trans kQ) ?_
      show own_End p e below _ (T28.setTop (mkF m 120 #[.val (.int i0), .val (.int i1), .val (.int i2), .val (.int sb), .val (.int (2 : Int32)), .val (.ref pp), .val (.ref ca), .val (.ref ro), .val (.ref rr), .val (.ref al), .unset, .unset] [(.ref xp)]))
      refine own_go (fun tQ kQ => XS.astore X28.here hx rfl (hb hby at_120) rfl rfl (l' := #[.val (.int i0), .val (.int i1), .val (.int i2), .val (.int sb), .val (.int (2 : Int32)), .val (.ref pp), .val (.ref ca), .val (.ref ro), .val (.ref rr), .val (.ref al), .val (.ref xp), .unset]) rfl kQ) ?_
      show own_End p e below _ (T28.setTop (mkF m 122 #[.val (.int i0), .val (.int i1), .val (.int i2), .val (.int sb), .val (.int (2 : Int32)), .val (.ref pp), .val (.ref ca), .val (.ref ro), .val (.ref rr), .val (.ref al), .val (.ref xp), .unset] []))
      refine own_go (fun tQ kQ => XS.aload X28.here hx rfl (hb hby at_122) rfl rfl kQ) ?_
      show own_End p e below _ (T28.setTop (mkF m 124 #[.val (.int i0), .val (.int i1), .val (.int i2), .val (.int sb), .val (.int (2 : Int32)), .val (.ref pp), .val (.ref ca), .val (.ref ro), .val (.ref rr), .val (.ref al), .val (.ref xp), .unset] [(.ref al)]))
      refine own_go (fun tQ kQ => XS.aload X28.here hx rfl (hb hby at_124) rfl rfl kQ) ?_
      show own_End p e below _ (T28.setTop (mkF m 126 #[.val (.int i0), .val (.int i1), .val (.int i2), .val (.int sb), .val (.int (2 : Int32)), .val (.ref pp), .val (.ref ca), .val (.ref ro), .val (.ref rr), .val (.ref al), .val (.ref xp), .unset] [(.ref rr), (.ref al)]))
      obtain ⟨cq29, kq29, q29a, q29b, q29c⟩ := isOf hZ rfl E_al
      obtain ⟨_, _, ⟨T29, L29, k29, n29⟩, -, X29, ⟨Lc29, hQ29, l29, y29, z29⟩, st29⟩ := X28.virtualBack hx (y := (⟨"java/util/ArrayList", "add", "(Ljava/lang/Object;)Z"⟩ : MethodName)) (z := (⟨"java/util/ArrayList", "add", "(Ljava/lang/Object;)Z"⟩ : MethodName)) hown (mvT hZ (hw _ (List.mem_of_getElem? (i := 188) rfl))) (mvT hZ (hw _ (List.mem_of_getElem? (i := 189) rfl))) (notFace_of_selects (args := #[]) (mvT hZ (hw _ (List.mem_of_getElem? (i := 191) rfl)))) (mvT hZ (hw _ (List.mem_of_getElem? (i := 191) rfl))) (mvT hZ (hw _ (List.mem_of_getElem? (i := 190) rfl))) (by decide) (backOf (W := 0) (rma2 l Z a0 hw [] al b (fun j => if j = (1 : Int32).toNatClampNeg then .ref rr else (fun j => if j = (0 : Int32).toNatClampNeg then .ref rr else .null) j) (((0 : Int32) + (1 : Int32)) + (1 : Int32)) (2 : Int32) rr T28.heap n0 Zs E_al F_modCount_al F_elementData_al F_size_al g_al V_b g_b ne_al_b (by decide) (by decide) E_rr) hZ (hw _ (List.mem_of_getElem? (i := 192) rfl)) (hw _ (List.mem_of_getElem? (i := 107) rfl)) (by decide) (by decide)) q29a q29c (g := (mkF m 126 #[.val (.int i0), .val (.int i1), .val (.int i2), .val (.int sb), .val (.int (2 : Int32)), .val (.ref pp), .val (.ref ca), .val (.ref ro), .val (.ref rr), .val (.ref al), .val (.ref xp), .unset] [(.ref rr), (.ref al)])) rfl (by rw [hml]; rfl) (Steps.refl _) (argsL := [(.ref rr)]) (rest := []) (lenOf pd_48 rfl) rfl (by show 2 * 0 + _ ≤ _; exact Nat.le_of_eq rfl) (hb hby at_126) (fun _ _ => ⟨rfl, rfl, (Nat.le_of_ble_eq_true rfl), (Nat.le_of_ble_eq_true rfl)⟩)
      dsimp only [Pt.U, Pt.locs, Pt.cells, Pt.slots] at X29 l29 y29 z29 st29 hQ29
      rw [l29, y29, z29] at X29
      obtain ⟨rfl, N29q, K29, F_modCount_al, F_elementData_al, F_size_al, V_b⟩ := hQ29
      have Nf := Fr.app Nf N29q
      have Ol := Ol.keep K29 (allS g_al (allS g_b all0))
      have E_rr := E_rr.keep K29
      have E_al := E_al.keep K29
      have E_b := E_b.keep K29
      have E_xp := E_xp.keep K29
      have E_r := E_r.keep K29
      have F_superadmin_xp := F_superadmin_xp.keep K29 (ninS (Ne.symm ne_al_xp) (ninS (Ne.symm ne_b_xp) nin0))
      have F_because_xp := F_because_xp.keep K29 (ninS (Ne.symm ne_al_xp) (ninS (Ne.symm ne_b_xp) nin0))
      have Kp := Kp.trans K29 (allS (Or.inr sz_al) (allS (Or.inr sz_b) all0))
      have Zs := Nat.le_trans Zs K29.1
      have szr := Nat.le_trans szr K29.1
      have hkW := Nat.le_trans hkW K29.1
      have X29 := own_pad (k' := 19) (n' := 214) X29 (by decide) (by decide)
      rw [show ((2 : Int32) + (1 : Int32)) = (3 : Int32) by decide] at F_size_al
      refine own_go (fun tQ kQ => st29.trans kQ) ?_
      show own_End p e below _ (T29.setTop (mkF m 129 #[.val (.int i0), .val (.int i1), .val (.int i2), .val (.int sb), .val (.int (2 : Int32)), .val (.ref pp), .val (.ref ca), .val (.ref ro), .val (.ref rr), .val (.ref al), .val (.ref xp), .unset] [(.int (1 : Int32))]))
      refine own_go (fun tQ kQ => XS.pop X29.here hx rfl (hb hby at_129) rfl rfl kQ) ?_
      show own_End p e below _ (T29.setTop (mkF m 130 #[.val (.int i0), .val (.int i1), .val (.int i2), .val (.int sb), .val (.int (2 : Int32)), .val (.ref pp), .val (.ref ca), .val (.ref ro), .val (.ref rr), .val (.ref al), .val (.ref xp), .unset] []))
      refine own_go (fun tQ kQ => XS.iloadN X29.here hx rfl (hb hby at_130) rfl kQ) ?_
      show own_End p e below _ (T29.setTop (mkF m 131 #[.val (.int i0), .val (.int i1), .val (.int i2), .val (.int sb), .val (.int (2 : Int32)), .val (.ref pp), .val (.ref ca), .val (.ref ro), .val (.ref rr), .val (.ref al), .val (.ref xp), .unset] [(.int sb)]))
      rcases hsb with hsb | hsb
      ·
        rw [hsb] at F_superadmin_xp ⊢
        show own_End p e below _ (T29.setTop (mkF m 131 #[.val (.int i0), .val (.int i1), .val (.int i2), .val (.int (0 : Int32)), .val (.int (2 : Int32)), .val (.ref pp), .val (.ref ca), .val (.ref ro), .val (.ref rr), .val (.ref al), .val (.ref xp), .unset] [(.int (0 : Int32))]))
        refine own_go (fun tQ kQ => XS.ifNo X29.here hx rfl (hb hby at_131) rfl ((if0 _ _).trans (teq (by decide)).2) kQ) ?_
        show own_End p e below _ (T29.setTop (mkF m 134 #[.val (.int i0), .val (.int i1), .val (.int i2), .val (.int (0 : Int32)), .val (.int (2 : Int32)), .val (.ref pp), .val (.ref ca), .val (.ref ro), .val (.ref rr), .val (.ref al), .val (.ref xp), .unset] []))
        refine own_go (fun tQ kQ => XS.iload X29.here hx rfl (hb hby at_134) rfl kQ) ?_
        show own_End p e below _ (T29.setTop (mkF m 136 #[.val (.int i0), .val (.int i1), .val (.int i2), .val (.int (0 : Int32)), .val (.int (2 : Int32)), .val (.ref pp), .val (.ref ca), .val (.ref ro), .val (.ref rr), .val (.ref al), .val (.ref xp), .unset] [(.int (2 : Int32))]))
        refine own_go (fun tQ kQ => XS.ifNo X29.here hx rfl (hb hby at_136) rfl ((if0 _ _).trans (tlt (by decide)).2.2.2) kQ) ?_
        show own_End p e below _ (T29.setTop (mkF m 139 #[.val (.int i0), .val (.int i1), .val (.int i2), .val (.int (0 : Int32)), .val (.int (2 : Int32)), .val (.ref pp), .val (.ref ca), .val (.ref ro), .val (.ref rr), .val (.ref al), .val (.ref xp), .unset] []))
        refine own_go (fun tQ kQ => XS.iconst X29.here hx rfl (hb hby at_139) kQ) ?_
        show own_End p e below _ (T29.setTop (mkF m 140 #[.val (.int i0), .val (.int i1), .val (.int i2), .val (.int (0 : Int32)), .val (.int (2 : Int32)), .val (.ref pp), .val (.ref ca), .val (.ref ro), .val (.ref rr), .val (.ref al), .val (.ref xp), .unset] [(.int (1 : Int32))]))
        refine own_go (fun tQ kQ => XS.goto X29.here hx rfl (pc0 := 140) (pc' := 144) rfl (hb hby at_140) (by decide) (by decide) kQ) ?_
        show own_End p e below _ (T29.setTop (mkF m 144 #[.val (.int i0), .val (.int i1), .val (.int i2), .val (.int (0 : Int32)), .val (.int (2 : Int32)), .val (.ref pp), .val (.ref ca), .val (.ref ro), .val (.ref rr), .val (.ref al), .val (.ref xp), .unset] [(.int (1 : Int32))]))
        refine own_go (fun tQ kQ => XS.istore X29.here hx rfl (hb hby at_144) rfl (l' := #[.val (.int i0), .val (.int i1), .val (.int i2), .val (.int (0 : Int32)), .val (.int (2 : Int32)), .val (.ref pp), .val (.ref ca), .val (.ref ro), .val (.ref rr), .val (.ref al), .val (.ref xp), .val (.int (1 : Int32))]) rfl kQ) ?_
        show own_End p e below _ (T29.setTop (mkF m 146 #[.val (.int i0), .val (.int i1), .val (.int i2), .val (.int (0 : Int32)), .val (.int (2 : Int32)), .val (.ref pp), .val (.ref ca), .val (.ref ro), .val (.ref rr), .val (.ref al), .val (.ref xp), .val (.int (1 : Int32))] []))
        refine own_go (fun tQ kQ => XS.aload X29.here hx rfl (hb hby at_146) rfl rfl kQ) ?_
        show own_End p e below _ (T29.setTop (mkF m 148 #[.val (.int i0), .val (.int i1), .val (.int i2), .val (.int (0 : Int32)), .val (.int (2 : Int32)), .val (.ref pp), .val (.ref ca), .val (.ref ro), .val (.ref rr), .val (.ref al), .val (.ref xp), .val (.int (1 : Int32))] [(.ref xp)]))
        obtain ⟨cq30, kq30, q30a, q30b, q30c⟩ := isOf hZ rfl E_xp
        obtain ⟨_, _, ⟨T30, L30, k30, n30⟩, -, X30, ⟨Lc30, hQ30, l30, y30, z30⟩, st30⟩ := X29.virtualBack hx (y := (⟨"com/example/grant3/grant3/Explanation", "allowed", "()Z"⟩ : MethodName)) (z := (⟨"com/example/grant3/grant3/Explanation", "allowed", "()Z"⟩ : MethodName)) hown (mvT hZ (hw _ (List.mem_of_getElem? (i := 217) rfl))) (mvT hZ (hw _ (List.mem_of_getElem? (i := 218) rfl))) (notFace_of_selects (args := #[]) (mvT hZ (hw _ (List.mem_of_getElem? (i := 220) rfl)))) (mvT hZ (hw _ (List.mem_of_getElem? (i := 220) rfl))) (mvT hZ (hw _ (List.mem_of_getElem? (i := 219) rfl))) (by decide) (backOf (W := 0) (rmawr l Z a0 hw [] xp r T29.heap n0 Zs F_superadmin_xp F_because_xp E_r) hZ (hw _ (List.mem_of_getElem? (i := 221) rfl)) (hw _ (List.mem_of_getElem? (i := 178) rfl)) (by decide) (by decide)) q30a q30c (g := (mkF m 148 #[.val (.int i0), .val (.int i1), .val (.int i2), .val (.int (0 : Int32)), .val (.int (2 : Int32)), .val (.ref pp), .val (.ref ca), .val (.ref ro), .val (.ref rr), .val (.ref al), .val (.ref xp), .val (.int (1 : Int32))] [(.ref xp)])) rfl (by rw [hml]; rfl) (Steps.refl _) (argsL := []) (rest := []) (lenOf pd_20 rfl) rfl (by show 2 * 0 + _ ≤ _; exact Nat.le_of_eq rfl) (hb hby at_148) (fun _ _ => ⟨rfl, rfl, (Nat.le_of_ble_eq_true rfl), (Nat.le_of_ble_eq_true rfl)⟩)
        dsimp only [Pt.U, Pt.locs, Pt.cells, Pt.slots] at X30 l30 y30 z30 st30 hQ30
        rw [l30, y30, z30] at X30
        obtain ⟨rfl, N30q, e30⟩ := hQ30
        have Nf := Fr.app Nf N30q
        have X30 := own_pad (k' := 19) (n' := 214) X30 (by decide) (by decide)
        refine own_go (fun tQ kQ => st30.trans kQ) ?_
        show own_End p e below _ (T30.setTop (mkF m 151 #[.val (.int i0), .val (.int i1), .val (.int i2), .val (.int (0 : Int32)), .val (.int (2 : Int32)), .val (.ref pp), .val (.ref ca), .val (.ref ro), .val (.ref rr), .val (.ref al), .val (.ref xp), .val (.int (1 : Int32))] [(.int (1 : Int32))]))
        refine own_go (fun tQ kQ => XS.iload X30.here hx rfl (hb hby at_151) rfl kQ) ?_
        show own_End p e below _ (T30.setTop (mkF m 153 #[.val (.int i0), .val (.int i1), .val (.int i2), .val (.int (0 : Int32)), .val (.int (2 : Int32)), .val (.ref pp), .val (.ref ca), .val (.ref ro), .val (.ref rr), .val (.ref al), .val (.ref xp), .val (.int (1 : Int32))] [(.int (1 : Int32)), (.int (1 : Int32))]))
        refine own_go (fun tQ kQ => XS.icmpNo X30.here hx rfl (hb hby at_153) rfl (teq (by decide)).2 kQ) ?_
        show own_End p e below _ (T30.setTop (mkF m 156 #[.val (.int i0), .val (.int i1), .val (.int i2), .val (.int (0 : Int32)), .val (.int (2 : Int32)), .val (.ref pp), .val (.ref ca), .val (.ref ro), .val (.ref rr), .val (.ref al), .val (.ref xp), .val (.int (1 : Int32))] []))
        refine own_go (fun tQ kQ => XS.iconst X30.here hx rfl (hb hby at_156) kQ) ?_
        show own_End p e below _ (T30.setTop (mkF m 157 #[.val (.int i0), .val (.int i1), .val (.int i2), .val (.int (0 : Int32)), .val (.int (2 : Int32)), .val (.ref pp), .val (.ref ca), .val (.ref ro), .val (.ref rr), .val (.ref al), .val (.ref xp), .val (.int (1 : Int32))] [(.int (1 : Int32))]))
        refine own_go (fun tQ kQ => XS.goto X30.here hx rfl (pc0 := 157) (pc' := 161) rfl (hb hby at_157) (by decide) (by decide) kQ) ?_
        show own_End p e below _ (T30.setTop (mkF m 161 #[.val (.int i0), .val (.int i1), .val (.int i2), .val (.int (0 : Int32)), .val (.int (2 : Int32)), .val (.ref pp), .val (.ref ca), .val (.ref ro), .val (.ref rr), .val (.ref al), .val (.ref xp), .val (.int (1 : Int32))] [(.int (1 : Int32))]))
        obtain ⟨fs, hr, hrun, hended, hend⟩ := X30.leaveW hS (by rw [e30]; exact hkW) (v := some (.int (1 : Int32))) (fun h => by rw [Bd.returns] at h; cases h)
        refine ⟨_, _, (retN X30 hx (t := .boolean) Bd.returns (by simp) (hb hby at_161) hr), hrun, hended, _, _, rfl, ?_, ⟨hend.1, hend.2.1, hend.2.2.1, hend.2.2.2.mono (by decide) (by decide)⟩⟩
        show Q0 Z i0 i1 i2 cz fm de fd el ee fe em mr h0 n0 _ T30.heap _
        rw [e30]
        exact ⟨rfl, Nf⟩
      ·
        rw [hsb] at F_superadmin_xp ⊢
        show own_End p e below _ (T29.setTop (mkF m 131 #[.val (.int i0), .val (.int i1), .val (.int i2), .val (.int (1 : Int32)), .val (.int (2 : Int32)), .val (.ref pp), .val (.ref ca), .val (.ref ro), .val (.ref rr), .val (.ref al), .val (.ref xp), .unset] [(.int (1 : Int32))]))
        refine own_go (fun tQ kQ => XS.ifYes X29.here hx rfl (pc0 := 131) (pc' := 139) rfl (hb hby at_131) rfl ((if0 _ _).trans (feq (by decide)).2) (by decide) (by decide) kQ) ?_
        show own_End p e below _ (T29.setTop (mkF m 139 #[.val (.int i0), .val (.int i1), .val (.int i2), .val (.int (1 : Int32)), .val (.int (2 : Int32)), .val (.ref pp), .val (.ref ca), .val (.ref ro), .val (.ref rr), .val (.ref al), .val (.ref xp), .unset] []))
        refine own_go (fun tQ kQ => XS.iconst X29.here hx rfl (hb hby at_139) kQ) ?_
        show own_End p e below _ (T29.setTop (mkF m 140 #[.val (.int i0), .val (.int i1), .val (.int i2), .val (.int (1 : Int32)), .val (.int (2 : Int32)), .val (.ref pp), .val (.ref ca), .val (.ref ro), .val (.ref rr), .val (.ref al), .val (.ref xp), .unset] [(.int (1 : Int32))]))
        refine own_go (fun tQ kQ => XS.goto X29.here hx rfl (pc0 := 140) (pc' := 144) rfl (hb hby at_140) (by decide) (by decide) kQ) ?_
        show own_End p e below _ (T29.setTop (mkF m 144 #[.val (.int i0), .val (.int i1), .val (.int i2), .val (.int (1 : Int32)), .val (.int (2 : Int32)), .val (.ref pp), .val (.ref ca), .val (.ref ro), .val (.ref rr), .val (.ref al), .val (.ref xp), .unset] [(.int (1 : Int32))]))
        refine own_go (fun tQ kQ => XS.istore X29.here hx rfl (hb hby at_144) rfl (l' := #[.val (.int i0), .val (.int i1), .val (.int i2), .val (.int (1 : Int32)), .val (.int (2 : Int32)), .val (.ref pp), .val (.ref ca), .val (.ref ro), .val (.ref rr), .val (.ref al), .val (.ref xp), .val (.int (1 : Int32))]) rfl kQ) ?_
        show own_End p e below _ (T29.setTop (mkF m 146 #[.val (.int i0), .val (.int i1), .val (.int i2), .val (.int (1 : Int32)), .val (.int (2 : Int32)), .val (.ref pp), .val (.ref ca), .val (.ref ro), .val (.ref rr), .val (.ref al), .val (.ref xp), .val (.int (1 : Int32))] []))
        refine own_go (fun tQ kQ => XS.aload X29.here hx rfl (hb hby at_146) rfl rfl kQ) ?_
        show own_End p e below _ (T29.setTop (mkF m 148 #[.val (.int i0), .val (.int i1), .val (.int i2), .val (.int (1 : Int32)), .val (.int (2 : Int32)), .val (.ref pp), .val (.ref ca), .val (.ref ro), .val (.ref rr), .val (.ref al), .val (.ref xp), .val (.int (1 : Int32))] [(.ref xp)]))
        obtain ⟨cq31, kq31, q31a, q31b, q31c⟩ := isOf hZ rfl E_xp
        obtain ⟨_, _, ⟨T31, L31, k31, n31⟩, -, X31, ⟨Lc31, hQ31, l31, y31, z31⟩, st31⟩ := X29.virtualBack hx (y := (⟨"com/example/grant3/grant3/Explanation", "allowed", "()Z"⟩ : MethodName)) (z := (⟨"com/example/grant3/grant3/Explanation", "allowed", "()Z"⟩ : MethodName)) hown (mvT hZ (hw _ (List.mem_of_getElem? (i := 217) rfl))) (mvT hZ (hw _ (List.mem_of_getElem? (i := 218) rfl))) (notFace_of_selects (args := #[]) (mvT hZ (hw _ (List.mem_of_getElem? (i := 220) rfl)))) (mvT hZ (hw _ (List.mem_of_getElem? (i := 220) rfl))) (mvT hZ (hw _ (List.mem_of_getElem? (i := 219) rfl))) (by decide) (backOf (W := 0) (rmaw1 l Z a0 hw [] xp T29.heap n0 Zs F_superadmin_xp) hZ (hw _ (List.mem_of_getElem? (i := 221) rfl)) (hw _ (List.mem_of_getElem? (i := 178) rfl)) (by decide) (by decide)) q31a q31c (g := (mkF m 148 #[.val (.int i0), .val (.int i1), .val (.int i2), .val (.int (1 : Int32)), .val (.int (2 : Int32)), .val (.ref pp), .val (.ref ca), .val (.ref ro), .val (.ref rr), .val (.ref al), .val (.ref xp), .val (.int (1 : Int32))] [(.ref xp)])) rfl (by rw [hml]; rfl) (Steps.refl _) (argsL := []) (rest := []) (lenOf pd_20 rfl) rfl (by show 2 * 0 + _ ≤ _; exact Nat.le_of_eq rfl) (hb hby at_148) (fun _ _ => ⟨rfl, rfl, (Nat.le_of_ble_eq_true rfl), (Nat.le_of_ble_eq_true rfl)⟩)
        dsimp only [Pt.U, Pt.locs, Pt.cells, Pt.slots] at X31 l31 y31 z31 st31 hQ31
        rw [l31, y31, z31] at X31
        obtain ⟨rfl, N31q, e31⟩ := hQ31
        have Nf := Fr.app Nf N31q
        have X31 := own_pad (k' := 19) (n' := 214) X31 (by decide) (by decide)
        refine own_go (fun tQ kQ => st31.trans kQ) ?_
        show own_End p e below _ (T31.setTop (mkF m 151 #[.val (.int i0), .val (.int i1), .val (.int i2), .val (.int (1 : Int32)), .val (.int (2 : Int32)), .val (.ref pp), .val (.ref ca), .val (.ref ro), .val (.ref rr), .val (.ref al), .val (.ref xp), .val (.int (1 : Int32))] [(.int (1 : Int32))]))
        refine own_go (fun tQ kQ => XS.iload X31.here hx rfl (hb hby at_151) rfl kQ) ?_
        show own_End p e below _ (T31.setTop (mkF m 153 #[.val (.int i0), .val (.int i1), .val (.int i2), .val (.int (1 : Int32)), .val (.int (2 : Int32)), .val (.ref pp), .val (.ref ca), .val (.ref ro), .val (.ref rr), .val (.ref al), .val (.ref xp), .val (.int (1 : Int32))] [(.int (1 : Int32)), (.int (1 : Int32))]))
        refine own_go (fun tQ kQ => XS.icmpNo X31.here hx rfl (hb hby at_153) rfl (teq (by decide)).2 kQ) ?_
        show own_End p e below _ (T31.setTop (mkF m 156 #[.val (.int i0), .val (.int i1), .val (.int i2), .val (.int (1 : Int32)), .val (.int (2 : Int32)), .val (.ref pp), .val (.ref ca), .val (.ref ro), .val (.ref rr), .val (.ref al), .val (.ref xp), .val (.int (1 : Int32))] []))
        refine own_go (fun tQ kQ => XS.iconst X31.here hx rfl (hb hby at_156) kQ) ?_
        show own_End p e below _ (T31.setTop (mkF m 157 #[.val (.int i0), .val (.int i1), .val (.int i2), .val (.int (1 : Int32)), .val (.int (2 : Int32)), .val (.ref pp), .val (.ref ca), .val (.ref ro), .val (.ref rr), .val (.ref al), .val (.ref xp), .val (.int (1 : Int32))] [(.int (1 : Int32))]))
        refine own_go (fun tQ kQ => XS.goto X31.here hx rfl (pc0 := 157) (pc' := 161) rfl (hb hby at_157) (by decide) (by decide) kQ) ?_
        show own_End p e below _ (T31.setTop (mkF m 161 #[.val (.int i0), .val (.int i1), .val (.int i2), .val (.int (1 : Int32)), .val (.int (2 : Int32)), .val (.ref pp), .val (.ref ca), .val (.ref ro), .val (.ref rr), .val (.ref al), .val (.ref xp), .val (.int (1 : Int32))] [(.int (1 : Int32))]))
        obtain ⟨fs, hr, hrun, hended, hend⟩ := X31.leaveW hS (by rw [e31]; exact hkW) (v := some (.int (1 : Int32))) (fun h => by rw [Bd.returns] at h; cases h)
        refine ⟨_, _, (retN X31 hx (t := .boolean) Bd.returns (by simp) (hb hby at_161) hr), hrun, hended, _, _, rfl, ?_, ⟨hend.1, hend.2.1, hend.2.2.1, hend.2.2.2.mono (by decide) (by decide)⟩⟩
        show Q0 Z i0 i1 i2 cz fm de fd el ee fe em mr h0 n0 _ T31.heap _
        rw [e31]
        exact ⟨rfl, Nf⟩
  refine own_go (fun tQ kQ => XS.iloadN X0.here hx rfl (hb hby at_0) rfl kQ) ?_
  show own_End p e below _ (s₁.setTop (mkF m 1 #[.val (.int i0), .val (.int i1), .val (.int i2), .unset, .unset, .unset, .unset, .unset, .unset, .unset, .unset, .unset] [(.int i0)]))
  refine own_go (fun tQ kQ => XS.iconst X0.here hx rfl (hb hby at_1) kQ) ?_
  show own_End p e below _ (s₁.setTop (mkF m 2 #[.val (.int i0), .val (.int i1), .val (.int i2), .unset, .unset, .unset, .unset, .unset, .unset, .unset, .unset, .unset] [(.int (1 : Int32)), (.int i0)]))
  refine own_go (fun tQ kQ => XS.iand X0.here hx rfl (hb hby at_2) rfl kQ) ?_
  show own_End p e below _ (s₁.setTop (mkF m 3 #[.val (.int i0), .val (.int i1), .val (.int i2), .unset, .unset, .unset, .unset, .unset, .unset, .unset, .unset, .unset] [(.int (i0 &&& (1 : Int32)))]))
  by_cases hc3 : (i0 &&& (1 : Int32)) = (0 : Int32)
  ·
    refine own_go (fun tQ kQ => XS.ifYes X0.here hx rfl (pc0 := 3) (pc' := 10) rfl (hb hby at_3) rfl ((if0 _ _).trans (teq hc3).1) (by decide) (by decide) kQ) ?_
    show own_End p e below _ (s₁.setTop (mkF m 10 #[.val (.int i0), .val (.int i1), .val (.int i2), .unset, .unset, .unset, .unset, .unset, .unset, .unset, .unset, .unset] []))
    refine own_go (fun tQ kQ => XS.iconst X0.here hx rfl (hb hby at_10) kQ) ?_
    show own_End p e below _ (s₁.setTop (mkF m 11 #[.val (.int i0), .val (.int i1), .val (.int i2), .unset, .unset, .unset, .unset, .unset, .unset, .unset, .unset, .unset] [(.int (0 : Int32))]))
    exact J11 (0 : Int32) s₁ _ h0 _ _ X0 e0 Nf Zs Kp szr hS hkW hZ hown Ol (Or.inl rfl) rfl
  ·
    refine own_go (fun tQ kQ => XS.ifNo X0.here hx rfl (hb hby at_3) rfl ((if0 _ _).trans (feq hc3).1) kQ) ?_
    show own_End p e below _ (s₁.setTop (mkF m 6 #[.val (.int i0), .val (.int i1), .val (.int i2), .unset, .unset, .unset, .unset, .unset, .unset, .unset, .unset, .unset] []))
    refine own_go (fun tQ kQ => XS.iconst X0.here hx rfl (hb hby at_6) kQ) ?_
    show own_End p e below _ (s₁.setTop (mkF m 7 #[.val (.int i0), .val (.int i1), .val (.int i2), .unset, .unset, .unset, .unset, .unset, .unset, .unset, .unset, .unset] [(.int (1 : Int32))]))
    refine own_go (fun tQ kQ => XS.goto X0.here hx rfl (pc0 := 7) (pc' := 11) rfl (hb hby at_7) (by decide) (by decide) kQ) ?_
    show own_End p e below _ (s₁.setTop (mkF m 11 #[.val (.int i0), .val (.int i1), .val (.int i2), .unset, .unset, .unset, .unset, .unset, .unset, .unset, .unset, .unset] [(.int (1 : Int32))]))
    exact J11 (1 : Int32) s₁ _ h0 _ _ X0 e0 Nf Zs Kp szr hS hkW hZ hown Ol (Or.inr rfl) rfl
set_option maxRecDepth 65536 in
set_option maxHeartbeats 40000000 in
theorem comes_1 {Post : Tables → Env → Array Value → State → Outcome → State → Prop} (hpost : ∀ tb e args s v u, (limb_1_1.after args s (.returned v) u = true ∧ limb_1_2.after args s (.returned v) u = true ∧ True) → ReturnedEndW s (.returned v) u (Jvm.fieldLocs frame_1_writes args s ++ Jvm.arrayLocs frame_1_arrays args s ++ Jvm.staticLocs frame_1_statics s) 40 4288 → Post tb e args s (.returned v) u) :
    ArmFor flags0 classFile x code maxLocals ret World_1 tables_1 room_1 Calls_1 rest_1 Pre_1 Post := by
  intro l hfl _ _ p e ha hc hk s m args below hf hA hF happ hP
  obtain ⟨hcalls, hrest, hpre⟩ := hP
  obtain ⟨-, -, -, hnamed, -, -, -, hat⟩ := (Spec.applies_iff hf).mp happ
  obtain ⟨hg, hn⟩ := and_e (Cond.before_iff.mp (show (Jvm.Cond.and given_1 narrow_1).before args s = true from hpre))
  obtain ⟨h1, g0⟩ := and_e hg
  obtain ⟨k0, g1⟩ := and_e g0
  obtain ⟨k1, g2⟩ := and_e g1
  obtain ⟨w0, w1, w2, rfl⟩ : ∃ w0 w1 w2 : Value, args = #[w0, w1, w2] := by
    have hs : args.size = 3 := by simpa [Cond.value, given_1] using h1
    obtain ⟨L⟩ := args
    match L, hs with
    | [w0, w1, w2], _ => exact ⟨w0, w1, w2, rfl⟩
  have hw := fun d (hd : d ∈ tables_1) => atoms_spec (ws := Jvm.Cond.code x code maxLocals ret :: tables_1) hat d (List.mem_cons_of_mem _ hd)
  have hfit : Fit s := fun {y c} hc i hi => by
    obtain ⟨ha, rfl⟩ := Array.getElem?_eq_some_iff.mp hc
    have q := List.all_eq_true.mp ((Array.all_eq_true_iff_forall_mem.mp hF) _ (Array.getElem_mem ha)) i (List.mem_range.mpr hi)
    simpa [Array.getElem?_eq_getElem hi] using q
  obtain ⟨v0, e0⟩ := is_v k0
  obtain rfl : w0 = (.int v0) := Option.some.inj e0
  obtain ⟨v1, e1⟩ := is_v k1
  obtain rfl : w1 = (.int v1) := Option.some.inj e1
  obtain ⟨v2, e2⟩ := is_v g2
  obtain rfl : w2 = (.int v2) := Option.some.inj e2
  obtain ⟨hsets, hown0⟩ := atoms_of _ (rest_1_c_eq ▸ (show rest_1_c.before _ s = true from hrest))
  have n5 := not_v (Cond.before_iff.mp (hsets _ (List.mem_of_getElem? (i := 2) rfl)))
  obtain ⟨cz, ecz⟩ := is_v (Cond.before_iff.mp (hsets _ (List.mem_of_getElem? (i := 1) rfl)))
  have S_cs : Sta s s.heap "java/lang/String" "COMPACT_STRINGS" "Z" (.int cz) := Sta.start ecz (Or.inl (hsets _ (List.mem_of_getElem? (i := 0) rfl)))
  obtain ⟨fm, efm, rfm⟩ := isR_v (Cond.before_iff.mp (hsets _ (List.mem_of_getElem? (i := 8) rfl)))
  have S_fm : Sta s s.heap "jdk/internal/util/Preconditions" "SIOOBE_FORMATTER" "Ljava/util/function/BiFunction;" fm := Sta.start efm (Or.inl (hsets _ (List.mem_of_getElem? (i := 7) rfl)))
  have hcz : ¬ (cz = (0 : Int32)) := gotF (Cond.eq_ints ecz (Term.int_eval (0))) n5
  obtain ⟨de, ede⟩ := arr_v (Cond.before_iff.mp (hsets _ (List.mem_of_getElem? (i := 15) rfl)))
  have S_de : Sta s s.heap "java/util/ArrayList" "DEFAULTCAPACITY_EMPTY_ELEMENTDATA" "[Ljava/lang/Object;" (.ref de) := Sta.start ede (Or.inr ⟨(hw _ (List.mem_of_getElem? (i := 107) rfl)), (hsets _ (List.mem_of_getElem? (i := 11) rfl))⟩)
  obtain ⟨cde, Ade⟩ := Arr.start ede (Cond.before_iff.mp (hsets _ (List.mem_of_getElem? (i := 15) rfl)))
  have V_de : own_Ar s s.heap de (.object "java/lang/Object") (0 : Int32) (fun _ => .null) := ⟨cde, Ade, own_len0 (Cond.before_iff.mp (hsets _ (List.mem_of_getElem? (i := 17) rfl))) ede Ade, by decide, fun j hj => absurd hj (Nat.not_lt_zero _)⟩
  obtain ⟨el, eel⟩ := own_exa (Cond.before_iff.mp (hsets _ (List.mem_of_getElem? (i := 20) rfl)))
  have S_el : Sta s s.heap "java/util/ImmutableCollections" "EMPTY_LIST" "Ljava/util/ImmutableCollections$ListN;" (.ref el) := Sta.start eel (Or.inl (hsets _ (List.mem_of_getElem? (i := 19) rfl)))
  have E_el := Exa.start eel (Cond.before_iff.mp (hsets _ (List.mem_of_getElem? (i := 20) rfl)))
  obtain ⟨ee, eee⟩ := arr_v (Cond.before_iff.mp (hsets _ (List.mem_of_getElem? (i := 21) rfl)))
  have F_el : Fld s s.heap el "java/util/ImmutableCollections$ListN" "elements" "[Ljava/lang/Object;" (.ref ee) := own_fst eel eee
  obtain ⟨cee, Aee⟩ := Arr.start eee (Cond.before_iff.mp (hsets _ (List.mem_of_getElem? (i := 21) rfl)))
  have V_ee : own_Ar s s.heap ee (.object "java/lang/Object") (0 : Int32) (fun _ => .null) := ⟨cee, Aee, own_len0 (Cond.before_iff.mp (hsets _ (List.mem_of_getElem? (i := 23) rfl))) eee Aee, by decide, fun j hj => absurd hj (Nat.not_lt_zero _)⟩
  obtain ⟨em, eem⟩ := own_exa (Cond.before_iff.mp (hsets _ (List.mem_of_getElem? (i := 27) rfl)))
  have S_em : Sta s s.heap "java/util/ImmutableCollections" "EMPTY" "Ljava/lang/Object;" (.ref em) := Sta.start eem (Or.inl (hsets _ (List.mem_of_getElem? (i := 26) rfl)))
  obtain ⟨mc_, mk_, mr, mh⟩ := hcalls.1
  have M_r : Mir s "[Ljava/lang/Object;" mr := ⟨mc_, mk_, mh⟩
  have hEL : EW s _ own_EL := EW.cons (hw _ (List.mem_of_getElem? (i := 1) rfl)) (by decide) EW.nil
  have hH : CHv s own_EL s.vm s.heap := CHv.start hEL (fun q hq => (hcalls.2.1 q (by simp only [own_EL, List.mem_cons, List.not_mem_nil, or_false] at hq; subst hq; exact List.mem_of_getElem? (i := 2) rfl))) (hsets _ (List.mem_of_getElem? (i := 2) rfl)) (hw _ (List.mem_of_getElem? (i := 4) rfl)) (hw _ (List.mem_of_getElem? (i := 3) rfl))
  obtain ⟨n, o, h1, h2, h3, _, L, rfl, ⟨rfl, N⟩, hq⟩ := rm0 l s _ hw tables_1 v0 v1 v2 cz fm de (fun _ => .null) el ee (fun _ => .null) em mr s.heap s.heap.size (Nat.le_refl _) (Old.start s) S_cs hcz S_fm rfm S_de V_de S_el E_el F_el V_ee S_em M_r hEL p e ha hc hk s m _ below hf ((Spec.applies_iff_loose hf).mp happ).1 ⟨rfl, State.Warmed39.refl s, rfl, hH⟩ trivial
  refine ⟨n, _, h1, h2, h3, hpost _ _ _ _ _ _ ⟨Cond.after_iff.mpr rfl, Cond.after_iff.mpr (eq_i res_at (Term.int_eval (1)) rfl), trivial⟩ ⟨hq.1, hq.2.1, hq.2.2.1, (hq.2.2.2.sift fun y hy => Or.inr (N y hy)).mono (by decide) (by decide)⟩⟩
theorem main_1_1 : Claimed_1_1 := comes_1 fun _ _ _ _ _ _ h hF => ⟨h.1, hF⟩
theorem main_1_2 : Claimed_1_2 := comes_1 fun _ _ _ _ _ _ h hF => ⟨h.2.1, hF⟩
end Jvm.Pilot.@@N@@
namespace Jvm.Pilot.@@N@@
open Jvm Jvm.ClassFile Sem Op Lib Jvm.Free Jvm.Stand Jvm.Pilot.@@N@@.Jvm.D
/-! MADE BY PROGRAM (witnessworld.py) out of the Statement's table words and the real class files: 42 classes; the members and pool entries that the words name. The judged class is class 1, her method 1. -/
namespace start1
open Jvm.ClassFile
def u (s : String) : CpInfo := .utf8 (stringToUtf16 s)
/-- a pool by its gaps: so many unusable entries, then the entry; so many at the end -/
def gap : Nat → List CpInfo → List CpInfo
  | 0, r => r
  | n + 1, r => .unusable :: gap n r
def poolList (es : List (Nat × CpInfo)) (last : Nat) : List CpInfo := es.foldr (fun e r => gap e.1 (e.2 :: r)) (gap last [])
def pool (es : List (Nat × CpInfo)) (last : Nat) : Array CpInfo := ⟨poolList es last⟩
def fileOf (pool : Array CpInfo) (this : Nat) (attrs : Array Attribute := #[]) (ms : Array MethodInfo := #[]) (fl : Nat := 33) (sup : Nat := 0) (ifs : Array Nat := #[]) (fds : Array FieldInfo := #[]) : ClassFile where
  minorVersion := 0
  majorVersion := 65
  constantPool := pool
  accessFlags := fl
  thisClass := this
  superClass := sup
  interfaces := ifs
  fields := fds
  methods := ms
  attributes := attrs
def plain (name : String) (sup : Option ClassId) : Class where
  name := name
  kind := .ordinary
  loader := none
  accessFlags := 33
  super := sup
  interfaces := #[]
  cf := none
  fields := #[]
  methods := #[]
  instanceTypes := #[]
  staticTypes := #[]
  resolved := #[]
  callSites := []
  init := .initialized
  statics := none
  mirror := none

def pool0 : Array CpInfo := pool [(5, u "<init>"), (0, u "()V"), (1, .class_ 10), (1, u "java/lang/Object"), (0, u "getClass"), (0, u "()Ljava/lang/Class;")] 111

def k0c0 : Code := { maxStack := 0, maxLocals := 1, code := object_method_1_code, exceptionTable := #[], attributes := #[] }
def k0m0 : Method := { name := "<init>", desc := "()V", sig := { parameters := [], returnType := none }, accessFlags := 1, code := some k0c0 }
def k0m1 : Method := { name := "getClass", desc := "()Ljava/lang/Class;", sig := { parameters := [], returnType := some (.object "java/lang/Class") }, accessFlags := 273, code := none }
/-- java/lang/Object -/
def k0 : Class := { plain "java/lang/Object" none with
  accessFlags := 33
  interfaces := #[]
  cf := some (fileOf pool0 8 #[] #[{ accessFlags := 1, nameIndex := 5, descriptorIndex := 6, attributes := #[] }, { accessFlags := 273, nameIndex := 11, descriptorIndex := 12, attributes := #[] }] 33 0 #[] #[])
  fields := #[]
  methods := #[k0m0, k0m1]
  instanceTypes := #[]
  staticTypes := #[]
  resolved := Array.replicate 124 none
  statics := none }

def pool1 : Array CpInfo := pool [(2, .class_ 4), (0, .nameAndType 5 6), (0, u "java/lang/Object"), (0, u "<init>"), (0, u "()V"), (0, .integer 2147483647), (0, .string 9), (0, u "acme"), (0, .methodref 11 12), (0, .class_ 13), (0, .nameAndType 14 15), (0, u "com/example/grant3/grant3/Scope"), (0, u "parse"), (0, u "(Ljava/lang/String;)Lcom/example/grant3/grant3/Scope;"), (0, .class_ 17), (0, u "java/lang/String"), (0, .methodref 16 19), (0, .nameAndType 5 20), (0, u "([C)V"), (0, .class_ 22), (0, u "com/example/grant3/grant3/Explanation$Reason"), (0, .class_ 24), (0, u "java/util/ArrayList"), (0, .methodref 23 3), (0, .methodref 21 27), (0, .nameAndType 5 28), (0, u "(Ljava/lang/String;Lcom/example/grant3/grant3/Scope;Ljava/util/List;)V"), (0, .methodref 23 30), (0, .nameAndType 31 32), (0, u "add"), (0, u "(Ljava/lang/Object;)Z"), (0, .class_ 34), (0, u "com/example/grant3/grant3/Explanation"), (0, .methodref 33 36), (0, .nameAndType 5 37), (0, u "(ZLjava/util/List;)V"), (0, .methodref 33 39), (0, .nameAndType 40 41), (0, u "allowed"), (0, u "()Z"), (0, .class_ 43), (0, u "com/example/grant3/grant3/ExplanationAllowedPinLaw"), (2, u "law"), (0, u "(III)Z")] 7

def k1m0 : Method := { name := "<init>", desc := "()V", sig := { parameters := [], returnType := none }, accessFlags := 1, code := none }
def k1c1 : Code := { maxStack := 6, maxLocals := 12, code := code, exceptionTable := #[], attributes := #[] }
def k1m1 : Method := { name := "law", desc := "(III)Z", sig := { parameters := [.int, .int, .int], returnType := some .boolean }, accessFlags := 9, code := some k1c1 }
/-- com/example/grant3/grant3/ExplanationAllowedPinLaw -/
def k1 : Class := { plain "com/example/grant3/grant3/ExplanationAllowedPinLaw" (some 0) with
  accessFlags := 49
  interfaces := #[]
  cf := some (fileOf pool1 42 #[] #[{ accessFlags := 1, nameIndex := 5, descriptorIndex := 6, attributes := #[] }, { accessFlags := 9, nameIndex := 46, descriptorIndex := 47, attributes := #[] }] 49 2 #[] #[])
  fields := #[]
  methods := #[k1m0, k1m1]
  instanceTypes := #[]
  staticTypes := #[]
  resolved := Array.replicate 55 none
  statics := none }

def pool2 : Array CpInfo := pool [(1, .class_ 2), (0, u "java/io/Serializable"), (0, .class_ 4), (0, u "java/lang/Object")] 2

/-- java/io/Serializable -/
def k2 : Class := { plain "java/io/Serializable" (some 0) with
  accessFlags := 1537
  interfaces := #[]
  cf := some (fileOf pool2 1 #[] #[] 1537 3 #[] #[])
  fields := #[]
  methods := #[]
  instanceTypes := #[]
  staticTypes := #[]
  resolved := Array.replicate 7 none
  statics := none }

def pool3 : Array CpInfo := pool [(1, .class_ 2), (0, u "java/lang/Comparable"), (0, .class_ 4), (0, u "java/lang/Object")] 7

/-- java/lang/Comparable -/
def k3 : Class := { plain "java/lang/Comparable" (some 0) with
  accessFlags := 1537
  interfaces := #[]
  cf := some (fileOf pool3 1 #[] #[] 1537 3 #[] #[])
  fields := #[]
  methods := #[]
  instanceTypes := #[]
  staticTypes := #[]
  resolved := Array.replicate 12 none
  statics := none }

def pool4 : Array CpInfo := pool [(2, .class_ 4), (1, u "java/lang/CharSequence"), (42, .class_ 48), (0, u "java/lang/CharSequence$1CodePointIterator"), (10, .class_ 60), (0, u "java/lang/CharSequence$1CharIterator"), (5, .class_ 67), (0, u "java/lang/Object")] 63

/-- java/lang/CharSequence -/
def k4 : Class := { plain "java/lang/CharSequence" (some 0) with
  accessFlags := 1537
  interfaces := #[]
  cf := some (fileOf pool4 2 #[.nestMembers #[47, 59]] #[] 1537 66 #[] #[])
  fields := #[]
  methods := #[]
  instanceTypes := #[]
  staticTypes := #[]
  resolved := Array.replicate 131 none
  statics := none }

def pool5 : Array CpInfo := pool [(1, .class_ 2), (0, u "java/lang/constant/Constable"), (0, .class_ 4), (0, u "java/lang/Object")] 6

/-- java/lang/constant/Constable -/
def k5 : Class := { plain "java/lang/constant/Constable" (some 0) with
  accessFlags := 1537
  interfaces := #[]
  cf := some (fileOf pool5 1 #[] #[] 1537 3 #[] #[])
  fields := #[]
  methods := #[]
  instanceTypes := #[]
  staticTypes := #[]
  resolved := Array.replicate 11 none
  statics := none }

def pool6 : Array CpInfo := pool [(1, .class_ 2), (0, u "java/lang/constant/ConstantDesc"), (0, .class_ 4), (0, u "java/lang/Object")] 32

/-- java/lang/constant/ConstantDesc -/
def k6 : Class := { plain "java/lang/constant/ConstantDesc" (some 0) with
  accessFlags := 1537
  interfaces := #[]
  cf := some (fileOf pool6 1 #[] #[] 1537 3 #[] #[])
  fields := #[]
  methods := #[]
  instanceTypes := #[]
  staticTypes := #[]
  resolved := Array.replicate 37 none
  statics := none }

def pool7 : Array CpInfo := pool [(1, .methodref 2 3), (0, .class_ 4), (0, .nameAndType 5 6), (0, u "java/lang/Object"), (0, u "<init>"), (0, u "()V"), (2, .fieldref 10 11), (0, .class_ 12), (0, .nameAndType 13 14), (0, u "java/lang/String"), (0, u "value"), (0, u "[B"), (0, .fieldref 10 16), (0, .nameAndType 17 18), (0, u "coder"), (0, u "B"), (2, u "hash"), (0, u "I"), (2, u "hashIsZero"), (0, u "Z"), (0, .methodref 10 28), (0, .nameAndType 5 29), (0, u "([CIILjava/lang/Void;)V"), (8, .fieldref 10 39), (0, .nameAndType 40 26), (0, u "COMPACT_STRINGS"), (1, .class_ 44), (1, u "java/lang/StringUTF16"), (0, u "compress"), (1, .methodref 42 48), (0, .nameAndType 49 50), (0, u "coderFromArrayLen"), (0, u "([BI)B"), (56, .class_ 109), (1, u "java/lang/StringLatin1"), (32, u "()Z"), (34, .methodref 42 178), (0, .nameAndType 45 179), (0, u "([CII)[B"), (154, u "()I"), (0, .methodref 10 336), (0, .nameAndType 17 337), (0, u "()B"), (25, u "([BI)C"), (27, u "(II)V"), (35, u "(I)C"), (64, .methodref 10 493), (0, .nameAndType 494 142), (0, u "isLatin1"), (0, .methodref 107 496), (0, .nameAndType 497 363), (0, u "charAt"), (3, u "checkIndex"), (3, .methodref 10 506), (0, .nameAndType 507 334), (0, u "length"), (5, u "checkFromToIndex"), (7, .methodref 10 522), (0, .nameAndType 523 524), (0, u "checkBoundsBeginEnd"), (0, u "(III)V"), (50, .class_ 576), (0, u "java/lang/CharSequence"), (22, u "CASE_INSENSITIVE_ORDER"), (0, u "Ljava/util/Comparator;"), (82, u "substring"), (0, u "(II)Ljava/lang/String;"), (325, u "([C)V"), (42, .fieldref 1054 1055), (0, .class_ 1056), (0, .nameAndType 1057 1058), (0, u "jdk/internal/util/Preconditions"), (0, u "SIOOBE_FORMATTER"), (0, u "Ljava/util/function/BiFunction;"), (0, .methodref 1054 1060), (0, .nameAndType 501 1061), (0, u "(IILjava/util/function/BiFunction;)I"), (0, .methodref 1054 1063), (0, .nameAndType 513 1064), (0, u "(IIILjava/util/function/BiFunction;)I"), (36, u "serialPersistentFields"), (0, u "[Ljava/io/ObjectStreamField;"), (0, .class_ 1104), (0, u "java/lang/String$CaseInsensitiveComparator"), (1, .class_ 1107), (0, u "java/io/Serializable"), (0, .class_ 1109), (0, u "java/lang/Comparable"), (0, .class_ 1111), (0, u "java/lang/constant/Constable"), (0, .class_ 1113), (0, u "java/lang/constant/ConstantDesc"), (2, u "serialVersionUID"), (0, u "J"), (3, u "REPL"), (0, u "C"), (2, u "LATIN1"), (1, u "UTF16")] 323

def k7m0 : Method := { name := "<init>", desc := "()V", sig := { parameters := [], returnType := none }, accessFlags := 1, code := none }
def k7c1 : Code := { maxStack := 5, maxLocals := 2, code := jdk_42_method_3_code, exceptionTable := #[], attributes := #[] }
def k7m1 : Method := { name := "<init>", desc := "([C)V", sig := { parameters := [(.array .char)], returnType := none }, accessFlags := 1, code := some k7c1 }
def k7c2 : Code := { maxStack := 2, maxLocals := 1, code := jdk_42_method_54_code, exceptionTable := #[], attributes := #[] }
def k7m2 : Method := { name := "length", desc := "()I", sig := { parameters := [], returnType := some .int }, accessFlags := 1, code := some k7c2 }
def k7c3 : Code := { maxStack := 2, maxLocals := 2, code := jdk_42_method_56_code, exceptionTable := #[], attributes := #[] }
def k7m3 : Method := { name := "charAt", desc := "(I)C", sig := { parameters := [.int], returnType := some .char }, accessFlags := 1, code := some k7c3 }
def k7c4 : Code := { maxStack := 3, maxLocals := 5, code := jdk_42_method_92_code, exceptionTable := #[], attributes := #[] }
def k7m4 : Method := { name := "substring", desc := "(II)Ljava/lang/String;", sig := { parameters := [.int, .int], returnType := some (.object "java/lang/String") }, accessFlags := 1, code := some k7c4 }
def k7c5 : Code := { maxStack := 4, maxLocals := 6, code := jdk_42_method_149_code, exceptionTable := #[], attributes := #[] }
def k7m5 : Method := { name := "<init>", desc := "([CIILjava/lang/Void;)V", sig := { parameters := [(.array .char), .int, .int, (.object "java/lang/Void")], returnType := none }, accessFlags := 2, code := some k7c5 }
def k7c6 : Code := { maxStack := 1, maxLocals := 1, code := jdk_42_method_152_code, exceptionTable := #[], attributes := #[] }
def k7m6 : Method := { name := "coder", desc := "()B", sig := { parameters := [], returnType := some .byte }, accessFlags := 0, code := some k7c6 }
def k7c7 : Code := { maxStack := 1, maxLocals := 1, code := jdk_42_method_154_code, exceptionTable := #[], attributes := #[] }
def k7m7 : Method := { name := "isLatin1", desc := "()Z", sig := { parameters := [], returnType := some .boolean }, accessFlags := 0, code := some k7c7 }
def k7c8 : Code := { maxStack := 3, maxLocals := 2, code := jdk_42_method_155_code, exceptionTable := #[], attributes := #[] }
def k7m8 : Method := { name := "checkIndex", desc := "(II)V", sig := { parameters := [.int, .int], returnType := none }, accessFlags := 8, code := some k7c8 }
def k7c9 : Code := { maxStack := 4, maxLocals := 3, code := jdk_42_method_158_code, exceptionTable := #[], attributes := #[] }
def k7m9 : Method := { name := "checkBoundsBeginEnd", desc := "(III)V", sig := { parameters := [.int, .int, .int], returnType := none }, accessFlags := 8, code := some k7c9 }
/-- java/lang/String -/
def k7 : Class := { plain "java/lang/String" (some 0) with
  accessFlags := 49
  interfaces := #[2, 3, 4, 5, 6]
  cf := some (fileOf pool7 10 #[.nestMembers #[1103]] #[{ accessFlags := 1, nameIndex := 5, descriptorIndex := 6, attributes := #[] }, { accessFlags := 1, nameIndex := 5, descriptorIndex := 1010, attributes := #[] }, { accessFlags := 1, nameIndex := 507, descriptorIndex := 334, attributes := #[] }, { accessFlags := 1, nameIndex := 497, descriptorIndex := 427, attributes := #[] }, { accessFlags := 1, nameIndex := 683, descriptorIndex := 684, attributes := #[] }, { accessFlags := 2, nameIndex := 5, descriptorIndex := 29, attributes := #[] }, { accessFlags := 0, nameIndex := 17, descriptorIndex := 337, attributes := #[] }, { accessFlags := 0, nameIndex := 494, descriptorIndex := 142, attributes := #[] }, { accessFlags := 8, nameIndex := 501, descriptorIndex := 391, attributes := #[] }, { accessFlags := 8, nameIndex := 523, descriptorIndex := 524, attributes := #[] }] 49 2 #[1106, 1108, 575, 1110, 1112] #[{ accessFlags := 18, nameIndex := 13, descriptorIndex := 14, attributes := #[] }, { accessFlags := 18, nameIndex := 17, descriptorIndex := 18, attributes := #[] }, { accessFlags := 2, nameIndex := 21, descriptorIndex := 22, attributes := #[] }, { accessFlags := 2, nameIndex := 25, descriptorIndex := 26, attributes := #[] }, { accessFlags := 26, nameIndex := 1116, descriptorIndex := 1117, attributes := #[] }, { accessFlags := 24, nameIndex := 40, descriptorIndex := 26, attributes := #[] }, { accessFlags := 26, nameIndex := 1101, descriptorIndex := 1102, attributes := #[] }, { accessFlags := 26, nameIndex := 1121, descriptorIndex := 1122, attributes := #[] }, { accessFlags := 25, nameIndex := 599, descriptorIndex := 600, attributes := #[] }, { accessFlags := 24, nameIndex := 1125, descriptorIndex := 18, attributes := #[] }, { accessFlags := 24, nameIndex := 1127, descriptorIndex := 18, attributes := #[] }])
  fields := #[{ name := "value", type := (.array .byte), accessFlags := 18, slot := 0, constantValue := 0 }, { name := "coder", type := .byte, accessFlags := 18, slot := 1, constantValue := 0 }, { name := "hash", type := .int, accessFlags := 2, slot := 2, constantValue := 0 }, { name := "hashIsZero", type := .boolean, accessFlags := 2, slot := 3, constantValue := 0 }, { name := "serialVersionUID", type := .long, accessFlags := 26, slot := 0, constantValue := 0 }, { name := "COMPACT_STRINGS", type := .boolean, accessFlags := 24, slot := 1, constantValue := 0 }, { name := "serialPersistentFields", type := (.array (.object "java/io/ObjectStreamField")), accessFlags := 26, slot := 2, constantValue := 0 }, { name := "REPL", type := .char, accessFlags := 26, slot := 3, constantValue := 0 }, { name := "CASE_INSENSITIVE_ORDER", type := (.object "java/util/Comparator"), accessFlags := 25, slot := 4, constantValue := 0 }, { name := "LATIN1", type := .byte, accessFlags := 24, slot := 5, constantValue := 0 }, { name := "UTF16", type := .byte, accessFlags := 24, slot := 6, constantValue := 0 }]
  methods := #[k7m0, k7m1, k7m2, k7m3, k7m4, k7m5, k7m6, k7m7, k7m8, k7m9]
  instanceTypes := #[(.array .byte), .byte, .int, .boolean]
  staticTypes := #[.long, .boolean, (.array (.object "java/io/ObjectStreamField")), .char, (.object "java/util/Comparator"), .byte, .byte]
  resolved := Array.replicate 1451 none
  statics := some 0 }

def pool8 : Array CpInfo := pool [(1, .methodref 2 3), (0, .class_ 4), (0, .nameAndType 5 6), (0, u "java/lang/Object"), (0, u "<init>"), (0, u "()V"), (0, .fieldref 8 9), (0, .class_ 10), (0, .nameAndType 11 12), (0, u "com/example/grant3/grant3/Scope"), (0, u "path"), (0, u "Ljava/lang/String;"), (0, .fieldref 8 14), (0, .nameAndType 15 12), (0, u "tenant"), (0, .fieldref 8 17), (0, .nameAndType 18 19), (0, u "depth"), (0, u "I"), (0, .string 21), (0, u "Null scope path"), (0, .methodref 23 24), (0, .class_ 25), (0, .nameAndType 26 27), (0, u "java/util/Objects"), (0, u "requireNonNull"), (0, u "(Ljava/lang/Object;Ljava/lang/String;)Ljava/lang/Object;"), (0, .methodref 29 30), (0, .class_ 31), (0, .nameAndType 32 33), (0, u "java/lang/String"), (0, u "length"), (0, u "()I"), (0, .methodref 29 35), (0, .nameAndType 36 37), (0, u "charAt"), (0, u "(I)C"), (12, .methodref 8 51), (0, .nameAndType 52 53), (0, u "isLabelCharacter"), (0, u "(C)Z"), (12, .methodref 29 67), (0, .nameAndType 68 69), (0, u "substring"), (0, u "(II)Ljava/lang/String;"), (0, .methodref 8 71), (0, .nameAndType 5 72), (0, u "(Ljava/lang/String;Ljava/lang/String;I)V"), (32, u "MAX_LABELS"), (2, u "MAX_LABEL_LENGTH"), (3, u "parse"), (0, u "(Ljava/lang/String;)Lcom/example/grant3/grant3/Scope;")] 28

def k8c0 : Code := { maxStack := 2, maxLocals := 4, code := prog_26_method_1_code, exceptionTable := #[], attributes := #[] }
def k8m0 : Method := { name := "<init>", desc := "(Ljava/lang/String;Ljava/lang/String;I)V", sig := { parameters := [(.object "java/lang/String"), (.object "java/lang/String"), .int], returnType := none }, accessFlags := 2, code := some k8c0 }
def k8c1 : Code := { maxStack := 6, maxLocals := 6, code := prog_26_method_2_code, exceptionTable := #[], attributes := #[] }
def k8m1 : Method := { name := "parse", desc := "(Ljava/lang/String;)Lcom/example/grant3/grant3/Scope;", sig := { parameters := [(.object "java/lang/String")], returnType := some (.object "com/example/grant3/grant3/Scope") }, accessFlags := 9, code := some k8c1 }
def k8c2 : Code := { maxStack := 2, maxLocals := 1, code := prog_26_method_3_code, exceptionTable := #[], attributes := #[] }
def k8m2 : Method := { name := "isLabelCharacter", desc := "(C)Z", sig := { parameters := [.char], returnType := some .boolean }, accessFlags := 10, code := some k8c2 }
/-- com/example/grant3/grant3/Scope -/
def k8 : Class := { plain "com/example/grant3/grant3/Scope" (some 0) with
  accessFlags := 49
  interfaces := #[]
  cf := some (fileOf pool8 8 #[] #[{ accessFlags := 2, nameIndex := 5, descriptorIndex := 72, attributes := #[] }, { accessFlags := 9, nameIndex := 112, descriptorIndex := 113, attributes := #[] }, { accessFlags := 10, nameIndex := 52, descriptorIndex := 53, attributes := #[] }] 49 2 #[] #[{ accessFlags := 25, nameIndex := 105, descriptorIndex := 19, attributes := #[] }, { accessFlags := 25, nameIndex := 108, descriptorIndex := 19, attributes := #[] }, { accessFlags := 18, nameIndex := 11, descriptorIndex := 12, attributes := #[] }, { accessFlags := 18, nameIndex := 15, descriptorIndex := 12, attributes := #[] }, { accessFlags := 18, nameIndex := 18, descriptorIndex := 19, attributes := #[] }])
  fields := #[{ name := "MAX_LABELS", type := .int, accessFlags := 25, slot := 0, constantValue := 0 }, { name := "MAX_LABEL_LENGTH", type := .int, accessFlags := 25, slot := 1, constantValue := 0 }, { name := "path", type := (.object "java/lang/String"), accessFlags := 18, slot := 0, constantValue := 0 }, { name := "tenant", type := (.object "java/lang/String"), accessFlags := 18, slot := 1, constantValue := 0 }, { name := "depth", type := .int, accessFlags := 18, slot := 2, constantValue := 0 }]
  methods := #[k8m0, k8m1, k8m2]
  instanceTypes := #[(.object "java/lang/String"), (.object "java/lang/String"), .int]
  staticTypes := #[.int, .int]
  resolved := Array.replicate 142 none
  statics := none }

def pool9 : Array CpInfo := pool [(2, .class_ 4), (1, u "java/lang/Object"), (0, u "<init>"), (0, u "()V"), (35, .class_ 44), (1, u "java/util/Objects"), (0, u "requireNonNull"), (0, u "(Ljava/lang/Object;)Ljava/lang/Object;"), (47, u "(Ljava/lang/Object;Ljava/lang/String;)Ljava/lang/Object;")] 89

def k9m0 : Method := { name := "<init>", desc := "()V", sig := { parameters := [], returnType := none }, accessFlags := 2, code := none }
def k9c1 : Code := { maxStack := 2, maxLocals := 1, code := jdk_31_method_10_code, exceptionTable := #[], attributes := #[] }
def k9m1 : Method := { name := "requireNonNull", desc := "(Ljava/lang/Object;)Ljava/lang/Object;", sig := { parameters := [(.object "java/lang/Object")], returnType := some (.object "java/lang/Object") }, accessFlags := 9, code := some k9c1 }
def k9c2 : Code := { maxStack := 3, maxLocals := 2, code := jdk_31_method_11_code, exceptionTable := #[], attributes := #[] }
def k9m2 : Method := { name := "requireNonNull", desc := "(Ljava/lang/Object;Ljava/lang/String;)Ljava/lang/Object;", sig := { parameters := [(.object "java/lang/Object"), (.object "java/lang/String")], returnType := some (.object "java/lang/Object") }, accessFlags := 9, code := some k9c2 }
/-- java/util/Objects -/
def k9 : Class := { plain "java/util/Objects" (some 0) with
  accessFlags := 49
  interfaces := #[]
  cf := some (fileOf pool9 42 #[] #[{ accessFlags := 2, nameIndex := 5, descriptorIndex := 6, attributes := #[] }, { accessFlags := 9, nameIndex := 45, descriptorIndex := 46, attributes := #[] }, { accessFlags := 9, nameIndex := 45, descriptorIndex := 94, attributes := #[] }] 49 2 #[] #[])
  fields := #[]
  methods := #[k9m0, k9m1, k9m2]
  instanceTypes := #[]
  staticTypes := #[]
  resolved := Array.replicate 184 none
  statics := none }

def pool10 : Array CpInfo := pool [(1, .class_ 2), (0, u "java/lang/String"), (1, .class_ 6), (1, u "java/lang/Object"), (0, u "<init>"), (0, u "()V"), (0, .methodref 1 10), (0, .nameAndType 11 12), (0, u "checkIndex"), (0, u "(II)V"), (1, .class_ 16), (1, u "java/lang/StringLatin1"), (36, u "([BI)C"), (67, u "$assertionsDisabled"), (0, u "Z"), (98, .class_ 223), (1, u "java/lang/StringLatin1$LinesSpliterator"), (28, u "charAt"), (137, .class_ 391), (0, u "java/lang/StringLatin1$CharsSpliterator")] 3

def k10m0 : Method := { name := "<init>", desc := "()V", sig := { parameters := [], returnType := none }, accessFlags := 0, code := none }
def k10c1 : Code := { maxStack := 2, maxLocals := 2, code := jdk_43_method_2_code, exceptionTable := #[], attributes := #[] }
def k10m1 : Method := { name := "charAt", desc := "([BI)C", sig := { parameters := [(.array .byte), .int], returnType := some .char }, accessFlags := 9, code := some k10c1 }
/-- java/lang/StringLatin1 -/
def k10 : Class := { plain "java/lang/StringLatin1" (some 0) with
  accessFlags := 48
  interfaces := #[]
  cf := some (fileOf pool10 14 #[.nestMembers #[390, 221]] #[{ accessFlags := 0, nameIndex := 7, descriptorIndex := 8, attributes := #[] }, { accessFlags := 9, nameIndex := 252, descriptorIndex := 53, attributes := #[] }] 48 4 #[] #[{ accessFlags := 4120, nameIndex := 121, descriptorIndex := 122, attributes := #[] }])
  fields := #[{ name := "$assertionsDisabled", type := .boolean, accessFlags := 4120, slot := 0, constantValue := 0 }]
  methods := #[k10m0, k10m1]
  instanceTypes := #[]
  staticTypes := #[.boolean]
  resolved := Array.replicate 395 none
  statics := none }

def pool11 : Array CpInfo := pool [(2, .class_ 4), (1, u "java/lang/Object"), (0, u "<init>"), (0, u "()V"), (17, .class_ 26), (1, u "jdk/internal/util/Preconditions"), (6, u "checkIndex"), (13, u "checkFromToIndex"), (7, .class_ 56), (0, u "jdk/internal/util/Preconditions$4"), (57, .class_ 115), (0, u "jdk/internal/util/Preconditions$1"), (7, u "SIOOBE_FORMATTER"), (0, u "Ljava/util/function/BiFunction;"), (0, .class_ 126), (0, u "jdk/internal/util/Preconditions$2"), (3, u "AIOOBE_FORMATTER"), (0, .class_ 132), (0, u "jdk/internal/util/Preconditions$3"), (3, u "IOOBE_FORMATTER"), (41, u "(IILjava/util/function/BiFunction;)I"), (4, u "(IIILjava/util/function/BiFunction;)I")] 10

def k11m0 : Method := { name := "<init>", desc := "()V", sig := { parameters := [], returnType := none }, accessFlags := 1, code := none }
def k11c1 : Code := { maxStack := 3, maxLocals := 3, code := jdk_41_method_11_code, exceptionTable := #[], attributes := #[] }
def k11m1 : Method := { name := "checkIndex", desc := "(IILjava/util/function/BiFunction;)I", sig := { parameters := [.int, .int, (.object "java/util/function/BiFunction")], returnType := some .int }, accessFlags := 9, code := some k11c1 }
def k11c2 : Code := { maxStack := 4, maxLocals := 4, code := jdk_41_method_12_code, exceptionTable := #[], attributes := #[] }
def k11m2 : Method := { name := "checkFromToIndex", desc := "(IIILjava/util/function/BiFunction;)I", sig := { parameters := [.int, .int, .int, (.object "java/util/function/BiFunction")], returnType := some .int }, accessFlags := 9, code := some k11c2 }
/-- jdk/internal/util/Preconditions -/
def k11 : Class := { plain "jdk/internal/util/Preconditions" (some 0) with
  accessFlags := 33
  interfaces := #[]
  cf := some (fileOf pool11 24 #[.nestMembers #[55, 131, 125, 114]] #[{ accessFlags := 1, nameIndex := 5, descriptorIndex := 6, attributes := #[] }, { accessFlags := 9, nameIndex := 33, descriptorIndex := 178, attributes := #[] }, { accessFlags := 9, nameIndex := 47, descriptorIndex := 183, attributes := #[] }] 33 2 #[] #[{ accessFlags := 25, nameIndex := 123, descriptorIndex := 124, attributes := #[] }, { accessFlags := 25, nameIndex := 130, descriptorIndex := 124, attributes := #[] }, { accessFlags := 25, nameIndex := 136, descriptorIndex := 124, attributes := #[] }])
  fields := #[{ name := "SIOOBE_FORMATTER", type := (.object "java/util/function/BiFunction"), accessFlags := 25, slot := 0, constantValue := 0 }, { name := "AIOOBE_FORMATTER", type := (.object "java/util/function/BiFunction"), accessFlags := 25, slot := 1, constantValue := 0 }, { name := "IOOBE_FORMATTER", type := (.object "java/util/function/BiFunction"), accessFlags := 25, slot := 2, constantValue := 0 }]
  methods := #[k11m0, k11m1, k11m2]
  instanceTypes := #[]
  staticTypes := #[(.object "java/util/function/BiFunction"), (.object "java/util/function/BiFunction"), (.object "java/util/function/BiFunction")]
  resolved := Array.replicate 194 none
  statics := some 1 }

def pool12 : Array CpInfo := pool [(6, .class_ 8), (1, u "java/lang/Object"), (0, u "<init>"), (0, u "()V"), (1, .class_ 14), (1, u "java/lang/StringUTF16"), (31, u "$assertionsDisabled"), (0, u "Z"), (13, u "HI_BYTE_SHIFT"), (0, u "I"), (2, u "LO_BYTE_SHIFT"), (49, .methodref 12 116), (0, .nameAndType 117 118), (0, u "compress"), (0, u "([CI[BII)I"), (3, u "([CII)[B"), (138, u "coderFromArrayLen"), (0, u "([BI)B"), (106, .class_ 371), (1, u "java/lang/StringUTF16$LinesSpliterator"), (58, u "MAX_LENGTH"), (196, .class_ 628), (0, u "java/lang/StringUTF16$CodePointsSpliterator"), (0, .class_ 630), (0, u "java/lang/StringUTF16$CharsSpliterator")] 4

def k12m0 : Method := { name := "<init>", desc := "()V", sig := { parameters := [], returnType := none }, accessFlags := 0, code := none }
def k12c1 : Code := { maxStack := 2, maxLocals := 2, code := jdk_52_method_15_code, exceptionTable := #[], attributes := #[] }
def k12m1 : Method := { name := "coderFromArrayLen", desc := "([BI)B", sig := { parameters := [(.array .byte), .int], returnType := some .byte }, accessFlags := 8, code := some k12c1 }
def k12c2 : Code := { maxStack := 5, maxLocals := 6, code := jdk_52_method_16_code, exceptionTable := #[], attributes := #[] }
def k12m2 : Method := { name := "compress", desc := "([CII)[B", sig := { parameters := [(.array .char), .int, .int], returnType := some (.array .byte) }, accessFlags := 9, code := some k12c2 }
def k12c3 : Code := { maxStack := 3, maxLocals := 7, code := jdk_52_method_21_code, exceptionTable := #[], attributes := #[] }
def k12m3 : Method := { name := "compress", desc := "([CI[BII)I", sig := { parameters := [(.array .char), .int, (.array .byte), .int, .int], returnType := some .int }, accessFlags := 9, code := some k12c3 }
/-- java/lang/StringUTF16 -/
def k12 : Class := { plain "java/lang/StringUTF16" (some 0) with
  accessFlags := 48
  interfaces := #[]
  cf := some (fileOf pool12 12 #[.nestMembers #[627, 629, 369]] #[{ accessFlags := 0, nameIndex := 9, descriptorIndex := 10, attributes := #[] }, { accessFlags := 8, nameIndex := 261, descriptorIndex := 262, attributes := #[] }, { accessFlags := 9, nameIndex := 117, descriptorIndex := 122, attributes := #[] }, { accessFlags := 9, nameIndex := 117, descriptorIndex := 118, attributes := #[] }] 48 6 #[] #[{ accessFlags := 26, nameIndex := 61, descriptorIndex := 62, attributes := #[] }, { accessFlags := 26, nameIndex := 65, descriptorIndex := 62, attributes := #[] }, { accessFlags := 24, nameIndex := 430, descriptorIndex := 62, attributes := #[] }, { accessFlags := 4120, nameIndex := 46, descriptorIndex := 47, attributes := #[] }])
  fields := #[{ name := "HI_BYTE_SHIFT", type := .int, accessFlags := 26, slot := 0, constantValue := 0 }, { name := "LO_BYTE_SHIFT", type := .int, accessFlags := 26, slot := 1, constantValue := 0 }, { name := "MAX_LENGTH", type := .int, accessFlags := 24, slot := 2, constantValue := 0 }, { name := "$assertionsDisabled", type := .boolean, accessFlags := 4120, slot := 3, constantValue := 0 }]
  methods := #[k12m0, k12m1, k12m2, k12m3]
  instanceTypes := #[]
  staticTypes := #[.int, .int, .int, .boolean]
  resolved := Array.replicate 635 none
  statics := none }

def pool13 : Array CpInfo := pool [(1, .methodref 2 3), (0, .class_ 4), (0, .nameAndType 5 6), (0, u "java/lang/Object"), (0, u "<init>"), (0, u "()V"), (0, .class_ 8), (0, u "java/lang/Record")] 13

def k13c0 : Code := { maxStack := 1, maxLocals := 1, code := jdk_30_method_1_code, exceptionTable := #[], attributes := #[] }
def k13m0 : Method := { name := "<init>", desc := "()V", sig := { parameters := [], returnType := none }, accessFlags := 4, code := some k13c0 }
/-- java/lang/Record -/
def k13 : Class := { plain "java/lang/Record" (some 0) with
  accessFlags := 1057
  interfaces := #[]
  cf := some (fileOf pool13 7 #[] #[{ accessFlags := 4, nameIndex := 5, descriptorIndex := 6, attributes := #[] }] 1057 2 #[] #[])
  fields := #[]
  methods := #[k13m0]
  instanceTypes := #[]
  staticTypes := #[]
  resolved := Array.replicate 22 none
  statics := none }

def pool14 : Array CpInfo := pool [(1, .methodref 2 3), (0, .class_ 4), (0, .nameAndType 5 6), (0, u "java/lang/Record"), (0, u "<init>"), (0, u "()V"), (0, .string 8), (0, u "Null role id"), (0, .methodref 10 11), (0, .class_ 12), (0, .nameAndType 13 14), (0, u "java/util/Objects"), (0, u "requireNonNull"), (0, u "(Ljava/lang/Object;Ljava/lang/String;)Ljava/lang/Object;"), (0, .string 16), (0, u "Null scope"), (0, .interfaceMethodref 18 19), (0, .class_ 20), (0, .nameAndType 21 22), (0, u "java/util/List"), (0, u "copyOf"), (0, u "(Ljava/util/Collection;)Ljava/util/List;"), (0, .fieldref 24 25), (0, .class_ 26), (0, .nameAndType 27 28), (0, u "com/example/grant3/grant3/Explanation$Reason"), (0, u "role"), (0, u "Ljava/lang/String;"), (0, .fieldref 24 30), (0, .nameAndType 31 32), (0, u "scope"), (0, u "Lcom/example/grant3/grant3/Scope;"), (0, .fieldref 24 34), (0, .nameAndType 35 36), (0, u "chain"), (0, u "Ljava/util/List;"), (14, u "(Ljava/lang/String;Lcom/example/grant3/grant3/Scope;Ljava/util/List;)V"), (13, .class_ 66), (0, u "com/example/grant3/grant3/Explanation")] 21

def k14c0 : Code := { maxStack := 2, maxLocals := 4, code := prog_4_method_1_code, exceptionTable := #[], attributes := #[] }
def k14m0 : Method := { name := "<init>", desc := "(Ljava/lang/String;Lcom/example/grant3/grant3/Scope;Ljava/util/List;)V", sig := { parameters := [(.object "java/lang/String"), (.object "com/example/grant3/grant3/Scope"), (.object "java/util/List")], returnType := none }, accessFlags := 1, code := some k14c0 }
/-- com/example/grant3/grant3/Explanation$Reason -/
def k14 : Class := { plain "com/example/grant3/grant3/Explanation$Reason" (some 13) with
  accessFlags := 49
  interfaces := #[]
  cf := some (fileOf pool14 24 #[.nestHost 65] #[{ accessFlags := 1, nameIndex := 5, descriptorIndex := 51, attributes := #[] }] 49 2 #[] #[{ accessFlags := 18, nameIndex := 27, descriptorIndex := 28, attributes := #[] }, { accessFlags := 18, nameIndex := 31, descriptorIndex := 32, attributes := #[] }, { accessFlags := 18, nameIndex := 35, descriptorIndex := 36, attributes := #[] }])
  fields := #[{ name := "role", type := (.object "java/lang/String"), accessFlags := 18, slot := 0, constantValue := 0 }, { name := "scope", type := (.object "com/example/grant3/grant3/Scope"), accessFlags := 18, slot := 1, constantValue := 0 }, { name := "chain", type := (.object "java/util/List"), accessFlags := 18, slot := 2, constantValue := 0 }]
  methods := #[k14m0]
  instanceTypes := #[(.object "java/lang/String"), (.object "com/example/grant3/grant3/Scope"), (.object "java/util/List")]
  staticTypes := #[]
  resolved := Array.replicate 88 none
  statics := none }

def pool15 : Array CpInfo := pool [(8, .class_ 10), (1, u "java/lang/Iterable"), (24, .class_ 36), (0, u "java/lang/Object")] 25

/-- java/lang/Iterable -/
def k15 : Class := { plain "java/lang/Iterable" (some 0) with
  accessFlags := 1537
  interfaces := #[]
  cf := some (fileOf pool15 8 #[] #[] 1537 35 #[] #[])
  fields := #[]
  methods := #[]
  instanceTypes := #[]
  staticTypes := #[]
  resolved := Array.replicate 62 none
  statics := none }

def pool16 : Array CpInfo := pool [(10, .class_ 12), (1, u "java/util/Collection"), (0, u "toArray"), (16, u "()Z"), (29, .class_ 61), (0, u "java/lang/Object"), (0, .class_ 63), (0, u "java/lang/Iterable"), (2, u "isEmpty"), (3, u "()[Ljava/lang/Object;")] 44

def k16m0 : Method := { name := "isEmpty", desc := "()Z", sig := { parameters := [], returnType := some .boolean }, accessFlags := 1025, code := none }
def k16m1 : Method := { name := "toArray", desc := "()[Ljava/lang/Object;", sig := { parameters := [], returnType := some (.array (.object "java/lang/Object")) }, accessFlags := 1025, code := none }
/-- java/util/Collection -/
def k16 : Class := { plain "java/util/Collection" (some 0) with
  accessFlags := 1537
  interfaces := #[15]
  cf := some (fileOf pool16 10 #[] #[{ accessFlags := 1025, nameIndex := 66, descriptorIndex := 30, attributes := #[] }, { accessFlags := 1025, nameIndex := 13, descriptorIndex := 70, attributes := #[] }] 1537 60 #[62] #[])
  fields := #[]
  methods := #[k16m0, k16m1]
  instanceTypes := #[]
  staticTypes := #[]
  resolved := Array.replicate 115 none
  statics := none }

def pool17 : Array CpInfo := pool [(1, .methodref 2 3), (0, .class_ 4), (0, .nameAndType 5 6), (0, u "java/lang/Object"), (0, u "<init>"), (0, u "()V"), (1, .class_ 10), (1, u "java/util/AbstractCollection"), (66, .class_ 78), (0, u "java/util/Collection")] 81

def k17c0 : Code := { maxStack := 1, maxLocals := 1, code := jdk_22_method_1_code, exceptionTable := #[], attributes := #[] }
def k17m0 : Method := { name := "<init>", desc := "()V", sig := { parameters := [], returnType := none }, accessFlags := 4, code := some k17c0 }
/-- java/util/AbstractCollection -/
def k17 : Class := { plain "java/util/AbstractCollection" (some 0) with
  accessFlags := 1057
  interfaces := #[16]
  cf := some (fileOf pool17 8 #[] #[{ accessFlags := 4, nameIndex := 5, descriptorIndex := 6, attributes := #[] }] 1057 2 #[77] #[])
  fields := #[]
  methods := #[k17m0]
  instanceTypes := #[]
  staticTypes := #[]
  resolved := Array.replicate 160 none
  statics := none }

def pool18 : Array CpInfo := pool [(8, .class_ 10), (1, u "java/util/SequencedCollection"), (15, .class_ 27), (0, u "java/lang/Object"), (0, .class_ 29), (0, u "java/util/Collection")] 27

/-- java/util/SequencedCollection -/
def k18 : Class := { plain "java/util/SequencedCollection" (some 0) with
  accessFlags := 1537
  interfaces := #[16]
  cf := some (fileOf pool18 8 #[] #[] 1537 26 #[28] #[])
  fields := #[]
  methods := #[]
  instanceTypes := #[]
  staticTypes := #[]
  resolved := Array.replicate 57 none
  statics := none }

def pool19 : Array CpInfo := pool [(8, .class_ 10), (1, u "java/util/List"), (7, u "()Z"), (12, u "(Ljava/lang/Object;)V"), (16, u "<init>"), (18, u "isEmpty"), (20, u "of"), (1, .fieldref 91 92), (0, .class_ 93), (0, .nameAndType 94 95), (0, u "java/util/ImmutableCollections"), (0, u "EMPTY_LIST"), (0, u "Ljava/util/ImmutableCollections$ListN;"), (0, .class_ 97), (0, u "java/util/ImmutableCollections$List12"), (0, .methodref 96 99), (0, .nameAndType 48 31), (0, .methodref 96 101), (0, .nameAndType 48 102), (0, u "(Ljava/lang/Object;Ljava/lang/Object;)V"), (0, .class_ 104), (0, u "java/lang/Object"), (3, u "([Ljava/lang/Object;)Ljava/util/List;"), (3, .methodref 91 113), (0, .nameAndType 114 115), (0, u "listCopy"), (0, u "(Ljava/util/Collection;)Ljava/util/List;"), (3, u "()Ljava/util/List;"), (0, .class_ 121), (0, u "java/util/SequencedCollection"), (112, u "copyOf")] 16

def k19m0 : Method := { name := "isEmpty", desc := "()Z", sig := { parameters := [], returnType := some .boolean }, accessFlags := 1025, code := none }
def k19c1 : Code := { maxStack := 1, maxLocals := 0, code := jdk_40_method_36_code, exceptionTable := #[], attributes := #[] }
def k19m1 : Method := { name := "of", desc := "()Ljava/util/List;", sig := { parameters := [], returnType := some (.object "java/util/List") }, accessFlags := 9, code := some k19c1 }
def k19c2 : Code := { maxStack := 5, maxLocals := 2, code := jdk_40_method_47_code, exceptionTable := #[], attributes := #[] }
def k19m2 : Method := { name := "of", desc := "([Ljava/lang/Object;)Ljava/util/List;", sig := { parameters := [(.array (.object "java/lang/Object"))], returnType := some (.object "java/util/List") }, accessFlags := 137, code := some k19c2 }
def k19c3 : Code := { maxStack := 1, maxLocals := 1, code := jdk_40_method_48_code, exceptionTable := #[], attributes := #[] }
def k19m3 : Method := { name := "copyOf", desc := "(Ljava/util/Collection;)Ljava/util/List;", sig := { parameters := [(.object "java/util/Collection")], returnType := some (.object "java/util/List") }, accessFlags := 9, code := some k19c3 }
/-- java/util/List -/
def k19 : Class := { plain "java/util/List" (some 0) with
  accessFlags := 1537
  interfaces := #[18]
  cf := some (fileOf pool19 8 #[] #[{ accessFlags := 1025, nameIndex := 67, descriptorIndex := 18, attributes := #[] }, { accessFlags := 9, nameIndex := 88, descriptorIndex := 119, attributes := #[] }, { accessFlags := 137, nameIndex := 88, descriptorIndex := 108, attributes := #[] }, { accessFlags := 9, nameIndex := 234, descriptorIndex := 115, attributes := #[] }] 1537 103 #[120] #[])
  fields := #[]
  methods := #[k19m0, k19m1, k19m2, k19m3]
  instanceTypes := #[]
  staticTypes := #[]
  resolved := Array.replicate 251 none
  statics := none }

def pool20 : Array CpInfo := pool [(1, .methodref 2 3), (0, .class_ 4), (0, .nameAndType 5 6), (0, u "java/util/AbstractCollection"), (0, u "<init>"), (0, u "()V"), (0, .fieldref 8 9), (0, .class_ 10), (0, .nameAndType 11 12), (0, u "java/util/AbstractList"), (0, u "modCount"), (0, u "I"), (64, .class_ 78), (0, u "java/util/AbstractList$Itr"), (3, .class_ 83), (0, u "java/util/AbstractList$ListItr"), (9, .class_ 94), (0, u "java/util/AbstractList$RandomAccessSubList"), (3, .class_ 99), (0, u "java/util/AbstractList$SubList"), (33, .class_ 134), (0, u "java/util/List"), (73, .class_ 209), (0, u "java/util/AbstractList$SubList$1"), (0, .class_ 211), (0, u "java/util/AbstractList$RandomAccessSpliterator")] 6

def k20c0 : Code := { maxStack := 2, maxLocals := 1, code := jdk_39_method_1_code, exceptionTable := #[], attributes := #[] }
def k20m0 : Method := { name := "<init>", desc := "()V", sig := { parameters := [], returnType := none }, accessFlags := 4, code := some k20c0 }
/-- java/util/AbstractList -/
def k20 : Class := { plain "java/util/AbstractList" (some 17) with
  accessFlags := 1057
  interfaces := #[19]
  cf := some (fileOf pool20 8 #[.nestMembers #[93, 98, 208, 210, 82, 77]] #[{ accessFlags := 4, nameIndex := 5, descriptorIndex := 6, attributes := #[] }] 1057 2 #[133] #[{ accessFlags := 132, nameIndex := 11, descriptorIndex := 12, attributes := #[] }])
  fields := #[{ name := "modCount", type := .int, accessFlags := 132, slot := 0, constantValue := 0 }]
  methods := #[k20m0]
  instanceTypes := #[.int]
  staticTypes := #[]
  resolved := Array.replicate 218 none
  statics := none }

def pool21 : Array CpInfo := pool [(1, .class_ 2), (0, u "java/util/RandomAccess"), (0, .class_ 4), (0, u "java/lang/Object")] 2

/-- java/util/RandomAccess -/
def k21 : Class := { plain "java/util/RandomAccess" (some 0) with
  accessFlags := 1537
  interfaces := #[]
  cf := some (fileOf pool21 1 #[] #[] 1537 3 #[] #[])
  fields := #[]
  methods := #[]
  instanceTypes := #[]
  staticTypes := #[]
  resolved := Array.replicate 7 none
  statics := none }

def pool22 : Array CpInfo := pool [(1, .class_ 2), (0, u "java/lang/Cloneable"), (0, .class_ 4), (0, u "java/lang/Object")] 2

/-- java/lang/Cloneable -/
def k22 : Class := { plain "java/lang/Cloneable" (some 0) with
  accessFlags := 1537
  interfaces := #[]
  cf := some (fileOf pool22 1 #[] #[] 1537 3 #[] #[])
  fields := #[]
  methods := #[]
  instanceTypes := #[]
  staticTypes := #[]
  resolved := Array.replicate 7 none
  statics := none }

def pool23 : Array CpInfo := pool [(1, .methodref 2 3), (0, .class_ 4), (0, .nameAndType 5 6), (0, u "java/util/AbstractList"), (0, u "<init>"), (0, u "()V"), (0, .class_ 8), (0, u "java/lang/Object"), (0, .fieldref 10 11), (0, .class_ 12), (0, .nameAndType 13 14), (0, u "java/util/ArrayList"), (0, u "elementData"), (0, u "[Ljava/lang/Object;"), (2, u "EMPTY_ELEMENTDATA"), (21, .fieldref 10 40), (0, .nameAndType 41 14), (0, u "DEFAULTCAPACITY_EMPTY_ELEMENTDATA"), (4, u "toArray"), (0, u "()[Ljava/lang/Object;"), (0, .fieldref 10 49), (0, .nameAndType 50 51), (0, u "size"), (0, u "I"), (6, .class_ 60), (1, u "java/util/Arrays"), (0, u "copyOf"), (1, .fieldref 10 64), (0, .nameAndType 65 51), (0, u "modCount"), (0, .methodref 58 67), (0, .nameAndType 61 68), (0, u "([Ljava/lang/Object;I)[Ljava/lang/Object;"), (0, .methodref 10 70), (0, .nameAndType 71 72), (0, u "grow"), (0, u "(I)[Ljava/lang/Object;"), (6, .methodref 80 81), (0, .class_ 82), (0, .nameAndType 83 84), (0, u "java/lang/Math"), (0, u "max"), (0, u "(II)I"), (11, u "(Ljava/lang/Object;)Z"), (32, .methodref 10 130), (0, .nameAndType 71 47), (0, .methodref 10 132), (0, .nameAndType 133 134), (0, u "add"), (0, u "(Ljava/lang/Object;[Ljava/lang/Object;I)V"), (13, .class_ 149), (0, u "java/util/List"), (23, u "()Z"), (88, .class_ 263), (0, u "java/util/ArrayList$ListItr"), (3, .class_ 268), (0, u "java/util/ArrayList$Itr"), (7, .class_ 277), (0, u "java/util/ArrayList$SubList"), (12, .class_ 291), (0, u "java/util/ArrayList$ArrayListSpliterator"), (37, .class_ 330), (0, u "java/util/RandomAccess"), (0, .class_ 332), (0, u "java/lang/Cloneable"), (0, .class_ 334), (0, u "java/io/Serializable"), (0, u "serialVersionUID"), (0, u "J"), (3, u "DEFAULT_CAPACITY"), (22, u "isEmpty"), (136, .class_ 501), (0, u "java/util/ArrayList$SubList$2"), (0, .class_ 503), (0, u "java/util/ArrayList$SubList$1")] 5

def k23c0 : Code := { maxStack := 2, maxLocals := 1, code := jdk_38_method_2_code, exceptionTable := #[], attributes := #[] }
def k23m0 : Method := { name := "<init>", desc := "()V", sig := { parameters := [], returnType := none }, accessFlags := 1, code := some k23c0 }
def k23c1 : Code := { maxStack := 4, maxLocals := 4, code := jdk_38_method_6_code, exceptionTable := #[], attributes := #[] }
def k23m1 : Method := { name := "grow", desc := "(I)[Ljava/lang/Object;", sig := { parameters := [.int], returnType := some (.array (.object "java/lang/Object")) }, accessFlags := 2, code := some k23c1 }
def k23c2 : Code := { maxStack := 3, maxLocals := 1, code := jdk_38_method_7_code, exceptionTable := #[], attributes := #[] }
def k23m2 : Method := { name := "grow", desc := "()[Ljava/lang/Object;", sig := { parameters := [], returnType := some (.array (.object "java/lang/Object")) }, accessFlags := 2, code := some k23c2 }
def k23c3 : Code := { maxStack := 1, maxLocals := 1, code := jdk_38_method_9_code, exceptionTable := #[], attributes := #[] }
def k23m3 : Method := { name := "isEmpty", desc := "()Z", sig := { parameters := [], returnType := some .boolean }, accessFlags := 1, code := some k23c3 }
def k23c4 : Code := { maxStack := 2, maxLocals := 1, code := jdk_38_method_16_code, exceptionTable := #[], attributes := #[] }
def k23m4 : Method := { name := "toArray", desc := "()[Ljava/lang/Object;", sig := { parameters := [], returnType := some (.array (.object "java/lang/Object")) }, accessFlags := 1, code := some k23c4 }
def k23c5 : Code := { maxStack := 3, maxLocals := 4, code := jdk_38_method_24_code, exceptionTable := #[], attributes := #[] }
def k23m5 : Method := { name := "add", desc := "(Ljava/lang/Object;[Ljava/lang/Object;I)V", sig := { parameters := [(.object "java/lang/Object"), (.array (.object "java/lang/Object")), .int], returnType := none }, accessFlags := 2, code := some k23c5 }
def k23c6 : Code := { maxStack := 4, maxLocals := 2, code := jdk_38_method_25_code, exceptionTable := #[], attributes := #[] }
def k23m6 : Method := { name := "add", desc := "(Ljava/lang/Object;)Z", sig := { parameters := [(.object "java/lang/Object")], returnType := some .boolean }, accessFlags := 1, code := some k23c6 }
/-- java/util/ArrayList -/
def k23 : Class := { plain "java/util/ArrayList" (some 20) with
  accessFlags := 33
  interfaces := #[19, 21, 22, 2]
  cf := some (fileOf pool23 10 #[.nestMembers #[290, 276, 500, 502, 262, 267]] #[{ accessFlags := 1, nameIndex := 5, descriptorIndex := 6, attributes := #[] }, { accessFlags := 2, nameIndex := 71, descriptorIndex := 72, attributes := #[] }, { accessFlags := 2, nameIndex := 71, descriptorIndex := 47, attributes := #[] }, { accessFlags := 1, nameIndex := 363, descriptorIndex := 173, attributes := #[] }, { accessFlags := 1, nameIndex := 46, descriptorIndex := 47, attributes := #[] }, { accessFlags := 2, nameIndex := 133, descriptorIndex := 134, attributes := #[] }, { accessFlags := 1, nameIndex := 133, descriptorIndex := 96, attributes := #[] }] 33 2 #[148, 329, 331, 333] #[{ accessFlags := 26, nameIndex := 335, descriptorIndex := 336, attributes := #[] }, { accessFlags := 26, nameIndex := 340, descriptorIndex := 51, attributes := #[] }, { accessFlags := 26, nameIndex := 17, descriptorIndex := 14, attributes := #[] }, { accessFlags := 26, nameIndex := 41, descriptorIndex := 14, attributes := #[] }, { accessFlags := 128, nameIndex := 13, descriptorIndex := 14, attributes := #[] }, { accessFlags := 2, nameIndex := 50, descriptorIndex := 51, attributes := #[] }])
  fields := #[{ name := "serialVersionUID", type := .long, accessFlags := 26, slot := 0, constantValue := 0 }, { name := "DEFAULT_CAPACITY", type := .int, accessFlags := 26, slot := 1, constantValue := 0 }, { name := "EMPTY_ELEMENTDATA", type := (.array (.object "java/lang/Object")), accessFlags := 26, slot := 2, constantValue := 0 }, { name := "DEFAULTCAPACITY_EMPTY_ELEMENTDATA", type := (.array (.object "java/lang/Object")), accessFlags := 26, slot := 3, constantValue := 0 }, { name := "elementData", type := (.array (.object "java/lang/Object")), accessFlags := 128, slot := 1, constantValue := 0 }, { name := "size", type := .int, accessFlags := 2, slot := 2, constantValue := 0 }]
  methods := #[k23m0, k23m1, k23m2, k23m3, k23m4, k23m5, k23m6]
  instanceTypes := #[.int, (.array (.object "java/lang/Object")), .int]
  staticTypes := #[.long, .int, (.array (.object "java/lang/Object")), (.array (.object "java/lang/Object"))]
  resolved := Array.replicate 509 none
  statics := some 2 }

def pool24 : Array CpInfo := pool [(2, .class_ 4), (1, u "java/lang/Object"), (0, u "<init>"), (0, u "()V"), (3, .class_ 11), (0, u "java/util/ImmutableCollections$List12"), (0, .class_ 13), (0, u "java/util/ImmutableCollections$ListN"), (3, u "Z"), (0, .class_ 19), (0, u "java/util/List"), (0, .interfaceMethodref 21 22), (0, .class_ 23), (0, .nameAndType 24 25), (0, u "java/util/Collection"), (0, u "isEmpty"), (0, u "()Z"), (0, .interfaceMethodref 18 27), (0, .nameAndType 28 29), (0, u "of"), (0, u "()Ljava/util/List;"), (0, .interfaceMethodref 21 31), (0, .nameAndType 32 33), (0, u "toArray"), (0, u "()[Ljava/lang/Object;"), (0, .interfaceMethodref 18 35), (0, .nameAndType 28 36), (0, u "([Ljava/lang/Object;)Ljava/util/List;"), (10, .class_ 49), (1, u "java/util/ImmutableCollections"), (0, u "$assertionsDisabled"), (5, u "[Ljava/lang/Object;"), (5, u "EMPTY_LIST"), (0, u "Ljava/util/ImmutableCollections$ListN;"), (8, u "EMPTY_LIST_NULLS"), (22, u "SALT32L"), (0, u "J"), (2, u "REVERSE"), (6, u "archivedObjects"), (2, u "EMPTY"), (0, u "Ljava/lang/Object;"), (0, .class_ 112), (0, u "java/util/ImmutableCollections$SetN"), (5, u "EMPTY_SET"), (0, u "Ljava/util/ImmutableCollections$SetN;"), (0, .class_ 121), (0, u "java/util/ImmutableCollections$MapN"), (3, u "EMPTY_MAP"), (0, u "Ljava/util/ImmutableCollections$MapN;"), (4, u "EXPAND_FACTOR"), (0, u "I"), (9, u "listCopy"), (0, u "(Ljava/util/Collection;)Ljava/util/List;"), (25, .class_ 170), (0, u "java/util/ImmutableCollections$MapN$MapNIterator"), (0, .class_ 172), (0, u "java/util/ImmutableCollections$MapN$1"), (0, .class_ 174), (0, u "java/util/ImmutableCollections$Map1"), (0, .class_ 176), (0, u "java/util/ImmutableCollections$AbstractImmutableMap"), (0, .class_ 178), (0, u "java/util/ImmutableCollections$SetN$SetNIterator"), (0, .class_ 180), (0, u "java/util/ImmutableCollections$Set12"), (0, .class_ 182), (0, u "java/util/ImmutableCollections$Set12$1"), (0, .class_ 184), (0, u "java/util/ImmutableCollections$AbstractImmutableSet"), (0, .class_ 186), (0, u "java/util/ImmutableCollections$SubList"), (0, .class_ 188), (0, u "java/util/ImmutableCollections$ListItr"), (0, .class_ 190), (0, u "java/util/ImmutableCollections$AbstractImmutableList"), (0, .class_ 192), (0, u "java/util/ImmutableCollections$AbstractImmutableCollection"), (0, .class_ 194), (0, u "java/util/ImmutableCollections$Access"), (0, .class_ 196), (0, u "java/util/ImmutableCollections$Access$1")] 16

def k24m0 : Method := { name := "<init>", desc := "()V", sig := { parameters := [], returnType := none }, accessFlags := 2, code := none }
def k24c1 : Code := { maxStack := 1, maxLocals := 2, code := jdk_56_method_3_code, exceptionTable := #[], attributes := #[] }
def k24m1 : Method := { name := "listCopy", desc := "(Ljava/util/Collection;)Ljava/util/List;", sig := { parameters := [(.object "java/util/Collection")], returnType := some (.object "java/util/List") }, accessFlags := 8, code := some k24c1 }
/-- java/util/ImmutableCollections -/
def k24 : Class := { plain "java/util/ImmutableCollections" (some 0) with
  accessFlags := 32
  interfaces := #[]
  cf := some (fileOf pool24 47 #[.nestMembers #[120, 169, 171, 173, 175, 111, 177, 179, 181, 183, 12, 10, 185, 187, 189, 191, 193, 195]] #[{ accessFlags := 2, nameIndex := 5, descriptorIndex := 6, attributes := #[] }, { accessFlags := 8, nameIndex := 142, descriptorIndex := 143, attributes := #[] }] 32 2 #[] #[{ accessFlags := 26, nameIndex := 95, descriptorIndex := 96, attributes := #[] }, { accessFlags := 26, nameIndex := 99, descriptorIndex := 17, attributes := #[] }, { accessFlags := 10, nameIndex := 106, descriptorIndex := 56, attributes := #[] }, { accessFlags := 26, nameIndex := 109, descriptorIndex := 110, attributes := #[] }, { accessFlags := 24, nameIndex := 62, descriptorIndex := 63, attributes := #[] }, { accessFlags := 24, nameIndex := 72, descriptorIndex := 63, attributes := #[] }, { accessFlags := 24, nameIndex := 118, descriptorIndex := 119, attributes := #[] }, { accessFlags := 24, nameIndex := 125, descriptorIndex := 126, attributes := #[] }, { accessFlags := 24, nameIndex := 131, descriptorIndex := 132, attributes := #[] }, { accessFlags := 4120, nameIndex := 50, descriptorIndex := 17, attributes := #[] }])
  fields := #[{ name := "SALT32L", type := .long, accessFlags := 26, slot := 0, constantValue := 0 }, { name := "REVERSE", type := .boolean, accessFlags := 26, slot := 1, constantValue := 0 }, { name := "archivedObjects", type := (.array (.object "java/lang/Object")), accessFlags := 10, slot := 2, constantValue := 0 }, { name := "EMPTY", type := (.object "java/lang/Object"), accessFlags := 26, slot := 3, constantValue := 0 }, { name := "EMPTY_LIST", type := (.object "java/util/ImmutableCollections$ListN"), accessFlags := 24, slot := 4, constantValue := 0 }, { name := "EMPTY_LIST_NULLS", type := (.object "java/util/ImmutableCollections$ListN"), accessFlags := 24, slot := 5, constantValue := 0 }, { name := "EMPTY_SET", type := (.object "java/util/ImmutableCollections$SetN"), accessFlags := 24, slot := 6, constantValue := 0 }, { name := "EMPTY_MAP", type := (.object "java/util/ImmutableCollections$MapN"), accessFlags := 24, slot := 7, constantValue := 0 }, { name := "EXPAND_FACTOR", type := .int, accessFlags := 24, slot := 8, constantValue := 0 }, { name := "$assertionsDisabled", type := .boolean, accessFlags := 4120, slot := 9, constantValue := 0 }]
  methods := #[k24m0, k24m1]
  instanceTypes := #[]
  staticTypes := #[.long, .boolean, (.array (.object "java/lang/Object")), (.object "java/lang/Object"), (.object "java/util/ImmutableCollections$ListN"), (.object "java/util/ImmutableCollections$ListN"), (.object "java/util/ImmutableCollections$SetN"), (.object "java/util/ImmutableCollections$MapN"), .int, .boolean]
  resolved := Array.replicate 213 none
  statics := some 3 }

def pool25 : Array CpInfo := pool [(1, .methodref 2 3), (0, .class_ 4), (0, .nameAndType 5 6), (0, u "java/util/AbstractCollection"), (0, u "<init>"), (0, u "()V"), (1, .class_ 10), (1, u "java/util/ImmutableCollections"), (2, .class_ 14), (0, u "java/util/ImmutableCollections$AbstractImmutableCollection")] 41

def k25c0 : Code := { maxStack := 1, maxLocals := 1, code := jdk_47_method_1_code, exceptionTable := #[], attributes := #[] }
def k25m0 : Method := { name := "<init>", desc := "()V", sig := { parameters := [], returnType := none }, accessFlags := 0, code := some k25c0 }
/-- java/util/ImmutableCollections$AbstractImmutableCollection -/
def k25 : Class := { plain "java/util/ImmutableCollections$AbstractImmutableCollection" (some 17) with
  accessFlags := 1056
  interfaces := #[]
  cf := some (fileOf pool25 13 #[.nestHost 8] #[{ accessFlags := 0, nameIndex := 5, descriptorIndex := 6, attributes := #[] }] 1056 2 #[] #[])
  fields := #[]
  methods := #[k25m0]
  instanceTypes := #[]
  staticTypes := #[]
  resolved := Array.replicate 56 none
  statics := none }

def pool26 : Array CpInfo := pool [(1, .methodref 2 3), (0, .class_ 4), (0, .nameAndType 5 6), (0, u "java/util/ImmutableCollections$AbstractImmutableCollection"), (0, u "<init>"), (0, u "()V"), (1, .class_ 10), (1, u "java/util/ImmutableCollections"), (3, .class_ 16), (1, u "java/util/ImmutableCollections$AbstractImmutableList"), (60, .class_ 78), (0, u "java/util/List"), (45, .class_ 125), (0, u "java/util/RandomAccess")] 70

def k26c0 : Code := { maxStack := 1, maxLocals := 1, code := jdk_46_method_1_code, exceptionTable := #[], attributes := #[] }
def k26m0 : Method := { name := "<init>", desc := "()V", sig := { parameters := [], returnType := none }, accessFlags := 0, code := some k26c0 }
/-- java/util/ImmutableCollections$AbstractImmutableList -/
def k26 : Class := { plain "java/util/ImmutableCollections$AbstractImmutableList" (some 25) with
  accessFlags := 1056
  interfaces := #[19, 21]
  cf := some (fileOf pool26 14 #[.nestHost 8] #[{ accessFlags := 0, nameIndex := 5, descriptorIndex := 6, attributes := #[] }] 1056 2 #[77, 124] #[])
  fields := #[]
  methods := #[k26m0]
  instanceTypes := #[]
  staticTypes := #[]
  resolved := Array.replicate 196 none
  statics := none }

def pool27 : Array CpInfo := pool [(1, .methodref 2 3), (0, .class_ 4), (0, .nameAndType 5 6), (0, u "java/util/ImmutableCollections$AbstractImmutableList"), (0, u "<init>"), (0, u "()V"), (0, .methodref 8 9), (0, .class_ 10), (0, .nameAndType 11 12), (0, u "java/util/Objects"), (0, u "requireNonNull"), (0, u "(Ljava/lang/Object;)Ljava/lang/Object;"), (0, .fieldref 14 15), (0, .class_ 16), (0, .nameAndType 17 18), (0, u "java/util/ImmutableCollections$List12"), (0, u "e0"), (0, u "Ljava/lang/Object;"), (0, .fieldref 20 21), (0, .class_ 22), (0, .nameAndType 23 18), (0, u "java/util/ImmutableCollections"), (0, u "EMPTY"), (0, .fieldref 14 25), (0, .nameAndType 26 18), (0, u "e1"), (43, .class_ 71), (0, u "java/io/Serializable"), (4, u "(Ljava/lang/Object;)V"), (8, u "(Ljava/lang/Object;Ljava/lang/Object;)V"), (2, u "isEmpty"), (0, u "()Z")] 35

def k27c0 : Code := { maxStack := 2, maxLocals := 2, code := jdk_44_method_1_code, exceptionTable := #[], attributes := #[] }
def k27m0 : Method := { name := "<init>", desc := "(Ljava/lang/Object;)V", sig := { parameters := [(.object "java/lang/Object")], returnType := none }, accessFlags := 0, code := some k27c0 }
def k27c1 : Code := { maxStack := 2, maxLocals := 3, code := jdk_44_method_2_code, exceptionTable := #[], attributes := #[] }
def k27m1 : Method := { name := "<init>", desc := "(Ljava/lang/Object;Ljava/lang/Object;)V", sig := { parameters := [(.object "java/lang/Object"), (.object "java/lang/Object")], returnType := none }, accessFlags := 0, code := some k27c1 }
def k27c2 : Code := { maxStack := 1, maxLocals := 1, code := jdk_44_method_4_code, exceptionTable := #[], attributes := #[] }
def k27m2 : Method := { name := "isEmpty", desc := "()Z", sig := { parameters := [], returnType := some .boolean }, accessFlags := 1, code := some k27c2 }
/-- java/util/ImmutableCollections$List12 -/
def k27 : Class := { plain "java/util/ImmutableCollections$List12" (some 26) with
  accessFlags := 48
  interfaces := #[2]
  cf := some (fileOf pool27 14 #[.nestHost 20] #[{ accessFlags := 0, nameIndex := 5, descriptorIndex := 76, attributes := #[] }, { accessFlags := 0, nameIndex := 5, descriptorIndex := 85, attributes := #[] }, { accessFlags := 1, nameIndex := 88, descriptorIndex := 89, attributes := #[] }] 48 2 #[70] #[{ accessFlags := 18, nameIndex := 17, descriptorIndex := 18, attributes := #[] }, { accessFlags := 18, nameIndex := 26, descriptorIndex := 18, attributes := #[] }])
  fields := #[{ name := "e0", type := (.object "java/lang/Object"), accessFlags := 18, slot := 0, constantValue := 0 }, { name := "e1", type := (.object "java/lang/Object"), accessFlags := 18, slot := 1, constantValue := 0 }]
  methods := #[k27m0, k27m1, k27m2]
  instanceTypes := #[(.object "java/lang/Object"), (.object "java/lang/Object")]
  staticTypes := #[]
  resolved := Array.replicate 125 none
  statics := none }

def pool28 : Array CpInfo := pool [(2, .class_ 4), (1, u "java/util/ImmutableCollections$AbstractImmutableList"), (2, .fieldref 8 9), (0, .class_ 10), (0, .nameAndType 11 12), (0, u "java/util/ImmutableCollections$ListN"), (0, u "elements"), (0, u "[Ljava/lang/Object;"), (2, u "allowNulls"), (0, u "Z"), (42, .class_ 60), (0, u "java/io/Serializable"), (13, u "isEmpty"), (0, u "()Z"), (38, .class_ 115), (0, u "java/util/ImmutableCollections")] 3

def k28c0 : Code := { maxStack := 1, maxLocals := 1, code := jdk_45_method_2_code, exceptionTable := #[], attributes := #[] }
def k28m0 : Method := { name := "isEmpty", desc := "()Z", sig := { parameters := [], returnType := some .boolean }, accessFlags := 1, code := some k28c0 }
/-- java/util/ImmutableCollections$ListN -/
def k28 : Class := { plain "java/util/ImmutableCollections$ListN" (some 26) with
  accessFlags := 48
  interfaces := #[2]
  cf := some (fileOf pool28 8 #[.nestHost 114] #[{ accessFlags := 1, nameIndex := 74, descriptorIndex := 75, attributes := #[] }] 48 2 #[59] #[{ accessFlags := 18, nameIndex := 11, descriptorIndex := 12, attributes := #[] }, { accessFlags := 18, nameIndex := 15, descriptorIndex := 16, attributes := #[] }])
  fields := #[{ name := "elements", type := (.array (.object "java/lang/Object")), accessFlags := 18, slot := 0, constantValue := 0 }, { name := "allowNulls", type := .boolean, accessFlags := 18, slot := 1, constantValue := 0 }]
  methods := #[k28m0]
  instanceTypes := #[(.array (.object "java/lang/Object")), .boolean]
  staticTypes := #[]
  resolved := Array.replicate 119 none
  statics := none }

def pool29 : Array CpInfo := pool [(1, .methodref 2 3), (0, .class_ 4), (0, .nameAndType 5 6), (0, u "java/lang/Record"), (0, u "<init>"), (0, u "()V"), (0, .interfaceMethodref 8 9), (0, .class_ 10), (0, .nameAndType 11 12), (0, u "java/util/List"), (0, u "copyOf"), (0, u "(Ljava/util/Collection;)Ljava/util/List;"), (0, .fieldref 14 15), (0, .class_ 16), (0, .nameAndType 17 18), (0, u "com/example/grant3/grant3/Explanation"), (0, u "superadmin"), (0, u "Z"), (0, .fieldref 14 20), (0, .nameAndType 21 22), (0, u "because"), (0, u "Ljava/util/List;"), (0, .interfaceMethodref 8 24), (0, .nameAndType 25 26), (0, u "isEmpty"), (0, u "()Z"), (14, u "(ZLjava/util/List;)V"), (4, u "allowed"), (9, .class_ 57), (0, u "com/example/grant3/grant3/Explanation$Reason")] 20

def k29c0 : Code := { maxStack := 2, maxLocals := 3, code := prog_3_method_1_code, exceptionTable := #[], attributes := #[] }
def k29m0 : Method := { name := "<init>", desc := "(ZLjava/util/List;)V", sig := { parameters := [.boolean, (.object "java/util/List")], returnType := none }, accessFlags := 1, code := some k29c0 }
def k29c1 : Code := { maxStack := 1, maxLocals := 1, code := prog_3_method_2_code, exceptionTable := #[], attributes := #[] }
def k29m1 : Method := { name := "allowed", desc := "()Z", sig := { parameters := [], returnType := some .boolean }, accessFlags := 1, code := some k29c1 }
/-- com/example/grant3/grant3/Explanation -/
def k29 : Class := { plain "com/example/grant3/grant3/Explanation" (some 13) with
  accessFlags := 49
  interfaces := #[]
  cf := some (fileOf pool29 14 #[.nestMembers #[56]] #[{ accessFlags := 1, nameIndex := 5, descriptorIndex := 41, attributes := #[] }, { accessFlags := 1, nameIndex := 46, descriptorIndex := 26, attributes := #[] }] 49 2 #[] #[{ accessFlags := 18, nameIndex := 17, descriptorIndex := 18, attributes := #[] }, { accessFlags := 18, nameIndex := 21, descriptorIndex := 22, attributes := #[] }])
  fields := #[{ name := "superadmin", type := .boolean, accessFlags := 18, slot := 0, constantValue := 0 }, { name := "because", type := (.object "java/util/List"), accessFlags := 18, slot := 1, constantValue := 0 }]
  methods := #[k29m0, k29m1]
  instanceTypes := #[.boolean, (.object "java/util/List")]
  staticTypes := #[]
  resolved := Array.replicate 78 none
  statics := none }

def pool30 : Array CpInfo := pool [(1, .class_ 2), (0, u "java/lang/Math"), (1, .class_ 6), (1, u "java/lang/Object"), (0, u "<init>"), (0, u "()V"), (89, .class_ 100), (1, u "java/lang/Math$RandomNumberGeneratorHolder"), (71, u "negativeZeroFloatBits"), (0, u "J"), (2, u "negativeZeroDoubleBits"), (21, u "max"), (2, u "min"), (43, u "$assertionsDisabled"), (0, u "Z"), (88, u "(II)I"), (2, u "twoToTheDoubleScaleDown"), (0, u "D"), (4, u "twoToTheDoubleScaleUp"), (9, u "E"), (3, u "PI"), (2, u "TAU"), (2, u "DEGREES_TO_RADIANS"), (0, u "RADIANS_TO_DEGREES")] 94

def k30m0 : Method := { name := "<init>", desc := "()V", sig := { parameters := [], returnType := none }, accessFlags := 2, code := none }
def k30c1 : Code := { maxStack := 2, maxLocals := 2, code := jdk_29_method_65_code, exceptionTable := #[], attributes := #[] }
def k30m1 : Method := { name := "max", desc := "(II)I", sig := { parameters := [.int, .int], returnType := some .int }, accessFlags := 9, code := some k30c1 }
def k30c2 : Code := { maxStack := 2, maxLocals := 2, code := jdk_29_method_69_code, exceptionTable := #[], attributes := #[] }
def k30m2 : Method := { name := "min", desc := "(II)I", sig := { parameters := [.int, .int], returnType := some .int }, accessFlags := 9, code := some k30c2 }
/-- java/lang/Math -/
def k30 : Class := { plain "java/lang/Math" (some 0) with
  accessFlags := 49
  interfaces := #[]
  cf := some (fileOf pool30 1 #[.nestMembers #[98]] #[{ accessFlags := 2, nameIndex := 7, descriptorIndex := 8, attributes := #[] }, { accessFlags := 9, nameIndex := 198, descriptorIndex := 335, attributes := #[] }, { accessFlags := 9, nameIndex := 201, descriptorIndex := 335, attributes := #[] }] 49 4 #[] #[{ accessFlags := 25, nameIndex := 354, descriptorIndex := 339, attributes := #[] }, { accessFlags := 25, nameIndex := 358, descriptorIndex := 339, attributes := #[] }, { accessFlags := 25, nameIndex := 361, descriptorIndex := 339, attributes := #[] }, { accessFlags := 26, nameIndex := 364, descriptorIndex := 339, attributes := #[] }, { accessFlags := 26, nameIndex := 365, descriptorIndex := 339, attributes := #[] }, { accessFlags := 26, nameIndex := 172, descriptorIndex := 173, attributes := #[] }, { accessFlags := 26, nameIndex := 176, descriptorIndex := 173, attributes := #[] }, { accessFlags := 8, nameIndex := 344, descriptorIndex := 339, attributes := #[] }, { accessFlags := 8, nameIndex := 338, descriptorIndex := 339, attributes := #[] }, { accessFlags := 4120, nameIndex := 245, descriptorIndex := 246, attributes := #[] }])
  fields := #[{ name := "E", type := .double, accessFlags := 25, slot := 0, constantValue := 0 }, { name := "PI", type := .double, accessFlags := 25, slot := 1, constantValue := 0 }, { name := "TAU", type := .double, accessFlags := 25, slot := 2, constantValue := 0 }, { name := "DEGREES_TO_RADIANS", type := .double, accessFlags := 26, slot := 3, constantValue := 0 }, { name := "RADIANS_TO_DEGREES", type := .double, accessFlags := 26, slot := 4, constantValue := 0 }, { name := "negativeZeroFloatBits", type := .long, accessFlags := 26, slot := 5, constantValue := 0 }, { name := "negativeZeroDoubleBits", type := .long, accessFlags := 26, slot := 6, constantValue := 0 }, { name := "twoToTheDoubleScaleUp", type := .double, accessFlags := 8, slot := 7, constantValue := 0 }, { name := "twoToTheDoubleScaleDown", type := .double, accessFlags := 8, slot := 8, constantValue := 0 }, { name := "$assertionsDisabled", type := .boolean, accessFlags := 4120, slot := 9, constantValue := 0 }]
  methods := #[k30m0, k30m1, k30m2]
  instanceTypes := #[]
  staticTypes := #[.double, .double, .double, .double, .double, .long, .long, .double, .double, .boolean]
  resolved := Array.replicate 460 none
  statics := none }

def pool31 : Array CpInfo := pool [(2, .class_ 4), (1, u "java/lang/Object"), (0, u "<init>"), (0, u "()V"), (7, .class_ 16), (1, u "java/util/Arrays"), (57, .class_ 76), (1, u "java/util/Arrays$NaturalOrder"), (9, .methodref 2 87), (0, .nameAndType 88 89), (0, u "getClass"), (0, u "()Ljava/lang/Class;"), (20, .class_ 111), (0, u "[Ljava/lang/Object;"), (1, .class_ 115), (1, u "java/util/Arrays$LegacyMergeSort"), (1, u "Z"), (32, .methodref 151 152), (0, .class_ 153), (0, .nameAndType 154 155), (0, u "java/lang/System"), (0, u "arraycopy"), (0, u "(Ljava/lang/Object;ILjava/lang/Object;II)V"), (144, .methodref 14 301), (0, .nameAndType 302 303), (0, u "copyOf"), (0, u "([Ljava/lang/Object;ILjava/lang/Class;)[Ljava/lang/Object;"), (0, .methodref 305 306), (0, .class_ 307), (0, .nameAndType 308 309), (0, u "java/lang/Math"), (0, u "min"), (0, u "(II)I"), (65, .class_ 376), (0, u "java/util/Arrays$ArrayList"), (68, u "$assertionsDisabled"), (269, u "MIN_ARRAY_SORT_GRAN"), (0, u "I"), (2, u "INSERTIONSORT_THRESHOLD"), (140, u "([Ljava/lang/Object;I)[Ljava/lang/Object;"), (114, .class_ 976), (0, u "java/util/Arrays$ArrayItr")] 52

def k31m0 : Method := { name := "<init>", desc := "()V", sig := { parameters := [], returnType := none }, accessFlags := 2, code := none }
def k31c1 : Code := { maxStack := 3, maxLocals := 2, code := jdk_65_method_119_code, exceptionTable := #[], attributes := #[] }
def k31m1 : Method := { name := "copyOf", desc := "([Ljava/lang/Object;I)[Ljava/lang/Object;", sig := { parameters := [(.array (.object "java/lang/Object")), .int], returnType := some (.array (.object "java/lang/Object")) }, accessFlags := 9, code := some k31c1 }
def k31c2 : Code := { maxStack := 6, maxLocals := 4, code := jdk_65_method_120_code, exceptionTable := #[], attributes := #[] }
def k31m2 : Method := { name := "copyOf", desc := "([Ljava/lang/Object;ILjava/lang/Class;)[Ljava/lang/Object;", sig := { parameters := [(.array (.object "java/lang/Object")), .int, (.object "java/lang/Class")], returnType := some (.array (.object "java/lang/Object")) }, accessFlags := 9, code := some k31c2 }
/-- java/util/Arrays -/
def k31 : Class := { plain "java/util/Arrays" (some 0) with
  accessFlags := 49
  interfaces := #[]
  cf := some (fileOf pool31 14 #[.nestMembers #[975, 375, 113, 74]] #[{ accessFlags := 2, nameIndex := 5, descriptorIndex := 6, attributes := #[] }, { accessFlags := 9, nameIndex := 302, descriptorIndex := 860, attributes := #[] }, { accessFlags := 9, nameIndex := 302, descriptorIndex := 303, attributes := #[] }] 49 2 #[] #[{ accessFlags := 26, nameIndex := 715, descriptorIndex := 716, attributes := #[] }, { accessFlags := 26, nameIndex := 719, descriptorIndex := 716, attributes := #[] }, { accessFlags := 4120, nameIndex := 445, descriptorIndex := 117, attributes := #[] }])
  fields := #[{ name := "MIN_ARRAY_SORT_GRAN", type := .int, accessFlags := 26, slot := 0, constantValue := 0 }, { name := "INSERTIONSORT_THRESHOLD", type := .int, accessFlags := 26, slot := 1, constantValue := 0 }, { name := "$assertionsDisabled", type := .boolean, accessFlags := 4120, slot := 2, constantValue := 0 }]
  methods := #[k31m0, k31m1, k31m2]
  instanceTypes := #[]
  staticTypes := #[.int, .int, .boolean]
  resolved := Array.replicate 1029 none
  statics := none }

def pool32 : Array CpInfo := pool [(2, .class_ 4), (1, u "java/lang/Object"), (0, u "<init>"), (0, u "()V"), (1, .class_ 10), (1, u "java/lang/System"), (0, u "allowSecurityManager"), (0, u "I"), (16, u "cons"), (0, u "Ljava/io/Console;"), (77, .class_ 110), (1, u "java/lang/System$CallersHolder"), (43, u "initialErrStream"), (0, u "Ljava/io/PrintStream;"), (19, u "security"), (0, u "Ljava/lang/SecurityManager;"), (31, .class_ 209), (0, u "java/lang/System$1"), (7, u "props"), (0, u "Ljava/util/Properties;"), (2, u "lineSeparator"), (0, u "Ljava/lang/String;"), (96, .class_ 321), (1, u "java/lang/System$LoggerFinder"), (5, .class_ 328), (0, u "java/lang/System$Logger"), (67, u "err"), (2, u "out"), (91, u "notSupportedJnuEncoding"), (15, u "in"), (17, u "initialIn"), (0, u "Ljava/io/InputStream;"), (35, u "bootLayer"), (0, u "Ljava/lang/ModuleLayer;"), (99, .class_ 664), (0, u "java/lang/System$2"), (9, u "NEVER"), (2, u "MAYBE"), (49, u "arraycopy"), (0, u "(Ljava/lang/Object;ILjava/lang/Object;II)V"), (72, .class_ 802), (0, u "java/lang/System$Logger$Level")] 31

def k32m0 : Method := { name := "<init>", desc := "()V", sig := { parameters := [], returnType := none }, accessFlags := 2, code := none }
def k32m1 : Method := { name := "arraycopy", desc := "(Ljava/lang/Object;ILjava/lang/Object;II)V", sig := { parameters := [(.object "java/lang/Object"), .int, (.object "java/lang/Object"), .int, .int], returnType := none }, accessFlags := 265, code := none }
/-- java/lang/System -/
def k32 : Class := { plain "java/lang/System" (some 0) with
  accessFlags := 49
  interfaces := #[]
  cf := some (fileOf pool32 8 #[.nestMembers #[319, 327, 801, 108, 663, 208]] #[{ accessFlags := 2, nameIndex := 5, descriptorIndex := 6, attributes := #[] }, { accessFlags := 265, nameIndex := 727, descriptorIndex := 728, attributes := #[] }] 49 2 #[] #[{ accessFlags := 25, nameIndex := 507, descriptorIndex := 526, attributes := #[] }, { accessFlags := 25, nameIndex := 399, descriptorIndex := 155, attributes := #[] }, { accessFlags := 25, nameIndex := 396, descriptorIndex := 155, attributes := #[] }, { accessFlags := 10, nameIndex := 525, descriptorIndex := 526, attributes := #[] }, { accessFlags := 26, nameIndex := 674, descriptorIndex := 12, attributes := #[] }, { accessFlags := 26, nameIndex := 677, descriptorIndex := 12, attributes := #[] }, { accessFlags := 10, nameIndex := 11, descriptorIndex := 12, attributes := #[] }, { accessFlags := 74, nameIndex := 175, descriptorIndex := 176, attributes := #[] }, { accessFlags := 10, nameIndex := 491, descriptorIndex := 222, attributes := #[] }, { accessFlags := 74, nameIndex := 29, descriptorIndex := 30, attributes := #[] }, { accessFlags := 74, nameIndex := 154, descriptorIndex := 155, attributes := #[] }, { accessFlags := 10, nameIndex := 217, descriptorIndex := 218, attributes := #[] }, { accessFlags := 10, nameIndex := 221, descriptorIndex := 222, attributes := #[] }, { accessFlags := 8, nameIndex := 562, descriptorIndex := 563, attributes := #[] }])
  fields := #[{ name := "in", type := (.object "java/io/InputStream"), accessFlags := 25, slot := 0, constantValue := 0 }, { name := "out", type := (.object "java/io/PrintStream"), accessFlags := 25, slot := 1, constantValue := 0 }, { name := "err", type := (.object "java/io/PrintStream"), accessFlags := 25, slot := 2, constantValue := 0 }, { name := "initialIn", type := (.object "java/io/InputStream"), accessFlags := 10, slot := 3, constantValue := 0 }, { name := "NEVER", type := .int, accessFlags := 26, slot := 4, constantValue := 0 }, { name := "MAYBE", type := .int, accessFlags := 26, slot := 5, constantValue := 0 }, { name := "allowSecurityManager", type := .int, accessFlags := 10, slot := 6, constantValue := 0 }, { name := "security", type := (.object "java/lang/SecurityManager"), accessFlags := 74, slot := 7, constantValue := 0 }, { name := "notSupportedJnuEncoding", type := (.object "java/lang/String"), accessFlags := 10, slot := 8, constantValue := 0 }, { name := "cons", type := (.object "java/io/Console"), accessFlags := 74, slot := 9, constantValue := 0 }, { name := "initialErrStream", type := (.object "java/io/PrintStream"), accessFlags := 74, slot := 10, constantValue := 0 }, { name := "props", type := (.object "java/util/Properties"), accessFlags := 10, slot := 11, constantValue := 0 }, { name := "lineSeparator", type := (.object "java/lang/String"), accessFlags := 10, slot := 12, constantValue := 0 }, { name := "bootLayer", type := (.object "java/lang/ModuleLayer"), accessFlags := 8, slot := 13, constantValue := 0 }]
  methods := #[k32m0, k32m1]
  instanceTypes := #[]
  staticTypes := #[(.object "java/io/InputStream"), (.object "java/io/PrintStream"), (.object "java/io/PrintStream"), (.object "java/io/InputStream"), .int, .int, .int, (.object "java/lang/SecurityManager"), (.object "java/lang/String"), (.object "java/io/Console"), (.object "java/io/PrintStream"), (.object "java/util/Properties"), (.object "java/lang/String"), (.object "java/lang/ModuleLayer")]
  resolved := Array.replicate 834 none
  statics := none }

def pool33 : Array CpInfo := pool [(9, u "<init>"), (6, .class_ 18), (1, u "java/lang/Object"), (0, u "()V"), (1, .class_ 23), (1, u "jdk/internal/util/ArraysSupport"), (0, u "LOG2_ARRAY_LONG_INDEX_SCALE"), (0, u "I"), (2, u "U"), (0, u "Ljdk/internal/misc/Unsafe;"), (8, u "BIG_ENDIAN"), (0, u "Z"), (8, u "LOG2_BYTE_BIT_SIZE"), (4, u "LOG2_ARRAY_INT_INDEX_SCALE"), (54, u "JLA"), (0, u "Ljdk/internal/access/JavaLangAccess;"), (11, u "LOG2_ARRAY_BOOLEAN_INDEX_SCALE"), (9, u "LOG2_ARRAY_BYTE_INDEX_SCALE"), (5, u "LOG2_ARRAY_CHAR_INDEX_SCALE"), (5, u "LOG2_ARRAY_SHORT_INDEX_SCALE"), (18, u "LOG2_ARRAY_FLOAT_INDEX_SCALE"), (24, u "LOG2_ARRAY_DOUBLE_INDEX_SCALE"), (89, u "T_BOOLEAN"), (2, u "T_CHAR"), (1, u "T_FLOAT"), (1, u "T_DOUBLE"), (1, u "T_BYTE"), (1, u "T_SHORT"), (1, u "T_INT"), (1, u "T_LONG"), (1, u "SOFT_MAX_ARRAY_LENGTH")] 83

def k33m0 : Method := { name := "<init>", desc := "()V", sig := { parameters := [], returnType := none }, accessFlags := 2, code := none }
/-- jdk/internal/util/ArraysSupport -/
def k33 : Class := { plain "jdk/internal/util/ArraysSupport" (some 0) with
  accessFlags := 33
  interfaces := #[]
  cf := some (fileOf pool33 21 #[] #[{ accessFlags := 2, nameIndex := 9, descriptorIndex := 19, attributes := #[] }] 33 16 #[] #[{ accessFlags := 24, nameIndex := 28, descriptorIndex := 29, attributes := #[] }, { accessFlags := 26, nameIndex := 38, descriptorIndex := 39, attributes := #[] }, { accessFlags := 25, nameIndex := 121, descriptorIndex := 25, attributes := #[] }, { accessFlags := 25, nameIndex := 131, descriptorIndex := 25, attributes := #[] }, { accessFlags := 25, nameIndex := 137, descriptorIndex := 25, attributes := #[] }, { accessFlags := 25, nameIndex := 143, descriptorIndex := 25, attributes := #[] }, { accessFlags := 25, nameIndex := 53, descriptorIndex := 25, attributes := #[] }, { accessFlags := 25, nameIndex := 24, descriptorIndex := 25, attributes := #[] }, { accessFlags := 25, nameIndex := 162, descriptorIndex := 25, attributes := #[] }, { accessFlags := 25, nameIndex := 187, descriptorIndex := 25, attributes := #[] }, { accessFlags := 26, nameIndex := 48, descriptorIndex := 25, attributes := #[] }, { accessFlags := 25, nameIndex := 277, descriptorIndex := 25, attributes := #[] }, { accessFlags := 25, nameIndex := 280, descriptorIndex := 25, attributes := #[] }, { accessFlags := 25, nameIndex := 282, descriptorIndex := 25, attributes := #[] }, { accessFlags := 25, nameIndex := 284, descriptorIndex := 25, attributes := #[] }, { accessFlags := 25, nameIndex := 286, descriptorIndex := 25, attributes := #[] }, { accessFlags := 25, nameIndex := 288, descriptorIndex := 25, attributes := #[] }, { accessFlags := 25, nameIndex := 290, descriptorIndex := 25, attributes := #[] }, { accessFlags := 25, nameIndex := 292, descriptorIndex := 25, attributes := #[] }, { accessFlags := 26, nameIndex := 108, descriptorIndex := 109, attributes := #[] }, { accessFlags := 25, nameIndex := 294, descriptorIndex := 25, attributes := #[] }])
  fields := #[{ name := "U", type := (.object "jdk/internal/misc/Unsafe"), accessFlags := 24, slot := 0, constantValue := 0 }, { name := "BIG_ENDIAN", type := .boolean, accessFlags := 26, slot := 1, constantValue := 0 }, { name := "LOG2_ARRAY_BOOLEAN_INDEX_SCALE", type := .int, accessFlags := 25, slot := 2, constantValue := 0 }, { name := "LOG2_ARRAY_BYTE_INDEX_SCALE", type := .int, accessFlags := 25, slot := 3, constantValue := 0 }, { name := "LOG2_ARRAY_CHAR_INDEX_SCALE", type := .int, accessFlags := 25, slot := 4, constantValue := 0 }, { name := "LOG2_ARRAY_SHORT_INDEX_SCALE", type := .int, accessFlags := 25, slot := 5, constantValue := 0 }, { name := "LOG2_ARRAY_INT_INDEX_SCALE", type := .int, accessFlags := 25, slot := 6, constantValue := 0 }, { name := "LOG2_ARRAY_LONG_INDEX_SCALE", type := .int, accessFlags := 25, slot := 7, constantValue := 0 }, { name := "LOG2_ARRAY_FLOAT_INDEX_SCALE", type := .int, accessFlags := 25, slot := 8, constantValue := 0 }, { name := "LOG2_ARRAY_DOUBLE_INDEX_SCALE", type := .int, accessFlags := 25, slot := 9, constantValue := 0 }, { name := "LOG2_BYTE_BIT_SIZE", type := .int, accessFlags := 26, slot := 10, constantValue := 0 }, { name := "T_BOOLEAN", type := .int, accessFlags := 25, slot := 11, constantValue := 0 }, { name := "T_CHAR", type := .int, accessFlags := 25, slot := 12, constantValue := 0 }, { name := "T_FLOAT", type := .int, accessFlags := 25, slot := 13, constantValue := 0 }, { name := "T_DOUBLE", type := .int, accessFlags := 25, slot := 14, constantValue := 0 }, { name := "T_BYTE", type := .int, accessFlags := 25, slot := 15, constantValue := 0 }, { name := "T_SHORT", type := .int, accessFlags := 25, slot := 16, constantValue := 0 }, { name := "T_INT", type := .int, accessFlags := 25, slot := 17, constantValue := 0 }, { name := "T_LONG", type := .int, accessFlags := 25, slot := 18, constantValue := 0 }, { name := "JLA", type := (.object "jdk/internal/access/JavaLangAccess"), accessFlags := 26, slot := 19, constantValue := 0 }, { name := "SOFT_MAX_ARRAY_LENGTH", type := .int, accessFlags := 25, slot := 20, constantValue := 0 }]
  methods := #[k33m0]
  instanceTypes := #[]
  staticTypes := #[(.object "jdk/internal/misc/Unsafe"), .boolean, .int, .int, .int, .int, .int, .int, .int, .int, .int, .int, .int, .int, .int, .int, .int, .int, .int, (.object "jdk/internal/access/JavaLangAccess"), .int]
  resolved := Array.replicate 378 none
  statics := none }

def pool34 : Array CpInfo := pool [(1, .class_ 2), (0, u "java/lang/Class"), (0, .class_ 4), (0, u "java/lang/Object")] 0

/-- java/lang/Class -/
def k34 : Class := { plain "java/lang/Class" (some 0) with
  accessFlags := 49
  interfaces := #[]
  cf := some (fileOf pool34 1 #[] #[] 49 3 #[] #[])
  fields := #[]
  methods := #[]
  instanceTypes := #[]
  staticTypes := #[]
  resolved := Array.replicate 5 none
  statics := none }

/-- the primitive byte -/
def k35 : Class := { plain "byte" none with kind := .primitive 'B', accessFlags := 0x411 }
/-- [B -/
def k36 : Class := { plain "[B" (some 0) with kind := .array 35 .byte, interfaces := #[22, 2], accessFlags := 1041 }

/-- the primitive char -/
def k37 : Class := { plain "char" none with kind := .primitive 'C', accessFlags := 0x411 }
/-- [C -/
def k38 : Class := { plain "[C" (some 0) with kind := .array 37 .char, interfaces := #[22, 2], accessFlags := 1041 }

/-- the primitive int -/
def k39 : Class := { plain "int" none with kind := .primitive 'I', accessFlags := 0x411 }
/-- [I -/
def k40 : Class := { plain "[I" (some 0) with kind := .array 39 .int, interfaces := #[22, 2], accessFlags := 1041 }

/-- [Ljava/lang/Object; -/
def k41 : Class := { plain "[Ljava/lang/Object;" (some 0) with kind := .array 0 (.object "java/lang/Object"), interfaces := #[22, 2], accessFlags := 1041, mirror := some 4 }

def heap : Heap := #[{ cls := 7, slots := #[.long 0, .int 1, .null, .int 0, .null, .int 0, .int 0], vm := .statics 7 },
  { cls := 11, slots := #[.null, .null, .null], vm := .statics 11 },
  { cls := 23, slots := #[.long 0, .int 0, .ref 5, .ref 6], vm := .statics 23 },
  { cls := 24, slots := #[.long 0, .int 0, .null, .ref 8, .ref 7, .null, .null, .null, .int 0, .int 1], vm := .statics 24 },
  { cls := 34, slots := #[], vm := .mirror 41 },
  { cls := 41, slots := #[], vm := .none },
  { cls := 41, slots := #[], vm := .none },
  { cls := 28, slots := #[.ref 5, .int 0], vm := .none },
  { cls := 0, slots := #[], vm := .none }]
def classes : Array Class := #[k0, k1, k2, k3, k4, k5, k6, k7, k8, k9, k10, k11, k12, k13, k14, k15, k16, k17, k18, k19, k20, k21, k22, k23, k24, k25, k26, k27, k28, k29, k30, k31, k32, k33, k34, k35, k36, k37, k38, k39, k40, k41]
def interned : List (Array UInt16 × Addr) := []
def slotsUsed : Nat := 26
def theMethod : MethodId := ⟨1, 1⟩
def args0 : Array Value := #[.int 5, .int 5, .int 5]
def aboutOver (below : List Frame) : State where
  vm := { classes := classes, interned := interned.toArray }
  heap := heap
  slotsUsed := slotsUsed
  threads := #[{ frames := .invoking theMethod args0 :: below }]
def below0 : List Frame := [.native { method := ⟨0, 0⟩, args := #[] }]
def about1 : State := aboutOver below0
def p0 : Program := .bare "" "" ""
def e0 : Env := launch0.env 0 0 0
theorem w_frames : about1.frames = Frame.invoking theMethod args0 :: below0 := rfl
set_option maxRecDepth 65536 in
theorem w_args : argsFit about1.vm theMethod args0 = true := by decide +kernel
set_option maxRecDepth 65536 in
theorem w_heap : heapFits about1 = true := by decide +kernel
set_option maxRecDepth 65536 in
theorem w_runnable : about1.curStatus? = some .runnable := by decide +kernel
set_option maxRecDepth 65536 in
theorem w_alone : about1.alone = true := by decide +kernel
set_option maxRecDepth 65536 in
theorem w_named : about1.methodNamed? x = some theMethod := by decide +kernel
set_option maxRecDepth 65536 in
theorem w_hears : about1.hears theMethod below0 = true := by decide +kernel
set_option maxRecDepth 65536 in
theorem w_ripe : about1.ripe theMethod args0 below0 = true := by decide +kernel
theorem w_running : about1.status = .running := rfl
set_option maxRecDepth 65536 in
theorem w_room : about1.hasRoom e0.platform room_1 = true :=
  launch0.hasRoom_least _ room_1 (by decide +kernel) (by decide +kernel) (by decide +kernel) (by decide +kernel) (by decide +kernel) (by decide +kernel)
theorem allAtoms_all (ts : List Jvm.Cond) (a : Array Jvm.Value) (st : Jvm.State) : (allAtoms ts).before a st = ts.all (fun c => c.before a st) := by
  induction ts with
  | nil => rfl
  | cons c t ih =>
    show (Jvm.Cond.and c (allAtoms t)).before a st = _
    rw [Jvm.Cond.before_and, ih, List.all_cons]
def words1 : List Jvm.Cond := Jvm.Cond.code x code maxLocals ret :: tables_1
/-- a 'code' word, met by the world's own term for the bytes: nothing is compared byte by byte -/
theorem code_word {y : MethodName} {bytes : ByteArray} {mx : Nat} {rt : Option FieldType} {a : Array Value} {s : State} {m : MethodId} {meth : Method} {c : Code} (h1 : s.methodNamed? y = some m) (h2 : s.vm.method? m = some meth) (h3 : meth.code = some c) (h4 : c.code = bytes)
    (h5 : (c.maxLocals == mx && c.exceptionTable.isEmpty && decide (c.maxStack ≤ mostOperands) && decide (meth.sig.returnType = rt) && !meth.locks && decide (parseMethodDescriptor y.desc = some meth.sig)) = true) : (Jvm.Cond.code y bytes mx rt).before a s = true := by
  simp only [Bool.and_eq_true, beq_iff_eq, Bool.not_eq_true', decide_eq_true_eq] at h5
  obtain ⟨⟨⟨⟨⟨g1, g2⟩, g3⟩, g4⟩, g5⟩, g6⟩ := h5
  simp [Cond.before, Cond.holds, Cond.value, h1, h2, h3, h4, g1, g2, g3, g4, g5, g6]
def isCode : Jvm.Cond → Bool
  | .code _ _ _ _ => true
  | _ => false
theorem all_split {L : List Jvm.Cond} {P : Jvm.Cond → Bool} (h1 : L.all (fun c => isCode c || P c) = true) (h2 : ∀ c ∈ L.filter isCode, P c = true) : L.all P = true := by
  refine List.all_eq_true.mpr fun c hc => ?_
  have h := List.all_eq_true.mp h1 c hc
  rcases Bool.eq_false_or_eq_true (isCode c) with hi | hi
  · exact h2 c (List.mem_filter.mpr ⟨hc, hi⟩)
  · simpa [hi] using h
set_option maxRecDepth 65536 in
theorem w_c0 : (Jvm.Cond.code x code maxLocals ret).before args0 about1 = true := code_word (m := ⟨1, 1⟩) (meth := k1m1) (c := k1c1) (by decide +kernel) rfl rfl rfl (by decide +kernel)
set_option maxRecDepth 65536 in
theorem w_c1 : (Jvm.Cond.code ({ cls := "com/example/grant3/grant3/Scope", name := "parse", desc := "(Ljava/lang/String;)Lcom/example/grant3/grant3/Scope;" } : Jvm.MethodName) prog_26_method_2_code (6 : Nat) (Option.some (Jvm.ClassFile.FieldType.object "com/example/grant3/grant3/Scope"))).before args0 about1 = true := code_word (m := ⟨8, 1⟩) (meth := k8m1) (c := k8c1) (by decide +kernel) rfl rfl rfl (by decide +kernel)
set_option maxRecDepth 65536 in
theorem w_c2 : (Jvm.Cond.code ({ cls := "java/util/Objects", name := "requireNonNull", desc := "(Ljava/lang/Object;Ljava/lang/String;)Ljava/lang/Object;" } : Jvm.MethodName) jdk_31_method_11_code (2 : Nat) (Option.some (Jvm.ClassFile.FieldType.object "java/lang/Object"))).before args0 about1 = true := code_word (m := ⟨9, 2⟩) (meth := k9m2) (c := k9c2) (by decide +kernel) rfl rfl rfl (by decide +kernel)
set_option maxRecDepth 65536 in
theorem w_c3 : (Jvm.Cond.code ({ cls := "java/lang/String", name := "length", desc := "()I" } : Jvm.MethodName) jdk_42_method_54_code (1 : Nat) (Option.some Jvm.ClassFile.FieldType.int)).before args0 about1 = true := code_word (m := ⟨7, 2⟩) (meth := k7m2) (c := k7c2) (by decide +kernel) rfl rfl rfl (by decide +kernel)
set_option maxRecDepth 65536 in
theorem w_c4 : (Jvm.Cond.code ({ cls := "java/lang/String", name := "coder", desc := "()B" } : Jvm.MethodName) jdk_42_method_152_code (1 : Nat) (Option.some Jvm.ClassFile.FieldType.byte)).before args0 about1 = true := code_word (m := ⟨7, 6⟩) (meth := k7m6) (c := k7c6) (by decide +kernel) rfl rfl rfl (by decide +kernel)
set_option maxRecDepth 65536 in
theorem w_c5 : (Jvm.Cond.code ({ cls := "java/lang/String", name := "charAt", desc := "(I)C" } : Jvm.MethodName) jdk_42_method_56_code (2 : Nat) (Option.some Jvm.ClassFile.FieldType.char)).before args0 about1 = true := code_word (m := ⟨7, 3⟩) (meth := k7m3) (c := k7c3) (by decide +kernel) rfl rfl rfl (by decide +kernel)
set_option maxRecDepth 65536 in
theorem w_c6 : (Jvm.Cond.code ({ cls := "java/lang/String", name := "isLatin1", desc := "()Z" } : Jvm.MethodName) jdk_42_method_154_code (1 : Nat) (Option.some Jvm.ClassFile.FieldType.boolean)).before args0 about1 = true := code_word (m := ⟨7, 7⟩) (meth := k7m7) (c := k7c7) (by decide +kernel) rfl rfl rfl (by decide +kernel)
set_option maxRecDepth 65536 in
theorem w_c7 : (Jvm.Cond.code ({ cls := "java/lang/StringLatin1", name := "charAt", desc := "([BI)C" } : Jvm.MethodName) jdk_43_method_2_code (2 : Nat) (Option.some Jvm.ClassFile.FieldType.char)).before args0 about1 = true := code_word (m := ⟨10, 1⟩) (meth := k10m1) (c := k10c1) (by decide +kernel) rfl rfl rfl (by decide +kernel)
set_option maxRecDepth 65536 in
theorem w_c8 : (Jvm.Cond.code ({ cls := "java/lang/String", name := "checkIndex", desc := "(II)V" } : Jvm.MethodName) jdk_42_method_155_code (2 : Nat) (Option.none : Option Jvm.ClassFile.FieldType)).before args0 about1 = true := code_word (m := ⟨7, 8⟩) (meth := k7m8) (c := k7c8) (by decide +kernel) rfl rfl rfl (by decide +kernel)
set_option maxRecDepth 65536 in
theorem w_c9 : (Jvm.Cond.code ({ cls := "jdk/internal/util/Preconditions", name := "checkIndex", desc := "(IILjava/util/function/BiFunction;)I" } : Jvm.MethodName) jdk_41_method_11_code (3 : Nat) (Option.some Jvm.ClassFile.FieldType.int)).before args0 about1 = true := code_word (m := ⟨11, 1⟩) (meth := k11m1) (c := k11c1) (by decide +kernel) rfl rfl rfl (by decide +kernel)
set_option maxRecDepth 65536 in
theorem w_c10 : (Jvm.Cond.code ({ cls := "com/example/grant3/grant3/Scope", name := "isLabelCharacter", desc := "(C)Z" } : Jvm.MethodName) prog_26_method_3_code (1 : Nat) (Option.some Jvm.ClassFile.FieldType.boolean)).before args0 about1 = true := code_word (m := ⟨8, 2⟩) (meth := k8m2) (c := k8c2) (by decide +kernel) rfl rfl rfl (by decide +kernel)
set_option maxRecDepth 65536 in
theorem w_c11 : (Jvm.Cond.code ({ cls := "java/lang/String", name := "substring", desc := "(II)Ljava/lang/String;" } : Jvm.MethodName) jdk_42_method_92_code (5 : Nat) (Option.some (Jvm.ClassFile.FieldType.object "java/lang/String"))).before args0 about1 = true := code_word (m := ⟨7, 4⟩) (meth := k7m4) (c := k7c4) (by decide +kernel) rfl rfl rfl (by decide +kernel)
set_option maxRecDepth 65536 in
theorem w_c12 : (Jvm.Cond.code ({ cls := "java/lang/String", name := "checkBoundsBeginEnd", desc := "(III)V" } : Jvm.MethodName) jdk_42_method_158_code (3 : Nat) (Option.none : Option Jvm.ClassFile.FieldType)).before args0 about1 = true := code_word (m := ⟨7, 9⟩) (meth := k7m9) (c := k7c9) (by decide +kernel) rfl rfl rfl (by decide +kernel)
set_option maxRecDepth 65536 in
theorem w_c13 : (Jvm.Cond.code ({ cls := "jdk/internal/util/Preconditions", name := "checkFromToIndex", desc := "(IIILjava/util/function/BiFunction;)I" } : Jvm.MethodName) jdk_41_method_12_code (4 : Nat) (Option.some Jvm.ClassFile.FieldType.int)).before args0 about1 = true := code_word (m := ⟨11, 2⟩) (meth := k11m2) (c := k11c2) (by decide +kernel) rfl rfl rfl (by decide +kernel)
set_option maxRecDepth 65536 in
theorem w_c14 : (Jvm.Cond.code ({ cls := "com/example/grant3/grant3/Scope", name := "<init>", desc := "(Ljava/lang/String;Ljava/lang/String;I)V" } : Jvm.MethodName) prog_26_method_1_code (4 : Nat) (Option.none : Option Jvm.ClassFile.FieldType)).before args0 about1 = true := code_word (m := ⟨8, 0⟩) (meth := k8m0) (c := k8c0) (by decide +kernel) rfl rfl rfl (by decide +kernel)
set_option maxRecDepth 65536 in
theorem w_c15 : (Jvm.Cond.code ({ cls := "java/lang/Object", name := "<init>", desc := "()V" } : Jvm.MethodName) object_method_1_code (1 : Nat) (Option.none : Option Jvm.ClassFile.FieldType)).before args0 about1 = true := code_word (m := ⟨0, 0⟩) (meth := k0m0) (c := k0c0) (by decide +kernel) rfl rfl rfl (by decide +kernel)
set_option maxRecDepth 65536 in
theorem w_c16 : (Jvm.Cond.code ({ cls := "java/lang/String", name := "<init>", desc := "([C)V" } : Jvm.MethodName) jdk_42_method_3_code (2 : Nat) (Option.none : Option Jvm.ClassFile.FieldType)).before args0 about1 = true := code_word (m := ⟨7, 1⟩) (meth := k7m1) (c := k7c1) (by decide +kernel) rfl rfl rfl (by decide +kernel)
set_option maxRecDepth 65536 in
theorem w_c17 : (Jvm.Cond.code ({ cls := "java/lang/String", name := "<init>", desc := "([CIILjava/lang/Void;)V" } : Jvm.MethodName) jdk_42_method_149_code (6 : Nat) (Option.none : Option Jvm.ClassFile.FieldType)).before args0 about1 = true := code_word (m := ⟨7, 5⟩) (meth := k7m5) (c := k7c5) (by decide +kernel) rfl rfl rfl (by decide +kernel)
set_option maxRecDepth 65536 in
theorem w_c18 : (Jvm.Cond.code ({ cls := "java/lang/StringUTF16", name := "compress", desc := "([CII)[B" } : Jvm.MethodName) jdk_52_method_16_code (6 : Nat) (Option.some (Jvm.ClassFile.FieldType.array Jvm.ClassFile.FieldType.byte))).before args0 about1 = true := code_word (m := ⟨12, 2⟩) (meth := k12m2) (c := k12c2) (by decide +kernel) rfl rfl rfl (by decide +kernel)
set_option maxRecDepth 65536 in
theorem w_c19 : (Jvm.Cond.code ({ cls := "java/lang/StringUTF16", name := "compress", desc := "([CI[BII)I" } : Jvm.MethodName) jdk_52_method_21_code (7 : Nat) (Option.some Jvm.ClassFile.FieldType.int)).before args0 about1 = true := code_word (m := ⟨12, 3⟩) (meth := k12m3) (c := k12c3) (by decide +kernel) rfl rfl rfl (by decide +kernel)
set_option maxRecDepth 65536 in
theorem w_c20 : (Jvm.Cond.code ({ cls := "java/lang/StringUTF16", name := "coderFromArrayLen", desc := "([BI)B" } : Jvm.MethodName) jdk_52_method_15_code (2 : Nat) (Option.some Jvm.ClassFile.FieldType.byte)).before args0 about1 = true := code_word (m := ⟨12, 1⟩) (meth := k12m1) (c := k12c1) (by decide +kernel) rfl rfl rfl (by decide +kernel)
set_option maxRecDepth 65536 in
theorem w_c21 : (Jvm.Cond.code ({ cls := "java/util/ArrayList", name := "<init>", desc := "()V" } : Jvm.MethodName) jdk_38_method_2_code (1 : Nat) (Option.none : Option Jvm.ClassFile.FieldType)).before args0 about1 = true := code_word (m := ⟨23, 0⟩) (meth := k23m0) (c := k23c0) (by decide +kernel) rfl rfl rfl (by decide +kernel)
set_option maxRecDepth 65536 in
theorem w_c22 : (Jvm.Cond.code ({ cls := "java/util/AbstractList", name := "<init>", desc := "()V" } : Jvm.MethodName) jdk_39_method_1_code (1 : Nat) (Option.none : Option Jvm.ClassFile.FieldType)).before args0 about1 = true := code_word (m := ⟨20, 0⟩) (meth := k20m0) (c := k20c0) (by decide +kernel) rfl rfl rfl (by decide +kernel)
set_option maxRecDepth 65536 in
theorem w_c23 : (Jvm.Cond.code ({ cls := "java/util/AbstractCollection", name := "<init>", desc := "()V" } : Jvm.MethodName) jdk_22_method_1_code (1 : Nat) (Option.none : Option Jvm.ClassFile.FieldType)).before args0 about1 = true := code_word (m := ⟨17, 0⟩) (meth := k17m0) (c := k17c0) (by decide +kernel) rfl rfl rfl (by decide +kernel)
set_option maxRecDepth 65536 in
theorem w_c24 : (Jvm.Cond.code ({ cls := "com/example/grant3/grant3/Explanation$Reason", name := "<init>", desc := "(Ljava/lang/String;Lcom/example/grant3/grant3/Scope;Ljava/util/List;)V" } : Jvm.MethodName) prog_4_method_1_code (4 : Nat) (Option.none : Option Jvm.ClassFile.FieldType)).before args0 about1 = true := code_word (m := ⟨14, 0⟩) (meth := k14m0) (c := k14c0) (by decide +kernel) rfl rfl rfl (by decide +kernel)
set_option maxRecDepth 65536 in
theorem w_c25 : (Jvm.Cond.code ({ cls := "java/lang/Record", name := "<init>", desc := "()V" } : Jvm.MethodName) jdk_30_method_1_code (1 : Nat) (Option.none : Option Jvm.ClassFile.FieldType)).before args0 about1 = true := code_word (m := ⟨13, 0⟩) (meth := k13m0) (c := k13c0) (by decide +kernel) rfl rfl rfl (by decide +kernel)
set_option maxRecDepth 65536 in
theorem w_c26 : (Jvm.Cond.code ({ cls := "java/util/List", name := "copyOf", desc := "(Ljava/util/Collection;)Ljava/util/List;" } : Jvm.MethodName) jdk_40_method_48_code (1 : Nat) (Option.some (Jvm.ClassFile.FieldType.object "java/util/List"))).before args0 about1 = true := code_word (m := ⟨19, 3⟩) (meth := k19m3) (c := k19c3) (by decide +kernel) rfl rfl rfl (by decide +kernel)
set_option maxRecDepth 65536 in
theorem w_c27 : (Jvm.Cond.code ({ cls := "java/util/ImmutableCollections", name := "listCopy", desc := "(Ljava/util/Collection;)Ljava/util/List;" } : Jvm.MethodName) jdk_56_method_3_code (2 : Nat) (Option.some (Jvm.ClassFile.FieldType.object "java/util/List"))).before args0 about1 = true := code_word (m := ⟨24, 1⟩) (meth := k24m1) (c := k24c1) (by decide +kernel) rfl rfl rfl (by decide +kernel)
set_option maxRecDepth 65536 in
theorem w_c28 : (Jvm.Cond.code ({ cls := "java/util/ArrayList", name := "isEmpty", desc := "()Z" } : Jvm.MethodName) jdk_38_method_9_code (1 : Nat) (Option.some Jvm.ClassFile.FieldType.boolean)).before args0 about1 = true := code_word (m := ⟨23, 3⟩) (meth := k23m3) (c := k23c3) (by decide +kernel) rfl rfl rfl (by decide +kernel)
set_option maxRecDepth 65536 in
theorem w_c29 : (Jvm.Cond.code ({ cls := "java/util/List", name := "of", desc := "()Ljava/util/List;" } : Jvm.MethodName) jdk_40_method_36_code (0 : Nat) (Option.some (Jvm.ClassFile.FieldType.object "java/util/List"))).before args0 about1 = true := code_word (m := ⟨19, 1⟩) (meth := k19m1) (c := k19c1) (by decide +kernel) rfl rfl rfl (by decide +kernel)
set_option maxRecDepth 65536 in
theorem w_c30 : (Jvm.Cond.code ({ cls := "com/example/grant3/grant3/Explanation", name := "<init>", desc := "(ZLjava/util/List;)V" } : Jvm.MethodName) prog_3_method_1_code (3 : Nat) (Option.none : Option Jvm.ClassFile.FieldType)).before args0 about1 = true := code_word (m := ⟨29, 0⟩) (meth := k29m0) (c := k29c0) (by decide +kernel) rfl rfl rfl (by decide +kernel)
set_option maxRecDepth 65536 in
theorem w_c31 : (Jvm.Cond.code ({ cls := "java/util/ArrayList", name := "add", desc := "(Ljava/lang/Object;)Z" } : Jvm.MethodName) jdk_38_method_25_code (2 : Nat) (Option.some Jvm.ClassFile.FieldType.boolean)).before args0 about1 = true := code_word (m := ⟨23, 6⟩) (meth := k23m6) (c := k23c6) (by decide +kernel) rfl rfl rfl (by decide +kernel)
set_option maxRecDepth 65536 in
theorem w_c32 : (Jvm.Cond.code ({ cls := "java/util/ArrayList", name := "add", desc := "(Ljava/lang/Object;[Ljava/lang/Object;I)V" } : Jvm.MethodName) jdk_38_method_24_code (4 : Nat) (Option.none : Option Jvm.ClassFile.FieldType)).before args0 about1 = true := code_word (m := ⟨23, 5⟩) (meth := k23m5) (c := k23c5) (by decide +kernel) rfl rfl rfl (by decide +kernel)
set_option maxRecDepth 65536 in
theorem w_c33 : (Jvm.Cond.code ({ cls := "java/util/ArrayList", name := "grow", desc := "()[Ljava/lang/Object;" } : Jvm.MethodName) jdk_38_method_7_code (1 : Nat) (Option.some (Jvm.ClassFile.FieldType.array (Jvm.ClassFile.FieldType.object "java/lang/Object")))).before args0 about1 = true := code_word (m := ⟨23, 2⟩) (meth := k23m2) (c := k23c2) (by decide +kernel) rfl rfl rfl (by decide +kernel)
set_option maxRecDepth 65536 in
theorem w_c34 : (Jvm.Cond.code ({ cls := "java/util/ArrayList", name := "grow", desc := "(I)[Ljava/lang/Object;" } : Jvm.MethodName) jdk_38_method_6_code (4 : Nat) (Option.some (Jvm.ClassFile.FieldType.array (Jvm.ClassFile.FieldType.object "java/lang/Object")))).before args0 about1 = true := code_word (m := ⟨23, 1⟩) (meth := k23m1) (c := k23c1) (by decide +kernel) rfl rfl rfl (by decide +kernel)
set_option maxRecDepth 65536 in
theorem w_c35 : (Jvm.Cond.code ({ cls := "java/lang/Math", name := "max", desc := "(II)I" } : Jvm.MethodName) jdk_29_method_65_code (2 : Nat) (Option.some Jvm.ClassFile.FieldType.int)).before args0 about1 = true := code_word (m := ⟨30, 1⟩) (meth := k30m1) (c := k30c1) (by decide +kernel) rfl rfl rfl (by decide +kernel)
set_option maxRecDepth 65536 in
theorem w_c36 : (Jvm.Cond.code ({ cls := "com/example/grant3/grant3/Explanation", name := "allowed", desc := "()Z" } : Jvm.MethodName) prog_3_method_2_code (1 : Nat) (Option.some Jvm.ClassFile.FieldType.boolean)).before args0 about1 = true := code_word (m := ⟨29, 1⟩) (meth := k29m1) (c := k29c1) (by decide +kernel) rfl rfl rfl (by decide +kernel)
set_option maxRecDepth 65536 in
theorem w_c37 : (Jvm.Cond.code ({ cls := "java/util/ImmutableCollections$ListN", name := "isEmpty", desc := "()Z" } : Jvm.MethodName) jdk_45_method_2_code (1 : Nat) (Option.some Jvm.ClassFile.FieldType.boolean)).before args0 about1 = true := code_word (m := ⟨28, 0⟩) (meth := k28m0) (c := k28c0) (by decide +kernel) rfl rfl rfl (by decide +kernel)
set_option maxRecDepth 65536 in
theorem w_c38 : (Jvm.Cond.code ({ cls := "java/util/ArrayList", name := "toArray", desc := "()[Ljava/lang/Object;" } : Jvm.MethodName) jdk_38_method_16_code (1 : Nat) (Option.some (Jvm.ClassFile.FieldType.array (Jvm.ClassFile.FieldType.object "java/lang/Object")))).before args0 about1 = true := code_word (m := ⟨23, 4⟩) (meth := k23m4) (c := k23c4) (by decide +kernel) rfl rfl rfl (by decide +kernel)
set_option maxRecDepth 65536 in
theorem w_c39 : (Jvm.Cond.code ({ cls := "java/util/Arrays", name := "copyOf", desc := "([Ljava/lang/Object;I)[Ljava/lang/Object;" } : Jvm.MethodName) jdk_65_method_119_code (2 : Nat) (Option.some (Jvm.ClassFile.FieldType.array (Jvm.ClassFile.FieldType.object "java/lang/Object")))).before args0 about1 = true := code_word (m := ⟨31, 1⟩) (meth := k31m1) (c := k31c1) (by decide +kernel) rfl rfl rfl (by decide +kernel)
set_option maxRecDepth 65536 in
theorem w_c40 : (Jvm.Cond.code ({ cls := "java/util/Arrays", name := "copyOf", desc := "([Ljava/lang/Object;ILjava/lang/Class;)[Ljava/lang/Object;" } : Jvm.MethodName) jdk_65_method_120_code (4 : Nat) (Option.some (Jvm.ClassFile.FieldType.array (Jvm.ClassFile.FieldType.object "java/lang/Object")))).before args0 about1 = true := code_word (m := ⟨31, 2⟩) (meth := k31m2) (c := k31c2) (by decide +kernel) rfl rfl rfl (by decide +kernel)
set_option maxRecDepth 65536 in
theorem w_c41 : (Jvm.Cond.code ({ cls := "java/lang/Math", name := "min", desc := "(II)I" } : Jvm.MethodName) jdk_29_method_69_code (2 : Nat) (Option.some Jvm.ClassFile.FieldType.int)).before args0 about1 = true := code_word (m := ⟨30, 2⟩) (meth := k30m2) (c := k30c2) (by decide +kernel) rfl rfl rfl (by decide +kernel)
set_option maxRecDepth 65536 in
theorem w_c42 : (Jvm.Cond.code ({ cls := "java/util/List", name := "of", desc := "([Ljava/lang/Object;)Ljava/util/List;" } : Jvm.MethodName) jdk_40_method_47_code (2 : Nat) (Option.some (Jvm.ClassFile.FieldType.object "java/util/List"))).before args0 about1 = true := code_word (m := ⟨19, 2⟩) (meth := k19m2) (c := k19c2) (by decide +kernel) rfl rfl rfl (by decide +kernel)
set_option maxRecDepth 65536 in
theorem w_c43 : (Jvm.Cond.code ({ cls := "java/util/ImmutableCollections$List12", name := "<init>", desc := "(Ljava/lang/Object;Ljava/lang/Object;)V" } : Jvm.MethodName) jdk_44_method_2_code (3 : Nat) (Option.none : Option Jvm.ClassFile.FieldType)).before args0 about1 = true := code_word (m := ⟨27, 1⟩) (meth := k27m1) (c := k27c1) (by decide +kernel) rfl rfl rfl (by decide +kernel)
set_option maxRecDepth 65536 in
theorem w_c44 : (Jvm.Cond.code ({ cls := "java/util/ImmutableCollections$AbstractImmutableList", name := "<init>", desc := "()V" } : Jvm.MethodName) jdk_46_method_1_code (1 : Nat) (Option.none : Option Jvm.ClassFile.FieldType)).before args0 about1 = true := code_word (m := ⟨26, 0⟩) (meth := k26m0) (c := k26c0) (by decide +kernel) rfl rfl rfl (by decide +kernel)
set_option maxRecDepth 65536 in
theorem w_c45 : (Jvm.Cond.code ({ cls := "java/util/ImmutableCollections$AbstractImmutableCollection", name := "<init>", desc := "()V" } : Jvm.MethodName) jdk_47_method_1_code (1 : Nat) (Option.none : Option Jvm.ClassFile.FieldType)).before args0 about1 = true := code_word (m := ⟨25, 0⟩) (meth := k25m0) (c := k25c0) (by decide +kernel) rfl rfl rfl (by decide +kernel)
set_option maxRecDepth 65536 in
theorem w_c46 : (Jvm.Cond.code ({ cls := "java/util/Objects", name := "requireNonNull", desc := "(Ljava/lang/Object;)Ljava/lang/Object;" } : Jvm.MethodName) jdk_31_method_10_code (1 : Nat) (Option.some (Jvm.ClassFile.FieldType.object "java/lang/Object"))).before args0 about1 = true := code_word (m := ⟨9, 1⟩) (meth := k9m1) (c := k9c1) (by decide +kernel) rfl rfl rfl (by decide +kernel)
set_option maxRecDepth 65536 in
theorem w_c47 : (Jvm.Cond.code ({ cls := "java/util/ImmutableCollections$List12", name := "isEmpty", desc := "()Z" } : Jvm.MethodName) jdk_44_method_4_code (1 : Nat) (Option.some Jvm.ClassFile.FieldType.boolean)).before args0 about1 = true := code_word (m := ⟨27, 2⟩) (meth := k27m2) (c := k27c2) (by decide +kernel) rfl rfl rfl (by decide +kernel)
set_option maxRecDepth 65536 in
theorem w_c48 : (Jvm.Cond.code ({ cls := "java/util/ImmutableCollections$List12", name := "<init>", desc := "(Ljava/lang/Object;)V" } : Jvm.MethodName) jdk_44_method_1_code (2 : Nat) (Option.none : Option Jvm.ClassFile.FieldType)).before args0 about1 = true := code_word (m := ⟨27, 0⟩) (meth := k27m0) (c := k27c0) (by decide +kernel) rfl rfl rfl (by decide +kernel)
def codes1 : List Jvm.Cond := [Jvm.Cond.code x code maxLocals ret, Jvm.Cond.code ({ cls := "com/example/grant3/grant3/Scope", name := "parse", desc := "(Ljava/lang/String;)Lcom/example/grant3/grant3/Scope;" } : Jvm.MethodName) prog_26_method_2_code (6 : Nat) (Option.some (Jvm.ClassFile.FieldType.object "com/example/grant3/grant3/Scope")), Jvm.Cond.code ({ cls := "java/util/Objects", name := "requireNonNull", desc := "(Ljava/lang/Object;Ljava/lang/String;)Ljava/lang/Object;" } : Jvm.MethodName) jdk_31_method_11_code (2 : Nat) (Option.some (Jvm.ClassFile.FieldType.object "java/lang/Object")), Jvm.Cond.code ({ cls := "java/lang/String", name := "length", desc := "()I" } : Jvm.MethodName) jdk_42_method_54_code (1 : Nat) (Option.some Jvm.ClassFile.FieldType.int), Jvm.Cond.code ({ cls := "java/lang/String", name := "coder", desc := "()B" } : Jvm.MethodName) jdk_42_method_152_code (1 : Nat) (Option.some Jvm.ClassFile.FieldType.byte), Jvm.Cond.code ({ cls := "java/lang/String", name := "charAt", desc := "(I)C" } : Jvm.MethodName) jdk_42_method_56_code (2 : Nat) (Option.some Jvm.ClassFile.FieldType.char), Jvm.Cond.code ({ cls := "java/lang/String", name := "isLatin1", desc := "()Z" } : Jvm.MethodName) jdk_42_method_154_code (1 : Nat) (Option.some Jvm.ClassFile.FieldType.boolean), Jvm.Cond.code ({ cls := "java/lang/StringLatin1", name := "charAt", desc := "([BI)C" } : Jvm.MethodName) jdk_43_method_2_code (2 : Nat) (Option.some Jvm.ClassFile.FieldType.char), Jvm.Cond.code ({ cls := "java/lang/String", name := "checkIndex", desc := "(II)V" } : Jvm.MethodName) jdk_42_method_155_code (2 : Nat) (Option.none : Option Jvm.ClassFile.FieldType), Jvm.Cond.code ({ cls := "jdk/internal/util/Preconditions", name := "checkIndex", desc := "(IILjava/util/function/BiFunction;)I" } : Jvm.MethodName) jdk_41_method_11_code (3 : Nat) (Option.some Jvm.ClassFile.FieldType.int), Jvm.Cond.code ({ cls := "com/example/grant3/grant3/Scope", name := "isLabelCharacter", desc := "(C)Z" } : Jvm.MethodName) prog_26_method_3_code (1 : Nat) (Option.some Jvm.ClassFile.FieldType.boolean), Jvm.Cond.code ({ cls := "java/lang/String", name := "substring", desc := "(II)Ljava/lang/String;" } : Jvm.MethodName) jdk_42_method_92_code (5 : Nat) (Option.some (Jvm.ClassFile.FieldType.object "java/lang/String")), Jvm.Cond.code ({ cls := "java/lang/String", name := "checkBoundsBeginEnd", desc := "(III)V" } : Jvm.MethodName) jdk_42_method_158_code (3 : Nat) (Option.none : Option Jvm.ClassFile.FieldType), Jvm.Cond.code ({ cls := "jdk/internal/util/Preconditions", name := "checkFromToIndex", desc := "(IIILjava/util/function/BiFunction;)I" } : Jvm.MethodName) jdk_41_method_12_code (4 : Nat) (Option.some Jvm.ClassFile.FieldType.int), Jvm.Cond.code ({ cls := "com/example/grant3/grant3/Scope", name := "<init>", desc := "(Ljava/lang/String;Ljava/lang/String;I)V" } : Jvm.MethodName) prog_26_method_1_code (4 : Nat) (Option.none : Option Jvm.ClassFile.FieldType), Jvm.Cond.code ({ cls := "java/lang/Object", name := "<init>", desc := "()V" } : Jvm.MethodName) object_method_1_code (1 : Nat) (Option.none : Option Jvm.ClassFile.FieldType), Jvm.Cond.code ({ cls := "java/lang/String", name := "<init>", desc := "([C)V" } : Jvm.MethodName) jdk_42_method_3_code (2 : Nat) (Option.none : Option Jvm.ClassFile.FieldType), Jvm.Cond.code ({ cls := "java/lang/String", name := "<init>", desc := "([CIILjava/lang/Void;)V" } : Jvm.MethodName) jdk_42_method_149_code (6 : Nat) (Option.none : Option Jvm.ClassFile.FieldType), Jvm.Cond.code ({ cls := "java/lang/StringUTF16", name := "compress", desc := "([CII)[B" } : Jvm.MethodName) jdk_52_method_16_code (6 : Nat) (Option.some (Jvm.ClassFile.FieldType.array Jvm.ClassFile.FieldType.byte)), Jvm.Cond.code ({ cls := "java/lang/StringUTF16", name := "compress", desc := "([CI[BII)I" } : Jvm.MethodName) jdk_52_method_21_code (7 : Nat) (Option.some Jvm.ClassFile.FieldType.int), Jvm.Cond.code ({ cls := "java/lang/StringUTF16", name := "coderFromArrayLen", desc := "([BI)B" } : Jvm.MethodName) jdk_52_method_15_code (2 : Nat) (Option.some Jvm.ClassFile.FieldType.byte), Jvm.Cond.code ({ cls := "java/util/ArrayList", name := "<init>", desc := "()V" } : Jvm.MethodName) jdk_38_method_2_code (1 : Nat) (Option.none : Option Jvm.ClassFile.FieldType), Jvm.Cond.code ({ cls := "java/util/AbstractList", name := "<init>", desc := "()V" } : Jvm.MethodName) jdk_39_method_1_code (1 : Nat) (Option.none : Option Jvm.ClassFile.FieldType), Jvm.Cond.code ({ cls := "java/util/AbstractCollection", name := "<init>", desc := "()V" } : Jvm.MethodName) jdk_22_method_1_code (1 : Nat) (Option.none : Option Jvm.ClassFile.FieldType), Jvm.Cond.code ({ cls := "com/example/grant3/grant3/Explanation$Reason", name := "<init>", desc := "(Ljava/lang/String;Lcom/example/grant3/grant3/Scope;Ljava/util/List;)V" } : Jvm.MethodName) prog_4_method_1_code (4 : Nat) (Option.none : Option Jvm.ClassFile.FieldType), Jvm.Cond.code ({ cls := "java/lang/Record", name := "<init>", desc := "()V" } : Jvm.MethodName) jdk_30_method_1_code (1 : Nat) (Option.none : Option Jvm.ClassFile.FieldType), Jvm.Cond.code ({ cls := "java/util/List", name := "copyOf", desc := "(Ljava/util/Collection;)Ljava/util/List;" } : Jvm.MethodName) jdk_40_method_48_code (1 : Nat) (Option.some (Jvm.ClassFile.FieldType.object "java/util/List")), Jvm.Cond.code ({ cls := "java/util/ImmutableCollections", name := "listCopy", desc := "(Ljava/util/Collection;)Ljava/util/List;" } : Jvm.MethodName) jdk_56_method_3_code (2 : Nat) (Option.some (Jvm.ClassFile.FieldType.object "java/util/List")), Jvm.Cond.code ({ cls := "java/util/ArrayList", name := "isEmpty", desc := "()Z" } : Jvm.MethodName) jdk_38_method_9_code (1 : Nat) (Option.some Jvm.ClassFile.FieldType.boolean), Jvm.Cond.code ({ cls := "java/util/List", name := "of", desc := "()Ljava/util/List;" } : Jvm.MethodName) jdk_40_method_36_code (0 : Nat) (Option.some (Jvm.ClassFile.FieldType.object "java/util/List")), Jvm.Cond.code ({ cls := "com/example/grant3/grant3/Explanation", name := "<init>", desc := "(ZLjava/util/List;)V" } : Jvm.MethodName) prog_3_method_1_code (3 : Nat) (Option.none : Option Jvm.ClassFile.FieldType), Jvm.Cond.code ({ cls := "java/util/ArrayList", name := "add", desc := "(Ljava/lang/Object;)Z" } : Jvm.MethodName) jdk_38_method_25_code (2 : Nat) (Option.some Jvm.ClassFile.FieldType.boolean), Jvm.Cond.code ({ cls := "java/util/ArrayList", name := "add", desc := "(Ljava/lang/Object;[Ljava/lang/Object;I)V" } : Jvm.MethodName) jdk_38_method_24_code (4 : Nat) (Option.none : Option Jvm.ClassFile.FieldType), Jvm.Cond.code ({ cls := "java/util/ArrayList", name := "grow", desc := "()[Ljava/lang/Object;" } : Jvm.MethodName) jdk_38_method_7_code (1 : Nat) (Option.some (Jvm.ClassFile.FieldType.array (Jvm.ClassFile.FieldType.object "java/lang/Object"))), Jvm.Cond.code ({ cls := "java/util/ArrayList", name := "grow", desc := "(I)[Ljava/lang/Object;" } : Jvm.MethodName) jdk_38_method_6_code (4 : Nat) (Option.some (Jvm.ClassFile.FieldType.array (Jvm.ClassFile.FieldType.object "java/lang/Object"))), Jvm.Cond.code ({ cls := "java/lang/Math", name := "max", desc := "(II)I" } : Jvm.MethodName) jdk_29_method_65_code (2 : Nat) (Option.some Jvm.ClassFile.FieldType.int), Jvm.Cond.code ({ cls := "com/example/grant3/grant3/Explanation", name := "allowed", desc := "()Z" } : Jvm.MethodName) prog_3_method_2_code (1 : Nat) (Option.some Jvm.ClassFile.FieldType.boolean), Jvm.Cond.code ({ cls := "java/util/ImmutableCollections$ListN", name := "isEmpty", desc := "()Z" } : Jvm.MethodName) jdk_45_method_2_code (1 : Nat) (Option.some Jvm.ClassFile.FieldType.boolean), Jvm.Cond.code ({ cls := "java/util/ArrayList", name := "toArray", desc := "()[Ljava/lang/Object;" } : Jvm.MethodName) jdk_38_method_16_code (1 : Nat) (Option.some (Jvm.ClassFile.FieldType.array (Jvm.ClassFile.FieldType.object "java/lang/Object"))), Jvm.Cond.code ({ cls := "java/util/Arrays", name := "copyOf", desc := "([Ljava/lang/Object;I)[Ljava/lang/Object;" } : Jvm.MethodName) jdk_65_method_119_code (2 : Nat) (Option.some (Jvm.ClassFile.FieldType.array (Jvm.ClassFile.FieldType.object "java/lang/Object"))), Jvm.Cond.code ({ cls := "java/util/Arrays", name := "copyOf", desc := "([Ljava/lang/Object;ILjava/lang/Class;)[Ljava/lang/Object;" } : Jvm.MethodName) jdk_65_method_120_code (4 : Nat) (Option.some (Jvm.ClassFile.FieldType.array (Jvm.ClassFile.FieldType.object "java/lang/Object"))), Jvm.Cond.code ({ cls := "java/lang/Math", name := "min", desc := "(II)I" } : Jvm.MethodName) jdk_29_method_69_code (2 : Nat) (Option.some Jvm.ClassFile.FieldType.int), Jvm.Cond.code ({ cls := "java/util/List", name := "of", desc := "([Ljava/lang/Object;)Ljava/util/List;" } : Jvm.MethodName) jdk_40_method_47_code (2 : Nat) (Option.some (Jvm.ClassFile.FieldType.object "java/util/List")), Jvm.Cond.code ({ cls := "java/util/ImmutableCollections$List12", name := "<init>", desc := "(Ljava/lang/Object;Ljava/lang/Object;)V" } : Jvm.MethodName) jdk_44_method_2_code (3 : Nat) (Option.none : Option Jvm.ClassFile.FieldType), Jvm.Cond.code ({ cls := "java/util/ImmutableCollections$AbstractImmutableList", name := "<init>", desc := "()V" } : Jvm.MethodName) jdk_46_method_1_code (1 : Nat) (Option.none : Option Jvm.ClassFile.FieldType), Jvm.Cond.code ({ cls := "java/util/ImmutableCollections$AbstractImmutableCollection", name := "<init>", desc := "()V" } : Jvm.MethodName) jdk_47_method_1_code (1 : Nat) (Option.none : Option Jvm.ClassFile.FieldType), Jvm.Cond.code ({ cls := "java/util/Objects", name := "requireNonNull", desc := "(Ljava/lang/Object;)Ljava/lang/Object;" } : Jvm.MethodName) jdk_31_method_10_code (1 : Nat) (Option.some (Jvm.ClassFile.FieldType.object "java/lang/Object")), Jvm.Cond.code ({ cls := "java/util/ImmutableCollections$List12", name := "isEmpty", desc := "()Z" } : Jvm.MethodName) jdk_44_method_4_code (1 : Nat) (Option.some Jvm.ClassFile.FieldType.boolean), Jvm.Cond.code ({ cls := "java/util/ImmutableCollections$List12", name := "<init>", desc := "(Ljava/lang/Object;)V" } : Jvm.MethodName) jdk_44_method_1_code (2 : Nat) (Option.none : Option Jvm.ClassFile.FieldType)]
set_option maxRecDepth 65536 in
theorem codes_eq : words1.filter isCode = codes1 := rfl
theorem w_codes : ∀ c ∈ words1.filter isCode, c.before args0 about1 = true := by
  rw [codes_eq]
  intro c hc
  simp only [codes1, List.mem_cons, List.not_mem_nil, or_false] at hc
  rcases hc with rfl | rfl | rfl | rfl | rfl | rfl | rfl | rfl | rfl | rfl | rfl | rfl | rfl | rfl | rfl | rfl | rfl | rfl | rfl | rfl | rfl | rfl | rfl | rfl | rfl | rfl | rfl | rfl | rfl | rfl | rfl | rfl | rfl | rfl | rfl | rfl | rfl | rfl | rfl | rfl | rfl | rfl | rfl | rfl | rfl | rfl | rfl | rfl | rfl
  · exact w_c0
  · exact w_c1
  · exact w_c2
  · exact w_c3
  · exact w_c4
  · exact w_c5
  · exact w_c6
  · exact w_c7
  · exact w_c8
  · exact w_c9
  · exact w_c10
  · exact w_c11
  · exact w_c12
  · exact w_c13
  · exact w_c14
  · exact w_c15
  · exact w_c16
  · exact w_c17
  · exact w_c18
  · exact w_c19
  · exact w_c20
  · exact w_c21
  · exact w_c22
  · exact w_c23
  · exact w_c24
  · exact w_c25
  · exact w_c26
  · exact w_c27
  · exact w_c28
  · exact w_c29
  · exact w_c30
  · exact w_c31
  · exact w_c32
  · exact w_c33
  · exact w_c34
  · exact w_c35
  · exact w_c36
  · exact w_c37
  · exact w_c38
  · exact w_c39
  · exact w_c40
  · exact w_c41
  · exact w_c42
  · exact w_c43
  · exact w_c44
  · exact w_c45
  · exact w_c46
  · exact w_c47
  · exact w_c48
set_option maxRecDepth 65536 in
theorem w_t1 : (words1.take 24).all (fun c => isCode c || c.before args0 about1) = true := by decide +kernel
set_option maxRecDepth 65536 in
theorem w_t2 : ((words1.drop 24).take 24).all (fun c => isCode c || c.before args0 about1) = true := by decide +kernel
set_option maxRecDepth 65536 in
theorem w_t3 : (((words1.drop 24).drop 24).take 24).all (fun c => isCode c || c.before args0 about1) = true := by decide +kernel
set_option maxRecDepth 65536 in
theorem w_t4 : ((((words1.drop 24).drop 24).drop 24).take 24).all (fun c => isCode c || c.before args0 about1) = true := by decide +kernel
set_option maxRecDepth 65536 in
theorem w_t5 : (((((words1.drop 24).drop 24).drop 24).drop 24).take 24).all (fun c => isCode c || c.before args0 about1) = true := by decide +kernel
set_option maxRecDepth 65536 in
theorem w_t6 : ((((((words1.drop 24).drop 24).drop 24).drop 24).drop 24).take 24).all (fun c => isCode c || c.before args0 about1) = true := by decide +kernel
set_option maxRecDepth 65536 in
theorem w_t7 : (((((((words1.drop 24).drop 24).drop 24).drop 24).drop 24).drop 24).take 24).all (fun c => isCode c || c.before args0 about1) = true := by decide +kernel
set_option maxRecDepth 65536 in
theorem w_t8 : ((((((((words1.drop 24).drop 24).drop 24).drop 24).drop 24).drop 24).drop 24).take 24).all (fun c => isCode c || c.before args0 about1) = true := by decide +kernel
set_option maxRecDepth 65536 in
theorem w_t9 : (((((((((words1.drop 24).drop 24).drop 24).drop 24).drop 24).drop 24).drop 24).drop 24).take 24).all (fun c => isCode c || c.before args0 about1) = true := by decide +kernel
set_option maxRecDepth 65536 in
theorem w_t10 : ((((((((((words1.drop 24).drop 24).drop 24).drop 24).drop 24).drop 24).drop 24).drop 24).drop 24).take 24).all (fun c => isCode c || c.before args0 about1) = true := by decide +kernel
set_option maxRecDepth 65536 in
theorem w_t11 : (((((((((((words1.drop 24).drop 24).drop 24).drop 24).drop 24).drop 24).drop 24).drop 24).drop 24).drop 24).take 24).all (fun c => isCode c || c.before args0 about1) = true := by decide +kernel
set_option maxRecDepth 65536 in
theorem w_t12 : ((((((((((((words1.drop 24).drop 24).drop 24).drop 24).drop 24).drop 24).drop 24).drop 24).drop 24).drop 24).drop 24).take 24).all (fun c => isCode c || c.before args0 about1) = true := by decide +kernel
set_option maxRecDepth 65536 in
theorem w_t13 : ((((((((((((words1.drop 24).drop 24).drop 24).drop 24).drop 24).drop 24).drop 24).drop 24).drop 24).drop 24).drop 24).drop 24).all (fun c => isCode c || c.before args0 about1) = true := by decide +kernel
theorem w_tables : (allAtoms (Jvm.Cond.code x code maxLocals ret :: tables_1)).before args0 about1 = true := by
  rw [allAtoms_all]
  show words1.all (fun c => c.before args0 about1) = true
  refine all_split ?_ w_codes
  rw [← List.take_append_drop 24 words1, List.all_append, w_t1, ← List.take_append_drop 24 (words1.drop 24), List.all_append, w_t2, ← List.take_append_drop 24 ((words1.drop 24).drop 24), List.all_append, w_t3, ← List.take_append_drop 24 (((words1.drop 24).drop 24).drop 24), List.all_append, w_t4, ← List.take_append_drop 24 ((((words1.drop 24).drop 24).drop 24).drop 24), List.all_append, w_t5, ← List.take_append_drop 24 (((((words1.drop 24).drop 24).drop 24).drop 24).drop 24), List.all_append, w_t6, ← List.take_append_drop 24 ((((((words1.drop 24).drop 24).drop 24).drop 24).drop 24).drop 24), List.all_append, w_t7, ← List.take_append_drop 24 (((((((words1.drop 24).drop 24).drop 24).drop 24).drop 24).drop 24).drop 24), List.all_append, w_t8, ← List.take_append_drop 24 ((((((((words1.drop 24).drop 24).drop 24).drop 24).drop 24).drop 24).drop 24).drop 24), List.all_append, w_t9, ← List.take_append_drop 24 (((((((((words1.drop 24).drop 24).drop 24).drop 24).drop 24).drop 24).drop 24).drop 24).drop 24), List.all_append, w_t10, ← List.take_append_drop 24 ((((((((((words1.drop 24).drop 24).drop 24).drop 24).drop 24).drop 24).drop 24).drop 24).drop 24).drop 24), List.all_append, w_t11, ← List.take_append_drop 24 (((((((((((words1.drop 24).drop 24).drop 24).drop 24).drop 24).drop 24).drop 24).drop 24).drop 24).drop 24).drop 24), List.all_append, w_t12, w_t13]
  rfl
set_option maxRecDepth 65536 in
theorem w_rest : rest_1_c.before args0 about1 = true := by decide +kernel
set_option maxRecDepth 65536 in
theorem w_case : (Jvm.Cond.and given_1 narrow_1).before args0 about1 = true := by decide +kernel
set_option maxRecDepth 65536 in
theorem w_consts : constsHeld consts_1 about1 := Jvm.Lit.constsHeldB_iff.mp (by decide +kernel)
theorem w_applies : (headSpec (Jvm.Cond.code x code maxLocals ret :: tables_1) room_1).applies x e0.platform about1 = true :=
  (Spec.applies_iff w_frames).mpr ⟨w_running, w_runnable, w_alone, w_named, w_hears, w_ripe, w_room, w_tables⟩
theorem atStart : AtStart classFile x code maxLocals ret World_1 tables_1 room_1 Calls_1 rest_1 Pre_1 launch0 p0 e0 about1 theMethod args0 below0 :=
  ⟨lists_1, trivial, launch0.admits_env _ _ _, launch0.least_env, fairChoices_fair.cas, fairChoices_fair.clock, w_frames, w_args, w_heap, w_applies, ⟨⟨41, k41, 4, by decide +kernel, rfl, rfl, _, rfl, rfl⟩, ⟨w_consts, trivial⟩⟩, w_rest, w_case⟩
end start1
theorem witness_1 : WitnessClaimed_1 := ⟨start1.p0, start1.e0, start1.about1, start1.theMethod, start1.args0, start1.below0, start1.atStart⟩
end Jvm.Pilot.@@N@@
