import JvmDerived
import JvmDerived.Pilot.@@N@@Statement
import JvmDerived.Pilot.@@N@@Code
set_option linter.unusedVariables false
set_option linter.unusedSimpArgs false
namespace Jvm.RoadKit
open Sem ClassFile Op Lib Jvm.Stand Jvm.Free Jvm.LawKit
section New
variable {p : Program} {l : Launch} {e : Env} {R : Room} {s : State} {m : MethodId} {args : Array Value} {below : List Frame} {meth : Method} {c : Code} {T : State} {locs : List Loc} {cells slots : Nat}
theorem retI (X : Stand p l e R s m args below meth c T locs cells slots) (hx : p.tables.exec = Jvm.exec) {pc : Nat} {Ls : Array Slot} {z : Int32} {rest : List Value} (hret : meth.sig.returnType = some .int) (hd : decode c.code pc = .ok (.ireturn, 1)) {fs : List Frame}
    (hl : ∀ (f : JFrame) (acts : List Action), f.method = m → f.locked = none → f.entered = [] → (doReturn e (T.setTop f) acts (some (.int z))).1 = T.setFrames fs) : Steps p.tables e below (T.setTop (mkF m pc Ls (.int z :: rest))) (T.setFrames fs) := by
  have hm' : T.vm.method? m = some meth := X.method'
  have hn : narrow .int (.int z) = .int z := rfl
  show Steps p.tables e below (T.setTop { method := m, pc := pc, locals := Ls, stack := _ :: rest, locked := none }) _
  jvm_step X.here [X.here.top, hx, hd, hm', hret, hn]
  first | (intro acts; rw [hl _ acts rfl rfl rfl]) | rw [hl _ _ rfl rfl rfl]
  exact Steps.refl _
end New
end Jvm.RoadKit
/- laws to paste: Road.backV (cut by pick.py; bodies as the Statement names them) -/
namespace Jvm.Pilot.@@N@@
namespace StrChars
open Jvm Sem ClassFile Op Lib Jvm.Stand Jvm.Free.XT Jvm.Free.ALB Jvm.Free.JM Jvm.Free
open Jvm.Lib.Cold (StaticIs)
/-- a char array whose places are chars -/
def Ch (a : Addr) (A : Cell) (U : State) : Prop := Arr .char a A U ∧ Typed .char A
theorem Ch.mv {a : Addr} {A : Cell} {U U' : State} (h : Ch a A U) (hal : U.vm.Alike U'.vm) (hh : U'.heap = U.heap) : Ch a A U' := ⟨h.1.mv hal hh, h.2⟩
theorem Ch.keep {a : Addr} {A : Cell} {U U' : State} (h : Ch a A U) (hal : U.vm.Alike U'.vm) (hk : U'.heap[a]? = some A) : Ch a A U' := ⟨h.1.keep hal hk, h.2⟩
/-- what place i of a char[]'s cell holds -/
def cv (A : Cell) (i : Nat) : Int32 := match A.slots[i]? with | some (.int x) => x | _ => 0
theorem Ch.get {a : Addr} {A : Cell} {U : State} (h : Ch a A U) {i : Nat} (hi : i < A.slots.size) : A.slots[i]? = some (.int (cv A i)) := by
  have e := Array.getElem?_eq_getElem hi
  have f := h.2 i _ e
  unfold cv; rw [e]
  generalize A.slots[i] = v at f
  cases v <;> simp [fits] at f ⊢
/-- the byte that i2b leaves of a char -/
def lo8 (x : Int32) : Int32 := x.toInt8.toInt32
theorem fits_lo8 (y : Int32) : fits .byte (.int (lo8 y)) = true := by
  have h1 := y.toInt8.le_toInt
  have h2 := y.toInt8.toInt_lt
  simp only [lo8, fits, Bool.and_eq_true, decide_eq_true_eq, Int32.le_iff_toInt_le, Int8.toInt_toInt32, show (-128 : Int32).toInt = -128 from by decide, show (127 : Int32).toInt = 127 from by decide]
  omega
/-- A' is A but that each place j of lo .. hi - 1 holds f j -/
def Laid (A A' : Cell) (lo hi : Nat) (f : Nat → Value) : Prop := A'.cls = A.cls ∧ A'.vm = A.vm ∧ A'.slots.size = A.slots.size ∧ ∀ i, A'.slots[i]? = if lo ≤ i ∧ i < hi then some (f i) else A.slots[i]?
theorem Laid.zero (A : Cell) (lo : Nat) (f : Nat → Value) : Laid A A lo (lo + 0) f := ⟨rfl, rfl, rfl, fun i => by rw [if_neg (by omega)]⟩
theorem Laid.step {A Ak : Cell} {lo k : Nat} {f : Nat → Value} {v : Value} (h : Laid A Ak lo k f) (hlo : lo ≤ k) (hk : k < Ak.slots.size) (hv : v = f k) : Laid A (Ak.setSlot k v) lo (k + 1) f := by
  refine ⟨h.1, h.2.1, by simpa [Cell.setSlot] using h.2.2.1, fun i => ?_⟩
  by_cases e : k = i
  · subst e; rw [Cell.slots_setSlot_self v hk, if_pos (by omega), hv]
  · rw [Cell.slots_setSlot_ne v e, h.2.2.2 i]
    by_cases q : lo ≤ i ∧ i < k
    · rw [if_pos q, if_pos (by omega)]
    · rw [if_neg q, if_neg (by omega)]
def U16 : String := "java/lang/StringUTF16"
namespace Cmp5
def yN : MethodName := ⟨"java/lang/StringUTF16", "compress", "([CI[BII)I"⟩
abbrev yB : ByteArray := jdk_52_method_21_code
theorem d0 : decode yB 0 = .ok (.iconst 0, 1) := by decide +kernel
theorem d1 : decode yB 1 = .ok (.istore 5, 2) := by decide +kernel
theorem d3 : decode yB 3 = .ok (.iload 5, 2) := by decide +kernel
theorem d5 : decode yB 5 = .ok (.iload 4, 2) := by decide +kernel
theorem d7 : decode yB 7 = .ok (.if_icmp (.ge) 37, 3) := by decide +kernel
theorem d10 : decode yB 10 = .ok (.aload_n 0, 1) := by decide +kernel
theorem d11 : decode yB 11 = .ok (.iload_n 1, 1) := by decide +kernel
theorem d12 : decode yB 12 = .ok (.caload, 1) := by decide +kernel
theorem d13 : decode yB 13 = .ok (.istore 6, 2) := by decide +kernel
theorem d15 : decode yB 15 = .ok (.iload 6, 2) := by decide +kernel
theorem d17 : decode yB 17 = .ok (.sipush 255, 3) := by decide +kernel
theorem d20 : decode yB 20 = .ok (.if_icmp (.le) 6, 3) := by decide +kernel
theorem d26 : decode yB 26 = .ok (.aload_n 2, 1) := by decide +kernel
theorem d27 : decode yB 27 = .ok (.iload_n 3, 1) := by decide +kernel
theorem d28 : decode yB 28 = .ok (.iload 6, 2) := by decide +kernel
theorem d30 : decode yB 30 = .ok (.i2b, 1) := by decide +kernel
theorem d31 : decode yB 31 = .ok (.bastore, 1) := by decide +kernel
theorem d32 : decode yB 32 = .ok (.iinc 1 1, 3) := by decide +kernel
theorem d35 : decode yB 35 = .ok (.iinc 3 1, 3) := by decide +kernel
theorem d38 : decode yB 38 = .ok (.iinc 5 1, 3) := by decide +kernel
theorem d41 : decode yB 41 = .ok (.goto (-38), 3) := by decide +kernel
theorem d44 : decode yB 44 = .ok (.iload 4, 2) := by decide +kernel
theorem d46 : decode yB 46 = .ok (.ireturn, 1) := by decide +kernel
def site : List Cond := []
def tab : Cond := tabOf yN yB 7 (some .int) site
def P (b : Addr) (A : Cell) (d : Addr) (B : Cell) (o q len : Nat) (args : Array Value) (s : State) : Prop := args = #[.ref b, .int (Int32.ofNat o), .ref d, .int (Int32.ofNat q), .int (Int32.ofNat len)] ∧ Ch b A s ∧ Arr .byte d B s ∧ b ≠ d ∧ o + len ≤ A.slots.size ∧ q + len ≤ B.slots.size ∧ ∀ i, i < len → ¬ 255 < cv A (o + i)
def E (b : Addr) (A : Cell) (d : Addr) (B : Cell) (o q len : Nat) (r : Option Value) (s u : State) : Prop := r = some (.int (Int32.ofNat len)) ∧ ∃ B', Put d B' s u ∧ Laid B B' q (q + len) (fun j => Value.int (lo8 (cv A (o + (j - q)))))
/-- no char of the range above 255: len; the places written hold each char's low byte -/
theorem law (l : Launch) (b : Addr) (A : Cell) (d : Addr) (B : Cell) (o q len : Nat) : Law l yN 5 5 0 0 yB 7 (some .int) site (P b A d B o q len) (E b A d B o q len) (copyLocs d q len) 0 0 := by
  refine Law.of_walk (plainFor_of_name (by decide +kernel)) (by decide +kernel) (by decide +kernel) (by decide) (fun _ _ h => by rw [h.1]; rfl) (fun _ U U' hal hh h => ⟨h.1, h.2.1.mv hal hh, h.2.2.1.mv hal hh, h.2.2.2⟩) (fun r U U' V V' h1 hal h2 h => ⟨h.1, h.2.elim fun B' q => ⟨B', q.1.mv h1 h2, q.2⟩⟩) ?_
  intro p e s m args below meth c s₁ X0 hexec hbytes hml hret hlk hnm hown hh0 W hP
  obtain ⟨rfl, hA, hB, hne, l1, l2, hp⟩ := hP
  have c1 : Steps p.tables e below (s₁.setTop (entryFrame m #[.ref b, .int (Int32.ofNat o), .ref d, .int (Int32.ofNat q), .int (Int32.ofNat len)] 7)) (s₁.setTop (mkF m 0 #[.val (.ref b), .val (.int (Int32.ofNat o)), .val (.ref d), .val (.int (Int32.ofNat q)), .val (.int (Int32.ofNat len)), .unset, .unset] [])) := entry rfl
  have hA0 := hA.1.mv X0.warmed.alike hh0
  have hB0 := hB.mv X0.warmed.alike hh0
  have a31 := hA.1.2.2.2
  have c2 : Steps p.tables e below (s₁.setTop (entryFrame m #[.ref b, .int (Int32.ofNat o), .ref d, .int (Int32.ofNat q), .int (Int32.ofNat len)] 7)) (s₁.setTop (mkF m 3 #[.val (.ref b), .val (.int (Int32.ofNat o)), .val (.ref d), .val (.int (Int32.ofNat q)), .val (.int (Int32.ofNat len)), .val (.int 0), .unset] [])) := c1.trans (by
    refine iconstV X0.here hexec rfl 0 (hb hbytes d0) (by decide) ?_
    refine XS.istore X0.here hexec rfl (hb hbytes d1) rfl rfl ?_
    exact Steps.refl _)
  have loop : ∀ (r i : Nat), i + r = len → ∀ (z : Slot), (z = .unset ∨ ∃ w, z = .val w ∧ w.category = 1) → ∀ (Tl : State) (Bk : Cell), Stand p l e { frames := 0, locals := 0, cells := 0, slots := 0 } s m #[.ref b, .int (Int32.ofNat o), .ref d, .int (Int32.ofNat q), .int (Int32.ofNat len)] below meth c Tl ([] ++ copyLocs d q i) 0 0 → Put d Bk s₁ Tl → Laid B Bk q (q + i) (fun j => Value.int (lo8 (cv A (o + (j - q))))) →
      Steps p.tables e below (s₁.setTop (entryFrame m #[.ref b, .int (Int32.ofNat o), .ref d, .int (Int32.ofNat q), .int (Int32.ofNat len)] 7)) (Tl.setTop (mkF m 3 #[.val (.ref b), .val (.int (Int32.ofNat (o + i))), .val (.ref d), .val (.int (Int32.ofNat (q + i))), .val (.int (Int32.ofNat len)), .val (.int (Int32.ofNat i)), z] [])) → ∃ (T' : State) (B' : Cell) (z' : Slot), Stand p l e { frames := 0, locals := 0, cells := 0, slots := 0 } s m #[.ref b, .int (Int32.ofNat o), .ref d, .int (Int32.ofNat q), .int (Int32.ofNat len)] below meth c T' ([] ++ copyLocs d q len) 0 0 ∧ Put d B' s₁ T' ∧ Laid B B' q (q + len) (fun j => Value.int (lo8 (cv A (o + (j - q))))) ∧
      Steps p.tables e below (s₁.setTop (entryFrame m #[.ref b, .int (Int32.ofNat o), .ref d, .int (Int32.ofNat q), .int (Int32.ofNat len)] 7)) (T'.setTop (mkF m 3 #[.val (.ref b), .val (.int (Int32.ofNat (o + len))), .val (.ref d), .val (.int (Int32.ofNat (q + len))), .val (.int (Int32.ofNat len)), .val (.int (Int32.ofNat len)), z'] [])) := by
    intro r
    induction r with
    | zero =>
      intro i hi z hz Tl Bk Xl pl fl cl
      have hil : i = len := by omega
      rw [hil] at Xl fl cl
      exact ⟨Tl, Bk, z, Xl, pl, fl, cl⟩
    | succ r ih =>
      intro i hi z hz Tl Bk Xl pl fl cl
      have all := X0.warmed.alike.symm.trans Xl.warmed.alike
      have hAl := hA0.keep all (pl.other hne hA0.1)
      have hBk := hB0.like all pl.1 fl.1 fl.2.1 fl.2.2.1
      have hlt : q + i < Bk.slots.size := by rw [fl.2.2.1]; omega
      have c3 : Steps p.tables e below (s₁.setTop (entryFrame m #[.ref b, .int (Int32.ofNat o), .ref d, .int (Int32.ofNat q), .int (Int32.ofNat len)] 7)) (Tl.setTop (mkF m 12 #[.val (.ref b), .val (.int (Int32.ofNat (o + i))), .val (.ref d), .val (.int (Int32.ofNat (q + i))), .val (.int (Int32.ofNat len)), .val (.int (Int32.ofNat i)), z] [.int (Int32.ofNat (o + i)), .ref b])) := cl.trans (by
        refine XS.iload Xl.here hexec rfl (hb hbytes d3) rfl ?_
        refine XS.iload Xl.here hexec rfl (hb hbytes d5) rfl ?_
        refine XS.icmpNo Xl.here hexec rfl (hb hbytes d7) rfl (ii_ge_f (lt32 (by omega) (by omega))) ?_
        refine XS.aloadN Xl.here hexec rfl (hb hbytes d10) rfl rfl ?_
        refine XS.iloadN Xl.here hexec rfl (hb hbytes d11) rfl ?_
        exact Steps.refl _)
      have c4 : Steps p.tables e below (s₁.setTop (entryFrame m #[.ref b, .int (Int32.ofNat o), .ref d, .int (Int32.ofNat q), .int (Int32.ofNat len)] 7)) (Tl.setTop (mkF m 13 #[.val (.ref b), .val (.int (Int32.ofNat (o + i))), .val (.ref d), .val (.int (Int32.ofNat (q + i))), .val (.int (Int32.ofNat len)), .val (.int (Int32.ofNat i)), z] [.int (cv A (o + i))])) := c3.trans (by
        refine Xl.aget hexec hAl rfl (hA.get (i := o + i) (by omega)) rfl rfl (hb hbytes d12) ?_
        exact Steps.refl _)
      have c5 : Steps p.tables e below (s₁.setTop (entryFrame m #[.ref b, .int (Int32.ofNat o), .ref d, .int (Int32.ofNat q), .int (Int32.ofNat len)] 7)) (Tl.setTop (mkF m 15 #[.val (.ref b), .val (.int (Int32.ofNat (o + i))), .val (.ref d), .val (.int (Int32.ofNat (q + i))), .val (.int (Int32.ofNat len)), .val (.int (Int32.ofNat i)), .val (.int (cv A (o + i)))] [])) := c4.trans (by
        refine XS.istoreS Xl.here hexec rfl (hb hbytes d13) rfl rfl hz ?_
        exact Steps.refl _)
      have c6 : Steps p.tables e below (s₁.setTop (entryFrame m #[.ref b, .int (Int32.ofNat o), .ref d, .int (Int32.ofNat q), .int (Int32.ofNat len)] 7)) (Tl.setTop (mkF m 31 #[.val (.ref b), .val (.int (Int32.ofNat (o + i))), .val (.ref d), .val (.int (Int32.ofNat (q + i))), .val (.int (Int32.ofNat len)), .val (.int (Int32.ofNat i)), .val (.int (cv A (o + i)))] [.int (lo8 (cv A (o + i))), .int (Int32.ofNat (q + i)), .ref d])) := c5.trans (by
        refine XS.iload Xl.here hexec rfl (hb hbytes d15) rfl ?_
        refine sipushV Xl.here hexec rfl 255 (hb hbytes d17) (by decide) ?_
        refine XS.icmpYes Xl.here hexec rfl (pc0 := 20) rfl (hb hbytes d20) rfl (ii_le_t (hp i (by omega))) (by decide) rfl ?_
        refine XS.aloadN Xl.here hexec rfl (hb hbytes d26) rfl rfl ?_
        refine XS.iloadN Xl.here hexec rfl (hb hbytes d27) rfl ?_
        refine XS.iload Xl.here hexec rfl (hb hbytes d28) rfl ?_
        refine i2b Xl.here hexec rfl (hb hbytes d30) rfl ?_
        exact Steps.refl _)
      obtain ⟨T7, X7, p7, st7⟩ := Xl.aput hexec hBk rfl hlt rfl (fits_lo8 (cv A (o + i))) (g := (mkF m 31 #[.val (.ref b), .val (.int (Int32.ofNat (o + i))), .val (.ref d), .val (.int (Int32.ofNat (q + i))), .val (.int (Int32.ofNat len)), .val (.int (Int32.ofNat i)), .val (.int (cv A (o + i)))] [.int (lo8 (cv A (o + i))), .int (Int32.ofNat (q + i)), .ref d])) rfl (rest := []) rfl (hb hbytes d31)
      have c8 : Steps p.tables e below (s₁.setTop (entryFrame m #[.ref b, .int (Int32.ofNat o), .ref d, .int (Int32.ofNat q), .int (Int32.ofNat len)] 7)) (T7.setTop (mkF m 32 #[.val (.ref b), .val (.int (Int32.ofNat (o + i))), .val (.ref d), .val (.int (Int32.ofNat (q + i))), .val (.int (Int32.ofNat len)), .val (.int (Int32.ofNat i)), .val (.int (cv A (o + i)))] [])) := c6.trans (st7 _ (Steps.refl _))
      have c9 : Steps p.tables e below (s₁.setTop (entryFrame m #[.ref b, .int (Int32.ofNat o), .ref d, .int (Int32.ofNat q), .int (Int32.ofNat len)] 7)) (T7.setTop (mkF m 3 #[.val (.ref b), .val (.int (Int32.ofNat (o + i) + 1)), .val (.ref d), .val (.int (Int32.ofNat (q + i) + 1)), .val (.int (Int32.ofNat len)), .val (.int (Int32.ofNat i + 1)), .val (.int (cv A (o + i)))] [])) := c8.trans (by
        refine iincV X7.here hexec rfl 1 (hb hbytes d32) (by decide) rfl rfl ?_
        refine iincV X7.here hexec rfl 1 (hb hbytes d35) (by decide) rfl rfl ?_
        refine iincV X7.here hexec rfl 1 (hb hbytes d38) (by decide) rfl rfl ?_
        refine XS.goto X7.here hexec rfl (pc0 := 41) rfl (hb hbytes d41) (by decide) rfl ?_
        exact Steps.refl _)
      have c10 : Steps p.tables e below (s₁.setTop (entryFrame m #[.ref b, .int (Int32.ofNat o), .ref d, .int (Int32.ofNat q), .int (Int32.ofNat len)] 7)) (T7.setTop (mkF m 3 #[.val (.ref b), .val (.int (Int32.ofNat (o + (i + 1)))), .val (.ref d), .val (.int (Int32.ofNat (q + (i + 1)))), .val (.int (Int32.ofNat len)), .val (.int (Int32.ofNat (i + 1))), .val (.int (cv A (o + i)))] [])) := by
        have := c9
        rw [succ32, succ32, succ32] at this
        exact this
      exact ih (i + 1) (by omega) _ (Or.inr ⟨_, rfl, rfl⟩) T7 _ (by rw [copyLocs_step, ← List.append_assoc]; exact X7) (pl.trans p7) (fl.step (by omega) hlt (by simp)) c10
  obtain ⟨T9, B9, z9, X9, p9, f9, g9⟩ := loop len 0 (by omega) .unset (Or.inl rfl) s₁ B (by simpa [copyLocs] using X0) ⟨hB0.1, fun _ _ => rfl, rfl⟩ (Laid.zero _ _ _) c2
  have c11 : Steps p.tables e below (s₁.setTop (entryFrame m #[.ref b, .int (Int32.ofNat o), .ref d, .int (Int32.ofNat q), .int (Int32.ofNat len)] 7)) (T9.setTop (mkF m 46 #[.val (.ref b), .val (.int (Int32.ofNat (o + len))), .val (.ref d), .val (.int (Int32.ofNat (q + len))), .val (.int (Int32.ofNat len)), .val (.int (Int32.ofNat len)), z9] [.int (Int32.ofNat len)])) := g9.trans (by
    refine XS.iload X9.here hexec rfl (hb hbytes d3) rfl ?_
    refine XS.iload X9.here hexec rfl (hb hbytes d5) rfl ?_
    refine XS.icmpYes X9.here hexec rfl (pc0 := 7) rfl (hb hbytes d7) rfl (ii_ge_t (nlt32 (by omega) (Nat.le_refl _))) (by decide) rfl ?_
    refine XS.iload X9.here hexec rfl (hb hbytes d44) rfl ?_
    exact Steps.refl _)
  exact ⟨T9, some (.int (Int32.ofNat len)), _, _, _, X9, by simp, rfl, rfl, (fun h => by cases h), ⟨rfl, B9, p9.from hh0, f9⟩, fun fs hl => c11.trans (X9.ireturnOut hexec hret rfl (Or.inl rfl) (hb hbytes d46) hl)⟩
end Cmp5
namespace Cmp3
def yN : MethodName := ⟨"java/lang/StringUTF16", "compress", "([CII)[B"⟩
abbrev yB : ByteArray := jdk_52_method_16_code
theorem d0 : decode yB 0 = .ok (.iload_n 2, 1) := by decide +kernel
theorem d1 : decode yB 1 = .ok (.newarray .byte, 2) := by decide +kernel
theorem d3 : decode yB 3 = .ok (.astore_n 3, 1) := by decide +kernel
theorem d4 : decode yB 4 = .ok (.aload_n 0, 1) := by decide +kernel
theorem d5 : decode yB 5 = .ok (.iload_n 1, 1) := by decide +kernel
theorem d6 : decode yB 6 = .ok (.aload_n 3, 1) := by decide +kernel
theorem d7 : decode yB 7 = .ok (.iconst 0, 1) := by decide +kernel
theorem d8 : decode yB 8 = .ok (.iload_n 2, 1) := by decide +kernel
theorem d9 : decode yB 9 = .ok (.invokestatic 115, 3) := by decide +kernel
theorem d12 : decode yB 12 = .ok (.istore 4, 2) := by decide +kernel
theorem d14 : decode yB 14 = .ok (.iload 4, 2) := by decide +kernel
theorem d16 : decode yB 16 = .ok (.iload_n 2, 1) := by decide +kernel
theorem d17 : decode yB 17 = .ok (.if_icmp (.eq) 40, 3) := by decide +kernel
theorem d57 : decode yB 57 = .ok (.aload_n 3, 1) := by decide +kernel
theorem d58 : decode yB 58 = .ok (.areturn, 1) := by decide +kernel
def site : List Cond := [.arrayClass .byte, Cmp5.tab] ++ staticW U16 115 Cmp5.yN
def tab : Cond := tabOf yN yB 6 (some (.array .byte)) site
def P (b : Addr) (A : Cell) (o len : Nat) (args : Array Value) (s : State) : Prop := args = #[.ref b, .int (Int32.ofNat o), .int (Int32.ofNat len)] ∧ Ch b A s ∧ o + len ≤ A.slots.size ∧ len ≤ 536870912 ∧ ∀ i, i < len → ¬ 255 < cv A (o + i)
def E (b : Addr) (A : Cell) (o len : Nat) (r : Option Value) (s u : State) : Prop := NewArr .byte "[B" len (fun j => .int (lo8 (cv A (o + j)))) r s u ∧ u.heap.size = s.heap.size + 1
/-- no char of the range above 255: a new byte[] of their low bytes -/
theorem law (l : Launch) (b : Addr) (A : Cell) (o len : Nat) : Law l yN 3 3 1 18 yB 6 (some (.array .byte)) site (P b A o len) (E b A o len) [] 1 len := by
  refine Law.of_walk (plainFor_of_name (by decide +kernel)) (by decide +kernel) (by decide +kernel) (by decide) (fun _ _ h => by rw [h.1]; rfl) (fun _ U U' hal hh h => ⟨h.1, h.2.1.mv hal hh, h.2.2⟩) (fun r U U' V V' h1 hal h2 h => ⟨NewArr.mv r U U' V V' h1 hal h2 h.1, by rw [h1, h2]; exact h.2⟩) ?_
  intro p e s m args below meth c s₁ X0 hexec hbytes hml hret hlk hnm hown hh0 W hP
  obtain ⟨rfl, hA, l1, l2, hp⟩ := hP
  have a31 := hA.1.2.2.2
  have c1 : Steps p.tables e below (s₁.setTop (entryFrame m #[.ref b, .int (Int32.ofNat o), .int (Int32.ofNat len)] 6)) (s₁.setTop (mkF m 0 #[.val (.ref b), .val (.int (Int32.ofNat o)), .val (.int (Int32.ofNat len)), .unset, .unset, .unset] [])) := entry rfl
  have c2 : Steps p.tables e below (s₁.setTop (entryFrame m #[.ref b, .int (Int32.ofNat o), .int (Int32.ofNat len)] 6)) (s₁.setTop (mkF m 1 #[.val (.ref b), .val (.int (Int32.ofNat o)), .val (.int (Int32.ofNat len)), .unset, .unset, .unset] [.int (Int32.ofNat len)])) := c1.trans (by
    refine XS.iloadN X0.here hexec rfl (hb hbytes d0) rfl ?_
    exact Steps.refl _)
  obtain ⟨T3, B3, X3, ba3, bs3, bv3, bh3, bf3, st3⟩ := X0.anew hexec (atype := .byte) (wk W (.arrayClass .byte)) rfl (by show len * 1 ≤ _; omega) (by omega) (g := (mkF m 1 #[.val (.ref b), .val (.int (Int32.ofNat o)), .val (.int (Int32.ofNat len)), .unset, .unset, .unset] [.int (Int32.ofNat len)])) rfl (hb hbytes d1) (rest := []) rfl (Nat.le_refl _) (by show 0 + len ≤ len; omega)
  rw [hh0] at ba3 st3
  have kp3 : XT.Kept s T3 := (XT.Kept.of_eq hh0).push bh3
  have hA3 := hA.keep X3.warmed.alike (kp3 _ _ hA.1.1)
  have hne : b ≠ s.heap.size := hA.1.ne
  have c4 : Steps p.tables e below (s₁.setTop (entryFrame m #[.ref b, .int (Int32.ofNat o), .int (Int32.ofNat len)] 6)) (T3.setTop (mkF m 3 #[.val (.ref b), .val (.int (Int32.ofNat o)), .val (.int (Int32.ofNat len)), .unset, .unset, .unset] [.ref s.heap.size])) := c2.trans (st3 _ (Steps.refl _))
  have c5 : Steps p.tables e below (s₁.setTop (entryFrame m #[.ref b, .int (Int32.ofNat o), .int (Int32.ofNat len)] 6)) (T3.setTop (mkF m 9 #[.val (.ref b), .val (.int (Int32.ofNat o)), .val (.int (Int32.ofNat len)), .val (.ref s.heap.size), .unset, .unset] [.int (Int32.ofNat len), .int 0, .ref s.heap.size, .int (Int32.ofNat o), .ref b])) := c4.trans (by
    refine XS.astoreN X3.here hexec rfl (hb hbytes d3) rfl rfl rfl ?_
    refine XS.aloadN X3.here hexec rfl (hb hbytes d4) rfl rfl ?_
    refine XS.iloadN X3.here hexec rfl (hb hbytes d5) rfl ?_
    refine XS.aloadN X3.here hexec rfl (hb hbytes d6) rfl rfl ?_
    refine iconstV X3.here hexec rfl 0 (hb hbytes d7) (by decide) ?_
    refine XS.iloadN X3.here hexec rfl (hb hbytes d8) rfl ?_
    exact Steps.refl _)
  obtain ⟨v6, T6, X6, E6, g6⟩ := X3.callS hexec (Cmp5.law l b A s.heap.size B3 o 0 len) hown (wks W (staticW U16 115 Cmp5.yN)) (wk W Cmp5.tab) (W := 0) (Nat.le_of_ble_eq_true rfl) (Nat.le_of_ble_eq_true rfl) (Nat.le_refl _) (by show 0 + len + 0 ≤ len; omega) (g := (mkF m 9 #[.val (.ref b), .val (.int (Int32.ofNat o)), .val (.int (Int32.ofNat len)), .val (.ref s.heap.size), .unset, .unset] [.int (Int32.ofNat len), .int (Int32.ofNat 0), .ref s.heap.size, .int (Int32.ofNat o), .ref b])) rfl (by rw [hml]; rfl) c5 (argsL := [.ref b, .int (Int32.ofNat o), .ref s.heap.size, .int (Int32.ofNat 0), .int (Int32.ofNat len)]) (rest := []) rfl rfl (by show 2 * 0 + 0 ≤ _; decide) (hb hbytes d9) (⟨rfl, hA3, ba3, hne, l1, by rw [bs3]; simp, hp⟩)
  obtain ⟨rfl, B6, p6, f6⟩ := E6
  have c7 : Steps p.tables e below (s₁.setTop (entryFrame m #[.ref b, .int (Int32.ofNat o), .int (Int32.ofNat len)] 6)) (T6.setTop (mkF m 12 #[.val (.ref b), .val (.int (Int32.ofNat o)), .val (.int (Int32.ofNat len)), .val (.ref s.heap.size), .unset, .unset] [.int (Int32.ofNat len)])) := g6
  have c8 : Steps p.tables e below (s₁.setTop (entryFrame m #[.ref b, .int (Int32.ofNat o), .int (Int32.ofNat len)] 6)) (T6.setTop (mkF m 58 #[.val (.ref b), .val (.int (Int32.ofNat o)), .val (.int (Int32.ofNat len)), .val (.ref s.heap.size), .val (.int (Int32.ofNat len)), .unset] [.ref s.heap.size])) := c7.trans (by
    refine XS.istore X6.here hexec rfl (hb hbytes d12) rfl rfl ?_
    refine XS.iload X6.here hexec rfl (hb hbytes d14) rfl ?_
    refine XS.iloadN X6.here hexec rfl (hb hbytes d16) rfl ?_
    refine XS.icmpYes X6.here hexec rfl (pc0 := 17) rfl (hb hbytes d17) rfl (ii_eq_t rfl) (by decide) rfl ?_
    refine XS.aloadN X6.here hexec rfl (hb hbytes d57) rfl rfl ?_
    exact Steps.refl _)
  have X8 := X6.wide (L' := []) (cells' := 1) (slots' := len) (fun x hx hlt => by
    simp only [List.nil_append, copyLocs, List.mem_map, List.mem_range] at hx
    obtain ⟨i, -, rfl⟩ := hx
    exact absurd hlt (Nat.lt_irrefl _)) (Nat.le_refl _) (by omega)
  exact ⟨T6, some (.ref s.heap.size), _, _, _, X8, rfl, rfl, rfl, (fun h => by cases h), ⟨⟨rfl, B6, ba3.like (X3.warmed.alike.symm.trans X6.warmed.alike) p6.1 f6.1 f6.2.1 f6.2.2.1, f6.2.1.trans bv3, by rw [X6.warmed.alike.findClass, f6.1]; exact bf3, by rw [f6.2.2.1, bs3]; simp, fun j hj => by rw [f6.2.2.2 j, if_pos (by omega)]; rfl, kp3.put p6 (Nat.le_refl _)⟩, by rw [p6.2.2, bh3, hh0]; simp⟩, fun fs hl => c8.trans (X8.areturnOut hexec rfl hret rfl (hb hbytes d58) hl)⟩
end Cmp3
namespace CodL
def yN : MethodName := ⟨"java/lang/StringUTF16", "coderFromArrayLen", "([BI)B"⟩
abbrev yB : ByteArray := jdk_52_method_15_code
theorem d0 : decode yB 0 = .ok (.iload_n 1, 1) := by decide +kernel
theorem d1 : decode yB 1 = .ok (.aload_n 0, 1) := by decide +kernel
theorem d2 : decode yB 2 = .ok (.arraylength, 1) := by decide +kernel
theorem d3 : decode yB 3 = .ok (.isub, 1) := by decide +kernel
theorem d4 : decode yB 4 = .ok (.bipush 31, 2) := by decide +kernel
theorem d6 : decode yB 6 = .ok (.iushr, 1) := by decide +kernel
theorem d7 : decode yB 7 = .ok (.i2b, 1) := by decide +kernel
theorem d8 : decode yB 8 = .ok (.ireturn, 1) := by decide +kernel
def site : List Cond := []
def tab : Cond := tabOf yN yB 2 (some .byte) site
def P (d : Addr) (B : Cell) (args : Array Value) (s : State) : Prop := args = #[.ref d, .int (Int32.ofNat B.slots.size)] ∧ Arr .byte d B s
def E (r : Option Value) (s u : State) : Prop := XT.PureE (some (.int 0)) r s u
/-- an array as long as the number of chars: LATIN1 -/
theorem law (l : Launch) (d : Addr) (B : Cell) : Law l yN 2 2 0 0 yB 2 (some .byte) site (P d B) E [] 0 0 := by
  refine Law.of_walk (plainFor_of_name (by decide +kernel)) (by decide +kernel) (by decide +kernel) (by decide) (fun _ _ h => by rw [h.1]; rfl) (fun _ U U' hal hh h => ⟨h.1, h.2.mv hal hh⟩) (fun r U U' V V' h1 hal h2 h => XT.PureE.mv r U U' V V' h1 hal h2 h) ?_
  intro p e s m args below meth c s₁ X0 hexec hbytes hml hret hlk hnm hown hh0 W hP
  obtain ⟨rfl, hB⟩ := hP
  have hB0 := hB.mv X0.warmed.alike hh0
  have c1 : Steps p.tables e below (s₁.setTop (entryFrame m #[.ref d, .int (Int32.ofNat B.slots.size)] 2)) (s₁.setTop (mkF m 0 #[.val (.ref d), .val (.int (Int32.ofNat B.slots.size))] [])) := entry rfl
  have c2 : Steps p.tables e below (s₁.setTop (entryFrame m #[.ref d, .int (Int32.ofNat B.slots.size)] 2)) (s₁.setTop (mkF m 2 #[.val (.ref d), .val (.int (Int32.ofNat B.slots.size))] [.ref d, .int (Int32.ofNat B.slots.size)])) := c1.trans (by
    refine XS.iloadN X0.here hexec rfl (hb hbytes d0) rfl ?_
    refine XS.aloadN X0.here hexec rfl (hb hbytes d1) rfl rfl ?_
    exact Steps.refl _)
  have c3 : Steps p.tables e below (s₁.setTop (entryFrame m #[.ref d, .int (Int32.ofNat B.slots.size)] 2)) (s₁.setTop (mkF m 8 #[.val (.ref d), .val (.int (Int32.ofNat B.slots.size))] [.int (lo8 (ushr (Int32.ofNat B.slots.size - Int32.ofNat B.slots.size) 31))])) := c2.trans (by
    refine X0.alen hexec hB0 rfl rfl (hb hbytes d2) ?_
    refine XS.isub X0.here hexec rfl (hb hbytes d3) rfl ?_
    refine bipushV X0.here hexec rfl 31 (hb hbytes d4) (by decide) ?_
    refine iushr X0.here hexec rfl (hb hbytes d6) rfl ?_
    refine i2b X0.here hexec rfl (hb hbytes d7) rfl ?_
    exact Steps.refl _)
  have e0 : lo8 (ushr (Int32.ofNat B.slots.size - Int32.ofNat B.slots.size) 31) = 0 := by rw [Int32.sub_self]; decide
  rw [e0] at c3
  exact ⟨s₁, some (.int 0), _, _, _, X0, rfl, rfl, rfl, (fun h => by cases h), ⟨rfl, hh0⟩, fun fs hl => c3.trans (X0.ireturnOut hexec hret rfl (Or.inr (Or.inr (Or.inl rfl))) (hb hbytes d8) hl)⟩
end CodL
/-- the String at a is Latin-1 over a new byte[] (the heap's one new cell): the low bytes of the len chars of A from o on; every cell but a is kept -/
def Got (a : Addr) (D : Cell) (fV fC : Field) (A : Cell) (o len : Nat) (r : Option Value) (s u : State) : Prop := r = none ∧ ∃ D' V : Cell, Blank "java/lang/String" a D' u ∧ Same D D' [fV.slot, fC.slot] ∧ D'.slots[fV.slot]? = some (.ref s.heap.size) ∧ D'.slots[fC.slot]? = some (.int 0) ∧ Arr .byte s.heap.size V u ∧ V.vm = .none ∧ u.vm.findClass "[B" = some V.cls ∧ V.slots.size = len ∧ (∀ j, j < len → V.slots[j]? = some (.int (lo8 (cv A (o + j))))) ∧ (∀ (y : Addr) (c : Cell), y ≠ a → s.heap[y]? = some c → u.heap[y]? = some c) ∧ u.heap.size = s.heap.size + 1
theorem Got.mv {a : Addr} {D A : Cell} {fV fC : Field} {o len : Nat} : ∀ r (U U' V V' : State), U'.heap = U.heap → V.vm.Alike V'.vm → V'.heap = V.heap → Got a D fV fC A o len r U V → Got a D fV fC A o len r U' V' :=
  fun r U U' V V' h1 hal h2 ⟨e0, D', X, a1, a2, a3, a4, a5, a6, a7, a8, a9, a10, a11⟩ => ⟨e0, D', X, a1.mv hal h2, a2, by rw [h1]; exact a3, a4, by rw [h1]; exact a5.mv hal h2, a6, by rw [hal.findClass]; exact a7, a8, a9, by rw [h1, h2]; exact a10, by rw [h1, h2]; exact a11⟩
namespace New4
def yN : MethodName := ⟨"java/lang/String", "<init>", "([CIILjava/lang/Void;)V"⟩
abbrev yB : ByteArray := jdk_42_method_149_code
theorem d0 : decode yB 0 = .ok (.aload_n 0, 1) := by decide +kernel
theorem d1 : decode yB 1 = .ok (.invokespecial 1, 3) := by decide +kernel
theorem d4 : decode yB 4 = .ok (.iload_n 3, 1) := by decide +kernel
theorem d5 : decode yB 5 = .ok (.ifCond (.ne) 22, 3) := by decide +kernel
theorem d27 : decode yB 27 = .ok (.getstatic 38, 3) := by decide +kernel
theorem d30 : decode yB 30 = .ok (.ifCond (.eq) 28, 3) := by decide +kernel
theorem d33 : decode yB 33 = .ok (.aload_n 1, 1) := by decide +kernel
theorem d34 : decode yB 34 = .ok (.iload_n 2, 1) := by decide +kernel
theorem d35 : decode yB 35 = .ok (.iload_n 3, 1) := by decide +kernel
theorem d36 : decode yB 36 = .ok (.invokestatic 177, 3) := by decide +kernel
theorem d39 : decode yB 39 = .ok (.astore 5, 2) := by decide +kernel
theorem d41 : decode yB 41 = .ok (.aload_n 0, 1) := by decide +kernel
theorem d42 : decode yB 42 = .ok (.aload 5, 2) := by decide +kernel
theorem d44 : decode yB 44 = .ok (.iload_n 3, 1) := by decide +kernel
theorem d45 : decode yB 45 = .ok (.invokestatic 47, 3) := by decide +kernel
theorem d48 : decode yB 48 = .ok (.putfield 15, 3) := by decide +kernel
theorem d51 : decode yB 51 = .ok (.aload_n 0, 1) := by decide +kernel
theorem d52 : decode yB 52 = .ok (.aload 5, 2) := by decide +kernel
theorem d54 : decode yB 54 = .ok (.putfield 9, 3) := by decide +kernel
theorem d57 : decode yB 57 = .ok (.return_, 1) := by decide +kernel
def site : List Cond := [.fieldLink "java/lang/String" 38 "java/lang/String" "COMPACT_STRINGS" "Z", Cmp3.tab, CodL.tab, .laysFinal "java/lang/String" "java/lang/String" "value" "[B", .fieldLink "java/lang/String" 9 "java/lang/String" "value" "[B", .laysFinal "java/lang/String" "java/lang/String" "coder" "B", .fieldLink "java/lang/String" 15 "java/lang/String" "coder" "B"] ++ objW "java/lang/String" 1 ++ staticW "java/lang/String" 177 Cmp3.yN ++ staticW "java/lang/String" 47 CodL.yN
def tab : Cond := tabOf yN yB 6 none site
def P (a : Addr) (D : Cell) (fV fC : Field) (b : Addr) (A : Cell) (z : Int32) (o len : Nat) (args : Array Value) (s : State) : Prop := args = #[.ref a, .ref b, .int (Int32.ofNat o), .int (Int32.ofNat len), .null] ∧ Blank "java/lang/String" a D s ∧ Found "java/lang/String" "value" "[B" fV s ∧ Found "java/lang/String" "coder" "B" fC s ∧ Ch b A s ∧ StaticIs s "java/lang/String" "COMPACT_STRINGS" "Z" (.int z) ∧ ¬ z = 0 ∧ 0 < len ∧ o + len ≤ A.slots.size ∧ len ≤ 536870912 ∧ ∀ i, i < len → ¬ 255 < cv A (o + i)
def E (a : Addr) (D : Cell) (fV fC : Field) (A : Cell) (o len : Nat) (r : Option Value) (s u : State) : Prop := Got a D fV fC A o len r s u
/-- len > 0, no char of the range above 255: a Latin-1 String of their low bytes -/
theorem law (l : Launch) (a : Addr) (D : Cell) (fV fC : Field) (b : Addr) (A : Cell) (z : Int32) (o len : Nat) : Law l yN 5 4 2 35 yB 6 none site (P a D fV fC b A z o len) (E a D fV fC A o len) [⟨a, fC.slot⟩, ⟨a, fV.slot⟩] 1 len := by
  refine Law.of_walk (plainFor_of_name (by decide +kernel)) (by decide +kernel) (by decide +kernel) (by decide) (fun _ _ h => by rw [h.1]; rfl) (fun _ U U' hal hh h => ⟨h.1, h.2.1.mv hal hh, h.2.2.1.al hal, h.2.2.2.1.al hal, h.2.2.2.2.1.mv hal hh, h.2.2.2.2.2.1.there hal hh, h.2.2.2.2.2.2⟩) (fun r U U' V V' h1 hal h2 h => Got.mv r U U' V V' h1 hal h2 h) ?_
  intro p e s m args below meth c s₁ X0 hexec hbytes hml hret hlk hnm hown hh0 W hP
  obtain ⟨rfl, hB, f1, f2, hA, s1, hz, l0, l1, l2, hp⟩ := hP
  have a31 := hA.1.2.2.2
  have c1 : Steps p.tables e below (s₁.setTop (entryFrame m #[.ref a, .ref b, .int (Int32.ofNat o), .int (Int32.ofNat len), .null] 6)) (s₁.setTop (mkF m 0 #[.val (.ref a), .val (.ref b), .val (.int (Int32.ofNat o)), .val (.int (Int32.ofNat len)), .val .null, .unset] [])) := entry rfl
  have c2 : Steps p.tables e below (s₁.setTop (entryFrame m #[.ref a, .ref b, .int (Int32.ofNat o), .int (Int32.ofNat len), .null] 6)) (s₁.setTop (mkF m 1 #[.val (.ref a), .val (.ref b), .val (.int (Int32.ofNat o)), .val (.int (Int32.ofNat len)), .val .null, .unset] [.ref a])) := c1.trans (by
    refine XS.aloadN X0.here hexec rfl (hb hbytes d0) rfl rfl ?_
    exact Steps.refl _)
  obtain ⟨T3, X3, q3, st3⟩ := X0.oinit hexec hown (wks W (objW "java/lang/String" 1)) (g := (mkF m 1 #[.val (.ref a), .val (.ref b), .val (.int (Int32.ofNat o)), .val (.int (Int32.ofNat len)), .val .null, .unset] [.ref a])) rfl (by rw [hml]; rfl) (rest := []) rfl (hb hbytes d1) (W := 0) (by show 2 * 0 + 0 ≤ _; decide) (Nat.le_of_ble_eq_true rfl) (Nat.le_of_ble_eq_true rfl)
  have hh3 := q3.trans hh0
  have c4 : Steps p.tables e below (s₁.setTop (entryFrame m #[.ref a, .ref b, .int (Int32.ofNat o), .int (Int32.ofNat len), .null] 6)) (T3.setTop (mkF m 27 #[.val (.ref a), .val (.ref b), .val (.int (Int32.ofNat o)), .val (.int (Int32.ofNat len)), .val .null, .unset] [])) := (c2.trans (st3 _ (Steps.refl _))).trans (by
    refine XS.iloadN X3.here hexec rfl (hb hbytes d4) rfl ?_
    refine XS.ifYes X3.here hexec rfl (pc0 := 5) rfl (hb hbytes d5) rfl (i0_ne_t (nz32 (by omega) l0)) (by decide) rfl ?_
    exact Steps.refl _)
  obtain ⟨T5, X5, q5, st5⟩ := X3.sget hexec hown (wk W (.fieldLink "java/lang/String" 38 "java/lang/String" "COMPACT_STRINGS" "Z")) s1 (fun _ _ h => by rw [hh3]; exact h) (g := (mkF m 27 #[.val (.ref a), .val (.ref b), .val (.int (Int32.ofNat o)), .val (.int (Int32.ofNat len)), .val .null, .unset] [])) rfl (hb hbytes d27)
  have hh5 := q5.trans hh3
  have c6 : Steps p.tables e below (s₁.setTop (entryFrame m #[.ref a, .ref b, .int (Int32.ofNat o), .int (Int32.ofNat len), .null] 6)) (T5.setTop (mkF m 30 #[.val (.ref a), .val (.ref b), .val (.int (Int32.ofNat o)), .val (.int (Int32.ofNat len)), .val .null, .unset] [.int z])) := c4.trans (st5 _ (Steps.refl _))
  have c7 : Steps p.tables e below (s₁.setTop (entryFrame m #[.ref a, .ref b, .int (Int32.ofNat o), .int (Int32.ofNat len), .null] 6)) (T5.setTop (mkF m 36 #[.val (.ref a), .val (.ref b), .val (.int (Int32.ofNat o)), .val (.int (Int32.ofNat len)), .val .null, .unset] [.int (Int32.ofNat len), .int (Int32.ofNat o), .ref b])) := c6.trans (by
    refine XS.ifNo X5.here hexec rfl (hb hbytes d30) rfl (i0_eq_f hz) ?_
    refine XS.aloadN X5.here hexec rfl (hb hbytes d33) rfl rfl ?_
    refine XS.iloadN X5.here hexec rfl (hb hbytes d34) rfl ?_
    refine XS.iloadN X5.here hexec rfl (hb hbytes d35) rfl ?_
    exact Steps.refl _)
  obtain ⟨v8, T8, X8, E8, g8⟩ := X5.callS hexec (Cmp3.law l b A o len) hown (wks W (staticW "java/lang/String" 177 Cmp3.yN)) (wk W Cmp3.tab) (W := 0) (Nat.le_of_ble_eq_true rfl) (Nat.le_of_ble_eq_true rfl) (Nat.le_refl _) (by show 0 + len ≤ len; omega) (g := (mkF m 36 #[.val (.ref a), .val (.ref b), .val (.int (Int32.ofNat o)), .val (.int (Int32.ofNat len)), .val .null, .unset] [.int (Int32.ofNat len), .int (Int32.ofNat o), .ref b])) rfl (by rw [hml]; rfl) c7 (argsL := [.ref b, .int (Int32.ofNat o), .int (Int32.ofNat len)]) (rest := []) rfl rfl (by show 2 * 0 + 0 ≤ _; decide) (hb hbytes d36) (⟨rfl, hA.mv X5.warmed.alike hh5, l1, l2, hp⟩)
  obtain ⟨e8, z8⟩ := E8
  obtain ⟨rfl, N, n1, n2, n3, n4, n5, n6⟩ := NewArr.mv _ T5 s _ _ hh5.symm (Vm.Alike.refl _) rfl e8
  rw [hh5] at z8
  have hB1 := hB.keep X8.warmed.alike (n6 _ _ hB.1)
  have hne : s.heap.size ≠ a := (Nat.ne_of_lt (Array.getElem?_eq_some_iff.mp hB.1).1).symm
  have c9 : Steps p.tables e below (s₁.setTop (entryFrame m #[.ref a, .ref b, .int (Int32.ofNat o), .int (Int32.ofNat len), .null] 6)) (T8.setTop (mkF m 39 #[.val (.ref a), .val (.ref b), .val (.int (Int32.ofNat o)), .val (.int (Int32.ofNat len)), .val .null, .unset] [.ref s.heap.size])) := g8
  have c10 : Steps p.tables e below (s₁.setTop (entryFrame m #[.ref a, .ref b, .int (Int32.ofNat o), .int (Int32.ofNat len), .null] 6)) (T8.setTop (mkF m 45 #[.val (.ref a), .val (.ref b), .val (.int (Int32.ofNat o)), .val (.int (Int32.ofNat len)), .val .null, .val (.ref s.heap.size)] [.int (Int32.ofNat N.slots.size), .ref s.heap.size, .ref a])) := by
    have hc : Steps p.tables e below (s₁.setTop (entryFrame m #[.ref a, .ref b, .int (Int32.ofNat o), .int (Int32.ofNat len), .null] 6)) (T8.setTop (mkF m 45 #[.val (.ref a), .val (.ref b), .val (.int (Int32.ofNat o)), .val (.int (Int32.ofNat len)), .val .null, .val (.ref s.heap.size)] [.int (Int32.ofNat len), .ref s.heap.size, .ref a])) := c9.trans (by
      refine XS.astore X8.here hexec rfl (hb hbytes d39) rfl rfl rfl ?_
      refine XS.aloadN X8.here hexec rfl (hb hbytes d41) rfl rfl ?_
      refine XS.aload X8.here hexec rfl (hb hbytes d42) rfl rfl ?_
      refine XS.iloadN X8.here hexec rfl (hb hbytes d44) rfl ?_
      exact Steps.refl _)
    rw [n4]; exact hc
  obtain ⟨v11, T11, X11, E11, g11⟩ := X8.callS hexec (CodL.law l s.heap.size N) hown (wks W (staticW "java/lang/String" 47 CodL.yN)) (wk W CodL.tab) (W := 1) (Nat.le_of_ble_eq_true rfl) (Nat.le_of_ble_eq_true rfl) (Nat.le_refl _) (by show 0 + len + 0 ≤ len; omega) (g := (mkF m 45 #[.val (.ref a), .val (.ref b), .val (.int (Int32.ofNat o)), .val (.int (Int32.ofNat len)), .val .null, .val (.ref s.heap.size)] [.int (Int32.ofNat N.slots.size), .ref s.heap.size, .ref a])) rfl (by rw [hml]; rfl) c10 (argsL := [.ref s.heap.size, .int (Int32.ofNat N.slots.size)]) (rest := [.ref a]) rfl rfl (by show 2 * 0 + (1 + 0) ≤ _; decide) (hb hbytes d45) (⟨rfl, n1⟩)
  obtain ⟨rfl, q11⟩ := E11
  have hB11 := hB1.mv (X8.warmed.alike.symm.trans X11.warmed.alike) q11
  have c12 : Steps p.tables e below (s₁.setTop (entryFrame m #[.ref a, .ref b, .int (Int32.ofNat o), .int (Int32.ofNat len), .null] 6)) (T11.setTop (mkF m 48 #[.val (.ref a), .val (.ref b), .val (.int (Int32.ofNat o)), .val (.int (Int32.ofNat len)), .val .null, .val (.ref s.heap.size)] [.int 0, .ref a])) := g11
  obtain ⟨T13, X13, p13, bl13, sl13, st13⟩ := X11.finit hexec hown (wk W (.fieldLink "java/lang/String" 15 "java/lang/String" "coder" "B")) (Or.inr ⟨_, (wk W (.laysFinal "java/lang/String" "java/lang/String" "coder" "B"))⟩) (Or.inl ⟨rfl, hnm⟩) f2 (Or.inl rfl) hB11 (t := .byte) (by decide +kernel) rfl (g := (mkF m 48 #[.val (.ref a), .val (.ref b), .val (.int (Int32.ofNat o)), .val (.int (Int32.ofNat len)), .val .null, .val (.ref s.heap.size)] [.int 0, .ref a])) rfl (rest := []) rfl (hb hbytes d48)
  have c14 : Steps p.tables e below (s₁.setTop (entryFrame m #[.ref a, .ref b, .int (Int32.ofNat o), .int (Int32.ofNat len), .null] 6)) (T13.setTop (mkF m 54 #[.val (.ref a), .val (.ref b), .val (.int (Int32.ofNat o)), .val (.int (Int32.ofNat len)), .val .null, .val (.ref s.heap.size)] [.ref s.heap.size, .ref a])) := (c12.trans (st13 _ (Steps.refl _))).trans (by
    refine XS.aloadN X13.here hexec rfl (hb hbytes d51) rfl rfl ?_
    refine XS.aload X13.here hexec rfl (hb hbytes d52) rfl rfl ?_
    exact Steps.refl _)
  obtain ⟨T15, X15, p15, bl15, sl15, st15⟩ := X13.finit hexec hown (wk W (.fieldLink "java/lang/String" 9 "java/lang/String" "value" "[B")) (Or.inr ⟨_, (wk W (.laysFinal "java/lang/String" "java/lang/String" "value" "[B"))⟩) (Or.inl ⟨rfl, hnm⟩) f1 (Or.inl rfl) bl13 (t := (.array .byte)) (by decide +kernel) rfl (g := (mkF m 54 #[.val (.ref a), .val (.ref b), .val (.int (Int32.ofNat o)), .val (.int (Int32.ofNat len)), .val .null, .val (.ref s.heap.size)] [.ref s.heap.size, .ref a])) rfl (rest := []) rfl (hb hbytes d54)
  have c16 : Steps p.tables e below (s₁.setTop (entryFrame m #[.ref a, .ref b, .int (Int32.ofNat o), .int (Int32.ofNat len), .null] 6)) (T15.setTop (mkF m 57 #[.val (.ref a), .val (.ref b), .val (.int (Int32.ofNat o)), .val (.int (Int32.ofNat len)), .val .null, .val (.ref s.heap.size)] [])) := c14.trans (st15 _ (Steps.refl _))
  have ap := apart (Or.inr ⟨_, (wk W (.laysFinal "java/lang/String" "java/lang/String" "value" "[B"))⟩) (Or.inr ⟨_, (wk W (.laysFinal "java/lang/String" "java/lang/String" "coder" "B"))⟩) f1 f2 (t₁ := .array .byte) (t₂ := .byte) (by decide +kernel) (by decide +kernel) (by decide)
  have al := X8.warmed.alike.symm.trans X15.warmed.alike
  have n7 : T11.heap[s.heap.size]? = some N := by rw [q11]; exact n1.1
  exact ⟨T15, none, _, _, _, X15, by simp, rfl, by omega, (fun _ => rfl), ⟨rfl, _, N, bl15, ((Same.refl D _).set _ (by simp)).set _ (by simp), sl15, (Cell.slots_setSlot_ne _ ap).trans sl13, n1.keep al (p15.other hne (p13.other hne n7)), n2, by rw [al.findClass]; exact n3, n4, n5, fun y c h1 h2 => p15.other h1 (p13.other h1 (by rw [q11]; exact n6 y c h2)), by rw [p15.2.2, p13.2.2, q11]; exact z8⟩, fun fs hl => c16.trans (X15.returnOut hexec hret (hb hbytes d57) hl)⟩
end New4
namespace New1
def yN : MethodName := ⟨"java/lang/String", "<init>", "([C)V"⟩
abbrev yB : ByteArray := jdk_42_method_3_code
theorem d0 : decode yB 0 = .ok (.aload_n 0, 1) := by decide +kernel
theorem d1 : decode yB 1 = .ok (.aload_n 1, 1) := by decide +kernel
theorem d2 : decode yB 2 = .ok (.iconst 0, 1) := by decide +kernel
theorem d3 : decode yB 3 = .ok (.aload_n 1, 1) := by decide +kernel
theorem d4 : decode yB 4 = .ok (.arraylength, 1) := by decide +kernel
theorem d5 : decode yB 5 = .ok (.aconst_null, 1) := by decide +kernel
theorem d6 : decode yB 6 = .ok (.invokespecial 27, 3) := by decide +kernel
theorem d9 : decode yB 9 = .ok (.return_, 1) := by decide +kernel
def site : List Cond := [New4.tab] ++ initW "java/lang/String" 27 New4.yN
def tab : Cond := tabOf yN yB 2 none site
def P (a : Addr) (D : Cell) (fV fC : Field) (b : Addr) (A : Cell) (z : Int32) (args : Array Value) (s : State) : Prop := args = #[.ref a, .ref b] ∧ Blank "java/lang/String" a D s ∧ Found "java/lang/String" "value" "[B" fV s ∧ Found "java/lang/String" "coder" "B" fC s ∧ Ch b A s ∧ StaticIs s "java/lang/String" "COMPACT_STRINGS" "Z" (.int z) ∧ ¬ z = 0 ∧ 0 < A.slots.size ∧ A.slots.size ≤ 536870912 ∧ ∀ i, i < A.slots.size → ¬ 255 < cv A i
def E (a : Addr) (D : Cell) (fV fC : Field) (A : Cell) (r : Option Value) (s u : State) : Prop := Got a D fV fC A 0 A.slots.size r s u
/-- new String(chars), not empty, no char above 255: a Latin-1 String of their low bytes -/
theorem law (l : Launch) (a : Addr) (D : Cell) (fV fC : Field) (b : Addr) (A : Cell) (z : Int32) : Law l yN 2 1 3 52 yB 2 none site (P a D fV fC b A z) (E a D fV fC A) [⟨a, fC.slot⟩, ⟨a, fV.slot⟩] 1 A.slots.size := by
  refine Law.of_walk (plainFor_of_name (by decide +kernel)) (by decide +kernel) (by decide +kernel) (by decide) (fun _ _ h => by rw [h.1]; rfl) (fun _ U U' hal hh h => ⟨h.1, h.2.1.mv hal hh, h.2.2.1.al hal, h.2.2.2.1.al hal, h.2.2.2.2.1.mv hal hh, h.2.2.2.2.2.1.there hal hh, h.2.2.2.2.2.2⟩) (fun r U U' V V' h1 hal h2 h => Got.mv r U U' V V' h1 hal h2 h) ?_
  intro p e s m args below meth c s₁ X0 hexec hbytes hml hret hlk hnm hown hh0 W hP
  obtain ⟨rfl, hB, f1, f2, hA, s1, hz, l0, l2, hp⟩ := hP
  have c1 : Steps p.tables e below (s₁.setTop (entryFrame m #[.ref a, .ref b] 2)) (s₁.setTop (mkF m 0 #[.val (.ref a), .val (.ref b)] [])) := entry rfl
  have c2 : Steps p.tables e below (s₁.setTop (entryFrame m #[.ref a, .ref b] 2)) (s₁.setTop (mkF m 6 #[.val (.ref a), .val (.ref b)] [.null, .int (Int32.ofNat A.slots.size), .int 0, .ref b, .ref a])) := c1.trans (by
    refine XS.aloadN X0.here hexec rfl (hb hbytes d0) rfl rfl ?_
    refine XS.aloadN X0.here hexec rfl (hb hbytes d1) rfl rfl ?_
    refine iconstV X0.here hexec rfl 0 (hb hbytes d2) (by decide) ?_
    refine XS.aloadN X0.here hexec rfl (hb hbytes d3) rfl rfl ?_
    refine X0.alen hexec (hA.1.mv X0.warmed.alike hh0) rfl rfl (hb hbytes d4) ?_
    refine XS.aconstNull X0.here hexec rfl (hb hbytes d5) ?_
    exact Steps.refl _)
  obtain ⟨v3, T3, X3, E3, g3⟩ := X0.callN hexec (New4.law l a D fV fC b A z 0 A.slots.size) rfl hown (wks W (initW "java/lang/String" 27 New4.yN)) (W New4.tab (by simp only [site, List.mem_cons, List.mem_append, true_or, or_true])) (W := 0) (Nat.le_of_ble_eq_true rfl) (Nat.le_of_ble_eq_true rfl) (Nat.le_refl _) (by show 0 + A.slots.size ≤ A.slots.size; omega) (g := (mkF m 6 #[.val (.ref a), .val (.ref b)] [.null, .int (Int32.ofNat A.slots.size), .int (Int32.ofNat 0), .ref b, .ref a])) rfl (by rw [hml]; rfl) c2 (argsL := [.ref b, .int (Int32.ofNat 0), .int (Int32.ofNat A.slots.size), .null]) (rest := []) rfl rfl (by show 2 * 0 + 0 ≤ _; decide) (hb hbytes d6) (⟨rfl, hB.mv X0.warmed.alike hh0, f1.al X0.warmed.alike, f2.al X0.warmed.alike, hA.mv X0.warmed.alike hh0, s1.there X0.warmed.alike hh0, hz, l0, by omega, l2, fun i hi => by rw [Nat.zero_add]; exact hp i hi⟩)
  have e0 := Got.mv _ s₁ s _ _ hh0.symm (Vm.Alike.refl _) rfl E3
  obtain rfl := e0.1
  have c4 : Steps p.tables e below (s₁.setTop (entryFrame m #[.ref a, .ref b] 2)) (T3.setTop (mkF m 9 #[.val (.ref a), .val (.ref b)] [])) := g3
  exact ⟨T3, none, _, _, _, X3, by simp, rfl, by omega, (fun _ => rfl), e0, fun fs hl => c4.trans (X3.returnOut hexec hret (hb hbytes d9) hl)⟩
theorem pays {l : Launch} {R : Room} {p : Program} {e : Env} {below : List Frame} {s : State} {sargs : Array Value} {len W : Nat} (a : Addr) (D : Cell) (fV fC : Field) (b : Addr) (A : Cell) (z : Int32) (htab : tab.before sargs s = true) (hfr : 4 ≤ R.frames) (hlo : W + 65 ≤ R.locals) :
    Back l R p e below s sargs yN len W (fun A₁ a₁ => A₁.cells + 1 ≤ R.cells ∧ A₁.slots + A.slots.size ≤ R.slots ∧ P a D fV fC b A z a₁ A₁.U) (fun A₁ _ v₁ B₁ => E a D fV fC A v₁ A₁.U B₁.U ∧ B₁.locs = A₁.locs ++ [⟨a, fC.slot⟩, ⟨a, fV.slot⟩] ∧ B₁.cells = A₁.cells + 1 ∧ B₁.slots = A₁.slots + A.slots.size) :=
  (law l a D fV fC b A z).pays htab hfr (by omega)
end New1
end StrChars
namespace StrChars.Road
open Jvm Sem ClassFile Op Lib Jvm.Stand Jvm.Free Jvm.Free.XT
open Jvm.Lib.Cold (StaticIs)
abbrev ST : String := "java/lang/String"
/-- every table word that New1's law asks, flat -/
abbrev words : List Jvm.Cond := [.code New1.yN New1.yB 2 none, .initialized ST, .methodLink ST 27 New4.yN, .instanceMethod New4.yN,
  .code New4.yN New4.yB 6 none, .fieldLink ST 38 ST "COMPACT_STRINGS" "Z", .laysFinal ST ST "value" "[B", .fieldLink ST 9 ST "value" "[B", .laysFinal ST ST "coder" "B", .fieldLink ST 15 ST "coder" "B",
  .methodLink ST 1 Lib.objectInit, .instanceMethod Lib.objectInit, .code Lib.objectInit ⟨#[0xb1]⟩ 1 none, .methodLink ST 177 Cmp3.yN, .static Cmp3.yN, .methodLink ST 47 CodL.yN, .static CodL.yN,
  .code Cmp3.yN Cmp3.yB 6 (some (.array .byte)), .initialized U16, .arrayClass .byte, .methodLink U16 115 Cmp5.yN, .static Cmp5.yN, .code Cmp5.yN Cmp5.yB 7 (some .int), .code CodL.yN CodL.yB 2 (some .byte)]
theorem tab_of {a : Array Value} {s : State} (h : ∀ w ∈ words, w.before a s = true) : New1.tab.before a s = true := by
  have h5 : Cmp5.tab.before a s = true := unparts (wk h (.code Cmp5.yN Cmp5.yB 7 (some .int))) (wks h (.initialized Cmp5.yN.cls :: Cmp5.site))
  have hc : CodL.tab.before a s = true := unparts (wk h (.code CodL.yN CodL.yB 2 (some .byte))) (wks h (.initialized CodL.yN.cls :: CodL.site))
  have q5 : ∀ w ∈ Cmp5.tab :: words, w.before a s = true := fun w hw => (List.mem_cons.mp hw).elim (fun e => e ▸ h5) (h w)
  have h3 : Cmp3.tab.before a s = true := unparts (wk q5 (.code Cmp3.yN Cmp3.yB 6 (some (.array .byte)))) (wks q5 (.initialized Cmp3.yN.cls :: Cmp3.site))
  have q3 : ∀ w ∈ Cmp3.tab :: CodL.tab :: words, w.before a s = true := fun w hw => (List.mem_cons.mp hw).elim (fun e => e ▸ h3) fun hw => (List.mem_cons.mp hw).elim (fun e => e ▸ hc) (h w)
  have h4 : New4.tab.before a s = true := unparts (wk q3 (.code New4.yN New4.yB 6 none)) (wks q3 (.initialized New4.yN.cls :: New4.site))
  have q4 : ∀ w ∈ New4.tab :: words, w.before a s = true := fun w hw => (List.mem_cons.mp hw).elim (fun e => e ▸ h4) (h w)
  exact unparts (wk q4 (.code New1.yN New1.yB 2 none)) (wks q4 (.initialized New1.yN.cls :: New1.site))
/-- the words ride from the start Z to the walk's own state -/
theorem moved {Z s : State} {a0 args : Array Value} (hZ : Z.Warmed39 s.vm) (hw : ∀ d ∈ words, d.before a0 Z = true) : ∀ d ∈ words, d.before args s = true := fun d hd => by
  have q := hw d hd
  have t : ∀ d ∈ words, d = .arrayClass .byte ∨ (d.onTables && d.keepsFace) = true := by decide +kernel
  rcases t d hd with rfl | t
  · exact RoadKit.mvA hZ q
  · exact RoadKit.mv hZ q t
/-- WHAT COMES BACK, over the tables of the start Z: h the heap at the call, h' behind it -/
def Q (Z : State) (x : Addr) (A : Cell) (h : Heap) (v : Option Value) (h' : Heap) (L : List Loc) : Prop := v = none ∧ (∀ y ∈ L, y.base = x) ∧ RoadKit.Keep h h' [x] ∧ h'.size = h.size + 1 ∧ RoadKit.Exa Z h' x ST ∧ RoadKit.Fld Z h' x ST "value" "[B" (.ref h.size) ∧ RoadKit.Fld Z h' x ST "coder" "B" (.int 0) ∧
  (∃ V : Cell, RoadKit.Arr Z h' h.size V .byte ∧ V.vm = .none ∧ Z.vm.findClass "[B" = some V.cls ∧ V.slots.size = A.slots.size ∧ ∀ j, j < A.slots.size → V.slots[j]? = some (.int (lo8 (cv A j)))) ∧
  ∀ (O n d : String) (w : Value), RoadKit.Fld Z h x O n d w → RoadKit.slotOf Z O n d ≠ RoadKit.slotOf Z ST "value" "[B" → RoadKit.slotOf Z O n d ≠ RoadKit.slotOf Z ST "coder" "B" → RoadKit.Fld Z h' x O n d w
/-- **new String(chars) AT A CALL, IN THE ROAD'S FORM**: for specialBack behind newO: x the fresh String, b the char[] with the cell A -/
theorem back {p : Program} {l : Launch} {e : Env} {R : Room} {s : State} {args : Array Value} {below : List Frame} {len W : Nat} {Z : State} {a0 : Array Value} {h : Heap} (hZ : Z.Warmed39 s.vm) (hw : ∀ d ∈ words, d.before a0 Z = true) {kI : Nat} (wi : (Jvm.Cond.instantiable ST kI).before a0 Z = true)
    {x b : Addr} {A : Cell} {z : Int32} {v0 c0 : Value} (E : RoadKit.Exa Z h x ST) (V : RoadKit.Fld Z h x ST "value" "[B" v0) (C : RoadKit.Fld Z h x ST "coder" "B" c0) (K : RoadKit.Arr Z h b A .char) (hty : Typed .char A) (S : RoadKit.Sta Z h ST "COMPACT_STRINGS" "Z" (.int z)) (hz : ¬ z = 0)
    (l0 : 0 < A.slots.size) (l2 : A.slots.size ≤ 536870912) (hp : ∀ i, i < A.slots.size → ¬ 255 < cv A i) (hfr : 4 ≤ R.frames) (hlo : W + 65 ≤ R.locals) :
    Back l R p e below s args New1.yN len W (fun P a => a = #[.ref x, .ref b] ∧ P.U.heap = h ∧ P.cells + 1 ≤ R.cells ∧ P.slots + A.slots.size ≤ R.slots)
      (fun P _ v B => ∃ L, Q Z x A h v B.U.heap L ∧ B.locs = P.locs ++ L ∧ B.cells = P.cells + 1 ∧ B.slots = P.slots + A.slots.size) := by
  intro m meth c P g ig mk a X hg hsize hdg hW hn hp'
  obtain ⟨rfl, rfl, r1, r2⟩ := hp'
  have al : Z.vm.Alike P.U.vm := hZ.alike.trans X.warmed.alike
  obtain ⟨D, cfV, kV, iV, fV, hD, gV, stV, knV, obV, asV, slV⟩ := id V
  obtain ⟨D', cfC, kC, iC, fC, hD', gC, stC, -, -, asC, slC⟩ := id C
  cases hD.symm.trans hD'
  obtain ⟨D2, kD, e1, e2, e3, e4, e5⟩ := id E
  cases hD.symm.trans e1
  obtain ⟨c2, k2, i1, i2, i3, -⟩ := Cond.instantiable_spec wi
  cases e2.symm.trans i1
  cases e3.symm.trans i2
  obtain ⟨kU, u1, u2⟩ := al.2.2 _ _ e3
  have hB : Blank ST x D P.U := ⟨hD, ⟨knV, fun q hq => by rw [hq] at obV; cases obV⟩, by rw [al.findClass]; exact e2, kU, u1, by rw [u2]; exact i3, by rw [u2]; exact e5 i3⟩
  have F1 : Found ST "value" "[B" fV P.U := ⟨SBG.found_only al ⟨cfV, kV, iV, gV⟩, stV⟩
  have F2 : Found ST "coder" "B" fC P.U := ⟨SBG.found_only al ⟨cfC, kC, iC, gC⟩, stC⟩
  have hA : Ch b A P.U := ⟨⟨K.1, State.isArrayOf_alike al K.2.1, K.2.2, by omega⟩, hty⟩
  have hS : StaticIs P.U ST "COMPACT_STRINGS" "Z" (.int z) := by
    obtain ⟨cfS, iS, kS, fS, st, cS, t1, t2, t3, t4, t5, t6, t7⟩ := S
    exact StaticIs.there (s := { Z with heap := P.U.heap }) ⟨cfS, iS, kS, fS, st, cS, t1, t2, t3, t4, t5, (fun q => by rw [q] at t6; cases t6), t7⟩ al rfl
  obtain ⟨v, B, X', ⟨⟨hv, E', V', q1, q2, q3, q4, q5, q6, q7, q8, q9, q10, q11⟩, hl, hc, hs⟩, st⟩ := New1.pays x D fV fC b A z (tab_of (moved hZ hw)) hfr hlo m meth c P g ig mk _ X hg hsize hdg hW hn ⟨r1, r2, rfl, hB, F1, F2, hA, hS, hz, l0, l2, hp⟩
  have al' : Z.vm.Alike B.U.vm := hZ.alike.trans X'.warmed.alike
  have hsz : E'.slots.size = D.slots.size := by
    obtain ⟨-, -, -, kB, w1, w2, w3⟩ := q1
    obtain ⟨kB', y1, y2⟩ := al'.2.2 _ _ e3
    rw [q2.2.1] at w1
    cases w1.symm.trans y1
    rw [w3, e5 i3, y2]
  refine ⟨v, B, X', ⟨_, ⟨hv, ?_, ⟨by omega, fun y cy hy hn' => q10 y cy (by simpa using hn') hy, fun y cy hy => ?_⟩, q11, ⟨E', _, q1.1, by rw [q2.2.1]; exact e2, by rw [q2.2.1]; exact e3, by rw [q2.1]; exact obV, fun _ => by rw [hsz]; exact e5 i3⟩,
    ⟨E', cfV, kV, iV, fV, q1.1, gV, stV, by rw [q2.1]; exact knV, by rw [q2.1]; exact obV, by rw [q2.2.1]; exact asV, q3⟩, ⟨E', cfC, kC, iC, fC, q1.1, gC, stC, by rw [q2.1]; exact knV, by rw [q2.1]; exact obV, by rw [q2.2.1]; exact asC, q4⟩,
    ⟨V', ⟨q5.1, State.isArrayOf_alike al'.symm q5.2.1, q5.2.2.1⟩, q6, by rw [← al'.findClass]; exact q7, q8, fun j hj => by have := q9 j hj; rwa [Nat.zero_add] at this⟩, fun O n d w F n1 n2 => ?_⟩, hl, hc, hs⟩, st⟩
  · intro y hy
    simp only [List.mem_cons, List.not_mem_nil, or_false] at hy
    rcases hy with rfl | rfl <;> rfl
  · by_cases q : y = x
    · subst q
      cases hD.symm.trans hy
      exact ⟨E', q1.1, q2.2.1, q2.1, hsz⟩
    · exact ⟨cy, q10 y cy q hy, rfl, rfl, rfl⟩
  · obtain ⟨D3, cf, k, i, f, g1, g2, g3, g4, g5, g6, g7⟩ := F
    cases hD.symm.trans g1
    simp only [RoadKit.slotOf, g2, gV, gC, Option.map_some, Option.getD_some] at n1 n2
    exact ⟨E', cf, k, i, f, q1.1, g2, g3, by rw [q2.1]; exact g4, by rw [q2.1]; exact g5, by rw [q2.2.1]; exact g6, by rw [q2.2.2 f.slot (by simp [n1, n2])]; exact g7⟩
end StrChars.Road
namespace StrChars.Road
open Jvm Sem ClassFile Op Lib Jvm.Stand Jvm.Free Jvm.Free.XT
/-- WHAT COMES BACK, the byte[] as a list of values -/
def QA (Z : State) (x : Addr) (zn : Int32) (cs : List Int32) (h : Heap) (v : Option Value) (h' : Heap) (L : List Loc) : Prop := v = none ∧ (∀ y ∈ L, y.base = x) ∧ RoadKit.Keep h h' [x] ∧ h'.size = h.size + 1 ∧ RoadKit.Exa Z h' x ST ∧ RoadKit.Fld Z h' x ST "value" "[B" (.ref h.size) ∧ RoadKit.Fld Z h' x ST "coder" "B" (.int 0) ∧
  (∃ kb, Z.vm.findClass "[B" = some kb ∧ RoadKit.Arv Z h' h.size kb .byte zn (cs.map fun c => .int (lo8 c)) (.int 0)) ∧
  ∀ (O n d : String) (w : Value), RoadKit.Fld Z h x O n d w → RoadKit.slotOf Z O n d ≠ RoadKit.slotOf Z ST "value" "[B" → RoadKit.slotOf Z O n d ≠ RoadKit.slotOf Z ST "coder" "B" → RoadKit.Fld Z h' x O n d w
/-- **new String(chars) AT A CALL, THE ARRAYS AS LISTS**: the char[] at b holds cs, not empty, no char above 255 -/
theorem backArv {p : Program} {l : Launch} {e : Env} {R : Room} {s : State} {args : Array Value} {below : List Frame} {len W : Nat} {Z : State} {a0 : Array Value} {h : Heap} (hZ : Z.Warmed39 s.vm) (hw : ∀ d ∈ words, d.before a0 Z = true) {kI : Nat} (wi : (Jvm.Cond.instantiable ST kI).before a0 Z = true)
    {x b : Addr} {k : ClassId} {zn z : Int32} {cs : List Int32} {dv v0 c0 : Value} (E : RoadKit.Exa Z h x ST) (V : RoadKit.Fld Z h x ST "value" "[B" v0) (C : RoadKit.Fld Z h x ST "coder" "B" c0) (K : RoadKit.Arv Z h b k .char zn (cs.map Value.int) dv) (S : RoadKit.Sta Z h ST "COMPACT_STRINGS" "Z" (.int z)) (hz : ¬ z = 0)
    (hlen : zn.toNatClampNeg = cs.length) (h0 : 0 < cs.length) (hbig : cs.length ≤ 536870912) (hall : ∀ c ∈ cs, ¬ 255 < c) (hfr : 4 ≤ R.frames) (hlo : W + 65 ≤ R.locals) :
    Back l R p e below s args New1.yN len W (fun P a => a = #[.ref x, .ref b] ∧ P.U.heap = h ∧ P.cells + 1 ≤ R.cells ∧ P.slots + cs.length ≤ R.slots)
      (fun P _ v B => ∃ L, QA Z x zn cs h v B.U.heap L ∧ B.locs = P.locs ++ L ∧ B.cells = P.cells + 1 ∧ B.slots = P.slots + cs.length) := by
  obtain ⟨A, K1, K2, K3, K4, K5, K6⟩ := K
  have e : A.slots.size = cs.length := K3.trans hlen
  have hat : ∀ (i : Nat) (hi : i < cs.length), A.slots[i]? = some (.int cs[i]) := fun i hi => by rw [K5 i (by omega)]; simp [List.getD_eq_getElem?_getD, hi]
  have hcv : ∀ (i : Nat) (hi : i < cs.length), cv A i = cs[i] := fun i hi => by unfold cv; rw [hat i hi]
  have hty : Typed .char A := fun i v hv => by
    have hi : i < A.slots.size := (Array.getElem?_eq_some_iff.mp hv).1
    have q := K5 i hi
    rw [hv] at q
    rw [Option.some.inj q]
    exact K6 i hi
  refine Back.mono (back hZ hw wi E V C K1 hty S hz (by omega) (by omega) (fun i hi => by rw [hcv i (by omega)]; exact hall _ (List.getElem_mem _)) hfr hlo) (fun P a hp => ⟨hp.1, hp.2.1, hp.2.2.1, by rw [e]; exact hp.2.2.2⟩) (fun P a v B hp hq => ?_)
  obtain ⟨L, ⟨q1, q2, q3, q4, q5, q6, q7, ⟨V', v1, v2, v3, v4, v5⟩, q9⟩, hl, hc, hs⟩ := hq
  refine ⟨L, ⟨q1, q2, q3, q4, q5, q6, q7, ⟨V'.cls, v3, V', v1, rfl, by rw [v4, e, hlen], K4, fun i hi => ?_, fun i hi => ?_⟩, q9⟩, hl, hc, by rw [hs, e]⟩
  · have hi' : i < cs.length := by omega
    rw [v5 i (by omega), hcv i hi']; simp [List.getD_eq_getElem?_getD, hi']
  · have hi' : i < cs.length := by omega
    simp only [List.getD_eq_getElem?_getD, List.getElem?_map, List.getElem?_eq_getElem hi', Option.map_some, Option.getD_some]
    exact fits_lo8 _
end StrChars.Road
namespace StrChars.Road
open Jvm Sem ClassFile Op Lib Jvm.Stand Jvm.Free Jvm.Free.XT
/-- WHAT COMES BACK, in the writer's own shape -/
def QV (Z : State) (x : Addr) (N : Int32) (bs : List Int32) (h : Heap) (n0 : Nat) (v : Option Value) (h' : Heap) (L : List Loc) : Prop := v = none ∧ RoadKit.Fr n0 L ∧ RoadKit.Keep h h' [x] ∧ RoadKit.Exa Z h' x ST ∧ RoadKit.Fld Z h' x ST "coder" "B" (.int 0) ∧
  ∃ (t : Addr) (kb : ClassId), n0 ≤ t ∧ h.size ≤ t ∧ ¬ t = x ∧ RoadKit.Fld Z h' x ST "value" "[B" (.ref t) ∧ RoadKit.Arv Z h' t kb .byte N (bs.map Value.int) (.int 0)
/-- **new String(chars) AT A CALL, FOR THE WRITER**: a char[] of n known ints, each 0 to 255 -/
theorem backV {p : Program} {l : Launch} {e : Env} {R : Room} {s : State} {args : Array Value} {below : List Frame} {len W : Nat} {Z : State} {a0 : Array Value} {h : Heap} (hZ : Z.Warmed39 s.vm) (hw : ∀ d ∈ words, d.before a0 Z = true) {kI : Nat} (wi : (Jvm.Cond.instantiable ST kI).before a0 Z = true)
    {x b : Addr} {kC : ClassId} {cs bs : List Int32} {d v0 c0 : Value} {z N : Int32} {n n0 : Nat} (hx0 : n0 ≤ x) (hh0 : n0 ≤ h.size) (E : RoadKit.Exa Z h x ST) (V : RoadKit.Fld Z h x ST "value" "[B" v0) (C : RoadKit.Fld Z h x ST "coder" "B" c0) (K : RoadKit.Arv Z h b kC .char N (cs.map Value.int) d) (S : RoadKit.Sta Z h ST "COMPACT_STRINGS" "Z" (.int z)) (hz : ¬ z = 0)
    (hn : cs.length = n) (hN : N = Int32.ofNat n) (l0 : 0 < n) (l2 : n ≤ 4000) (hp : ∀ c ∈ cs, ¬ c < 0 ∧ ¬ (255 : Int32) < c) (hb : bs = cs.map (fun c => c.toInt8.toInt32)) (hfr : 4 ≤ R.frames) (hlo : W + 65 ≤ R.locals) :
    Back l R p e below s args (⟨"java/lang/String", "<init>", "([C)V"⟩ : MethodName) len W (fun P a => a = #[.ref x, .ref b] ∧ P.U.heap = h ∧ P.cells + 1 ≤ R.cells ∧ P.slots + n ≤ R.slots)
      (fun P _ v B => ∃ L, QV Z x N bs h n0 v B.U.heap L ∧ B.locs = P.locs ++ L ∧ B.cells = P.cells + 1 ∧ B.slots = P.slots + n) := by
  subst hn hN hb
  refine Back.mono (backArv hZ hw wi E V C K S hz (n32 (by omega)) l0 (by omega) (fun c hc => (hp c hc).2) hfr hlo) (fun P a hp => hp) (fun P a v B hp hq => ?_)
  obtain ⟨L, ⟨q1, q2, q3, q4, q5, q6, q7, ⟨kb, v1, v2⟩, q9⟩, hl, hc, hs⟩ := hq
  exact ⟨L, ⟨q1, fun y hy => by rw [q2 y hy]; exact hx0, q3, q5, q7, h.size, kb, hh0, Nat.le_refl _, Nat.ne_of_gt E.lt, q6, by rw [List.map_map]; exact v2⟩, hl, hc, hs⟩
end StrChars.Road
end Jvm.Pilot.@@N@@
namespace Jvm.Pilot.@@N@@
open Jvm Jvm.ClassFile Sem Op Lib Jvm.Free Jvm.Stand Jvm.LawKit Jvm.RoadKit Bundle Jvm.Pilot.@@N@@.Jvm.D
/-- two slots that hold nothing, or one double or long -/
def own_Two (s t : Slot) : Prop := (s = .unset ∧ t = .unset) ∨ (∃ d, s = .val (.double d) ∧ t = .second) ∨ ∃ d, s = .val (.long d) ∧ t = .second
theorem own_pad {p : Program} {l : Launch} {e : Env} {R : Room} {s : State} {m : MethodId} {args : Array Value} {below : List Frame} {meth : Method} {c : Code} {T : State} {locs : List Loc} {k n k' n' : Nat} (X : Stand p l e R s m args below meth c T locs k n) (hk : k ≤ k') (hn : n ≤ n') : Stand p l e R s m args below meth c T locs k' n' := { X with same := X.same.mono hk hn }
/-- the walk from S on comes to an end of which Q is true -/
def own_End (p : Program) (e : Env) (below : List Frame) (Q : Outcome → State → Prop) (S : State) : Prop := ∃ s₂ o, Steps p.tables e below S s₂ ∧ s₂.status = .running ∧ Ended s₂ below o ∧ Q o s₂
theorem own_go {p : Program} {e : Env} {below : List Frame} {Q : Outcome → State → Prop} {S S' : State} (h : ∀ t, Steps p.tables e below S' t → Steps p.tables e below S t) (k : own_End p e below Q S') : own_End p e below Q S := by
  obtain ⟨s₂, o, h1, h2⟩ := k
  exact ⟨s₂, o, h s₂ h1, h2⟩
/-- an array of z places, of which the j-th holds f j -/
def own_Ar (Z : State) (h : Heap) (a : Addr) (ty : FieldType) (z : Int32) (f : Nat → Value) : Prop := ∃ cl : Cell, Arr Z h a cl ty ∧ cl.slots.size = z.toNatClampNeg ∧ ¬ z < 0 ∧ ∀ j, j < z.toNatClampNeg → cl.slots[j]? = some (f j)
section OwnAr
variable {Z : State} {h h' : Heap} {a b : Addr} {ty : FieldType} {z : Int32} {f g : Nat → Value} {ws : List Addr} {sl : Nat} {v : Value}
theorem own_Ar.lt (F : own_Ar Z h a ty z f) : a < h.size := by obtain ⟨c, A, -⟩ := F; exact A.lt
theorem own_Ar.ext (F : own_Ar Z h a ty z f) (E : Ext h h') : own_Ar Z h' a ty z f := by obtain ⟨c, A, r⟩ := F; exact ⟨c, A.ext E, r⟩
theorem own_Ar.other (F : own_Ar Z h b ty z f) (W : Wr h h' a sl v) (q : b ≠ a) : own_Ar Z h' b ty z f := by obtain ⟨c, A, r⟩ := F; exact ⟨c, A.other W q, r⟩
theorem own_Ar.keep (F : own_Ar Z h a ty z f) (K : Keep h h' ws) (q : a ∉ ws) : own_Ar Z h' a ty z f := by obtain ⟨c, A, r⟩ := F; exact ⟨c, ⟨K.2.1 a c A.1 q, A.2⟩, r⟩
theorem own_Ar.turn (F : own_Ar Z h a ty z f) (q : ∀ j, j < z.toNatClampNeg → f j = g j) : own_Ar Z h a ty z g := by obtain ⟨c, A, r1, r2, r3⟩ := F; exact ⟨c, A, r1, r2, fun j hj => by rw [r3 j hj, q j hj]⟩
theorem own_Ar.new {k : ClassId} (A : Arr Z h a (newA k ty z) ty) (q : ¬ z < 0) : own_Ar Z h a ty z (fun _ => defaultValue ty) := ⟨_, A, sz_new _ _ _, q, fun j hj => by simp [newA, hj]⟩
theorem own_Ar_set {c : Cell} (A : Arr Z h a c ty) (S : c.slots.size = z.toNatClampNeg) (M : ¬ z < 0) (H : ∀ j, j < z.toNatClampNeg → c.slots[j]? = some (f j)) (W : Wr h h' a sl v) : own_Ar Z h' a ty z (fun j => if j = sl then v else f j) := by
  refine ⟨_, A.same W, (sz_set _ _ _).trans S, M, fun j hj => ?_⟩
  show (c.setSlot sl v).slots[j]? = some (if j = sl then v else f j)
  by_cases e : j = sl
  · subst e; simp [Cell.setSlot, S, hj]
  · have e' : ¬ sl = j := fun q => e q.symm
    simp [Cell.setSlot, e, e', Array.getElem?_setIfInBounds, H j hj]
theorem own_in {c : Cell} {z j : Int32} (S : c.slots.size = z.toNatClampNeg) (q : ¬ (j < 0 ∨ c.slots.size ≤ j.toNatClampNeg)) : j.toNatClampNeg < z.toNatClampNeg := by
  rw [← S]; exact Nat.lt_of_not_le fun y => q (Or.inr y)
/-- the same of an array of references, whose class is known -/
def own_Rr (Z : State) (h : Heap) (a : Addr) (C : String) (z : Int32) (f : Nat → Value) : Prop := ∃ cl : Cell, Arr Z h a cl (.object C) ∧ cl.slots.size = z.toNatClampNeg ∧ ¬ z < 0 ∧ (∀ j, j < z.toNatClampNeg → cl.slots[j]? = some (f j)) ∧ Ovr Z cl.cls C
variable {C : String}
theorem own_Rr.lt (F : own_Rr Z h a C z f) : a < h.size := by obtain ⟨c, A, -⟩ := F; exact A.lt
theorem own_Rr.ext (F : own_Rr Z h a C z f) (E : Ext h h') : own_Rr Z h' a C z f := by obtain ⟨c, A, r⟩ := F; exact ⟨c, A.ext E, r⟩
theorem own_Rr.other (F : own_Rr Z h b C z f) (W : Wr h h' a sl v) (q : b ≠ a) : own_Rr Z h' b C z f := by obtain ⟨c, A, r⟩ := F; exact ⟨c, A.other W q, r⟩
theorem own_Rr.keep (F : own_Rr Z h a C z f) (K : Keep h h' ws) (q : a ∉ ws) : own_Rr Z h' a C z f := by obtain ⟨c, A, r⟩ := F; exact ⟨c, ⟨K.2.1 a c A.1 q, A.2⟩, r⟩
theorem own_Rr.turn (F : own_Rr Z h a C z f) (q : ∀ j, j < z.toNatClampNeg → f j = g j) : own_Rr Z h a C z g := by obtain ⟨c, A, r1, r2, r3, r4⟩ := F; exact ⟨c, A, r1, r2, fun j hj => by rw [r3 j hj, q j hj], r4⟩
theorem own_Rr.new {k : ClassId} (A : Arr Z h a (newA k (.object C) z) (.object C)) (O : Ovr Z k C) (q : ¬ z < 0) : own_Rr Z h a C z (fun _ => .null) := ⟨_, A, sz_new _ _ _, q, fun j hj => by simp [newA, hj, defaultValue], O⟩
theorem own_Rr_set {c : Cell} (A : Arr Z h a c (.object C)) (S : c.slots.size = z.toNatClampNeg) (M : ¬ z < 0) (H : ∀ j, j < z.toNatClampNeg → c.slots[j]? = some (f j)) (O : Ovr Z c.cls C) (W : Wr h h' a sl v) : own_Rr Z h' a C z (fun j => if j = sl then v else f j) := by
  refine ⟨_, A.same W, (sz_set _ _ _).trans S, M, fun j hj => ?_, O⟩
  show (c.setSlot sl v).slots[j]? = some (if j = sl then v else f j)
  by_cases e : j = sl
  · subst e; simp [Cell.setSlot, S, hj]
  · have e' : ¬ sl = j := fun q => e q.symm
    simp [Cell.setSlot, e, e', Array.getElem?_setIfInBounds, H j hj]
end OwnAr
theorem own_small {n : Nat} (h : n < 2147483648) : n.toInt32.toInt = n := Int32.toInt_ofNat_small h
theorem own_clamp {i : Int32} {n : Nat} (h : i.toInt = n) : i.toNatClampNeg = n := by rw [← Int32.toNat_toInt, h]; rfl
theorem own_num {i : Int32} {n : Nat} (h : i.toInt = n) : n.toInt32 = i := by
  rw [← Int32.toInt_inj, own_small (by have := (rng32 i).2; omega), h]
theorem own_lt_of {i z : Int32} {n N : Nat} (h : i.toInt = n) (hz : z.toInt = N) : i < z ↔ n < N := by rw [Int32.lt_iff_toInt_lt, h, hz]; omega
theorem own_eq_of {i z : Int32} {n N : Nat} (h : i.toInt = n) (hz : z.toInt = N) : i = z ↔ n = N := by rw [← Int32.toInt_inj, h, hz]; omega
theorem own_nn {i : Int32} {n : Nat} (h : i.toInt = n) : ¬ i < 0 := by
  rw [Int32.lt_iff_toInt_lt]; have : (0 : Int32).toInt = 0 := by decide
  omega
theorem own_inc {i : Int32} {n : Nat} (h : i.toInt = n) (q : n < 2147483647) : (i + 1).toInt = ((n + 1 : Nat) : Int) := by
  have a := c_iadd i 1; have b := rng32 (i + 1); have : (1 : Int32).toInt = 1 := by decide
  omega
theorem own_Ar.of_arv {Z : State} {h : Heap} {a : Addr} {k : ClassId} {ty : FieldType} {z : Int32} {vs : List Value} {d : Value} (F : Arv Z h a k ty z vs d) : own_Ar Z h a ty z (fun j => vs.getD j d) := by
  obtain ⟨c, A, q, S, M, H, G⟩ := F
  exact ⟨c, A, S, M, fun j hj => H j (by rw [S]; exact hj)⟩
theorem own_Ar.arv {Z : State} {h : Heap} {a : Addr} {ty : FieldType} {z : Int32} {f : Nat → Value} {vs : List Value} {d : Value} (F : own_Ar Z h a ty z f) (q : ∀ j, j < z.toNatClampNeg → f j = vs.getD j d) (g : ∀ j, j < z.toNatClampNeg → fits ty (vs.getD j d) = true) : ∃ k, Arv Z h a k ty z vs d := by
  obtain ⟨c, A, S, M, H⟩ := F
  exact ⟨c.cls, c, A, rfl, S, M, fun j hj => by rw [H j (by rw [← S]; exact hj), q j (by rw [← S]; exact hj)], fun j hj => g j (by rw [← S]; exact hj)⟩
theorem own_chr {c : Int32} (h0 : ¬ c < 0) (h1 : ¬ (255 : Int32) < c) : nar .char ((c.toInt8.toInt32 &&& (255 : Int32)).toUInt32.toUInt16.toUInt32.toInt32) = c := by
  have t : ∀ k : Fin 256, nar .char (((Int32.ofNat k.val).toInt8.toInt32 &&& (255 : Int32)).toUInt32.toUInt16.toUInt32.toInt32) = Int32.ofNat k.val := by decide +kernel
  rw [Int32.lt_iff_toInt_lt] at h0 h1
  have e0 : (0 : Int32).toInt = 0 := by decide
  have e1 : (255 : Int32).toInt = 255 := by decide
  have e : c = Int32.ofNat c.toInt.toNat := by
    rw [← Int32.toInt_inj, show (Int32.ofNat c.toInt.toNat).toInt = ((c.toInt.toNat : Nat) : Int) from Int32.toInt_ofNat_small (by omega)]
    omega
  rw [e]
  exact t ⟨c.toInt.toNat, by omega⟩
/-- what charAt makes of a byte -/
def own_ch (b : Int32) : Int32 := nar .char ((b &&& (255 : Int32)).toUInt32.toUInt16.toUInt32.toInt32)
theorem own_ch_of {c : Int32} (h0 : ¬ c < 0) (h1 : ¬ (255 : Int32) < c) : own_ch c.toInt8.toInt32 = c := own_chr h0 h1
theorem own_sh0 (x : Int32) : x >>> ((0 : Int32) &&& 31) = x := by
  rw [show ((0 : Int32) &&& 31) = 0 by decide]; rw [← Int32.toInt_inj, show (0 : Int32) = (0 : Int32) &&& 31 by decide, c_ishr x 0 0 (by decide)]; simp
theorem own_narch (b : Int32) : nar .char (own_ch b) = own_ch b := by
  unfold own_ch
  simp only [nar, UInt32.toUInt32_toInt32, UInt16.toUInt16_toUInt32]
def own_seg (c : Int32) : Prop := (97 ≤ c.toInt ∧ c.toInt ≤ 122) ∨ (48 ≤ c.toInt ∧ c.toInt ≤ 57) ∨ c.toInt = 95
theorem own_seg_b {c : Int32} (h : own_seg c) : 0 ≤ c.toInt ∧ c.toInt ≤ 255 := by unfold own_seg at h; omega
def own_segc (x : Int32) : Int32 := if x % 37 < 26 then nar .char ((97 + x % 37).toUInt32.toUInt16.toUInt32.toInt32) else if x % 37 < 36 then nar .char ((48 + (x % 37 - 26)).toUInt32.toUInt16.toUInt32.toInt32) else 95
theorem own_segc_ok {x : Int32} (h0 : 0 ≤ x.toInt) (h1 : x.toInt ≤ 255) : own_seg (own_segc x) := by
  have t : ∀ k : Fin 256, (97 ≤ (own_segc (Int32.ofNat k.val)).toInt ∧ (own_segc (Int32.ofNat k.val)).toInt ≤ 122) ∨ (48 ≤ (own_segc (Int32.ofNat k.val)).toInt ∧ (own_segc (Int32.ofNat k.val)).toInt ≤ 57) ∨ (own_segc (Int32.ofNat k.val)).toInt = 95 := by decide +kernel
  have e : x = Int32.ofNat x.toInt.toNat := by
    rw [← Int32.toInt_inj, show (Int32.ofNat x.toInt.toNat).toInt = ((x.toInt.toNat : Nat) : Int) from Int32.toInt_ofNat_small (by omega)]
    omega
  rw [e]
  exact t ⟨x.toInt.toNat, by omega⟩
theorem own_l2i (y : Int64) : 0 ≤ ((y &&& (255 : Int64)).toInt32).toInt ∧ ((y &&& (255 : Int64)).toInt32).toInt ≤ 255 := by
  have a := c_maskL y (255 : Int64) 8 (by decide) (by decide)
  have b := c_l2i (y &&& (255 : Int64)); have r := rng32 (y &&& (255 : Int64)).toInt32
  omega
theorem own_narc {c : Int32} (h : own_seg c) : nar .char c = c := by
  have t : ∀ k : Fin 256, nar .char (Int32.ofNat k.val) = Int32.ofNat k.val := by decide +kernel
  have b := own_seg_b h
  have e : c = Int32.ofNat c.toInt.toNat := by
    rw [← Int32.toInt_inj, show (Int32.ofNat c.toInt.toNat).toInt = ((c.toInt.toNat : Nat) : Int) from Int32.toInt_ofNat_small (by omega)]
    omega
  rw [e]
  exact t ⟨c.toInt.toNat, by omega⟩
def own_valid (cs : Nat → Int32) (N : Nat) : Prop := 0 < N ∧ N ≤ 100 ∧ (∀ i, i < N → cs i = 46 ∨ own_seg (cs i)) ∧ (∀ i, i < N → cs i = 46 → 0 < i ∧ i + 1 < N ∧ ¬ cs (i + 1) = 46) ∧ ∃ i, i < N ∧ cs i = 46
theorem own_46 {c : Int32} (h : own_seg c) : ¬ c = 46 := by
  intro e; rw [e] at h; unfold own_seg at h; revert h; decide
/-- a char of the law: a dot or a segment's -/
def own_c (c : Int32) : Prop := c = 46 ∨ own_seg c
theorem own_c_b {c : Int32} (h : own_c c) : ¬ c < 0 ∧ ¬ (255 : Int32) < c := by
  have z0 : (0 : Int32).toInt = 0 := by decide
  have z1 : (255 : Int32).toInt = 255 := by decide
  rw [Int32.lt_iff_toInt_lt, Int32.lt_iff_toInt_lt, z0, z1]
  rcases h with rfl | h
  · decide
  · have := own_seg_b h; omega
theorem own_c_nar {c : Int32} (h : own_c c) : nar .char c = c := by
  rcases h with rfl | h
  · decide
  · exact own_narc h
theorem own_fit {c : Int32} (h : own_c c) : fits .char (.int c) = true := by
  have := fits_nar_char c
  rw [own_c_nar h] at this; exact this
theorem own_len (x : Int32) : ∃ z, z = (3 : Int32) + (x &&& (3 : Int32)) ∧ (z = 3 ∨ z = 4 ∨ z = 5 ∨ z = 6) := by
  refine ⟨_, rfl, ?_⟩
  have a := c_mask x (3 : Int32) 2 (by decide) (by decide)
  have b := c_iadd 3 (x &&& (3 : Int32)); have r := rng32 ((3 : Int32) + (x &&& (3 : Int32)))
  have t : (3 : Int32).toInt = 3 := by decide
  generalize (3 : Int32) + (x &&& (3 : Int32)) = z at b r ⊢
  have h : z.toInt = 3 ∨ z.toInt = 4 ∨ z.toInt = 5 ∨ z.toInt = 6 := by omega
  rcases h with h | h | h | h
  · exact Or.inl (Int32.toInt_inj.mp (by rw [h]; decide))
  · exact Or.inr (Or.inl (Int32.toInt_inj.mp (by rw [h]; decide)))
  · exact Or.inr (Or.inr (Or.inl (Int32.toInt_inj.mp (by rw [h]; decide))))
  · exact Or.inr (Or.inr (Or.inr (Int32.toInt_inj.mp (by rw [h]; decide))))
theorem own_one {d : Int32} {P : Prop} (h : d = 0 ∨ (d = 1 ∧ P)) (q : ¬ d = 0) : d = 1 := h.elim (fun e => absurd e q) (fun e => e.1)
theorem own_one1 {d : Int32} (h : d = 0 ∨ d = 1) (q : ¬ d = 0) : d = 1 := h.elim (fun e => absurd e q) (fun e => e)
theorem own_10 {d : Int32} (h : d = 1) (q : d = 0) : False := by rw [h] at q; exact absurd q (by decide)
theorem own_val3 {d1 d2 d3 d4 c0 c1 c2 c3 c4 c5 : Int32} (H1 : d1 = 0 ∨ d1 = 1) (H2 : d2 = 0 ∨ (d2 = 1 ∧ ¬ (3 : Int32) < 4 ∧ d1 = 0)) (H3 : d3 = 0 ∨ (d3 = 1 ∧ ¬ (3 : Int32) < 5 ∧ d2 = 0)) (H4 : d4 = 0 ∨ (d4 = 1 ∧ ¬ (3 : Int32) < 6 ∧ d3 = 0)) (HX : d1 = 1 ∨ d2 = 1 ∨ d3 = 1 ∨ d4 = 1) (K1 : (d1 = 1 ∧ c1 = 46) ∨ (d1 = 0 ∧ own_seg c1)) (K2 : (d2 = 1 ∧ c2 = 46) ∨ (d2 = 0 ∧ own_seg c2)) (K3 : (d3 = 1 ∧ c3 = 46) ∨ (d3 = 0 ∧ own_seg c3)) (K4 : (d4 = 1 ∧ c4 = 46) ∨ (d4 = 0 ∧ own_seg c4)) (S0 : own_seg c0) (S5 : own_seg c5) : own_valid (fun j => ([c0, c1, c2] : List Int32).getD j 0) 3 := by
  have D1 : c1 = 46 → d1 = 1 := fun e => K1.elim (fun q => q.1) (fun q => absurd e (own_46 q.2))
  have D2 : c2 = 46 → d2 = 1 := fun e => K2.elim (fun q => q.1) (fun q => absurd e (own_46 q.2))
  have D3 : c3 = 46 → d3 = 1 := fun e => K3.elim (fun q => q.1) (fun q => absurd e (own_46 q.2))
  have D4 : c4 = 46 → d4 = 1 := fun e => K4.elim (fun q => q.1) (fun q => absurd e (own_46 q.2))
  have E1 : d1 = 1 → c1 = 46 := fun e => K1.elim (fun q => q.2) (fun q => (own_10 e q.1).elim)
  have E2 : d2 = 1 → c2 = 46 := fun e => K2.elim (fun q => q.2) (fun q => (own_10 e q.1).elim)
  have E3 : d3 = 1 → c3 = 46 := fun e => K3.elim (fun q => q.2) (fun q => (own_10 e q.1).elim)
  have E4 : d4 = 1 → c4 = 46 := fun e => K4.elim (fun q => q.2) (fun q => (own_10 e q.1).elim)
  have A1 : c1 = 46 → ¬ c2 = 46 := fun e f => H2.elim (fun q => own_10 (D2 f) q) (fun q => own_10 (D1 e) q.2.2)
  have A2 : c2 = 46 → ¬ c3 = 46 := fun e f => H3.elim (fun q => own_10 (D3 f) q) (fun q => own_10 (D2 e) q.2.2)
  have A3 : c3 = 46 → ¬ c4 = 46 := fun e f => H4.elim (fun q => own_10 (D4 f) q) (fun q => own_10 (D3 e) q.2.2)
  have NL : ¬ c2 = 46 := fun f => H2.elim (fun q => own_10 (D2 f) q) (fun q => q.2.1 (by decide))
  refine ⟨by decide, by decide, fun i hi => ?_, fun i hi => ?_, ?_⟩
  · have hi2 : i = 0 ∨ i = 1 ∨ i = 2 := by omega
    rcases hi2 with rfl | rfl | rfl
    · exact Or.inr S0
    · exact K1.elim (fun q => Or.inl q.2) (fun q => Or.inr q.2)
    · exact K2.elim (fun q => Or.inl q.2) (fun q => Or.inr q.2)
  · have hi2 : i = 0 ∨ i = 1 ∨ i = 2 := by omega
    rcases hi2 with rfl | rfl | rfl
    · exact fun e => absurd e (own_46 S0)
    · exact fun e => ⟨by decide, by decide, NL⟩
    · exact fun e => absurd e NL
  · rcases HX with q | q | q | q
    · exact ⟨1, by decide, E1 q⟩
    · exact (H2.elim (fun r => own_10 q r) (fun r => r.2.1 (by decide))).elim
    · exact (H3.elim (fun r => own_10 q r) (fun r => r.2.1 (by decide))).elim
    · exact (H4.elim (fun r => own_10 q r) (fun r => r.2.1 (by decide))).elim
theorem own_val4 {d1 d2 d3 d4 c0 c1 c2 c3 c4 c5 : Int32} (H1 : d1 = 0 ∨ d1 = 1) (H2 : d2 = 0 ∨ (d2 = 1 ∧ ¬ (4 : Int32) < 4 ∧ d1 = 0)) (H3 : d3 = 0 ∨ (d3 = 1 ∧ ¬ (4 : Int32) < 5 ∧ d2 = 0)) (H4 : d4 = 0 ∨ (d4 = 1 ∧ ¬ (4 : Int32) < 6 ∧ d3 = 0)) (HX : d1 = 1 ∨ d2 = 1 ∨ d3 = 1 ∨ d4 = 1) (K1 : (d1 = 1 ∧ c1 = 46) ∨ (d1 = 0 ∧ own_seg c1)) (K2 : (d2 = 1 ∧ c2 = 46) ∨ (d2 = 0 ∧ own_seg c2)) (K3 : (d3 = 1 ∧ c3 = 46) ∨ (d3 = 0 ∧ own_seg c3)) (K4 : (d4 = 1 ∧ c4 = 46) ∨ (d4 = 0 ∧ own_seg c4)) (S0 : own_seg c0) (S5 : own_seg c5) : own_valid (fun j => ([c0, c1, c2, c3] : List Int32).getD j 0) 4 := by
  have D1 : c1 = 46 → d1 = 1 := fun e => K1.elim (fun q => q.1) (fun q => absurd e (own_46 q.2))
  have D2 : c2 = 46 → d2 = 1 := fun e => K2.elim (fun q => q.1) (fun q => absurd e (own_46 q.2))
  have D3 : c3 = 46 → d3 = 1 := fun e => K3.elim (fun q => q.1) (fun q => absurd e (own_46 q.2))
  have D4 : c4 = 46 → d4 = 1 := fun e => K4.elim (fun q => q.1) (fun q => absurd e (own_46 q.2))
  have E1 : d1 = 1 → c1 = 46 := fun e => K1.elim (fun q => q.2) (fun q => (own_10 e q.1).elim)
  have E2 : d2 = 1 → c2 = 46 := fun e => K2.elim (fun q => q.2) (fun q => (own_10 e q.1).elim)
  have E3 : d3 = 1 → c3 = 46 := fun e => K3.elim (fun q => q.2) (fun q => (own_10 e q.1).elim)
  have E4 : d4 = 1 → c4 = 46 := fun e => K4.elim (fun q => q.2) (fun q => (own_10 e q.1).elim)
  have A1 : c1 = 46 → ¬ c2 = 46 := fun e f => H2.elim (fun q => own_10 (D2 f) q) (fun q => own_10 (D1 e) q.2.2)
  have A2 : c2 = 46 → ¬ c3 = 46 := fun e f => H3.elim (fun q => own_10 (D3 f) q) (fun q => own_10 (D2 e) q.2.2)
  have A3 : c3 = 46 → ¬ c4 = 46 := fun e f => H4.elim (fun q => own_10 (D4 f) q) (fun q => own_10 (D3 e) q.2.2)
  have NL : ¬ c3 = 46 := fun f => H3.elim (fun q => own_10 (D3 f) q) (fun q => q.2.1 (by decide))
  refine ⟨by decide, by decide, fun i hi => ?_, fun i hi => ?_, ?_⟩
  · have hi2 : i = 0 ∨ i = 1 ∨ i = 2 ∨ i = 3 := by omega
    rcases hi2 with rfl | rfl | rfl | rfl
    · exact Or.inr S0
    · exact K1.elim (fun q => Or.inl q.2) (fun q => Or.inr q.2)
    · exact K2.elim (fun q => Or.inl q.2) (fun q => Or.inr q.2)
    · exact K3.elim (fun q => Or.inl q.2) (fun q => Or.inr q.2)
  · have hi2 : i = 0 ∨ i = 1 ∨ i = 2 ∨ i = 3 := by omega
    rcases hi2 with rfl | rfl | rfl | rfl
    · exact fun e => absurd e (own_46 S0)
    · exact fun e => ⟨by decide, by decide, A1 e⟩
    · exact fun e => ⟨by decide, by decide, NL⟩
    · exact fun e => absurd e NL
  · rcases HX with q | q | q | q
    · exact ⟨1, by decide, E1 q⟩
    · exact ⟨2, by decide, E2 q⟩
    · exact (H3.elim (fun r => own_10 q r) (fun r => r.2.1 (by decide))).elim
    · exact (H4.elim (fun r => own_10 q r) (fun r => r.2.1 (by decide))).elim
theorem own_val5 {d1 d2 d3 d4 c0 c1 c2 c3 c4 c5 : Int32} (H1 : d1 = 0 ∨ d1 = 1) (H2 : d2 = 0 ∨ (d2 = 1 ∧ ¬ (5 : Int32) < 4 ∧ d1 = 0)) (H3 : d3 = 0 ∨ (d3 = 1 ∧ ¬ (5 : Int32) < 5 ∧ d2 = 0)) (H4 : d4 = 0 ∨ (d4 = 1 ∧ ¬ (5 : Int32) < 6 ∧ d3 = 0)) (HX : d1 = 1 ∨ d2 = 1 ∨ d3 = 1 ∨ d4 = 1) (K1 : (d1 = 1 ∧ c1 = 46) ∨ (d1 = 0 ∧ own_seg c1)) (K2 : (d2 = 1 ∧ c2 = 46) ∨ (d2 = 0 ∧ own_seg c2)) (K3 : (d3 = 1 ∧ c3 = 46) ∨ (d3 = 0 ∧ own_seg c3)) (K4 : (d4 = 1 ∧ c4 = 46) ∨ (d4 = 0 ∧ own_seg c4)) (S0 : own_seg c0) (S5 : own_seg c5) : own_valid (fun j => ([c0, c1, c2, c3, c4] : List Int32).getD j 0) 5 := by
  have D1 : c1 = 46 → d1 = 1 := fun e => K1.elim (fun q => q.1) (fun q => absurd e (own_46 q.2))
  have D2 : c2 = 46 → d2 = 1 := fun e => K2.elim (fun q => q.1) (fun q => absurd e (own_46 q.2))
  have D3 : c3 = 46 → d3 = 1 := fun e => K3.elim (fun q => q.1) (fun q => absurd e (own_46 q.2))
  have D4 : c4 = 46 → d4 = 1 := fun e => K4.elim (fun q => q.1) (fun q => absurd e (own_46 q.2))
  have E1 : d1 = 1 → c1 = 46 := fun e => K1.elim (fun q => q.2) (fun q => (own_10 e q.1).elim)
  have E2 : d2 = 1 → c2 = 46 := fun e => K2.elim (fun q => q.2) (fun q => (own_10 e q.1).elim)
  have E3 : d3 = 1 → c3 = 46 := fun e => K3.elim (fun q => q.2) (fun q => (own_10 e q.1).elim)
  have E4 : d4 = 1 → c4 = 46 := fun e => K4.elim (fun q => q.2) (fun q => (own_10 e q.1).elim)
  have A1 : c1 = 46 → ¬ c2 = 46 := fun e f => H2.elim (fun q => own_10 (D2 f) q) (fun q => own_10 (D1 e) q.2.2)
  have A2 : c2 = 46 → ¬ c3 = 46 := fun e f => H3.elim (fun q => own_10 (D3 f) q) (fun q => own_10 (D2 e) q.2.2)
  have A3 : c3 = 46 → ¬ c4 = 46 := fun e f => H4.elim (fun q => own_10 (D4 f) q) (fun q => own_10 (D3 e) q.2.2)
  have NL : ¬ c4 = 46 := fun f => H4.elim (fun q => own_10 (D4 f) q) (fun q => q.2.1 (by decide))
  refine ⟨by decide, by decide, fun i hi => ?_, fun i hi => ?_, ?_⟩
  · have hi2 : i = 0 ∨ i = 1 ∨ i = 2 ∨ i = 3 ∨ i = 4 := by omega
    rcases hi2 with rfl | rfl | rfl | rfl | rfl
    · exact Or.inr S0
    · exact K1.elim (fun q => Or.inl q.2) (fun q => Or.inr q.2)
    · exact K2.elim (fun q => Or.inl q.2) (fun q => Or.inr q.2)
    · exact K3.elim (fun q => Or.inl q.2) (fun q => Or.inr q.2)
    · exact K4.elim (fun q => Or.inl q.2) (fun q => Or.inr q.2)
  · have hi2 : i = 0 ∨ i = 1 ∨ i = 2 ∨ i = 3 ∨ i = 4 := by omega
    rcases hi2 with rfl | rfl | rfl | rfl | rfl
    · exact fun e => absurd e (own_46 S0)
    · exact fun e => ⟨by decide, by decide, A1 e⟩
    · exact fun e => ⟨by decide, by decide, A2 e⟩
    · exact fun e => ⟨by decide, by decide, NL⟩
    · exact fun e => absurd e NL
  · rcases HX with q | q | q | q
    · exact ⟨1, by decide, E1 q⟩
    · exact ⟨2, by decide, E2 q⟩
    · exact ⟨3, by decide, E3 q⟩
    · exact (H4.elim (fun r => own_10 q r) (fun r => r.2.1 (by decide))).elim
theorem own_val6 {d1 d2 d3 d4 c0 c1 c2 c3 c4 c5 : Int32} (H1 : d1 = 0 ∨ d1 = 1) (H2 : d2 = 0 ∨ (d2 = 1 ∧ ¬ (6 : Int32) < 4 ∧ d1 = 0)) (H3 : d3 = 0 ∨ (d3 = 1 ∧ ¬ (6 : Int32) < 5 ∧ d2 = 0)) (H4 : d4 = 0 ∨ (d4 = 1 ∧ ¬ (6 : Int32) < 6 ∧ d3 = 0)) (HX : d1 = 1 ∨ d2 = 1 ∨ d3 = 1 ∨ d4 = 1) (K1 : (d1 = 1 ∧ c1 = 46) ∨ (d1 = 0 ∧ own_seg c1)) (K2 : (d2 = 1 ∧ c2 = 46) ∨ (d2 = 0 ∧ own_seg c2)) (K3 : (d3 = 1 ∧ c3 = 46) ∨ (d3 = 0 ∧ own_seg c3)) (K4 : (d4 = 1 ∧ c4 = 46) ∨ (d4 = 0 ∧ own_seg c4)) (S0 : own_seg c0) (S5 : own_seg c5) : own_valid (fun j => ([c0, c1, c2, c3, c4, c5] : List Int32).getD j 0) 6 := by
  have D1 : c1 = 46 → d1 = 1 := fun e => K1.elim (fun q => q.1) (fun q => absurd e (own_46 q.2))
  have D2 : c2 = 46 → d2 = 1 := fun e => K2.elim (fun q => q.1) (fun q => absurd e (own_46 q.2))
  have D3 : c3 = 46 → d3 = 1 := fun e => K3.elim (fun q => q.1) (fun q => absurd e (own_46 q.2))
  have D4 : c4 = 46 → d4 = 1 := fun e => K4.elim (fun q => q.1) (fun q => absurd e (own_46 q.2))
  have E1 : d1 = 1 → c1 = 46 := fun e => K1.elim (fun q => q.2) (fun q => (own_10 e q.1).elim)
  have E2 : d2 = 1 → c2 = 46 := fun e => K2.elim (fun q => q.2) (fun q => (own_10 e q.1).elim)
  have E3 : d3 = 1 → c3 = 46 := fun e => K3.elim (fun q => q.2) (fun q => (own_10 e q.1).elim)
  have E4 : d4 = 1 → c4 = 46 := fun e => K4.elim (fun q => q.2) (fun q => (own_10 e q.1).elim)
  have A1 : c1 = 46 → ¬ c2 = 46 := fun e f => H2.elim (fun q => own_10 (D2 f) q) (fun q => own_10 (D1 e) q.2.2)
  have A2 : c2 = 46 → ¬ c3 = 46 := fun e f => H3.elim (fun q => own_10 (D3 f) q) (fun q => own_10 (D2 e) q.2.2)
  have A3 : c3 = 46 → ¬ c4 = 46 := fun e f => H4.elim (fun q => own_10 (D4 f) q) (fun q => own_10 (D3 e) q.2.2)
  have NL : ¬ c5 = 46 := own_46 S5
  refine ⟨by decide, by decide, fun i hi => ?_, fun i hi => ?_, ?_⟩
  · have hi2 : i = 0 ∨ i = 1 ∨ i = 2 ∨ i = 3 ∨ i = 4 ∨ i = 5 := by omega
    rcases hi2 with rfl | rfl | rfl | rfl | rfl | rfl
    · exact Or.inr S0
    · exact K1.elim (fun q => Or.inl q.2) (fun q => Or.inr q.2)
    · exact K2.elim (fun q => Or.inl q.2) (fun q => Or.inr q.2)
    · exact K3.elim (fun q => Or.inl q.2) (fun q => Or.inr q.2)
    · exact K4.elim (fun q => Or.inl q.2) (fun q => Or.inr q.2)
    · exact Or.inr S5
  · have hi2 : i = 0 ∨ i = 1 ∨ i = 2 ∨ i = 3 ∨ i = 4 ∨ i = 5 := by omega
    rcases hi2 with rfl | rfl | rfl | rfl | rfl | rfl
    · exact fun e => absurd e (own_46 S0)
    · exact fun e => ⟨by decide, by decide, A1 e⟩
    · exact fun e => ⟨by decide, by decide, A2 e⟩
    · exact fun e => ⟨by decide, by decide, A3 e⟩
    · exact fun e => ⟨by decide, by decide, NL⟩
    · exact fun e => absurd e NL
  · rcases HX with q | q | q | q
    · exact ⟨1, by decide, E1 q⟩
    · exact ⟨2, by decide, E2 q⟩
    · exact ⟨3, by decide, E3 q⟩
    · exact ⟨4, by decide, E4 q⟩
theorem dsg_0 : decode method_2_code 0 = .ok (.iload_n 0, 1) := by decide +kernel
theorem dsg_1 : decode method_2_code 1 = .ok (.bipush 37, 2) := by decide +kernel
theorem dsg_3 : decode method_2_code 3 = .ok (.irem, 1) := by decide +kernel
theorem dsg_4 : decode method_2_code 4 = .ok (.istore_n 1, 1) := by decide +kernel
theorem dsg_5 : decode method_2_code 5 = .ok (.iload_n 1, 1) := by decide +kernel
theorem dsg_6 : decode method_2_code 6 = .ok (.bipush 26, 2) := by decide +kernel
theorem dsg_8 : decode method_2_code 8 = .ok (.if_icmp .ge 9, 3) := by decide +kernel
theorem dsg_11 : decode method_2_code 11 = .ok (.bipush 97, 2) := by decide +kernel
theorem dsg_13 : decode method_2_code 13 = .ok (.iload_n 1, 1) := by decide +kernel
theorem dsg_14 : decode method_2_code 14 = .ok (.iadd, 1) := by decide +kernel
theorem dsg_15 : decode method_2_code 15 = .ok (.i2c, 1) := by decide +kernel
theorem dsg_16 : decode method_2_code 16 = .ok (.ireturn, 1) := by decide +kernel
theorem dsg_17 : decode method_2_code 17 = .ok (.iload_n 1, 1) := by decide +kernel
theorem dsg_18 : decode method_2_code 18 = .ok (.bipush 36, 2) := by decide +kernel
theorem dsg_20 : decode method_2_code 20 = .ok (.if_icmp .ge 12, 3) := by decide +kernel
theorem dsg_23 : decode method_2_code 23 = .ok (.bipush 48, 2) := by decide +kernel
theorem dsg_25 : decode method_2_code 25 = .ok (.iload_n 1, 1) := by decide +kernel
theorem dsg_26 : decode method_2_code 26 = .ok (.bipush 26, 2) := by decide +kernel
theorem dsg_28 : decode method_2_code 28 = .ok (.isub, 1) := by decide +kernel
theorem dsg_29 : decode method_2_code 29 = .ok (.iadd, 1) := by decide +kernel
theorem dsg_30 : decode method_2_code 30 = .ok (.i2c, 1) := by decide +kernel
theorem dsg_31 : decode method_2_code 31 = .ok (.ireturn, 1) := by decide +kernel
theorem dsg_32 : decode method_2_code 32 = .ok (.bipush 95, 2) := by decide +kernel
theorem dsg_34 : decode method_2_code 34 = .ok (.ireturn, 1) := by decide +kernel
theorem pn_0 : plainName "com/example/grant3/grant3/PermissionParsePinLaw" = true := by first | (simp [plainName, overriddenIn]; done) | decide +kernel
theorem ef_sg (m : MethodId) (x0 : Int32) : entryFrame m #[(.int x0)] 2 = mkF m 0 #[.val (.int x0), .unset] [] := by first | (simp [entryFrame, mkF, argsToLocals, Value.category]; done) | rfl
def Qsg (Z : State) (xx : Int32) (h0 : Heap) (n0 : Nat) (v : Option Value) (h : Heap) (L : List Loc) : Prop := v = some (.int (own_segc xx)) ∧ Fr n0 L ∧ h = h0
def Psg (Z : State) (xx : Int32) (h0 : Heap) (n0 : Nat) (s : State) (oQ : Outcome) (U : State) : Prop := ∃ v L, oQ = .returned v ∧ Qsg Z xx h0 n0 v U.heap L ∧ FrameEnd s oQ U L ({ frames := 0, cells := 0, slots := 0, locals := 0 } : Room).cells ({ frames := 0, cells := 0, slots := 0, locals := 0 } : Room).slots
set_option maxRecDepth 65536 in
set_option maxHeartbeats 40000000 in
theorem rmsg (l : Launch) (Z : State) (a0 : Array Value) (hw : ∀ d ∈ tables_1, d.before a0 Z = true) (ws : List Jvm.Cond) (xx : Int32) (h0 : Heap) (n0 : Nat) (Z0 : n0 ≤ h0.size)  :
    MetFree l (⟨"com/example/grant3/grant3/PermissionParsePinLaw", "segChar", "(I)C"⟩ : MethodName) (head1 (Jvm.Cond.code (⟨"com/example/grant3/grant3/PermissionParsePinLaw", "segChar", "(I)C"⟩ : MethodName) method_2_code 2 (some .char) :: ws) ({ frames := 0, cells := 0, slots := 0, locals := 0 } : Room)) (fun aQ U => aQ = #[(.int xx)] ∧ Z.Warmed39 U.vm ∧ U.heap = h0) (fun _ _ _ _ _ => True) (fun _ U oQ U' => ∃ v L, oQ = .returned v ∧ Qsg Z xx h0 n0 v U'.heap L ∧ FrameEnd U oQ U' L ({ frames := 0, cells := 0, slots := 0, locals := 0 } : Room).cells ({ frames := 0, cells := 0, slots := 0, locals := 0 } : Room).slots) := by
  refine MetFree.of_bodySF (plainFor_of_name pn_0) hisR ?_
  intro p e s m args below meth c s₁ Bd hml0 hP hK
  obtain ⟨rfl, hZ, hh⟩ := hP
  have hx := Bd.exec
  have hby := Bd.bytes
  have hml : c.maxLocals = 2 := hml0
  have hown : s.vm.findClass "com/example/grant3/grant3/PermissionParsePinLaw" = some m.cls := findClass_of_methodNamed Bd.named
  have hnm := (name_of_methodNamed Bd.named Bd.method).1
  have X0 : Stand p l e ({ frames := 0, cells := 0, slots := 0, locals := 0 } : Room) s m #[(.int xx)] below meth c s₁ [] 0 0 := Stand.of_body Bd
  have e0 : s₁.heap = h0 := by rw [← hh, Bd.state]; rfl
  have Nf := Fr.nil n0
  have Zs : n0 ≤ h0.size := Z0
  have Kp : Keep h0 h0 [] := Keep.refl _ _
  have szr : h0.size ≤ h0.size := Nat.le_refl _
  show own_End p e below (Psg Z xx h0 n0 s) (s₁.setTop (entryFrame m #[(.int xx)] 2))
  rw [ef_sg]
  refine own_go (fun tQ kQ => XS.iloadN X0.here hx rfl (hb hby dsg_0) rfl kQ) ?_
  show own_End p e below _ (s₁.setTop (mkF m 1 #[.val (.int xx), .unset] [(.int xx)]))
  refine own_go (fun tQ kQ => XS.bipush X0.here hx rfl (hb hby dsg_1) kQ) ?_
  show own_End p e below _ (s₁.setTop (mkF m 3 #[.val (.int xx), .unset] [(.int (37 : Int32)), (.int xx)]))
  refine own_go (fun tQ kQ => iremM (g := (mkF m 3 #[.val (.int xx), .unset] [(.int (37 : Int32)), (.int xx)])) X0 hx rfl (hb hby dsg_3) rfl (by decide) kQ) ?_
  show own_End p e below _ (s₁.setTop (mkF m 4 #[.val (.int xx), .unset] [(.int (xx % (37 : Int32)))]))
  refine own_go (fun tQ kQ => XS.istoreN X0.here hx rfl (hb hby dsg_4) rfl (l' := #[.val (.int xx), .val (.int (xx % (37 : Int32)))]) rfl kQ) ?_
  show own_End p e below _ (s₁.setTop (mkF m 5 #[.val (.int xx), .val (.int (xx % (37 : Int32)))] []))
  refine own_go (fun tQ kQ => XS.iloadN X0.here hx rfl (hb hby dsg_5) rfl kQ) ?_
  show own_End p e below _ (s₁.setTop (mkF m 6 #[.val (.int xx), .val (.int (xx % (37 : Int32)))] [(.int (xx % (37 : Int32)))]))
  refine own_go (fun tQ kQ => XS.bipush X0.here hx rfl (hb hby dsg_6) kQ) ?_
  show own_End p e below _ (s₁.setTop (mkF m 8 #[.val (.int xx), .val (.int (xx % (37 : Int32)))] [(.int (26 : Int32)), (.int (xx % (37 : Int32)))]))
  by_cases hc8 : (xx % (37 : Int32)) < (26 : Int32)
  ·
    refine own_go (fun tQ kQ => XS.icmpNo X0.here hx rfl (hb hby dsg_8) rfl (tlt hc8).2.1 kQ) ?_
    show own_End p e below _ (s₁.setTop (mkF m 11 #[.val (.int xx), .val (.int (xx % (37 : Int32)))] []))
    refine own_go (fun tQ kQ => XS.bipush X0.here hx rfl (hb hby dsg_11) kQ) ?_
    show own_End p e below _ (s₁.setTop (mkF m 13 #[.val (.int xx), .val (.int (xx % (37 : Int32)))] [(.int (97 : Int32))]))
    refine own_go (fun tQ kQ => XS.iloadN X0.here hx rfl (hb hby dsg_13) rfl kQ) ?_
    show own_End p e below _ (s₁.setTop (mkF m 14 #[.val (.int xx), .val (.int (xx % (37 : Int32)))] [(.int (xx % (37 : Int32))), (.int (97 : Int32))]))
    refine own_go (fun tQ kQ => XS.iadd X0.here hx rfl (hb hby dsg_14) rfl kQ) ?_
    show own_End p e below _ (s₁.setTop (mkF m 15 #[.val (.int xx), .val (.int (xx % (37 : Int32)))] [(.int ((97 : Int32) + (xx % (37 : Int32))))]))
    refine own_go (fun tQ kQ => XS.i2c X0.here hx rfl (hb hby dsg_15) rfl kQ) ?_
    show own_End p e below _ (s₁.setTop (mkF m 16 #[.val (.int xx), .val (.int (xx % (37 : Int32)))] [(.int (((97 : Int32) + (xx % (37 : Int32))).toUInt32.toUInt16.toUInt32.toInt32))]))
    obtain ⟨fs, hr, hrun, hended, hW, hsame⟩ := X0.leave (v := some (.int (nar .char (((97 : Int32) + (xx % (37 : Int32))).toUInt32.toUInt16.toUInt32.toInt32)))) (fun h => by rw [Bd.returns] at h; cases h)
    refine ⟨_, _, (retN X0 hx (t := .char) Bd.returns (by simp) (hb hby dsg_16) hr), hrun, hended, _, _, rfl, ?_, ⟨_, rfl⟩, hW, hsame.mono (by decide) (by decide)⟩
    show Qsg Z xx h0 n0 _ s₁.heap _
    rw [e0]
    exact ⟨by simp [own_segc, hc8], Nf, rfl⟩
  ·
    refine own_go (fun tQ kQ => XS.icmpYes X0.here hx rfl (pc0 := 8) (pc' := 17) rfl (hb hby dsg_8) rfl (flt hc8).2.1 (by decide) (by decide) kQ) ?_
    show own_End p e below _ (s₁.setTop (mkF m 17 #[.val (.int xx), .val (.int (xx % (37 : Int32)))] []))
    refine own_go (fun tQ kQ => XS.iloadN X0.here hx rfl (hb hby dsg_17) rfl kQ) ?_
    show own_End p e below _ (s₁.setTop (mkF m 18 #[.val (.int xx), .val (.int (xx % (37 : Int32)))] [(.int (xx % (37 : Int32)))]))
    refine own_go (fun tQ kQ => XS.bipush X0.here hx rfl (hb hby dsg_18) kQ) ?_
    show own_End p e below _ (s₁.setTop (mkF m 20 #[.val (.int xx), .val (.int (xx % (37 : Int32)))] [(.int (36 : Int32)), (.int (xx % (37 : Int32)))]))
    by_cases hc20 : (xx % (37 : Int32)) < (36 : Int32)
    ·
      refine own_go (fun tQ kQ => XS.icmpNo X0.here hx rfl (hb hby dsg_20) rfl (tlt hc20).2.1 kQ) ?_
      show own_End p e below _ (s₁.setTop (mkF m 23 #[.val (.int xx), .val (.int (xx % (37 : Int32)))] []))
      refine own_go (fun tQ kQ => XS.bipush X0.here hx rfl (hb hby dsg_23) kQ) ?_
      show own_End p e below _ (s₁.setTop (mkF m 25 #[.val (.int xx), .val (.int (xx % (37 : Int32)))] [(.int (48 : Int32))]))
      refine own_go (fun tQ kQ => XS.iloadN X0.here hx rfl (hb hby dsg_25) rfl kQ) ?_
      show own_End p e below _ (s₁.setTop (mkF m 26 #[.val (.int xx), .val (.int (xx % (37 : Int32)))] [(.int (xx % (37 : Int32))), (.int (48 : Int32))]))
      refine own_go (fun tQ kQ => XS.bipush X0.here hx rfl (hb hby dsg_26) kQ) ?_
      show own_End p e below _ (s₁.setTop (mkF m 28 #[.val (.int xx), .val (.int (xx % (37 : Int32)))] [(.int (26 : Int32)), (.int (xx % (37 : Int32))), (.int (48 : Int32))]))
      refine own_go (fun tQ kQ => XS.isub X0.here hx rfl (hb hby dsg_28) rfl kQ) ?_
      show own_End p e below _ (s₁.setTop (mkF m 29 #[.val (.int xx), .val (.int (xx % (37 : Int32)))] [(.int ((xx % (37 : Int32)) - (26 : Int32))), (.int (48 : Int32))]))
      refine own_go (fun tQ kQ => XS.iadd X0.here hx rfl (hb hby dsg_29) rfl kQ) ?_
      show own_End p e below _ (s₁.setTop (mkF m 30 #[.val (.int xx), .val (.int (xx % (37 : Int32)))] [(.int ((48 : Int32) + ((xx % (37 : Int32)) - (26 : Int32))))]))
      refine own_go (fun tQ kQ => XS.i2c X0.here hx rfl (hb hby dsg_30) rfl kQ) ?_
      show own_End p e below _ (s₁.setTop (mkF m 31 #[.val (.int xx), .val (.int (xx % (37 : Int32)))] [(.int (((48 : Int32) + ((xx % (37 : Int32)) - (26 : Int32))).toUInt32.toUInt16.toUInt32.toInt32))]))
      obtain ⟨fs, hr, hrun, hended, hW, hsame⟩ := X0.leave (v := some (.int (nar .char (((48 : Int32) + ((xx % (37 : Int32)) - (26 : Int32))).toUInt32.toUInt16.toUInt32.toInt32)))) (fun h => by rw [Bd.returns] at h; cases h)
      refine ⟨_, _, (retN X0 hx (t := .char) Bd.returns (by simp) (hb hby dsg_31) hr), hrun, hended, _, _, rfl, ?_, ⟨_, rfl⟩, hW, hsame.mono (by decide) (by decide)⟩
      show Qsg Z xx h0 n0 _ s₁.heap _
      rw [e0]
      exact ⟨by simp [own_segc, hc8, hc20], Nf, rfl⟩
    ·
      refine own_go (fun tQ kQ => XS.icmpYes X0.here hx rfl (pc0 := 20) (pc' := 32) rfl (hb hby dsg_20) rfl (flt hc20).2.1 (by decide) (by decide) kQ) ?_
      show own_End p e below _ (s₁.setTop (mkF m 32 #[.val (.int xx), .val (.int (xx % (37 : Int32)))] []))
      refine own_go (fun tQ kQ => XS.bipush X0.here hx rfl (hb hby dsg_32) kQ) ?_
      show own_End p e below _ (s₁.setTop (mkF m 34 #[.val (.int xx), .val (.int (xx % (37 : Int32)))] [(.int (95 : Int32))]))
      obtain ⟨fs, hr, hrun, hended, hW, hsame⟩ := X0.leave (v := some (.int (95 : Int32))) (fun h => by rw [Bd.returns] at h; cases h)
      refine ⟨_, _, (retN X0 hx (t := .char) Bd.returns (by simp) (hb hby dsg_34) hr), hrun, hended, _, _, rfl, ?_, ⟨_, rfl⟩, hW, hsame.mono (by decide) (by decide)⟩
      show Qsg Z xx h0 n0 _ s₁.heap _
      rw [e0]
      exact ⟨by simp [own_segc, hc8, hc20], Nf, rfl⟩
theorem pd_1 : parseMethodDescriptor "(I)C" = some ⟨[.int], some .char⟩ := by decide +kernel
theorem dat__0 : decode method_3_code 0 = .ok (.lload_n 0, 1) := by decide +kernel
theorem dat__1 : decode method_3_code 1 = .ok (.bipush 8, 2) := by decide +kernel
theorem dat__3 : decode method_3_code 3 = .ok (.iload_n 2, 1) := by decide +kernel
theorem dat__4 : decode method_3_code 4 = .ok (.imul, 1) := by decide +kernel
theorem dat__5 : decode method_3_code 5 = .ok (.lushr, 1) := by decide +kernel
theorem dat__6 : decode method_3_code 6 = .ok (.ldc2_w 7, 3) := by decide +kernel
theorem dat__9 : decode method_3_code 9 = .ok (.land, 1) := by decide +kernel
theorem dat__10 : decode method_3_code 10 = .ok (.l2i, 1) := by decide +kernel
theorem dat__11 : decode method_3_code 11 = .ok (.invokestatic 9, 3) := by decide +kernel
theorem dat__14 : decode method_3_code 14 = .ok (.ireturn, 1) := by decide +kernel
theorem ef_at_ (m : MethodId) (x0 : Int64) (x1 : Int32) : entryFrame m #[(.long x0), (.int x1)] 3 = mkF m 0 #[.val (.long x0), .second, .val (.int x1)] [] := by first | (simp [entryFrame, mkF, argsToLocals, Value.category]; done) | rfl
def Qat_ (Z : State) (q : Int64) (k : Int32) (h0 : Heap) (n0 : Nat) (v : Option Value) (h : Heap) (L : List Loc) : Prop := ∃ c, v = some (.int c) ∧ Fr n0 L ∧ h = h0 ∧ own_seg c
def Pat_ (Z : State) (q : Int64) (k : Int32) (h0 : Heap) (n0 : Nat) (s : State) (oQ : Outcome) (U : State) : Prop := ∃ v L, oQ = .returned v ∧ Qat_ Z q k h0 n0 v U.heap L ∧ FrameEnd s oQ U L ({ frames := 1, cells := 0, slots := 0, locals := 13 } : Room).cells ({ frames := 1, cells := 0, slots := 0, locals := 13 } : Room).slots
set_option maxRecDepth 65536 in
set_option maxHeartbeats 40000000 in
theorem rmat_ (l : Launch) (Z : State) (a0 : Array Value) (hw : ∀ d ∈ tables_1, d.before a0 Z = true) (ws : List Jvm.Cond) (q : Int64) (k : Int32) (h0 : Heap) (n0 : Nat) (Z0 : n0 ≤ h0.size)  :
    MetFree l (⟨"com/example/grant3/grant3/PermissionParsePinLaw", "at", "(JI)C"⟩ : MethodName) (head1 (Jvm.Cond.code (⟨"com/example/grant3/grant3/PermissionParsePinLaw", "at", "(JI)C"⟩ : MethodName) method_3_code 3 (some .char) :: ws) ({ frames := 1, cells := 0, slots := 0, locals := 13 } : Room)) (fun aQ U => aQ = #[(.long q), (.int k)] ∧ Z.Warmed39 U.vm ∧ U.heap = h0) (fun _ _ _ _ _ => True) (fun _ U oQ U' => ∃ v L, oQ = .returned v ∧ Qat_ Z q k h0 n0 v U'.heap L ∧ FrameEnd U oQ U' L ({ frames := 1, cells := 0, slots := 0, locals := 13 } : Room).cells ({ frames := 1, cells := 0, slots := 0, locals := 13 } : Room).slots) := by
  refine MetFree.of_bodySF (plainFor_of_name pn_0) hisR ?_
  intro p e s m args below meth c s₁ Bd hml0 hP hK
  obtain ⟨rfl, hZ, hh⟩ := hP
  have hx := Bd.exec
  have hby := Bd.bytes
  have hml : c.maxLocals = 3 := hml0
  have hown : s.vm.findClass "com/example/grant3/grant3/PermissionParsePinLaw" = some m.cls := findClass_of_methodNamed Bd.named
  have hnm := (name_of_methodNamed Bd.named Bd.method).1
  have X0 : Stand p l e ({ frames := 1, cells := 0, slots := 0, locals := 13 } : Room) s m #[(.long q), (.int k)] below meth c s₁ [] 0 0 := Stand.of_body Bd
  have e0 : s₁.heap = h0 := by rw [← hh, Bd.state]; rfl
  have Nf := Fr.nil n0
  have Zs : n0 ≤ h0.size := Z0
  have Kp : Keep h0 h0 [] := Keep.refl _ _
  have szr : h0.size ≤ h0.size := Nat.le_refl _
  show own_End p e below (Pat_ Z q k h0 n0 s) (s₁.setTop (entryFrame m #[(.long q), (.int k)] 3))
  rw [ef_at_]
  refine own_go (fun tQ kQ => XS.lloadN X0.here hx rfl (hb hby dat__0) rfl kQ) ?_
  show own_End p e below _ (s₁.setTop (mkF m 1 #[.val (.long q), .second, .val (.int k)] [(.long q)]))
  refine own_go (fun tQ kQ => XS.bipush X0.here hx rfl (hb hby dat__1) kQ) ?_
  show own_End p e below _ (s₁.setTop (mkF m 3 #[.val (.long q), .second, .val (.int k)] [(.int (8 : Int32)), (.long q)]))
  refine own_go (fun tQ kQ => XS.iloadN X0.here hx rfl (hb hby dat__3) rfl kQ) ?_
  show own_End p e below _ (s₁.setTop (mkF m 4 #[.val (.long q), .second, .val (.int k)] [(.int k), (.int (8 : Int32)), (.long q)]))
  refine own_go (fun tQ kQ => XS.imul X0.here hx rfl (hb hby dat__4) rfl kQ) ?_
  show own_End p e below _ (s₁.setTop (mkF m 5 #[.val (.long q), .second, .val (.int k)] [(.int ((8 : Int32) * k)), (.long q)]))
  refine own_go (fun tQ kQ => XS.lushr X0.here hx rfl (hb hby dat__5) rfl kQ) ?_
  show own_End p e below _ (s₁.setTop (mkF m 6 #[.val (.long q), .second, .val (.int k)] [(.long ((q.toUInt64 >>> (((8 : Int32) * k) &&& 0x3f).toInt64.toUInt64).toInt64))]))
  refine own_go (fun tQ kQ => X0.ldc2Long hx hown (mvT hZ (hw _ (List.mem_of_getElem? (i := 4) rfl))) (g := (mkF m 6 #[.val (.long q), .second, .val (.int k)] [(.long ((q.toUInt64 >>> (((8 : Int32) * k) &&& 0x3f).toInt64.toUInt64).toInt64))])) rfl (hb hby dat__6) _ kQ) ?_
  show own_End p e below _ (s₁.setTop (mkF m 9 #[.val (.long q), .second, .val (.int k)] [(.long (255 : Int64)), (.long ((q.toUInt64 >>> (((8 : Int32) * k) &&& 0x3f).toInt64.toUInt64).toInt64))]))
  refine own_go (fun tQ kQ => XS.land X0.here hx rfl (hb hby dat__9) rfl kQ) ?_
  show own_End p e below _ (s₁.setTop (mkF m 10 #[.val (.long q), .second, .val (.int k)] [(.long (((q.toUInt64 >>> (((8 : Int32) * k) &&& 0x3f).toInt64.toUInt64).toInt64) &&& (255 : Int64)))]))
  refine own_go (fun tQ kQ => XS.l2i X0.here hx rfl (hb hby dat__10) rfl kQ) ?_
  show own_End p e below _ (s₁.setTop (mkF m 11 #[.val (.long q), .second, .val (.int k)] [(.int ((((q.toUInt64 >>> (((8 : Int32) * k) &&& 0x3f).toInt64.toUInt64).toInt64) &&& (255 : Int64)).toInt32))]))
  obtain ⟨_, _, ⟨T1, L1, k1, n1⟩, -, X1, ⟨Lc1, hQ1, l1, y1, z1⟩, st1⟩ := Jvm.LawKit.callS X0 hx (y := (⟨"com/example/grant3/grant3/PermissionParsePinLaw", "segChar", "(I)C"⟩ : MethodName)) hown (mvT hZ (hw _ (List.mem_of_getElem? (i := 5) rfl))) (mvT hZ (hw _ (List.mem_of_getElem? (i := 6) rfl))) (mvT hZ (hw _ (List.mem_of_getElem? (i := 2) rfl))) (mvT hZ (hw _ (List.mem_of_getElem? (i := 7) rfl))) (by decide) (backOf (W := 0) (rmsg l Z a0 hw [] ((((q.toUInt64 >>> (((8 : Int32) * k) &&& 0x3f).toInt64.toUInt64).toInt64) &&& (255 : Int64)).toInt32) h0 n0 Zs ) hZ (hw _ (List.mem_of_getElem? (i := 7) rfl)) (hw _ (List.mem_of_getElem? (i := 2) rfl)) (by decide) (by decide)) (g := (mkF m 11 #[.val (.long q), .second, .val (.int k)] [(.int ((((q.toUInt64 >>> (((8 : Int32) * k) &&& 0x3f).toInt64.toUInt64).toInt64) &&& (255 : Int64)).toInt32))])) rfl (by rw [hml]; rfl) (argsL := [(.int ((((q.toUInt64 >>> (((8 : Int32) * k) &&& 0x3f).toInt64.toUInt64).toInt64) &&& (255 : Int64)).toInt32))]) (rest := []) (lenOf pd_1 rfl) rfl (by show 2 * 0 + _ ≤ _; exact Nat.le_of_eq rfl) (hb hby dat__11) (fun _ _ => ⟨rfl, e0, (Nat.le_of_ble_eq_true rfl), (Nat.le_of_ble_eq_true rfl)⟩)
  dsimp only [Pt.U, Pt.locs, Pt.cells, Pt.slots] at X1 l1 y1 z1 st1 hQ1
  subst l1 y1 z1
  obtain ⟨rfl, N1q, e1⟩ := hQ1
  have Nf := Fr.app Nf N1q
  refine own_go (fun tQ kQ => st1 tQ kQ) ?_
  show own_End p e below _ (T1.setTop (mkF m 14 #[.val (.long q), .second, .val (.int k)] [(.int (own_segc ((((q.toUInt64 >>> (((8 : Int32) * k) &&& 0x3f).toInt64.toUInt64).toInt64) &&& (255 : Int64)).toInt32)))]))
  obtain ⟨fs, hr, hrun, hended, hW, hsame⟩ := X1.leave (v := some (.int (nar .char (own_segc ((((q.toUInt64 >>> (((8 : Int32) * k) &&& 0x3f).toInt64.toUInt64).toInt64) &&& (255 : Int64)).toInt32))))) (fun h => by rw [Bd.returns] at h; cases h)
  refine ⟨_, _, (retN X1 hx (t := .char) Bd.returns (by simp) (hb hby dat__14) hr), hrun, hended, _, _, rfl, ?_, ⟨_, rfl⟩, hW, hsame.mono (by decide) (by decide)⟩
  show Qat_ Z q k h0 n0 _ T1.heap _
  rw [e1]
  refine ⟨_, rfl, Nf, rfl, ?_⟩
  have hs := own_segc_ok (x := ((((q.toUInt64 >>> (((8 : Int32) * k) &&& 0x3f).toInt64.toUInt64).toInt64) &&& (255 : Int64)).toInt32)) (own_l2i _).1 (own_l2i _).2
  rw [own_narc hs]; exact hs
theorem dis_0 : decode prog_6_method_3_code 0 = .ok (.iload_n 0, 1) := by decide +kernel
theorem dis_1 : decode prog_6_method_3_code 1 = .ok (.bipush 97, 2) := by decide +kernel
theorem dis_3 : decode prog_6_method_3_code 3 = .ok (.if_icmp .lt 9, 3) := by decide +kernel
theorem dis_6 : decode prog_6_method_3_code 6 = .ok (.iload_n 0, 1) := by decide +kernel
theorem dis_7 : decode prog_6_method_3_code 7 = .ok (.bipush 122, 2) := by decide +kernel
theorem dis_9 : decode prog_6_method_3_code 9 = .ok (.if_icmp .le 21, 3) := by decide +kernel
theorem dis_12 : decode prog_6_method_3_code 12 = .ok (.iload_n 0, 1) := by decide +kernel
theorem dis_13 : decode prog_6_method_3_code 13 = .ok (.bipush 48, 2) := by decide +kernel
theorem dis_15 : decode prog_6_method_3_code 15 = .ok (.if_icmp .lt 9, 3) := by decide +kernel
theorem dis_18 : decode prog_6_method_3_code 18 = .ok (.iload_n 0, 1) := by decide +kernel
theorem dis_19 : decode prog_6_method_3_code 19 = .ok (.bipush 57, 2) := by decide +kernel
theorem dis_21 : decode prog_6_method_3_code 21 = .ok (.if_icmp .le 9, 3) := by decide +kernel
theorem dis_24 : decode prog_6_method_3_code 24 = .ok (.iload_n 0, 1) := by decide +kernel
theorem dis_25 : decode prog_6_method_3_code 25 = .ok (.bipush 95, 2) := by decide +kernel
theorem dis_27 : decode prog_6_method_3_code 27 = .ok (.if_icmp .ne 7, 3) := by decide +kernel
theorem dis_30 : decode prog_6_method_3_code 30 = .ok (.iconst 1, 1) := by decide +kernel
theorem dis_31 : decode prog_6_method_3_code 31 = .ok (.goto 4, 3) := by decide +kernel
theorem dis_35 : decode prog_6_method_3_code 35 = .ok (.ireturn, 1) := by decide +kernel
theorem pn_2 : plainName "com/example/grant3/grant3/Permission" = true := by first | (simp [plainName, overriddenIn]; done) | decide +kernel
theorem ef_is (m : MethodId) (x0 : Int32) : entryFrame m #[(.int x0)] 1 = mkF m 0 #[.val (.int x0)] [] := by first | (simp [entryFrame, mkF, argsToLocals, Value.category]; done) | rfl
def Qis (Z : State) (ch : Int32) (h0 : Heap) (n0 : Nat) (v : Option Value) (h : Heap) (L : List Loc) : Prop := v = some (.int 1) ∧ Fr n0 L ∧ h = h0
def Pis (Z : State) (ch : Int32) (h0 : Heap) (n0 : Nat) (s : State) (oQ : Outcome) (U : State) : Prop := ∃ v L, oQ = .returned v ∧ Qis Z ch h0 n0 v U.heap L ∧ FrameEnd s oQ U L ({ frames := 0, cells := 0, slots := 0, locals := 0 } : Room).cells ({ frames := 0, cells := 0, slots := 0, locals := 0 } : Room).slots
set_option maxRecDepth 65536 in
set_option maxHeartbeats 40000000 in
theorem rmis (l : Launch) (Z : State) (a0 : Array Value) (hw : ∀ d ∈ tables_1, d.before a0 Z = true) (ws : List Jvm.Cond) (ch : Int32) (h0 : Heap) (n0 : Nat) (Z0 : n0 ≤ h0.size) (hsg : own_seg ch) :
    MetFree l (⟨"com/example/grant3/grant3/Permission", "isSegmentCharacter", "(C)Z"⟩ : MethodName) (head1 (Jvm.Cond.code (⟨"com/example/grant3/grant3/Permission", "isSegmentCharacter", "(C)Z"⟩ : MethodName) prog_6_method_3_code 1 (some .boolean) :: ws) ({ frames := 0, cells := 0, slots := 0, locals := 0 } : Room)) (fun aQ U => aQ = #[(.int ch)] ∧ Z.Warmed39 U.vm ∧ U.heap = h0) (fun _ _ _ _ _ => True) (fun _ U oQ U' => ∃ v L, oQ = .returned v ∧ Qis Z ch h0 n0 v U'.heap L ∧ FrameEnd U oQ U' L ({ frames := 0, cells := 0, slots := 0, locals := 0 } : Room).cells ({ frames := 0, cells := 0, slots := 0, locals := 0 } : Room).slots) := by
  refine MetFree.of_bodySF (plainFor_of_name pn_2) hisR ?_
  intro p e s m args below meth c s₁ Bd hml0 hP hK
  obtain ⟨rfl, hZ, hh⟩ := hP
  have hx := Bd.exec
  have hby := Bd.bytes
  have hml : c.maxLocals = 1 := hml0
  have hown : s.vm.findClass "com/example/grant3/grant3/Permission" = some m.cls := findClass_of_methodNamed Bd.named
  have hnm := (name_of_methodNamed Bd.named Bd.method).1
  have X0 : Stand p l e ({ frames := 0, cells := 0, slots := 0, locals := 0 } : Room) s m #[(.int ch)] below meth c s₁ [] 0 0 := Stand.of_body Bd
  have e0 : s₁.heap = h0 := by rw [← hh, Bd.state]; rfl
  have Nf := Fr.nil n0
  have Zs : n0 ≤ h0.size := Z0
  have Kp : Keep h0 h0 [] := Keep.refl _ _
  have szr : h0.size ≤ h0.size := Nat.le_refl _
  show own_End p e below (Pis Z ch h0 n0 s) (s₁.setTop (entryFrame m #[(.int ch)] 1))
  rw [ef_is]
  refine own_go (fun tQ kQ => XS.iloadN X0.here hx rfl (hb hby dis_0) rfl kQ) ?_
  show own_End p e below _ (s₁.setTop (mkF m 1 #[.val (.int ch)] [(.int ch)]))
  refine own_go (fun tQ kQ => XS.bipush X0.here hx rfl (hb hby dis_1) kQ) ?_
  show own_End p e below _ (s₁.setTop (mkF m 3 #[.val (.int ch)] [(.int (97 : Int32)), (.int ch)]))
  by_cases hc3 : ch < (97 : Int32)
  ·
    refine own_go (fun tQ kQ => XS.icmpYes X0.here hx rfl (pc0 := 3) (pc' := 12) rfl (hb hby dis_3) rfl (tlt hc3).1 (by decide) (by decide) kQ) ?_
    show own_End p e below _ (s₁.setTop (mkF m 12 #[.val (.int ch)] []))
    refine own_go (fun tQ kQ => XS.iloadN X0.here hx rfl (hb hby dis_12) rfl kQ) ?_
    show own_End p e below _ (s₁.setTop (mkF m 13 #[.val (.int ch)] [(.int ch)]))
    refine own_go (fun tQ kQ => XS.bipush X0.here hx rfl (hb hby dis_13) kQ) ?_
    show own_End p e below _ (s₁.setTop (mkF m 15 #[.val (.int ch)] [(.int (48 : Int32)), (.int ch)]))
    by_cases hc15 : ch < (48 : Int32)
    ·
      refine own_go (fun tQ kQ => XS.icmpYes X0.here hx rfl (pc0 := 15) (pc' := 24) rfl (hb hby dis_15) rfl (tlt hc15).1 (by decide) (by decide) kQ) ?_
      show own_End p e below _ (s₁.setTop (mkF m 24 #[.val (.int ch)] []))
      refine own_go (fun tQ kQ => XS.iloadN X0.here hx rfl (hb hby dis_24) rfl kQ) ?_
      show own_End p e below _ (s₁.setTop (mkF m 25 #[.val (.int ch)] [(.int ch)]))
      refine own_go (fun tQ kQ => XS.bipush X0.here hx rfl (hb hby dis_25) kQ) ?_
      show own_End p e below _ (s₁.setTop (mkF m 27 #[.val (.int ch)] [(.int (95 : Int32)), (.int ch)]))
      have h95 : ch = (95 : Int32) := by
        have t97 : (97 : Int32).toInt = 97 := by decide
        have t122 : (122 : Int32).toInt = 122 := by decide
        have t48 : (48 : Int32).toInt = 48 := by decide
        have t57 : (57 : Int32).toInt = 57 := by decide
        have t95 : (95 : Int32).toInt = 95 := by decide
        rw [Int32.lt_iff_toInt_lt] at hc3
        rw [Int32.lt_iff_toInt_lt] at hc15
        unfold own_seg at hsg
        exact Int32.toInt_inj.mp (by omega)
      refine own_go (fun tQ kQ => XS.icmpNo X0.here hx rfl (hb hby dis_27) rfl (teq h95).2 kQ) ?_
      show own_End p e below _ (s₁.setTop (mkF m 30 #[.val (.int ch)] []))
      refine own_go (fun tQ kQ => XS.iconst X0.here hx rfl (hb hby dis_30) kQ) ?_
      show own_End p e below _ (s₁.setTop (mkF m 31 #[.val (.int ch)] [(.int (1 : Int32))]))
      refine own_go (fun tQ kQ => XS.goto X0.here hx rfl (pc0 := 31) (pc' := 35) rfl (hb hby dis_31) (by decide) (by decide) kQ) ?_
      show own_End p e below _ (s₁.setTop (mkF m 35 #[.val (.int ch)] [(.int (1 : Int32))]))
      obtain ⟨fs, hr, hrun, hended, hW, hsame⟩ := X0.leave (v := some (.int (1 : Int32))) (fun h => by rw [Bd.returns] at h; cases h)
      refine ⟨_, _, (retN X0 hx (t := .boolean) Bd.returns (by simp) (hb hby dis_35) hr), hrun, hended, _, _, rfl, ?_, ⟨_, rfl⟩, hW, hsame.mono (by decide) (by decide)⟩
      show Qis Z ch h0 n0 _ s₁.heap _
      rw [e0]
      exact ⟨rfl, Nf, rfl⟩
    ·
      refine own_go (fun tQ kQ => XS.icmpNo X0.here hx rfl (hb hby dis_15) rfl (flt hc15).1 kQ) ?_
      show own_End p e below _ (s₁.setTop (mkF m 18 #[.val (.int ch)] []))
      refine own_go (fun tQ kQ => XS.iloadN X0.here hx rfl (hb hby dis_18) rfl kQ) ?_
      show own_End p e below _ (s₁.setTop (mkF m 19 #[.val (.int ch)] [(.int ch)]))
      refine own_go (fun tQ kQ => XS.bipush X0.here hx rfl (hb hby dis_19) kQ) ?_
      show own_End p e below _ (s₁.setTop (mkF m 21 #[.val (.int ch)] [(.int (57 : Int32)), (.int ch)]))
      by_cases hc21 : (57 : Int32) < ch
      ·
        refine own_go (fun tQ kQ => XS.icmpNo X0.here hx rfl (hb hby dis_21) rfl (tlt hc21).2.2.2 kQ) ?_
        show own_End p e below _ (s₁.setTop (mkF m 24 #[.val (.int ch)] []))
        refine own_go (fun tQ kQ => XS.iloadN X0.here hx rfl (hb hby dis_24) rfl kQ) ?_
        show own_End p e below _ (s₁.setTop (mkF m 25 #[.val (.int ch)] [(.int ch)]))
        refine own_go (fun tQ kQ => XS.bipush X0.here hx rfl (hb hby dis_25) kQ) ?_
        show own_End p e below _ (s₁.setTop (mkF m 27 #[.val (.int ch)] [(.int (95 : Int32)), (.int ch)]))
        have h95 : ch = (95 : Int32) := by
          have t97 : (97 : Int32).toInt = 97 := by decide
          have t122 : (122 : Int32).toInt = 122 := by decide
          have t48 : (48 : Int32).toInt = 48 := by decide
          have t57 : (57 : Int32).toInt = 57 := by decide
          have t95 : (95 : Int32).toInt = 95 := by decide
          rw [Int32.lt_iff_toInt_lt] at hc3
          rw [Int32.lt_iff_toInt_lt] at hc15
          rw [Int32.lt_iff_toInt_lt] at hc21
          unfold own_seg at hsg
          exact Int32.toInt_inj.mp (by omega)
        refine own_go (fun tQ kQ => XS.icmpNo X0.here hx rfl (hb hby dis_27) rfl (teq h95).2 kQ) ?_
        show own_End p e below _ (s₁.setTop (mkF m 30 #[.val (.int ch)] []))
        refine own_go (fun tQ kQ => XS.iconst X0.here hx rfl (hb hby dis_30) kQ) ?_
        show own_End p e below _ (s₁.setTop (mkF m 31 #[.val (.int ch)] [(.int (1 : Int32))]))
        refine own_go (fun tQ kQ => XS.goto X0.here hx rfl (pc0 := 31) (pc' := 35) rfl (hb hby dis_31) (by decide) (by decide) kQ) ?_
        show own_End p e below _ (s₁.setTop (mkF m 35 #[.val (.int ch)] [(.int (1 : Int32))]))
        obtain ⟨fs, hr, hrun, hended, hW, hsame⟩ := X0.leave (v := some (.int (1 : Int32))) (fun h => by rw [Bd.returns] at h; cases h)
        refine ⟨_, _, (retN X0 hx (t := .boolean) Bd.returns (by simp) (hb hby dis_35) hr), hrun, hended, _, _, rfl, ?_, ⟨_, rfl⟩, hW, hsame.mono (by decide) (by decide)⟩
        show Qis Z ch h0 n0 _ s₁.heap _
        rw [e0]
        exact ⟨rfl, Nf, rfl⟩
      ·
        refine own_go (fun tQ kQ => XS.icmpYes X0.here hx rfl (pc0 := 21) (pc' := 30) rfl (hb hby dis_21) rfl (flt hc21).2.2.2 (by decide) (by decide) kQ) ?_
        show own_End p e below _ (s₁.setTop (mkF m 30 #[.val (.int ch)] []))
        refine own_go (fun tQ kQ => XS.iconst X0.here hx rfl (hb hby dis_30) kQ) ?_
        show own_End p e below _ (s₁.setTop (mkF m 31 #[.val (.int ch)] [(.int (1 : Int32))]))
        refine own_go (fun tQ kQ => XS.goto X0.here hx rfl (pc0 := 31) (pc' := 35) rfl (hb hby dis_31) (by decide) (by decide) kQ) ?_
        show own_End p e below _ (s₁.setTop (mkF m 35 #[.val (.int ch)] [(.int (1 : Int32))]))
        obtain ⟨fs, hr, hrun, hended, hW, hsame⟩ := X0.leave (v := some (.int (1 : Int32))) (fun h => by rw [Bd.returns] at h; cases h)
        refine ⟨_, _, (retN X0 hx (t := .boolean) Bd.returns (by simp) (hb hby dis_35) hr), hrun, hended, _, _, rfl, ?_, ⟨_, rfl⟩, hW, hsame.mono (by decide) (by decide)⟩
        show Qis Z ch h0 n0 _ s₁.heap _
        rw [e0]
        exact ⟨rfl, Nf, rfl⟩
  ·
    refine own_go (fun tQ kQ => XS.icmpNo X0.here hx rfl (hb hby dis_3) rfl (flt hc3).1 kQ) ?_
    show own_End p e below _ (s₁.setTop (mkF m 6 #[.val (.int ch)] []))
    refine own_go (fun tQ kQ => XS.iloadN X0.here hx rfl (hb hby dis_6) rfl kQ) ?_
    show own_End p e below _ (s₁.setTop (mkF m 7 #[.val (.int ch)] [(.int ch)]))
    refine own_go (fun tQ kQ => XS.bipush X0.here hx rfl (hb hby dis_7) kQ) ?_
    show own_End p e below _ (s₁.setTop (mkF m 9 #[.val (.int ch)] [(.int (122 : Int32)), (.int ch)]))
    by_cases hc9 : (122 : Int32) < ch
    ·
      refine own_go (fun tQ kQ => XS.icmpNo X0.here hx rfl (hb hby dis_9) rfl (tlt hc9).2.2.2 kQ) ?_
      show own_End p e below _ (s₁.setTop (mkF m 12 #[.val (.int ch)] []))
      refine own_go (fun tQ kQ => XS.iloadN X0.here hx rfl (hb hby dis_12) rfl kQ) ?_
      show own_End p e below _ (s₁.setTop (mkF m 13 #[.val (.int ch)] [(.int ch)]))
      refine own_go (fun tQ kQ => XS.bipush X0.here hx rfl (hb hby dis_13) kQ) ?_
      show own_End p e below _ (s₁.setTop (mkF m 15 #[.val (.int ch)] [(.int (48 : Int32)), (.int ch)]))
      by_cases hc15 : ch < (48 : Int32)
      ·
        refine own_go (fun tQ kQ => XS.icmpYes X0.here hx rfl (pc0 := 15) (pc' := 24) rfl (hb hby dis_15) rfl (tlt hc15).1 (by decide) (by decide) kQ) ?_
        show own_End p e below _ (s₁.setTop (mkF m 24 #[.val (.int ch)] []))
        refine own_go (fun tQ kQ => XS.iloadN X0.here hx rfl (hb hby dis_24) rfl kQ) ?_
        show own_End p e below _ (s₁.setTop (mkF m 25 #[.val (.int ch)] [(.int ch)]))
        refine own_go (fun tQ kQ => XS.bipush X0.here hx rfl (hb hby dis_25) kQ) ?_
        show own_End p e below _ (s₁.setTop (mkF m 27 #[.val (.int ch)] [(.int (95 : Int32)), (.int ch)]))
        have h95 : ch = (95 : Int32) := by
          have t97 : (97 : Int32).toInt = 97 := by decide
          have t122 : (122 : Int32).toInt = 122 := by decide
          have t48 : (48 : Int32).toInt = 48 := by decide
          have t57 : (57 : Int32).toInt = 57 := by decide
          have t95 : (95 : Int32).toInt = 95 := by decide
          rw [Int32.lt_iff_toInt_lt] at hc3
          rw [Int32.lt_iff_toInt_lt] at hc9
          rw [Int32.lt_iff_toInt_lt] at hc15
          unfold own_seg at hsg
          exact Int32.toInt_inj.mp (by omega)
        refine own_go (fun tQ kQ => XS.icmpNo X0.here hx rfl (hb hby dis_27) rfl (teq h95).2 kQ) ?_
        show own_End p e below _ (s₁.setTop (mkF m 30 #[.val (.int ch)] []))
        refine own_go (fun tQ kQ => XS.iconst X0.here hx rfl (hb hby dis_30) kQ) ?_
        show own_End p e below _ (s₁.setTop (mkF m 31 #[.val (.int ch)] [(.int (1 : Int32))]))
        refine own_go (fun tQ kQ => XS.goto X0.here hx rfl (pc0 := 31) (pc' := 35) rfl (hb hby dis_31) (by decide) (by decide) kQ) ?_
        show own_End p e below _ (s₁.setTop (mkF m 35 #[.val (.int ch)] [(.int (1 : Int32))]))
        obtain ⟨fs, hr, hrun, hended, hW, hsame⟩ := X0.leave (v := some (.int (1 : Int32))) (fun h => by rw [Bd.returns] at h; cases h)
        refine ⟨_, _, (retN X0 hx (t := .boolean) Bd.returns (by simp) (hb hby dis_35) hr), hrun, hended, _, _, rfl, ?_, ⟨_, rfl⟩, hW, hsame.mono (by decide) (by decide)⟩
        show Qis Z ch h0 n0 _ s₁.heap _
        rw [e0]
        exact ⟨rfl, Nf, rfl⟩
      ·
        refine own_go (fun tQ kQ => XS.icmpNo X0.here hx rfl (hb hby dis_15) rfl (flt hc15).1 kQ) ?_
        show own_End p e below _ (s₁.setTop (mkF m 18 #[.val (.int ch)] []))
        refine own_go (fun tQ kQ => XS.iloadN X0.here hx rfl (hb hby dis_18) rfl kQ) ?_
        show own_End p e below _ (s₁.setTop (mkF m 19 #[.val (.int ch)] [(.int ch)]))
        refine own_go (fun tQ kQ => XS.bipush X0.here hx rfl (hb hby dis_19) kQ) ?_
        show own_End p e below _ (s₁.setTop (mkF m 21 #[.val (.int ch)] [(.int (57 : Int32)), (.int ch)]))
        by_cases hc21 : (57 : Int32) < ch
        ·
          refine own_go (fun tQ kQ => XS.icmpNo X0.here hx rfl (hb hby dis_21) rfl (tlt hc21).2.2.2 kQ) ?_
          show own_End p e below _ (s₁.setTop (mkF m 24 #[.val (.int ch)] []))
          refine own_go (fun tQ kQ => XS.iloadN X0.here hx rfl (hb hby dis_24) rfl kQ) ?_
          show own_End p e below _ (s₁.setTop (mkF m 25 #[.val (.int ch)] [(.int ch)]))
          refine own_go (fun tQ kQ => XS.bipush X0.here hx rfl (hb hby dis_25) kQ) ?_
          show own_End p e below _ (s₁.setTop (mkF m 27 #[.val (.int ch)] [(.int (95 : Int32)), (.int ch)]))
          have h95 : ch = (95 : Int32) := by
            have t97 : (97 : Int32).toInt = 97 := by decide
            have t122 : (122 : Int32).toInt = 122 := by decide
            have t48 : (48 : Int32).toInt = 48 := by decide
            have t57 : (57 : Int32).toInt = 57 := by decide
            have t95 : (95 : Int32).toInt = 95 := by decide
            rw [Int32.lt_iff_toInt_lt] at hc3
            rw [Int32.lt_iff_toInt_lt] at hc9
            rw [Int32.lt_iff_toInt_lt] at hc15
            rw [Int32.lt_iff_toInt_lt] at hc21
            unfold own_seg at hsg
            exact Int32.toInt_inj.mp (by omega)
          refine own_go (fun tQ kQ => XS.icmpNo X0.here hx rfl (hb hby dis_27) rfl (teq h95).2 kQ) ?_
          show own_End p e below _ (s₁.setTop (mkF m 30 #[.val (.int ch)] []))
          refine own_go (fun tQ kQ => XS.iconst X0.here hx rfl (hb hby dis_30) kQ) ?_
          show own_End p e below _ (s₁.setTop (mkF m 31 #[.val (.int ch)] [(.int (1 : Int32))]))
          refine own_go (fun tQ kQ => XS.goto X0.here hx rfl (pc0 := 31) (pc' := 35) rfl (hb hby dis_31) (by decide) (by decide) kQ) ?_
          show own_End p e below _ (s₁.setTop (mkF m 35 #[.val (.int ch)] [(.int (1 : Int32))]))
          obtain ⟨fs, hr, hrun, hended, hW, hsame⟩ := X0.leave (v := some (.int (1 : Int32))) (fun h => by rw [Bd.returns] at h; cases h)
          refine ⟨_, _, (retN X0 hx (t := .boolean) Bd.returns (by simp) (hb hby dis_35) hr), hrun, hended, _, _, rfl, ?_, ⟨_, rfl⟩, hW, hsame.mono (by decide) (by decide)⟩
          show Qis Z ch h0 n0 _ s₁.heap _
          rw [e0]
          exact ⟨rfl, Nf, rfl⟩
        ·
          refine own_go (fun tQ kQ => XS.icmpYes X0.here hx rfl (pc0 := 21) (pc' := 30) rfl (hb hby dis_21) rfl (flt hc21).2.2.2 (by decide) (by decide) kQ) ?_
          show own_End p e below _ (s₁.setTop (mkF m 30 #[.val (.int ch)] []))
          refine own_go (fun tQ kQ => XS.iconst X0.here hx rfl (hb hby dis_30) kQ) ?_
          show own_End p e below _ (s₁.setTop (mkF m 31 #[.val (.int ch)] [(.int (1 : Int32))]))
          refine own_go (fun tQ kQ => XS.goto X0.here hx rfl (pc0 := 31) (pc' := 35) rfl (hb hby dis_31) (by decide) (by decide) kQ) ?_
          show own_End p e below _ (s₁.setTop (mkF m 35 #[.val (.int ch)] [(.int (1 : Int32))]))
          obtain ⟨fs, hr, hrun, hended, hW, hsame⟩ := X0.leave (v := some (.int (1 : Int32))) (fun h => by rw [Bd.returns] at h; cases h)
          refine ⟨_, _, (retN X0 hx (t := .boolean) Bd.returns (by simp) (hb hby dis_35) hr), hrun, hended, _, _, rfl, ?_, ⟨_, rfl⟩, hW, hsame.mono (by decide) (by decide)⟩
          show Qis Z ch h0 n0 _ s₁.heap _
          rw [e0]
          exact ⟨rfl, Nf, rfl⟩
    ·
      refine own_go (fun tQ kQ => XS.icmpYes X0.here hx rfl (pc0 := 9) (pc' := 30) rfl (hb hby dis_9) rfl (flt hc9).2.2.2 (by decide) (by decide) kQ) ?_
      show own_End p e below _ (s₁.setTop (mkF m 30 #[.val (.int ch)] []))
      refine own_go (fun tQ kQ => XS.iconst X0.here hx rfl (hb hby dis_30) kQ) ?_
      show own_End p e below _ (s₁.setTop (mkF m 31 #[.val (.int ch)] [(.int (1 : Int32))]))
      refine own_go (fun tQ kQ => XS.goto X0.here hx rfl (pc0 := 31) (pc' := 35) rfl (hb hby dis_31) (by decide) (by decide) kQ) ?_
      show own_End p e below _ (s₁.setTop (mkF m 35 #[.val (.int ch)] [(.int (1 : Int32))]))
      obtain ⟨fs, hr, hrun, hended, hW, hsame⟩ := X0.leave (v := some (.int (1 : Int32))) (fun h => by rw [Bd.returns] at h; cases h)
      refine ⟨_, _, (retN X0 hx (t := .boolean) Bd.returns (by simp) (hb hby dis_35) hr), hrun, hended, _, _, rfl, ?_, ⟨_, rfl⟩, hW, hsame.mono (by decide) (by decide)⟩
      show Qis Z ch h0 n0 _ s₁.heap _
      rw [e0]
      exact ⟨rfl, Nf, rfl⟩
theorem drn_0 : decode jdk_31_method_11_code 0 = .ok (.aload_n 0, 1) := by decide +kernel
theorem drn_1 : decode jdk_31_method_11_code 1 = .ok (.ifnonnull 12, 3) := by decide +kernel
theorem drn_13 : decode jdk_31_method_11_code 13 = .ok (.aload_n 0, 1) := by decide +kernel
theorem drn_14 : decode jdk_31_method_11_code 14 = .ok (.areturn, 1) := by decide +kernel
theorem pn_3 : plainName "java/util/Objects" = true := by first | (simp [plainName, overriddenIn]; done) | decide +kernel
theorem ef_rn (m : MethodId) (x0 : Addr) (x1 : Addr) : entryFrame m #[(.ref x0), (.ref x1)] 2 = mkF m 0 #[.val (.ref x0), .val (.ref x1)] [] := by first | (simp [entryFrame, mkF, argsToLocals, Value.category]; done) | rfl
def Qrn (Z : State) (a : Addr) (mg : Addr) (h0 : Heap) (n0 : Nat) (v : Option Value) (h : Heap) (L : List Loc) : Prop := v = some (.ref a) ∧ Fr n0 L ∧ h = h0
def Prn (Z : State) (a : Addr) (mg : Addr) (h0 : Heap) (n0 : Nat) (s : State) (oQ : Outcome) (U : State) : Prop := ∃ v L, oQ = .returned v ∧ Qrn Z a mg h0 n0 v U.heap L ∧ FrameEnd s oQ U L ({ frames := 0, cells := 0, slots := 0, locals := 0 } : Room).cells ({ frames := 0, cells := 0, slots := 0, locals := 0 } : Room).slots
set_option maxRecDepth 65536 in
set_option maxHeartbeats 40000000 in
theorem rmrn (l : Launch) (Z : State) (a0 : Array Value) (hw : ∀ d ∈ tables_1, d.before a0 Z = true) (ws : List Jvm.Cond) (a : Addr) (mg : Addr) (h0 : Heap) (n0 : Nat) (Z0 : n0 ≤ h0.size)  :
    MetFree l (⟨"java/util/Objects", "requireNonNull", "(Ljava/lang/Object;Ljava/lang/String;)Ljava/lang/Object;"⟩ : MethodName) (head1 (Jvm.Cond.code (⟨"java/util/Objects", "requireNonNull", "(Ljava/lang/Object;Ljava/lang/String;)Ljava/lang/Object;"⟩ : MethodName) jdk_31_method_11_code 2 (some (.object "java/lang/Object")) :: ws) ({ frames := 0, cells := 0, slots := 0, locals := 0 } : Room)) (fun aQ U => aQ = #[(.ref a), (.ref mg)] ∧ Z.Warmed39 U.vm ∧ U.heap = h0) (fun _ _ _ _ _ => True) (fun _ U oQ U' => ∃ v L, oQ = .returned v ∧ Qrn Z a mg h0 n0 v U'.heap L ∧ FrameEnd U oQ U' L ({ frames := 0, cells := 0, slots := 0, locals := 0 } : Room).cells ({ frames := 0, cells := 0, slots := 0, locals := 0 } : Room).slots) := by
  refine MetFree.of_bodySF (plainFor_of_name pn_3) hisR ?_
  intro p e s m args below meth c s₁ Bd hml0 hP hK
  obtain ⟨rfl, hZ, hh⟩ := hP
  have hx := Bd.exec
  have hby := Bd.bytes
  have hml : c.maxLocals = 2 := hml0
  have hown : s.vm.findClass "java/util/Objects" = some m.cls := findClass_of_methodNamed Bd.named
  have hnm := (name_of_methodNamed Bd.named Bd.method).1
  have X0 : Stand p l e ({ frames := 0, cells := 0, slots := 0, locals := 0 } : Room) s m #[(.ref a), (.ref mg)] below meth c s₁ [] 0 0 := Stand.of_body Bd
  have e0 : s₁.heap = h0 := by rw [← hh, Bd.state]; rfl
  have Nf := Fr.nil n0
  have Zs : n0 ≤ h0.size := Z0
  have Kp : Keep h0 h0 [] := Keep.refl _ _
  have szr : h0.size ≤ h0.size := Nat.le_refl _
  show own_End p e below (Prn Z a mg h0 n0 s) (s₁.setTop (entryFrame m #[(.ref a), (.ref mg)] 2))
  rw [ef_rn]
  refine own_go (fun tQ kQ => XS.aloadN X0.here hx rfl (hb hby drn_0) rfl rfl kQ) ?_
  show own_End p e below _ (s₁.setTop (mkF m 1 #[.val (.ref a), .val (.ref mg)] [(.ref a)]))
  refine own_go (fun tQ kQ => XS.ifnonnullYes X0.here hx rfl (pc0 := 1) (pc' := 13) rfl (hb hby drn_1) rfl (by decide) (by decide) kQ) ?_
  show own_End p e below _ (s₁.setTop (mkF m 13 #[.val (.ref a), .val (.ref mg)] []))
  refine own_go (fun tQ kQ => XS.aloadN X0.here hx rfl (hb hby drn_13) rfl rfl kQ) ?_
  show own_End p e below _ (s₁.setTop (mkF m 14 #[.val (.ref a), .val (.ref mg)] [(.ref a)]))
  obtain ⟨fs, hr, hrun, hended, hW, hsame⟩ := X0.leave (v := some (.ref a)) (fun h => by rw [Bd.returns] at h; cases h)
  refine ⟨_, _, ?_, hrun, hended, _, _, rfl, ?_, ⟨_, rfl⟩, hW, hsame.mono (by decide) (by decide)⟩
  · exact (by
      jvm_step X0.here [X0.here.top, hx, (hb hby drn_14), X0.method', Bd.returns, Value.isRef, FieldType.isReference, narrow]
      first | (intro acts; rw [hr _ acts rfl rfl rfl]) | rw [hr _ _ rfl rfl rfl]
      exact Steps.refl _)
  · show Qrn Z a mg h0 n0 _ s₁.heap _
    rw [e0]
    exact ⟨rfl, Nf, rfl⟩
theorem dpi_0 : decode prog_6_method_1_code 0 = .ok (.aload_n 0, 1) := by decide +kernel
theorem dpi_1 : decode prog_6_method_1_code 1 = .ok (.invokespecial 1, 3) := by decide +kernel
theorem dpi_4 : decode prog_6_method_1_code 4 = .ok (.aload_n 0, 1) := by decide +kernel
theorem dpi_5 : decode prog_6_method_1_code 5 = .ok (.aload_n 1, 1) := by decide +kernel
theorem dpi_6 : decode prog_6_method_1_code 6 = .ok (.putfield 7, 3) := by decide +kernel
theorem dpi_9 : decode prog_6_method_1_code 9 = .ok (.return_, 1) := by decide +kernel
theorem ef_pi (m : MethodId) (x0 : Addr) (x1 : Addr) : entryFrame m #[(.ref x0), (.ref x1)] 2 = mkF m 0 #[.val (.ref x0), .val (.ref x1)] [] := by first | (simp [entryFrame, mkF, argsToLocals, Value.category]; done) | rfl
def Qpi (Z : State) (a : Addr) (st : Addr) (h0 : Heap) (n0 : Nat) (v : Option Value) (h : Heap) (L : List Loc) : Prop := v = none ∧ Fr n0 L ∧ Keep h0 h [a] ∧ Fld Z h a "com/example/grant3/grant3/Permission" "code" "Ljava/lang/String;" (.ref st)
def Ppi (Z : State) (a : Addr) (st : Addr) (h0 : Heap) (n0 : Nat) (s : State) (oQ : Outcome) (U : State) : Prop := ∃ v L, oQ = .returned v ∧ Qpi Z a st h0 n0 v U.heap L ∧ FrameEnd s oQ U L ({ frames := 1, cells := 0, slots := 0, locals := 12 } : Room).cells ({ frames := 1, cells := 0, slots := 0, locals := 12 } : Room).slots
set_option maxRecDepth 65536 in
set_option maxHeartbeats 40000000 in
theorem rmpi (l : Launch) (Z : State) (a0 : Array Value) (hw : ∀ d ∈ tables_1, d.before a0 Z = true) (ws : List Jvm.Cond) (a : Addr) (st : Addr) (h0 : Heap) (n0 : Nat) (Z0 : n0 ≤ h0.size) (E_a : Exa Z h0 a "com/example/grant3/grant3/Permission") (F_code_a : Fld Z h0 a "com/example/grant3/grant3/Permission" "code" "Ljava/lang/String;" .null) (g_a : n0 ≤ a) :
    MetFree l (⟨"com/example/grant3/grant3/Permission", "<init>", "(Ljava/lang/String;)V"⟩ : MethodName) (head1 (Jvm.Cond.code (⟨"com/example/grant3/grant3/Permission", "<init>", "(Ljava/lang/String;)V"⟩ : MethodName) prog_6_method_1_code 2 none :: ws) ({ frames := 1, cells := 0, slots := 0, locals := 12 } : Room)) (fun aQ U => aQ = #[(.ref a), (.ref st)] ∧ Z.Warmed39 U.vm ∧ U.heap = h0) (fun _ _ _ _ _ => True) (fun _ U oQ U' => ∃ v L, oQ = .returned v ∧ Qpi Z a st h0 n0 v U'.heap L ∧ FrameEnd U oQ U' L ({ frames := 1, cells := 0, slots := 0, locals := 12 } : Room).cells ({ frames := 1, cells := 0, slots := 0, locals := 12 } : Room).slots) := by
  refine MetFree.of_bodySF (plainFor_of_name pn_2) hisR ?_
  intro p e s m args below meth c s₁ Bd hml0 hP hK
  obtain ⟨rfl, hZ, hh⟩ := hP
  have hx := Bd.exec
  have hby := Bd.bytes
  have hml : c.maxLocals = 2 := hml0
  have hown : s.vm.findClass "com/example/grant3/grant3/Permission" = some m.cls := findClass_of_methodNamed Bd.named
  have hnm := (name_of_methodNamed Bd.named Bd.method).1
  have X0 : Stand p l e ({ frames := 1, cells := 0, slots := 0, locals := 12 } : Room) s m #[(.ref a), (.ref st)] below meth c s₁ [] 0 0 := Stand.of_body Bd
  have e0 : s₁.heap = h0 := by rw [← hh, Bd.state]; rfl
  have Nf := Fr.nil n0
  have Zs : n0 ≤ h0.size := Z0
  have Kp : Keep h0 h0 [a] := Keep.refl _ _
  have szr : h0.size ≤ h0.size := Nat.le_refl _
  show own_End p e below (Ppi Z a st h0 n0 s) (s₁.setTop (entryFrame m #[(.ref a), (.ref st)] 2))
  rw [ef_pi]
  refine own_go (fun tQ kQ => XS.aloadN X0.here hx rfl (hb hby dpi_0) rfl rfl kQ) ?_
  show own_End p e below _ (s₁.setTop (mkF m 1 #[.val (.ref a), .val (.ref st)] [(.ref a)]))
  obtain ⟨T1, X1, e1, st1⟩ := initO X0 hx hZ hown (hw _ (List.mem_of_getElem? (i := 89) rfl)) (hw _ (List.mem_of_getElem? (i := 20) rfl)) (hw _ (List.mem_of_getElem? (i := 21) rfl)) e0 (g := (mkF m 1 #[.val (.ref a), .val (.ref st)] [(.ref a)])) rfl (by rw [hml]; rfl) rfl (hb hby dpi_1) (by decide) (W := 0) (by show 2 * 0 + _ ≤ _; exact Nat.le_of_eq rfl) (by decide)
  refine own_go (fun tQ kQ => st1 tQ kQ) ?_
  show own_End p e below _ (T1.setTop (mkF m 4 #[.val (.ref a), .val (.ref st)] []))
  refine own_go (fun tQ kQ => XS.aloadN X1.here hx rfl (hb hby dpi_4) rfl rfl kQ) ?_
  show own_End p e below _ (T1.setTop (mkF m 5 #[.val (.ref a), .val (.ref st)] [(.ref a)]))
  refine own_go (fun tQ kQ => XS.aloadN X1.here hx rfl (hb hby dpi_5) rfl rfl kQ) ?_
  show own_End p e below _ (T1.setTop (mkF m 6 #[.val (.ref a), .val (.ref st)] [(.ref st), (.ref a)]))
  obtain ⟨T2, h2, X2, e2, W2, st2⟩ := putF X1 hx hZ hown (host := "") (Or.inl (hw _ (List.mem_of_getElem? (i := 90) rfl))) Via.refl e1 F_code_a E_a (Or.inr ⟨(hw _ (List.mem_of_getElem? (i := 91) rfl)), rfl, hnm⟩) (hw _ (List.mem_of_getElem? (i := 85) rfl)) (ty := (.object "java/lang/String")) (by decide) rfl rfl (g := (mkF m 6 #[.val (.ref a), .val (.ref st)] [(.ref st), (.ref a)])) rfl rfl (hb hby dpi_6)
  have F_code_a := F_code_a.same W2
  have E_a := E_a.wr W2
  have Kp := Kp.wr W2 (Or.inl (List.mem_of_getElem? (i := 0) rfl))
  have Nf := Fr.snoc X2 Nf g_a
  have Zs := Nat.le_trans Zs (Keep.of_wr W2).1
  have szr := Nat.le_trans szr (Keep.of_wr W2).1
  refine own_go (fun tQ kQ => st2 tQ kQ) ?_
  show own_End p e below _ (T2.setTop (mkF m 9 #[.val (.ref a), .val (.ref st)] []))
  obtain ⟨fs, hr, hrun, hended, hW, hsame⟩ := X2.leave (v := none) (fun _ => rfl)
  refine ⟨_, _, X2.returnOut hx Bd.returns (hb hby dpi_9) hr, hrun, hended, _, _, rfl, ?_, ⟨_, rfl⟩, hW, hsame.mono (by decide) (by decide)⟩
  show Qpi Z a st h0 n0 _ T2.heap _
  rw [e2]
  exact ⟨rfl, Nf, Kp, F_code_a⟩
theorem dts_0 : decode prog_6_method_8_code 0 = .ok (.aload_n 0, 1) := by decide +kernel
theorem dts_1 : decode prog_6_method_8_code 1 = .ok (.getfield 7, 3) := by decide +kernel
theorem dts_4 : decode prog_6_method_8_code 4 = .ok (.areturn, 1) := by decide +kernel
theorem ef_ts (m : MethodId) (x0 : Addr) : entryFrame m #[(.ref x0)] 1 = mkF m 0 #[.val (.ref x0)] [] := by first | (simp [entryFrame, mkF, argsToLocals, Value.category]; done) | rfl
def Qts (Z : State) (a : Addr) (st : Addr) (h0 : Heap) (n0 : Nat) (v : Option Value) (h : Heap) (L : List Loc) : Prop := v = some (.ref st) ∧ Fr n0 L ∧ h = h0
def Pts (Z : State) (a : Addr) (st : Addr) (h0 : Heap) (n0 : Nat) (s : State) (oQ : Outcome) (U : State) : Prop := ∃ v L, oQ = .returned v ∧ Qts Z a st h0 n0 v U.heap L ∧ FrameEnd s oQ U L ({ frames := 0, cells := 0, slots := 0, locals := 0 } : Room).cells ({ frames := 0, cells := 0, slots := 0, locals := 0 } : Room).slots
set_option maxRecDepth 65536 in
set_option maxHeartbeats 40000000 in
theorem rmts (l : Launch) (Z : State) (a0 : Array Value) (hw : ∀ d ∈ tables_1, d.before a0 Z = true) (ws : List Jvm.Cond) (a : Addr) (st : Addr) (h0 : Heap) (n0 : Nat) (Z0 : n0 ≤ h0.size) (F_code_a : Fld Z h0 a "com/example/grant3/grant3/Permission" "code" "Ljava/lang/String;" (.ref st)) :
    MetFree l (⟨"com/example/grant3/grant3/Permission", "toString", "()Ljava/lang/String;"⟩ : MethodName) (head1 (Jvm.Cond.code (⟨"com/example/grant3/grant3/Permission", "toString", "()Ljava/lang/String;"⟩ : MethodName) prog_6_method_8_code 1 (some (.object "java/lang/String")) :: ws) ({ frames := 0, cells := 0, slots := 0, locals := 0 } : Room)) (fun aQ U => aQ = #[(.ref a)] ∧ Z.Warmed39 U.vm ∧ U.heap = h0) (fun _ _ _ _ _ => True) (fun _ U oQ U' => ∃ v L, oQ = .returned v ∧ Qts Z a st h0 n0 v U'.heap L ∧ FrameEnd U oQ U' L ({ frames := 0, cells := 0, slots := 0, locals := 0 } : Room).cells ({ frames := 0, cells := 0, slots := 0, locals := 0 } : Room).slots) := by
  refine MetFree.of_bodySF (plainFor_of_name pn_2) hisR ?_
  intro p e s m args below meth c s₁ Bd hml0 hP hK
  obtain ⟨rfl, hZ, hh⟩ := hP
  have hx := Bd.exec
  have hby := Bd.bytes
  have hml : c.maxLocals = 1 := hml0
  have hown : s.vm.findClass "com/example/grant3/grant3/Permission" = some m.cls := findClass_of_methodNamed Bd.named
  have hnm := (name_of_methodNamed Bd.named Bd.method).1
  have X0 : Stand p l e ({ frames := 0, cells := 0, slots := 0, locals := 0 } : Room) s m #[(.ref a)] below meth c s₁ [] 0 0 := Stand.of_body Bd
  have e0 : s₁.heap = h0 := by rw [← hh, Bd.state]; rfl
  have Nf := Fr.nil n0
  have Zs : n0 ≤ h0.size := Z0
  have Kp : Keep h0 h0 [] := Keep.refl _ _
  have szr : h0.size ≤ h0.size := Nat.le_refl _
  show own_End p e below (Pts Z a st h0 n0 s) (s₁.setTop (entryFrame m #[(.ref a)] 1))
  rw [ef_ts]
  refine own_go (fun tQ kQ => XS.aloadN X0.here hx rfl (hb hby dts_0) rfl rfl kQ) ?_
  show own_End p e below _ (s₁.setTop (mkF m 1 #[.val (.ref a)] [(.ref a)]))
  obtain ⟨T1, X1, e1, st1⟩ := getF X0 hx hZ hown (host := "") (Or.inl (hw _ (List.mem_of_getElem? (i := 90) rfl))) Via.refl e0 F_code_a (g := (mkF m 1 #[.val (.ref a)] [(.ref a)])) rfl rfl (hb hby dts_1)
  refine own_go (fun tQ kQ => st1 tQ kQ) ?_
  show own_End p e below _ (T1.setTop (mkF m 4 #[.val (.ref a)] [(.ref st)]))
  obtain ⟨fs, hr, hrun, hended, hW, hsame⟩ := X1.leave (v := some (.ref st)) (fun h => by rw [Bd.returns] at h; cases h)
  refine ⟨_, _, ?_, hrun, hended, _, _, rfl, ?_, ⟨_, rfl⟩, hW, hsame.mono (by decide) (by decide)⟩
  · exact (by
      jvm_step X1.here [X1.here.top, hx, (hb hby dts_4), X1.method', Bd.returns, Value.isRef, FieldType.isReference, narrow]
      first | (intro acts; rw [hr _ acts rfl rfl rfl]) | rw [hr _ _ rfl rfl rfl]
      exact Steps.refl _)
  · show Qts Z a st h0 n0 _ T1.heap _
    rw [e1]
    exact ⟨rfl, Nf, rfl⟩
theorem deq_0 : decode jdk_42_method_66_code 0 = .ok (.aload_n 0, 1) := by decide +kernel
theorem deq_1 : decode jdk_42_method_66_code 1 = .ok (.aload_n 1, 1) := by decide +kernel
theorem deq_2 : decode jdk_42_method_66_code 2 = .ok (.if_acmp .ne 5, 3) := by decide +kernel
theorem deq_5 : decode jdk_42_method_66_code 5 = .ok (.iconst 1, 1) := by decide +kernel
theorem deq_6 : decode jdk_42_method_66_code 6 = .ok (.ireturn, 1) := by decide +kernel
theorem pn_4 : plainName "java/lang/String" = true := by first | (simp [plainName, overriddenIn]; done) | decide +kernel
theorem ef_eq (m : MethodId) (x0 : Addr) (x1 : Addr) : entryFrame m #[(.ref x0), (.ref x1)] 3 = mkF m 0 #[.val (.ref x0), .val (.ref x1), .unset] [] := by first | (simp [entryFrame, mkF, argsToLocals, Value.category]; done) | rfl
def Qeq (Z : State) (st : Addr) (h0 : Heap) (n0 : Nat) (v : Option Value) (h : Heap) (L : List Loc) : Prop := v = some (.int 1) ∧ Fr n0 L ∧ h = h0
def Peq (Z : State) (st : Addr) (h0 : Heap) (n0 : Nat) (s : State) (oQ : Outcome) (U : State) : Prop := ∃ v L, oQ = .returned v ∧ Qeq Z st h0 n0 v U.heap L ∧ FrameEnd s oQ U L ({ frames := 0, cells := 0, slots := 0, locals := 0 } : Room).cells ({ frames := 0, cells := 0, slots := 0, locals := 0 } : Room).slots
set_option maxRecDepth 65536 in
set_option maxHeartbeats 40000000 in
theorem rmeq (l : Launch) (Z : State) (a0 : Array Value) (hw : ∀ d ∈ tables_1, d.before a0 Z = true) (ws : List Jvm.Cond) (st : Addr) (h0 : Heap) (n0 : Nat) (Z0 : n0 ≤ h0.size)  :
    MetFree l (⟨"java/lang/String", "equals", "(Ljava/lang/Object;)Z"⟩ : MethodName) (head1 (Jvm.Cond.code (⟨"java/lang/String", "equals", "(Ljava/lang/Object;)Z"⟩ : MethodName) jdk_42_method_66_code 3 (some .boolean) :: ws) ({ frames := 0, cells := 0, slots := 0, locals := 0 } : Room)) (fun aQ U => aQ = #[(.ref st), (.ref st)] ∧ Z.Warmed39 U.vm ∧ U.heap = h0) (fun _ _ _ _ _ => True) (fun _ U oQ U' => ∃ v L, oQ = .returned v ∧ Qeq Z st h0 n0 v U'.heap L ∧ FrameEnd U oQ U' L ({ frames := 0, cells := 0, slots := 0, locals := 0 } : Room).cells ({ frames := 0, cells := 0, slots := 0, locals := 0 } : Room).slots) := by
  refine MetFree.of_bodySF (plainFor_of_name pn_4) hisR ?_
  intro p e s m args below meth c s₁ Bd hml0 hP hK
  obtain ⟨rfl, hZ, hh⟩ := hP
  have hx := Bd.exec
  have hby := Bd.bytes
  have hml : c.maxLocals = 3 := hml0
  have hown : s.vm.findClass "java/lang/String" = some m.cls := findClass_of_methodNamed Bd.named
  have hnm := (name_of_methodNamed Bd.named Bd.method).1
  have X0 : Stand p l e ({ frames := 0, cells := 0, slots := 0, locals := 0 } : Room) s m #[(.ref st), (.ref st)] below meth c s₁ [] 0 0 := Stand.of_body Bd
  have e0 : s₁.heap = h0 := by rw [← hh, Bd.state]; rfl
  have Nf := Fr.nil n0
  have Zs : n0 ≤ h0.size := Z0
  have Kp : Keep h0 h0 [] := Keep.refl _ _
  have szr : h0.size ≤ h0.size := Nat.le_refl _
  show own_End p e below (Peq Z st h0 n0 s) (s₁.setTop (entryFrame m #[(.ref st), (.ref st)] 3))
  rw [ef_eq]
  refine own_go (fun tQ kQ => XS.aloadN X0.here hx rfl (hb hby deq_0) rfl rfl kQ) ?_
  show own_End p e below _ (s₁.setTop (mkF m 1 #[.val (.ref st), .val (.ref st), .unset] [(.ref st)]))
  refine own_go (fun tQ kQ => XS.aloadN X0.here hx rfl (hb hby deq_1) rfl rfl kQ) ?_
  show own_End p e below _ (s₁.setTop (mkF m 2 #[.val (.ref st), .val (.ref st), .unset] [(.ref st), (.ref st)]))
  refine own_go (fun tQ kQ => Jvm.RoadKit.acmp (g := (mkF m 2 #[.val (.ref st), .val (.ref st), .unset] [(.ref st), (.ref st)])) X0 hx rfl rfl rfl (pc0 := 2) (pc' := 5) (same := true) rfl (hb hby deq_2) rfl (decide_eq_true rfl) (by decide) (by decide) kQ) ?_
  show own_End p e below _ (s₁.setTop (mkF m 5 #[.val (.ref st), .val (.ref st), .unset] []))
  refine own_go (fun tQ kQ => XS.iconst X0.here hx rfl (hb hby deq_5) kQ) ?_
  show own_End p e below _ (s₁.setTop (mkF m 6 #[.val (.ref st), .val (.ref st), .unset] [(.int (1 : Int32))]))
  obtain ⟨fs, hr, hrun, hended, hW, hsame⟩ := X0.leave (v := some (.int (1 : Int32))) (fun h => by rw [Bd.returns] at h; cases h)
  refine ⟨_, _, (retN X0 hx (t := .boolean) Bd.returns (by simp) (hb hby deq_6) hr), hrun, hended, _, _, rfl, ?_, ⟨_, rfl⟩, hW, hsame.mono (by decide) (by decide)⟩
  show Qeq Z st h0 n0 _ s₁.heap _
  rw [e0]
  exact ⟨rfl, Nf, rfl⟩
theorem dcod_0 : decode jdk_42_method_152_code 0 = .ok (.getstatic 38, 3) := by decide +kernel
theorem dcod_3 : decode jdk_42_method_152_code 3 = .ok (.ifCond .eq 10, 3) := by decide +kernel
theorem dcod_6 : decode jdk_42_method_152_code 6 = .ok (.aload_n 0, 1) := by decide +kernel
theorem dcod_7 : decode jdk_42_method_152_code 7 = .ok (.getfield 15, 3) := by decide +kernel
theorem dcod_10 : decode jdk_42_method_152_code 10 = .ok (.goto 4, 3) := by decide +kernel
theorem dcod_14 : decode jdk_42_method_152_code 14 = .ok (.ireturn, 1) := by decide +kernel
theorem ef_cod (m : MethodId) (x0 : Addr) : entryFrame m #[(.ref x0)] 1 = mkF m 0 #[.val (.ref x0)] [] := by first | (simp [entryFrame, mkF, argsToLocals, Value.category]; done) | rfl
def Qcod (Z : State) (st : Addr) (tt : Addr) (z : Int32) (bs : Nat → Int32) (cz : Int32) (h0 : Heap) (n0 : Nat) (v : Option Value) (h : Heap) (L : List Loc) : Prop := v = some (.int 0) ∧ Fr n0 L ∧ h = h0
def Pcod (Z : State) (st : Addr) (tt : Addr) (z : Int32) (bs : Nat → Int32) (cz : Int32) (h0 : Heap) (n0 : Nat) (s : State) (oQ : Outcome) (U : State) : Prop := ∃ v L, oQ = .returned v ∧ Qcod Z st tt z bs cz h0 n0 v U.heap L ∧ FrameEnd s oQ U L ({ frames := 0, cells := 0, slots := 0, locals := 0 } : Room).cells ({ frames := 0, cells := 0, slots := 0, locals := 0 } : Room).slots
set_option maxRecDepth 65536 in
set_option maxHeartbeats 40000000 in
theorem rmcod (l : Launch) (Z : State) (a0 : Array Value) (hw : ∀ d ∈ tables_1, d.before a0 Z = true) (ws : List Jvm.Cond) (st : Addr) (tt : Addr) (z : Int32) (bs : Nat → Int32) (cz : Int32) (h0 : Heap) (n0 : Nat) (Z0 : n0 ≤ h0.size) (E_st : Exa Z h0 st "java/lang/String") (F_value_st : Fld Z h0 st "java/lang/String" "value" "[B" (.ref tt)) (F_coder_st : Fld Z h0 st "java/lang/String" "coder" "B" (.int (0 : Int32))) (V_tt : own_Ar Z h0 tt .byte z (fun j => .int (bs j))) (Ol : Old Z n0 h0) (S_cs : Sta Z Z.heap "java/lang/String" "COMPACT_STRINGS" "Z" (.int cz)) (hcz : ¬ cz = 0) :
    MetFree l (⟨"java/lang/String", "coder", "()B"⟩ : MethodName) (head1 (Jvm.Cond.code (⟨"java/lang/String", "coder", "()B"⟩ : MethodName) jdk_42_method_152_code 1 (some .byte) :: ws) ({ frames := 0, cells := 0, slots := 0, locals := 0 } : Room)) (fun aQ U => aQ = #[(.ref st)] ∧ Z.Warmed39 U.vm ∧ U.heap = h0) (fun _ _ _ _ _ => True) (fun _ U oQ U' => ∃ v L, oQ = .returned v ∧ Qcod Z st tt z bs cz h0 n0 v U'.heap L ∧ FrameEnd U oQ U' L ({ frames := 0, cells := 0, slots := 0, locals := 0 } : Room).cells ({ frames := 0, cells := 0, slots := 0, locals := 0 } : Room).slots) := by
  refine MetFree.of_bodySF (plainFor_of_name pn_4) hisR ?_
  intro p e s m args below meth c s₁ Bd hml0 hP hK
  obtain ⟨rfl, hZ, hh⟩ := hP
  have hx := Bd.exec
  have hby := Bd.bytes
  have hml : c.maxLocals = 1 := hml0
  have hown : s.vm.findClass "java/lang/String" = some m.cls := findClass_of_methodNamed Bd.named
  have hnm := (name_of_methodNamed Bd.named Bd.method).1
  have X0 : Stand p l e ({ frames := 0, cells := 0, slots := 0, locals := 0 } : Room) s m #[(.ref st)] below meth c s₁ [] 0 0 := Stand.of_body Bd
  have e0 : s₁.heap = h0 := by rw [← hh, Bd.state]; rfl
  have Nf := Fr.nil n0
  have Zs : n0 ≤ h0.size := Z0
  have Kp : Keep h0 h0 [] := Keep.refl _ _
  have szr : h0.size ≤ h0.size := Nat.le_refl _
  show own_End p e below (Pcod Z st tt z bs cz h0 n0 s) (s₁.setTop (entryFrame m #[(.ref st)] 1))
  rw [ef_cod]
  obtain ⟨T1, X1, e1, st1⟩ := getS2 X0 hx hZ hown (host := "") (Or.inl (hw _ (List.mem_of_getElem? (i := 22) rfl))) Via.refl e0 (S_cs.ext Ol.2) (g := (mkF m 0 #[.val (.ref st)] [])) rfl (hb hby dcod_0)
  refine own_go (fun tQ kQ => st1 tQ kQ) ?_
  show own_End p e below _ (T1.setTop (mkF m 3 #[.val (.ref st)] [(.int cz)]))
  refine own_go (fun tQ kQ => XS.ifNo X1.here hx rfl (hb hby dcod_3) rfl ((if0 _ _).trans (feq hcz).1) kQ) ?_
  show own_End p e below _ (T1.setTop (mkF m 6 #[.val (.ref st)] []))
  refine own_go (fun tQ kQ => XS.aloadN X1.here hx rfl (hb hby dcod_6) rfl rfl kQ) ?_
  show own_End p e below _ (T1.setTop (mkF m 7 #[.val (.ref st)] [(.ref st)]))
  obtain ⟨T2, X2, e2, st2⟩ := getF X1 hx hZ hown (host := "") (Or.inl (hw _ (List.mem_of_getElem? (i := 34) rfl))) Via.refl e1 F_coder_st (g := (mkF m 7 #[.val (.ref st)] [(.ref st)])) rfl rfl (hb hby dcod_7)
  refine own_go (fun tQ kQ => st2 tQ kQ) ?_
  show own_End p e below _ (T2.setTop (mkF m 10 #[.val (.ref st)] [(.int (0 : Int32))]))
  refine own_go (fun tQ kQ => XS.goto X2.here hx rfl (pc0 := 10) (pc' := 14) rfl (hb hby dcod_10) (by decide) (by decide) kQ) ?_
  show own_End p e below _ (T2.setTop (mkF m 14 #[.val (.ref st)] [(.int (0 : Int32))]))
  obtain ⟨fs, hr, hrun, hended, hW, hsame⟩ := X2.leave (v := some (.int (0 : Int32))) (fun h => by rw [Bd.returns] at h; cases h)
  refine ⟨_, _, (retN X2 hx (t := .byte) Bd.returns (by simp) (hb hby dcod_14) hr), hrun, hended, _, _, rfl, ?_, ⟨_, rfl⟩, hW, hsame.mono (by decide) (by decide)⟩
  show Qcod Z st tt z bs cz h0 n0 _ T2.heap _
  rw [e2]
  exact ⟨rfl, Nf, rfl⟩
theorem dlat_0 : decode jdk_42_method_154_code 0 = .ok (.getstatic 38, 3) := by decide +kernel
theorem dlat_3 : decode jdk_42_method_154_code 3 = .ok (.ifCond .eq 14, 3) := by decide +kernel
theorem dlat_6 : decode jdk_42_method_154_code 6 = .ok (.aload_n 0, 1) := by decide +kernel
theorem dlat_7 : decode jdk_42_method_154_code 7 = .ok (.getfield 15, 3) := by decide +kernel
theorem dlat_10 : decode jdk_42_method_154_code 10 = .ok (.ifCond .ne 7, 3) := by decide +kernel
theorem dlat_13 : decode jdk_42_method_154_code 13 = .ok (.iconst 1, 1) := by decide +kernel
theorem dlat_14 : decode jdk_42_method_154_code 14 = .ok (.goto 4, 3) := by decide +kernel
theorem dlat_18 : decode jdk_42_method_154_code 18 = .ok (.ireturn, 1) := by decide +kernel
theorem ef_lat (m : MethodId) (x0 : Addr) : entryFrame m #[(.ref x0)] 1 = mkF m 0 #[.val (.ref x0)] [] := by first | (simp [entryFrame, mkF, argsToLocals, Value.category]; done) | rfl
def Qlat (Z : State) (st : Addr) (tt : Addr) (z : Int32) (bs : Nat → Int32) (cz : Int32) (h0 : Heap) (n0 : Nat) (v : Option Value) (h : Heap) (L : List Loc) : Prop := v = some (.int 1) ∧ Fr n0 L ∧ h = h0
def Plat (Z : State) (st : Addr) (tt : Addr) (z : Int32) (bs : Nat → Int32) (cz : Int32) (h0 : Heap) (n0 : Nat) (s : State) (oQ : Outcome) (U : State) : Prop := ∃ v L, oQ = .returned v ∧ Qlat Z st tt z bs cz h0 n0 v U.heap L ∧ FrameEnd s oQ U L ({ frames := 0, cells := 0, slots := 0, locals := 0 } : Room).cells ({ frames := 0, cells := 0, slots := 0, locals := 0 } : Room).slots
set_option maxRecDepth 65536 in
set_option maxHeartbeats 40000000 in
theorem rmlat (l : Launch) (Z : State) (a0 : Array Value) (hw : ∀ d ∈ tables_1, d.before a0 Z = true) (ws : List Jvm.Cond) (st : Addr) (tt : Addr) (z : Int32) (bs : Nat → Int32) (cz : Int32) (h0 : Heap) (n0 : Nat) (Z0 : n0 ≤ h0.size) (E_st : Exa Z h0 st "java/lang/String") (F_value_st : Fld Z h0 st "java/lang/String" "value" "[B" (.ref tt)) (F_coder_st : Fld Z h0 st "java/lang/String" "coder" "B" (.int (0 : Int32))) (V_tt : own_Ar Z h0 tt .byte z (fun j => .int (bs j))) (Ol : Old Z n0 h0) (S_cs : Sta Z Z.heap "java/lang/String" "COMPACT_STRINGS" "Z" (.int cz)) (hcz : ¬ cz = 0) :
    MetFree l (⟨"java/lang/String", "isLatin1", "()Z"⟩ : MethodName) (head1 (Jvm.Cond.code (⟨"java/lang/String", "isLatin1", "()Z"⟩ : MethodName) jdk_42_method_154_code 1 (some .boolean) :: ws) ({ frames := 0, cells := 0, slots := 0, locals := 0 } : Room)) (fun aQ U => aQ = #[(.ref st)] ∧ Z.Warmed39 U.vm ∧ U.heap = h0) (fun _ _ _ _ _ => True) (fun _ U oQ U' => ∃ v L, oQ = .returned v ∧ Qlat Z st tt z bs cz h0 n0 v U'.heap L ∧ FrameEnd U oQ U' L ({ frames := 0, cells := 0, slots := 0, locals := 0 } : Room).cells ({ frames := 0, cells := 0, slots := 0, locals := 0 } : Room).slots) := by
  refine MetFree.of_bodySF (plainFor_of_name pn_4) hisR ?_
  intro p e s m args below meth c s₁ Bd hml0 hP hK
  obtain ⟨rfl, hZ, hh⟩ := hP
  have hx := Bd.exec
  have hby := Bd.bytes
  have hml : c.maxLocals = 1 := hml0
  have hown : s.vm.findClass "java/lang/String" = some m.cls := findClass_of_methodNamed Bd.named
  have hnm := (name_of_methodNamed Bd.named Bd.method).1
  have X0 : Stand p l e ({ frames := 0, cells := 0, slots := 0, locals := 0 } : Room) s m #[(.ref st)] below meth c s₁ [] 0 0 := Stand.of_body Bd
  have e0 : s₁.heap = h0 := by rw [← hh, Bd.state]; rfl
  have Nf := Fr.nil n0
  have Zs : n0 ≤ h0.size := Z0
  have Kp : Keep h0 h0 [] := Keep.refl _ _
  have szr : h0.size ≤ h0.size := Nat.le_refl _
  show own_End p e below (Plat Z st tt z bs cz h0 n0 s) (s₁.setTop (entryFrame m #[(.ref st)] 1))
  rw [ef_lat]
  obtain ⟨T1, X1, e1, st1⟩ := getS2 X0 hx hZ hown (host := "") (Or.inl (hw _ (List.mem_of_getElem? (i := 22) rfl))) Via.refl e0 (S_cs.ext Ol.2) (g := (mkF m 0 #[.val (.ref st)] [])) rfl (hb hby dlat_0)
  refine own_go (fun tQ kQ => st1 tQ kQ) ?_
  show own_End p e below _ (T1.setTop (mkF m 3 #[.val (.ref st)] [(.int cz)]))
  refine own_go (fun tQ kQ => XS.ifNo X1.here hx rfl (hb hby dlat_3) rfl ((if0 _ _).trans (feq hcz).1) kQ) ?_
  show own_End p e below _ (T1.setTop (mkF m 6 #[.val (.ref st)] []))
  refine own_go (fun tQ kQ => XS.aloadN X1.here hx rfl (hb hby dlat_6) rfl rfl kQ) ?_
  show own_End p e below _ (T1.setTop (mkF m 7 #[.val (.ref st)] [(.ref st)]))
  obtain ⟨T2, X2, e2, st2⟩ := getF X1 hx hZ hown (host := "") (Or.inl (hw _ (List.mem_of_getElem? (i := 34) rfl))) Via.refl e1 F_coder_st (g := (mkF m 7 #[.val (.ref st)] [(.ref st)])) rfl rfl (hb hby dlat_7)
  refine own_go (fun tQ kQ => st2 tQ kQ) ?_
  show own_End p e below _ (T2.setTop (mkF m 10 #[.val (.ref st)] [(.int (0 : Int32))]))
  refine own_go (fun tQ kQ => XS.ifNo X2.here hx rfl (hb hby dlat_10) rfl ((if0 _ _).trans (teq (by decide)).2) kQ) ?_
  show own_End p e below _ (T2.setTop (mkF m 13 #[.val (.ref st)] []))
  refine own_go (fun tQ kQ => XS.iconst X2.here hx rfl (hb hby dlat_13) kQ) ?_
  show own_End p e below _ (T2.setTop (mkF m 14 #[.val (.ref st)] [(.int (1 : Int32))]))
  refine own_go (fun tQ kQ => XS.goto X2.here hx rfl (pc0 := 14) (pc' := 18) rfl (hb hby dlat_14) (by decide) (by decide) kQ) ?_
  show own_End p e below _ (T2.setTop (mkF m 18 #[.val (.ref st)] [(.int (1 : Int32))]))
  obtain ⟨fs, hr, hrun, hended, hW, hsame⟩ := X2.leave (v := some (.int (1 : Int32))) (fun h => by rw [Bd.returns] at h; cases h)
  refine ⟨_, _, (retN X2 hx (t := .boolean) Bd.returns (by simp) (hb hby dlat_18) hr), hrun, hended, _, _, rfl, ?_, ⟨_, rfl⟩, hW, hsame.mono (by decide) (by decide)⟩
  show Qlat Z st tt z bs cz h0 n0 _ T2.heap _
  rw [e2]
  exact ⟨rfl, Nf, rfl⟩
theorem pd_5 : parseMethodDescriptor "()B" = some ⟨[], some .byte⟩ := by decide +kernel
theorem dlen_0 : decode jdk_42_method_54_code 0 = .ok (.aload_n 0, 1) := by decide +kernel
theorem dlen_1 : decode jdk_42_method_54_code 1 = .ok (.getfield 9, 3) := by decide +kernel
theorem dlen_4 : decode jdk_42_method_54_code 4 = .ok (.arraylength, 1) := by decide +kernel
theorem dlen_5 : decode jdk_42_method_54_code 5 = .ok (.aload_n 0, 1) := by decide +kernel
theorem dlen_6 : decode jdk_42_method_54_code 6 = .ok (.invokevirtual 335, 3) := by decide +kernel
theorem dlen_9 : decode jdk_42_method_54_code 9 = .ok (.ishr, 1) := by decide +kernel
theorem dlen_10 : decode jdk_42_method_54_code 10 = .ok (.ireturn, 1) := by decide +kernel
theorem ef_len (m : MethodId) (x0 : Addr) : entryFrame m #[(.ref x0)] 1 = mkF m 0 #[.val (.ref x0)] [] := by first | (simp [entryFrame, mkF, argsToLocals, Value.category]; done) | rfl
def Qlen (Z : State) (st : Addr) (tt : Addr) (z : Int32) (bs : Nat → Int32) (cz : Int32) (h0 : Heap) (n0 : Nat) (v : Option Value) (h : Heap) (L : List Loc) : Prop := v = some (.int z) ∧ Fr n0 L ∧ h = h0
def Plen (Z : State) (st : Addr) (tt : Addr) (z : Int32) (bs : Nat → Int32) (cz : Int32) (h0 : Heap) (n0 : Nat) (s : State) (oQ : Outcome) (U : State) : Prop := ∃ v L, oQ = .returned v ∧ Qlen Z st tt z bs cz h0 n0 v U.heap L ∧ FrameEnd s oQ U L ({ frames := 1, cells := 0, slots := 0, locals := 13 } : Room).cells ({ frames := 1, cells := 0, slots := 0, locals := 13 } : Room).slots
set_option maxRecDepth 65536 in
set_option maxHeartbeats 40000000 in
theorem rmlen (l : Launch) (Z : State) (a0 : Array Value) (hw : ∀ d ∈ tables_1, d.before a0 Z = true) (ws : List Jvm.Cond) (st : Addr) (tt : Addr) (z : Int32) (bs : Nat → Int32) (cz : Int32) (h0 : Heap) (n0 : Nat) (Z0 : n0 ≤ h0.size) (E_st : Exa Z h0 st "java/lang/String") (F_value_st : Fld Z h0 st "java/lang/String" "value" "[B" (.ref tt)) (F_coder_st : Fld Z h0 st "java/lang/String" "coder" "B" (.int (0 : Int32))) (V_tt : own_Ar Z h0 tt .byte z (fun j => .int (bs j))) (Ol : Old Z n0 h0) (S_cs : Sta Z Z.heap "java/lang/String" "COMPACT_STRINGS" "Z" (.int cz)) (hcz : ¬ cz = 0) :
    MetFree l (⟨"java/lang/String", "length", "()I"⟩ : MethodName) (head1 (Jvm.Cond.code (⟨"java/lang/String", "length", "()I"⟩ : MethodName) jdk_42_method_54_code 1 (some .int) :: ws) ({ frames := 1, cells := 0, slots := 0, locals := 13 } : Room)) (fun aQ U => aQ = #[(.ref st)] ∧ Z.Warmed39 U.vm ∧ U.heap = h0) (fun _ _ _ _ _ => True) (fun _ U oQ U' => ∃ v L, oQ = .returned v ∧ Qlen Z st tt z bs cz h0 n0 v U'.heap L ∧ FrameEnd U oQ U' L ({ frames := 1, cells := 0, slots := 0, locals := 13 } : Room).cells ({ frames := 1, cells := 0, slots := 0, locals := 13 } : Room).slots) := by
  refine MetFree.of_bodySF (plainFor_of_name pn_4) hisR ?_
  intro p e s m args below meth c s₁ Bd hml0 hP hK
  obtain ⟨rfl, hZ, hh⟩ := hP
  have hx := Bd.exec
  have hby := Bd.bytes
  have hml : c.maxLocals = 1 := hml0
  have hown : s.vm.findClass "java/lang/String" = some m.cls := findClass_of_methodNamed Bd.named
  have hnm := (name_of_methodNamed Bd.named Bd.method).1
  have X0 : Stand p l e ({ frames := 1, cells := 0, slots := 0, locals := 13 } : Room) s m #[(.ref st)] below meth c s₁ [] 0 0 := Stand.of_body Bd
  have e0 : s₁.heap = h0 := by rw [← hh, Bd.state]; rfl
  have Nf := Fr.nil n0
  have Zs : n0 ≤ h0.size := Z0
  have Kp : Keep h0 h0 [] := Keep.refl _ _
  have szr : h0.size ≤ h0.size := Nat.le_refl _
  show own_End p e below (Plen Z st tt z bs cz h0 n0 s) (s₁.setTop (entryFrame m #[(.ref st)] 1))
  rw [ef_len]
  refine own_go (fun tQ kQ => XS.aloadN X0.here hx rfl (hb hby dlen_0) rfl rfl kQ) ?_
  show own_End p e below _ (s₁.setTop (mkF m 1 #[.val (.ref st)] [(.ref st)]))
  obtain ⟨T1, X1, e1, st1⟩ := getF X0 hx hZ hown (host := "") (Or.inl (hw _ (List.mem_of_getElem? (i := 36) rfl))) Via.refl e0 F_value_st (g := (mkF m 1 #[.val (.ref st)] [(.ref st)])) rfl rfl (hb hby dlen_1)
  refine own_go (fun tQ kQ => st1 tQ kQ) ?_
  show own_End p e below _ (T1.setTop (mkF m 4 #[.val (.ref st)] [(.ref tt)]))
  obtain ⟨cl2, Ar2, S2, M2, H2⟩ := id V_tt
  refine own_go (fun tQ kQ => X1.arraylength hx (by rw [e1]; exact Ar2.1) (State.isArrayOf_alike hZ.alike Ar2.2.1) (g := (mkF m 4 #[.val (.ref st)] [(.ref tt)])) rfl rfl (hb hby dlen_4) _ kQ) ?_
  rw [len_of S2 M2]
  show own_End p e below _ (T1.setTop (mkF m 5 #[.val (.ref st)] [(.int z)]))
  refine own_go (fun tQ kQ => XS.aloadN X1.here hx rfl (hb hby dlen_5) rfl rfl kQ) ?_
  show own_End p e below _ (T1.setTop (mkF m 6 #[.val (.ref st)] [(.ref st), (.int z)]))
  obtain ⟨cq3, kq3, q3a, q3b, q3c⟩ := isOf hZ e1 E_st
  obtain ⟨_, _, ⟨T3, L3, k3, n3⟩, -, X3, ⟨Lc3, hQ3, l3, y3, z3⟩, st3⟩ := X1.virtualBack hx (y := (⟨"java/lang/String", "coder", "()B"⟩ : MethodName)) (z := (⟨"java/lang/String", "coder", "()B"⟩ : MethodName)) hown (mvT hZ (hw _ (List.mem_of_getElem? (i := 54) rfl))) (mvT hZ (hw _ (List.mem_of_getElem? (i := 55) rfl))) (notFace_of_selects (args := #[]) (mvT hZ (hw _ (List.mem_of_getElem? (i := 57) rfl)))) (mvT hZ (hw _ (List.mem_of_getElem? (i := 57) rfl))) (mvT hZ (hw _ (List.mem_of_getElem? (i := 56) rfl))) (by decide) (backOf (W := 1) (rmcod l Z a0 hw [] st tt z bs cz h0 n0 Zs E_st F_value_st F_coder_st V_tt Ol S_cs hcz) hZ (hw _ (List.mem_of_getElem? (i := 58) rfl)) (hw _ (List.mem_of_getElem? (i := 10) rfl)) (by decide) (by decide)) q3a q3c (g := (mkF m 6 #[.val (.ref st)] [(.ref st), (.int z)])) rfl (by rw [hml]; rfl) (Steps.refl _) (argsL := []) (rest := [(.int z)]) (lenOf pd_5 rfl) rfl (by show 2 * 0 + _ ≤ _; exact Nat.le_of_eq rfl) (hb hby dlen_6) (fun _ _ => ⟨rfl, e1, (Nat.le_of_ble_eq_true rfl), (Nat.le_of_ble_eq_true rfl)⟩)
  dsimp only [Pt.U, Pt.locs, Pt.cells, Pt.slots] at X3 l3 y3 z3 st3 hQ3
  subst l3 y3 z3
  obtain ⟨rfl, N3q, e3⟩ := hQ3
  have Nf := Fr.app Nf N3q
  refine own_go (fun tQ kQ => st3.trans kQ) ?_
  show own_End p e below _ (T3.setTop (mkF m 9 #[.val (.ref st)] [(.int (0 : Int32)), (.int z)]))
  refine own_go (fun tQ kQ => XS.ishr X3.here hx rfl (hb hby dlen_9) rfl kQ) ?_
  show own_End p e below _ (T3.setTop (mkF m 10 #[.val (.ref st)] [(.int (z >>> ((0 : Int32) &&& 31)))]))
  rw [own_sh0]
  show own_End p e below _ (T3.setTop (mkF m 10 #[.val (.ref st)] [(.int z)]))
  obtain ⟨fs, hr, hrun, hended, hW, hsame⟩ := X3.leave (v := some (.int z)) (fun h => by rw [Bd.returns] at h; cases h)
  refine ⟨_, _, (retI X3 hx Bd.returns (hb hby dlen_10) hr), hrun, hended, _, _, rfl, ?_, ⟨_, rfl⟩, hW, hsame.mono (by decide) (by decide)⟩
  show Qlen Z st tt z bs cz h0 n0 _ T3.heap _
  rw [e3]
  exact ⟨rfl, Nf, rfl⟩
theorem dpci_0 : decode jdk_41_method_11_code 0 = .ok (.iload_n 0, 1) := by decide +kernel
theorem dpci_1 : decode jdk_41_method_11_code 1 = .ok (.ifCond .lt 8, 3) := by decide +kernel
theorem dpci_4 : decode jdk_41_method_11_code 4 = .ok (.iload_n 0, 1) := by decide +kernel
theorem dpci_5 : decode jdk_41_method_11_code 5 = .ok (.iload_n 1, 1) := by decide +kernel
theorem dpci_6 : decode jdk_41_method_11_code 6 = .ok (.if_icmp .lt 10, 3) := by decide +kernel
theorem dpci_16 : decode jdk_41_method_11_code 16 = .ok (.iload_n 0, 1) := by decide +kernel
theorem dpci_17 : decode jdk_41_method_11_code 17 = .ok (.ireturn, 1) := by decide +kernel
theorem pn_6 : plainName "jdk/internal/util/Preconditions" = true := by first | (simp [plainName, overriddenIn]; done) | decide +kernel
theorem ef_pci (m : MethodId) (x0 : Int32) (x1 : Int32) (x2 : Value) (hx2 : x2.isRef = true) : entryFrame m #[(.int x0), (.int x1), x2] 3 = mkF m 0 #[.val (.int x0), .val (.int x1), .val x2] [] := by
  rcases ref_cases hx2 with rfl | ⟨_, rfl⟩
  all_goals first | (simp [entryFrame, mkF, argsToLocals, Value.category]; done) | rfl
def Qpci (Z : State) (i1 : Int32) (i2 : Int32) (fm : Value) (h0 : Heap) (n0 : Nat) (v : Option Value) (h : Heap) (L : List Loc) : Prop := v = some (.int i1) ∧ Fr n0 L ∧ h = h0
def Ppci (Z : State) (i1 : Int32) (i2 : Int32) (fm : Value) (h0 : Heap) (n0 : Nat) (s : State) (oQ : Outcome) (U : State) : Prop := ∃ v L, oQ = .returned v ∧ Qpci Z i1 i2 fm h0 n0 v U.heap L ∧ FrameEnd s oQ U L ({ frames := 0, cells := 0, slots := 0, locals := 0 } : Room).cells ({ frames := 0, cells := 0, slots := 0, locals := 0 } : Room).slots
set_option maxRecDepth 65536 in
set_option maxHeartbeats 40000000 in
theorem rmpci (l : Launch) (Z : State) (a0 : Array Value) (hw : ∀ d ∈ tables_1, d.before a0 Z = true) (ws : List Jvm.Cond) (i1 : Int32) (i2 : Int32) (fm : Value) (h0 : Heap) (n0 : Nat) (Z0 : n0 ≤ h0.size) (rfm : fm.isRef = true) (hi0 : ¬ i1 < 0) (hi1 : i1 < i2) :
    MetFree l (⟨"jdk/internal/util/Preconditions", "checkIndex", "(IILjava/util/function/BiFunction;)I"⟩ : MethodName) (head1 (Jvm.Cond.code (⟨"jdk/internal/util/Preconditions", "checkIndex", "(IILjava/util/function/BiFunction;)I"⟩ : MethodName) jdk_41_method_11_code 3 (some .int) :: ws) ({ frames := 0, cells := 0, slots := 0, locals := 0 } : Room)) (fun aQ U => aQ = #[(.int i1), (.int i2), fm] ∧ Z.Warmed39 U.vm ∧ U.heap = h0) (fun _ _ _ _ _ => True) (fun _ U oQ U' => ∃ v L, oQ = .returned v ∧ Qpci Z i1 i2 fm h0 n0 v U'.heap L ∧ FrameEnd U oQ U' L ({ frames := 0, cells := 0, slots := 0, locals := 0 } : Room).cells ({ frames := 0, cells := 0, slots := 0, locals := 0 } : Room).slots) := by
  refine MetFree.of_bodySF (plainFor_of_name pn_6) hisR ?_
  intro p e s m args below meth c s₁ Bd hml0 hP hK
  obtain ⟨rfl, hZ, hh⟩ := hP
  have hx := Bd.exec
  have hby := Bd.bytes
  have hml : c.maxLocals = 3 := hml0
  have hown : s.vm.findClass "jdk/internal/util/Preconditions" = some m.cls := findClass_of_methodNamed Bd.named
  have hnm := (name_of_methodNamed Bd.named Bd.method).1
  have X0 : Stand p l e ({ frames := 0, cells := 0, slots := 0, locals := 0 } : Room) s m #[(.int i1), (.int i2), fm] below meth c s₁ [] 0 0 := Stand.of_body Bd
  have e0 : s₁.heap = h0 := by rw [← hh, Bd.state]; rfl
  have Nf := Fr.nil n0
  have Zs : n0 ≤ h0.size := Z0
  have Kp : Keep h0 h0 [] := Keep.refl _ _
  have szr : h0.size ≤ h0.size := Nat.le_refl _
  show own_End p e below (Ppci Z i1 i2 fm h0 n0 s) (s₁.setTop (entryFrame m #[(.int i1), (.int i2), fm] 3))
  rw [ef_pci m _ _ _ rfm]
  refine own_go (fun tQ kQ => XS.iloadN X0.here hx rfl (hb hby dpci_0) rfl kQ) ?_
  show own_End p e below _ (s₁.setTop (mkF m 1 #[.val (.int i1), .val (.int i2), .val fm] [(.int i1)]))
  refine own_go (fun tQ kQ => XS.ifNo X0.here hx rfl (hb hby dpci_1) rfl ((if0 _ _).trans (flt hi0).1) kQ) ?_
  show own_End p e below _ (s₁.setTop (mkF m 4 #[.val (.int i1), .val (.int i2), .val fm] []))
  refine own_go (fun tQ kQ => XS.iloadN X0.here hx rfl (hb hby dpci_4) rfl kQ) ?_
  show own_End p e below _ (s₁.setTop (mkF m 5 #[.val (.int i1), .val (.int i2), .val fm] [(.int i1)]))
  refine own_go (fun tQ kQ => XS.iloadN X0.here hx rfl (hb hby dpci_5) rfl kQ) ?_
  show own_End p e below _ (s₁.setTop (mkF m 6 #[.val (.int i1), .val (.int i2), .val fm] [(.int i2), (.int i1)]))
  refine own_go (fun tQ kQ => XS.icmpYes X0.here hx rfl (pc0 := 6) (pc' := 16) rfl (hb hby dpci_6) rfl (tlt hi1).1 (by decide) (by decide) kQ) ?_
  show own_End p e below _ (s₁.setTop (mkF m 16 #[.val (.int i1), .val (.int i2), .val fm] []))
  refine own_go (fun tQ kQ => XS.iloadN X0.here hx rfl (hb hby dpci_16) rfl kQ) ?_
  show own_End p e below _ (s₁.setTop (mkF m 17 #[.val (.int i1), .val (.int i2), .val fm] [(.int i1)]))
  obtain ⟨fs, hr, hrun, hended, hW, hsame⟩ := X0.leave (v := some (.int i1)) (fun h => by rw [Bd.returns] at h; cases h)
  refine ⟨_, _, (retI X0 hx Bd.returns (hb hby dpci_17) hr), hrun, hended, _, _, rfl, ?_, ⟨_, rfl⟩, hW, hsame.mono (by decide) (by decide)⟩
  show Qpci Z i1 i2 fm h0 n0 _ s₁.heap _
  rw [e0]
  exact ⟨rfl, Nf, rfl⟩
theorem pd_7 : parseMethodDescriptor "(IILjava/util/function/BiFunction;)I" = some ⟨[.int, .int, (.object "java/util/function/BiFunction")], some .int⟩ := by decide +kernel
theorem dsci_0 : decode jdk_42_method_155_code 0 = .ok (.iload_n 0, 1) := by decide +kernel
theorem dsci_1 : decode jdk_42_method_155_code 1 = .ok (.iload_n 1, 1) := by decide +kernel
theorem dsci_2 : decode jdk_42_method_155_code 2 = .ok (.getstatic 1053, 3) := by decide +kernel
theorem dsci_5 : decode jdk_42_method_155_code 5 = .ok (.invokestatic 1059, 3) := by decide +kernel
theorem dsci_8 : decode jdk_42_method_155_code 8 = .ok (.pop, 1) := by decide +kernel
theorem dsci_9 : decode jdk_42_method_155_code 9 = .ok (.return_, 1) := by decide +kernel
theorem ef_sci (m : MethodId) (x0 : Int32) (x1 : Int32) : entryFrame m #[(.int x0), (.int x1)] 2 = mkF m 0 #[.val (.int x0), .val (.int x1)] [] := by first | (simp [entryFrame, mkF, argsToLocals, Value.category]; done) | rfl
def Qsci (Z : State) (i1 : Int32) (i2 : Int32) (fm : Value) (h0 : Heap) (n0 : Nat) (v : Option Value) (h : Heap) (L : List Loc) : Prop := v = none ∧ Fr n0 L ∧ h = h0
def Psci (Z : State) (i1 : Int32) (i2 : Int32) (fm : Value) (h0 : Heap) (n0 : Nat) (s : State) (oQ : Outcome) (U : State) : Prop := ∃ v L, oQ = .returned v ∧ Qsci Z i1 i2 fm h0 n0 v U.heap L ∧ FrameEnd s oQ U L ({ frames := 1, cells := 0, slots := 0, locals := 14 } : Room).cells ({ frames := 1, cells := 0, slots := 0, locals := 14 } : Room).slots
set_option maxRecDepth 65536 in
set_option maxHeartbeats 40000000 in
theorem rmsci (l : Launch) (Z : State) (a0 : Array Value) (hw : ∀ d ∈ tables_1, d.before a0 Z = true) (ws : List Jvm.Cond) (i1 : Int32) (i2 : Int32) (fm : Value) (h0 : Heap) (n0 : Nat) (Z0 : n0 ≤ h0.size) (Ol : Old Z n0 h0) (S_fm : Sta Z Z.heap "jdk/internal/util/Preconditions" "SIOOBE_FORMATTER" "Ljava/util/function/BiFunction;" fm) (rfm : fm.isRef = true) (hi0 : ¬ i1 < 0) (hi1 : i1 < i2) :
    MetFree l (⟨"java/lang/String", "checkIndex", "(II)V"⟩ : MethodName) (head1 (Jvm.Cond.code (⟨"java/lang/String", "checkIndex", "(II)V"⟩ : MethodName) jdk_42_method_155_code 2 none :: ws) ({ frames := 1, cells := 0, slots := 0, locals := 14 } : Room)) (fun aQ U => aQ = #[(.int i1), (.int i2)] ∧ Z.Warmed39 U.vm ∧ U.heap = h0) (fun _ _ _ _ _ => True) (fun _ U oQ U' => ∃ v L, oQ = .returned v ∧ Qsci Z i1 i2 fm h0 n0 v U'.heap L ∧ FrameEnd U oQ U' L ({ frames := 1, cells := 0, slots := 0, locals := 14 } : Room).cells ({ frames := 1, cells := 0, slots := 0, locals := 14 } : Room).slots) := by
  refine MetFree.of_bodySF (plainFor_of_name pn_4) hisR ?_
  intro p e s m args below meth c s₁ Bd hml0 hP hK
  obtain ⟨rfl, hZ, hh⟩ := hP
  have hx := Bd.exec
  have hby := Bd.bytes
  have hml : c.maxLocals = 2 := hml0
  have hown : s.vm.findClass "java/lang/String" = some m.cls := findClass_of_methodNamed Bd.named
  have hnm := (name_of_methodNamed Bd.named Bd.method).1
  have X0 : Stand p l e ({ frames := 1, cells := 0, slots := 0, locals := 14 } : Room) s m #[(.int i1), (.int i2)] below meth c s₁ [] 0 0 := Stand.of_body Bd
  have e0 : s₁.heap = h0 := by rw [← hh, Bd.state]; rfl
  have Nf := Fr.nil n0
  have Zs : n0 ≤ h0.size := Z0
  have Kp : Keep h0 h0 [] := Keep.refl _ _
  have szr : h0.size ≤ h0.size := Nat.le_refl _
  show own_End p e below (Psci Z i1 i2 fm h0 n0 s) (s₁.setTop (entryFrame m #[(.int i1), (.int i2)] 2))
  rw [ef_sci]
  refine own_go (fun tQ kQ => XS.iloadN X0.here hx rfl (hb hby dsci_0) rfl kQ) ?_
  show own_End p e below _ (s₁.setTop (mkF m 1 #[.val (.int i1), .val (.int i2)] [(.int i1)]))
  refine own_go (fun tQ kQ => XS.iloadN X0.here hx rfl (hb hby dsci_1) rfl kQ) ?_
  show own_End p e below _ (s₁.setTop (mkF m 2 #[.val (.int i1), .val (.int i2)] [(.int i2), (.int i1)]))
  obtain ⟨T1, X1, e1, st1⟩ := getS2 X0 hx hZ hown (host := "") (Or.inl (hw _ (List.mem_of_getElem? (i := 76) rfl))) Via.refl e0 (S_fm.ext Ol.2) (g := (mkF m 2 #[.val (.int i1), .val (.int i2)] [(.int i2), (.int i1)])) rfl (hb hby dsci_2)
  refine own_go (fun tQ kQ => st1 tQ kQ) ?_
  show own_End p e below _ (T1.setTop (mkF m 5 #[.val (.int i1), .val (.int i2)] [fm, (.int i2), (.int i1)]))
  obtain ⟨_, _, ⟨T2, L2, k2, n2⟩, -, X2, ⟨Lc2, hQ2, l2, y2, z2⟩, st2⟩ := Jvm.LawKit.callS X1 hx (y := (⟨"jdk/internal/util/Preconditions", "checkIndex", "(IILjava/util/function/BiFunction;)I"⟩ : MethodName)) hown (mvT hZ (hw _ (List.mem_of_getElem? (i := 78) rfl))) (mvT hZ (hw _ (List.mem_of_getElem? (i := 79) rfl))) (mvT hZ (hw _ (List.mem_of_getElem? (i := 77) rfl))) (mvT hZ (hw _ (List.mem_of_getElem? (i := 80) rfl))) (by decide) (backOf (W := 0) (rmpci l Z a0 hw [] i1 i2 fm h0 n0 Zs rfm hi0 hi1) hZ (hw _ (List.mem_of_getElem? (i := 80) rfl)) (hw _ (List.mem_of_getElem? (i := 77) rfl)) (by decide) (by decide)) (g := (mkF m 5 #[.val (.int i1), .val (.int i2)] [fm, (.int i2), (.int i1)])) rfl (by rw [hml]; rfl) (argsL := [(.int i1), (.int i2), fm]) (rest := []) (lenOf pd_7 rfl) rfl (by show 2 * 0 + _ ≤ _; exact Nat.le_of_eq rfl) (hb hby dsci_5) (fun _ _ => ⟨rfl, e1, (Nat.le_of_ble_eq_true rfl), (Nat.le_of_ble_eq_true rfl)⟩)
  dsimp only [Pt.U, Pt.locs, Pt.cells, Pt.slots] at X2 l2 y2 z2 st2 hQ2
  subst l2 y2 z2
  obtain ⟨rfl, N2q, e2⟩ := hQ2
  have Nf := Fr.app Nf N2q
  refine own_go (fun tQ kQ => st2 tQ kQ) ?_
  show own_End p e below _ (T2.setTop (mkF m 8 #[.val (.int i1), .val (.int i2)] [(.int i1)]))
  refine own_go (fun tQ kQ => XS.pop X2.here hx rfl (hb hby dsci_8) rfl rfl kQ) ?_
  show own_End p e below _ (T2.setTop (mkF m 9 #[.val (.int i1), .val (.int i2)] []))
  obtain ⟨fs, hr, hrun, hended, hW, hsame⟩ := X2.leave (v := none) (fun _ => rfl)
  refine ⟨_, _, X2.returnOut hx Bd.returns (hb hby dsci_9) hr, hrun, hended, _, _, rfl, ?_, ⟨_, rfl⟩, hW, hsame.mono (by decide) (by decide)⟩
  show Qsci Z i1 i2 fm h0 n0 _ T2.heap _
  rw [e2]
  exact ⟨rfl, Nf, rfl⟩
theorem pd_8 : parseMethodDescriptor "(II)V" = some ⟨[.int, .int], none⟩ := by decide +kernel
theorem dlch_0 : decode jdk_43_method_2_code 0 = .ok (.iload_n 1, 1) := by decide +kernel
theorem dlch_1 : decode jdk_43_method_2_code 1 = .ok (.aload_n 0, 1) := by decide +kernel
theorem dlch_2 : decode jdk_43_method_2_code 2 = .ok (.arraylength, 1) := by decide +kernel
theorem dlch_3 : decode jdk_43_method_2_code 3 = .ok (.invokestatic 9, 3) := by decide +kernel
theorem dlch_6 : decode jdk_43_method_2_code 6 = .ok (.aload_n 0, 1) := by decide +kernel
theorem dlch_7 : decode jdk_43_method_2_code 7 = .ok (.iload_n 1, 1) := by decide +kernel
theorem dlch_8 : decode jdk_43_method_2_code 8 = .ok (.baload, 1) := by decide +kernel
theorem dlch_9 : decode jdk_43_method_2_code 9 = .ok (.sipush 255, 3) := by decide +kernel
theorem dlch_12 : decode jdk_43_method_2_code 12 = .ok (.iand, 1) := by decide +kernel
theorem dlch_13 : decode jdk_43_method_2_code 13 = .ok (.i2c, 1) := by decide +kernel
theorem dlch_14 : decode jdk_43_method_2_code 14 = .ok (.ireturn, 1) := by decide +kernel
theorem pn_9 : plainName "java/lang/StringLatin1" = true := by first | (simp [plainName, overriddenIn]; done) | decide +kernel
theorem ef_lch (m : MethodId) (x0 : Addr) (x1 : Int32) : entryFrame m #[(.ref x0), (.int x1)] 2 = mkF m 0 #[.val (.ref x0), .val (.int x1)] [] := by first | (simp [entryFrame, mkF, argsToLocals, Value.category]; done) | rfl
def Qlch (Z : State) (tt : Addr) (z : Int32) (bs : Nat → Int32) (i1 : Int32) (fm : Value) (h0 : Heap) (n0 : Nat) (v : Option Value) (h : Heap) (L : List Loc) : Prop := v = some (.int (own_ch (bs i1.toNatClampNeg))) ∧ Fr n0 L ∧ h = h0
def Plch (Z : State) (tt : Addr) (z : Int32) (bs : Nat → Int32) (i1 : Int32) (fm : Value) (h0 : Heap) (n0 : Nat) (s : State) (oQ : Outcome) (U : State) : Prop := ∃ v L, oQ = .returned v ∧ Qlch Z tt z bs i1 fm h0 n0 v U.heap L ∧ FrameEnd s oQ U L ({ frames := 2, cells := 0, slots := 0, locals := 27 } : Room).cells ({ frames := 2, cells := 0, slots := 0, locals := 27 } : Room).slots
set_option maxRecDepth 65536 in
set_option maxHeartbeats 40000000 in
theorem rmlch (l : Launch) (Z : State) (a0 : Array Value) (hw : ∀ d ∈ tables_1, d.before a0 Z = true) (ws : List Jvm.Cond) (tt : Addr) (z : Int32) (bs : Nat → Int32) (i1 : Int32) (fm : Value) (h0 : Heap) (n0 : Nat) (Z0 : n0 ≤ h0.size) (V_tt : own_Ar Z h0 tt .byte z (fun j => .int (bs j))) (Ol : Old Z n0 h0) (S_fm : Sta Z Z.heap "jdk/internal/util/Preconditions" "SIOOBE_FORMATTER" "Ljava/util/function/BiFunction;" fm) (rfm : fm.isRef = true) (hi0 : ¬ i1 < 0) (hi1 : i1 < z) :
    MetFree l (⟨"java/lang/StringLatin1", "charAt", "([BI)C"⟩ : MethodName) (head1 (Jvm.Cond.code (⟨"java/lang/StringLatin1", "charAt", "([BI)C"⟩ : MethodName) jdk_43_method_2_code 2 (some .char) :: ws) ({ frames := 2, cells := 0, slots := 0, locals := 27 } : Room)) (fun aQ U => aQ = #[(.ref tt), (.int i1)] ∧ Z.Warmed39 U.vm ∧ U.heap = h0) (fun _ _ _ _ _ => True) (fun _ U oQ U' => ∃ v L, oQ = .returned v ∧ Qlch Z tt z bs i1 fm h0 n0 v U'.heap L ∧ FrameEnd U oQ U' L ({ frames := 2, cells := 0, slots := 0, locals := 27 } : Room).cells ({ frames := 2, cells := 0, slots := 0, locals := 27 } : Room).slots) := by
  refine MetFree.of_bodySF (plainFor_of_name pn_9) hisR ?_
  intro p e s m args below meth c s₁ Bd hml0 hP hK
  obtain ⟨rfl, hZ, hh⟩ := hP
  have hx := Bd.exec
  have hby := Bd.bytes
  have hml : c.maxLocals = 2 := hml0
  have hown : s.vm.findClass "java/lang/StringLatin1" = some m.cls := findClass_of_methodNamed Bd.named
  have hnm := (name_of_methodNamed Bd.named Bd.method).1
  have X0 : Stand p l e ({ frames := 2, cells := 0, slots := 0, locals := 27 } : Room) s m #[(.ref tt), (.int i1)] below meth c s₁ [] 0 0 := Stand.of_body Bd
  have e0 : s₁.heap = h0 := by rw [← hh, Bd.state]; rfl
  have Nf := Fr.nil n0
  have Zs : n0 ≤ h0.size := Z0
  have Kp : Keep h0 h0 [] := Keep.refl _ _
  have szr : h0.size ≤ h0.size := Nat.le_refl _
  show own_End p e below (Plch Z tt z bs i1 fm h0 n0 s) (s₁.setTop (entryFrame m #[(.ref tt), (.int i1)] 2))
  rw [ef_lch]
  refine own_go (fun tQ kQ => XS.iloadN X0.here hx rfl (hb hby dlch_0) rfl kQ) ?_
  show own_End p e below _ (s₁.setTop (mkF m 1 #[.val (.ref tt), .val (.int i1)] [(.int i1)]))
  refine own_go (fun tQ kQ => XS.aloadN X0.here hx rfl (hb hby dlch_1) rfl rfl kQ) ?_
  show own_End p e below _ (s₁.setTop (mkF m 2 #[.val (.ref tt), .val (.int i1)] [(.ref tt), (.int i1)]))
  obtain ⟨cl1, Ar1, S1, M1, H1⟩ := id V_tt
  refine own_go (fun tQ kQ => X0.arraylength hx (by rw [e0]; exact Ar1.1) (State.isArrayOf_alike hZ.alike Ar1.2.1) (g := (mkF m 2 #[.val (.ref tt), .val (.int i1)] [(.ref tt), (.int i1)])) rfl rfl (hb hby dlch_2) _ kQ) ?_
  rw [len_of S1 M1]
  show own_End p e below _ (s₁.setTop (mkF m 3 #[.val (.ref tt), .val (.int i1)] [(.int z), (.int i1)]))
  obtain ⟨_, _, ⟨T2, L2, k2, n2⟩, -, X2, ⟨Lc2, hQ2, l2, y2, z2⟩, st2⟩ := Jvm.LawKit.callS X0 hx (y := (⟨"java/lang/String", "checkIndex", "(II)V"⟩ : MethodName)) hown (mvT hZ (hw _ (List.mem_of_getElem? (i := 73) rfl))) (mvT hZ (hw _ (List.mem_of_getElem? (i := 74) rfl))) (mvT hZ (hw _ (List.mem_of_getElem? (i := 10) rfl))) (mvT hZ (hw _ (List.mem_of_getElem? (i := 75) rfl))) (by decide) (backOf (W := 0) (rmsci l Z a0 hw [] i1 z fm h0 n0 Zs Ol S_fm rfm hi0 hi1) hZ (hw _ (List.mem_of_getElem? (i := 75) rfl)) (hw _ (List.mem_of_getElem? (i := 10) rfl)) (by decide) (by decide)) (g := (mkF m 3 #[.val (.ref tt), .val (.int i1)] [(.int z), (.int i1)])) rfl (by rw [hml]; rfl) (argsL := [(.int i1), (.int z)]) (rest := []) (lenOf pd_8 rfl) rfl (by show 2 * 0 + _ ≤ _; exact Nat.le_of_eq rfl) (hb hby dlch_3) (fun _ _ => ⟨rfl, e0, (Nat.le_of_ble_eq_true rfl), (Nat.le_of_ble_eq_true rfl)⟩)
  dsimp only [Pt.U, Pt.locs, Pt.cells, Pt.slots] at X2 l2 y2 z2 st2 hQ2
  subst l2 y2 z2
  obtain ⟨rfl, N2q, e2⟩ := hQ2
  have Nf := Fr.app Nf N2q
  refine own_go (fun tQ kQ => st2 tQ kQ) ?_
  show own_End p e below _ (T2.setTop (mkF m 6 #[.val (.ref tt), .val (.int i1)] []))
  refine own_go (fun tQ kQ => XS.aloadN X2.here hx rfl (hb hby dlch_6) rfl rfl kQ) ?_
  show own_End p e below _ (T2.setTop (mkF m 7 #[.val (.ref tt), .val (.int i1)] [(.ref tt)]))
  refine own_go (fun tQ kQ => XS.iloadN X2.here hx rfl (hb hby dlch_7) rfl kQ) ?_
  show own_End p e below _ (T2.setTop (mkF m 8 #[.val (.ref tt), .val (.int i1)] [(.int i1), (.ref tt)]))
  obtain ⟨cl3, Ar3, S3, M3, H3⟩ := id V_tt
  have hin3 := inb_of (j := i1) S3 ⟨hi0, hi1⟩
  refine own_go (fun tQ kQ => X2.baloadBytes hx (j := i1) (v := (.int (bs i1.toNatClampNeg))) (by rw [e2]; exact Ar3.1) (State.isArrayOf_alike hZ.alike Ar3.2.1) Ar3.2.2 hin3 (H3 _ (own_in S3 hin3)) (g := (mkF m 8 #[.val (.ref tt), .val (.int i1)] [(.int i1), (.ref tt)])) rfl rfl (hb hby dlch_8) _ kQ) ?_
  show own_End p e below _ (T2.setTop (mkF m 9 #[.val (.ref tt), .val (.int i1)] [(.int (bs i1.toNatClampNeg))]))
  refine own_go (fun tQ kQ => XS.sipush X2.here hx rfl (hb hby dlch_9) kQ) ?_
  show own_End p e below _ (T2.setTop (mkF m 12 #[.val (.ref tt), .val (.int i1)] [(.int (255 : Int32)), (.int (bs i1.toNatClampNeg))]))
  refine own_go (fun tQ kQ => XS.iand X2.here hx rfl (hb hby dlch_12) rfl kQ) ?_
  show own_End p e below _ (T2.setTop (mkF m 13 #[.val (.ref tt), .val (.int i1)] [(.int ((bs i1.toNatClampNeg) &&& (255 : Int32)))]))
  refine own_go (fun tQ kQ => XS.i2c X2.here hx rfl (hb hby dlch_13) rfl kQ) ?_
  show own_End p e below _ (T2.setTop (mkF m 14 #[.val (.ref tt), .val (.int i1)] [(.int (((bs i1.toNatClampNeg) &&& (255 : Int32)).toUInt32.toUInt16.toUInt32.toInt32))]))
  obtain ⟨fs, hr, hrun, hended, hW, hsame⟩ := X2.leave (v := some (.int (nar .char (((bs i1.toNatClampNeg) &&& (255 : Int32)).toUInt32.toUInt16.toUInt32.toInt32)))) (fun h => by rw [Bd.returns] at h; cases h)
  refine ⟨_, _, (retN X2 hx (t := .char) Bd.returns (by simp) (hb hby dlch_14) hr), hrun, hended, _, _, rfl, ?_, ⟨_, rfl⟩, hW, hsame.mono (by decide) (by decide)⟩
  show Qlch Z tt z bs i1 fm h0 n0 _ T2.heap _
  rw [e2]
  exact ⟨rfl, Nf, rfl⟩
theorem pd_10 : parseMethodDescriptor "()Z" = some ⟨[], some .boolean⟩ := by decide +kernel
theorem pd_11 : parseMethodDescriptor "([BI)C" = some ⟨[(.array .byte), .int], some .char⟩ := by decide +kernel
theorem dchA_0 : decode jdk_42_method_56_code 0 = .ok (.aload_n 0, 1) := by decide +kernel
theorem dchA_1 : decode jdk_42_method_56_code 1 = .ok (.invokevirtual 492, 3) := by decide +kernel
theorem dchA_4 : decode jdk_42_method_56_code 4 = .ok (.ifCond .eq 12, 3) := by decide +kernel
theorem dchA_7 : decode jdk_42_method_56_code 7 = .ok (.aload_n 0, 1) := by decide +kernel
theorem dchA_8 : decode jdk_42_method_56_code 8 = .ok (.getfield 9, 3) := by decide +kernel
theorem dchA_11 : decode jdk_42_method_56_code 11 = .ok (.iload_n 1, 1) := by decide +kernel
theorem dchA_12 : decode jdk_42_method_56_code 12 = .ok (.invokestatic 495, 3) := by decide +kernel
theorem dchA_15 : decode jdk_42_method_56_code 15 = .ok (.ireturn, 1) := by decide +kernel
theorem ef_chA (m : MethodId) (x0 : Addr) (x1 : Int32) : entryFrame m #[(.ref x0), (.int x1)] 2 = mkF m 0 #[.val (.ref x0), .val (.int x1)] [] := by first | (simp [entryFrame, mkF, argsToLocals, Value.category]; done) | rfl
def QchA (Z : State) (st : Addr) (tt : Addr) (z : Int32) (bs : Nat → Int32) (cz : Int32) (i1 : Int32) (fm : Value) (h0 : Heap) (n0 : Nat) (v : Option Value) (h : Heap) (L : List Loc) : Prop := v = some (.int (own_ch (bs i1.toNatClampNeg))) ∧ Fr n0 L ∧ h = h0
def PchA (Z : State) (st : Addr) (tt : Addr) (z : Int32) (bs : Nat → Int32) (cz : Int32) (i1 : Int32) (fm : Value) (h0 : Heap) (n0 : Nat) (s : State) (oQ : Outcome) (U : State) : Prop := ∃ v L, oQ = .returned v ∧ QchA Z st tt z bs cz i1 fm h0 n0 v U.heap L ∧ FrameEnd s oQ U L ({ frames := 3, cells := 0, slots := 0, locals := 40 } : Room).cells ({ frames := 3, cells := 0, slots := 0, locals := 40 } : Room).slots
set_option maxRecDepth 65536 in
set_option maxHeartbeats 40000000 in
theorem rmchA (l : Launch) (Z : State) (a0 : Array Value) (hw : ∀ d ∈ tables_1, d.before a0 Z = true) (ws : List Jvm.Cond) (st : Addr) (tt : Addr) (z : Int32) (bs : Nat → Int32) (cz : Int32) (i1 : Int32) (fm : Value) (h0 : Heap) (n0 : Nat) (Z0 : n0 ≤ h0.size) (E_st : Exa Z h0 st "java/lang/String") (F_value_st : Fld Z h0 st "java/lang/String" "value" "[B" (.ref tt)) (F_coder_st : Fld Z h0 st "java/lang/String" "coder" "B" (.int (0 : Int32))) (V_tt : own_Ar Z h0 tt .byte z (fun j => .int (bs j))) (Ol : Old Z n0 h0) (S_cs : Sta Z Z.heap "java/lang/String" "COMPACT_STRINGS" "Z" (.int cz)) (hcz : ¬ cz = 0) (S_fm : Sta Z Z.heap "jdk/internal/util/Preconditions" "SIOOBE_FORMATTER" "Ljava/util/function/BiFunction;" fm) (rfm : fm.isRef = true) (hi0 : ¬ i1 < 0) (hi1 : i1 < z) :
    MetFree l (⟨"java/lang/String", "charAt", "(I)C"⟩ : MethodName) (head1 (Jvm.Cond.code (⟨"java/lang/String", "charAt", "(I)C"⟩ : MethodName) jdk_42_method_56_code 2 (some .char) :: ws) ({ frames := 3, cells := 0, slots := 0, locals := 40 } : Room)) (fun aQ U => aQ = #[(.ref st), (.int i1)] ∧ Z.Warmed39 U.vm ∧ U.heap = h0) (fun _ _ _ _ _ => True) (fun _ U oQ U' => ∃ v L, oQ = .returned v ∧ QchA Z st tt z bs cz i1 fm h0 n0 v U'.heap L ∧ FrameEnd U oQ U' L ({ frames := 3, cells := 0, slots := 0, locals := 40 } : Room).cells ({ frames := 3, cells := 0, slots := 0, locals := 40 } : Room).slots) := by
  refine MetFree.of_bodySF (plainFor_of_name pn_4) hisR ?_
  intro p e s m args below meth c s₁ Bd hml0 hP hK
  obtain ⟨rfl, hZ, hh⟩ := hP
  have hx := Bd.exec
  have hby := Bd.bytes
  have hml : c.maxLocals = 2 := hml0
  have hown : s.vm.findClass "java/lang/String" = some m.cls := findClass_of_methodNamed Bd.named
  have hnm := (name_of_methodNamed Bd.named Bd.method).1
  have X0 : Stand p l e ({ frames := 3, cells := 0, slots := 0, locals := 40 } : Room) s m #[(.ref st), (.int i1)] below meth c s₁ [] 0 0 := Stand.of_body Bd
  have e0 : s₁.heap = h0 := by rw [← hh, Bd.state]; rfl
  have Nf := Fr.nil n0
  have Zs : n0 ≤ h0.size := Z0
  have Kp : Keep h0 h0 [] := Keep.refl _ _
  have szr : h0.size ≤ h0.size := Nat.le_refl _
  show own_End p e below (PchA Z st tt z bs cz i1 fm h0 n0 s) (s₁.setTop (entryFrame m #[(.ref st), (.int i1)] 2))
  rw [ef_chA]
  refine own_go (fun tQ kQ => XS.aloadN X0.here hx rfl (hb hby dchA_0) rfl rfl kQ) ?_
  show own_End p e below _ (s₁.setTop (mkF m 1 #[.val (.ref st), .val (.int i1)] [(.ref st)]))
  obtain ⟨cq1, kq1, q1a, q1b, q1c⟩ := isOf hZ e0 E_st
  obtain ⟨_, _, ⟨T1, L1, k1, n1⟩, -, X1, ⟨Lc1, hQ1, l1, y1, z1⟩, st1⟩ := X0.virtualBack hx (y := (⟨"java/lang/String", "isLatin1", "()Z"⟩ : MethodName)) (z := (⟨"java/lang/String", "isLatin1", "()Z"⟩ : MethodName)) hown (mvT hZ (hw _ (List.mem_of_getElem? (i := 64) rfl))) (mvT hZ (hw _ (List.mem_of_getElem? (i := 65) rfl))) (notFace_of_selects (args := #[]) (mvT hZ (hw _ (List.mem_of_getElem? (i := 67) rfl)))) (mvT hZ (hw _ (List.mem_of_getElem? (i := 67) rfl))) (mvT hZ (hw _ (List.mem_of_getElem? (i := 66) rfl))) (by decide) (backOf (W := 0) (rmlat l Z a0 hw [] st tt z bs cz h0 n0 Zs E_st F_value_st F_coder_st V_tt Ol S_cs hcz) hZ (hw _ (List.mem_of_getElem? (i := 68) rfl)) (hw _ (List.mem_of_getElem? (i := 10) rfl)) (by decide) (by decide)) q1a q1c (g := (mkF m 1 #[.val (.ref st), .val (.int i1)] [(.ref st)])) rfl (by rw [hml]; rfl) (Steps.refl _) (argsL := []) (rest := []) (lenOf pd_10 rfl) rfl (by show 2 * 0 + _ ≤ _; exact Nat.le_of_eq rfl) (hb hby dchA_1) (fun _ _ => ⟨rfl, e0, (Nat.le_of_ble_eq_true rfl), (Nat.le_of_ble_eq_true rfl)⟩)
  dsimp only [Pt.U, Pt.locs, Pt.cells, Pt.slots] at X1 l1 y1 z1 st1 hQ1
  subst l1 y1 z1
  obtain ⟨rfl, N1q, e1⟩ := hQ1
  have Nf := Fr.app Nf N1q
  refine own_go (fun tQ kQ => st1.trans kQ) ?_
  show own_End p e below _ (T1.setTop (mkF m 4 #[.val (.ref st), .val (.int i1)] [(.int (1 : Int32))]))
  refine own_go (fun tQ kQ => XS.ifNo X1.here hx rfl (hb hby dchA_4) rfl ((if0 _ _).trans (feq (by decide)).1) kQ) ?_
  show own_End p e below _ (T1.setTop (mkF m 7 #[.val (.ref st), .val (.int i1)] []))
  refine own_go (fun tQ kQ => XS.aloadN X1.here hx rfl (hb hby dchA_7) rfl rfl kQ) ?_
  show own_End p e below _ (T1.setTop (mkF m 8 #[.val (.ref st), .val (.int i1)] [(.ref st)]))
  obtain ⟨T2, X2, e2, st2⟩ := getF X1 hx hZ hown (host := "") (Or.inl (hw _ (List.mem_of_getElem? (i := 36) rfl))) Via.refl e1 F_value_st (g := (mkF m 8 #[.val (.ref st), .val (.int i1)] [(.ref st)])) rfl rfl (hb hby dchA_8)
  refine own_go (fun tQ kQ => st2 tQ kQ) ?_
  show own_End p e below _ (T2.setTop (mkF m 11 #[.val (.ref st), .val (.int i1)] [(.ref tt)]))
  refine own_go (fun tQ kQ => XS.iloadN X2.here hx rfl (hb hby dchA_11) rfl kQ) ?_
  show own_End p e below _ (T2.setTop (mkF m 12 #[.val (.ref st), .val (.int i1)] [(.int i1), (.ref tt)]))
  obtain ⟨_, _, ⟨T3, L3, k3, n3⟩, -, X3, ⟨Lc3, hQ3, l3, y3, z3⟩, st3⟩ := Jvm.LawKit.callS X2 hx (y := (⟨"java/lang/StringLatin1", "charAt", "([BI)C"⟩ : MethodName)) hown (mvT hZ (hw _ (List.mem_of_getElem? (i := 69) rfl))) (mvT hZ (hw _ (List.mem_of_getElem? (i := 70) rfl))) (mvT hZ (hw _ (List.mem_of_getElem? (i := 71) rfl))) (mvT hZ (hw _ (List.mem_of_getElem? (i := 72) rfl))) (by decide) (backOf (W := 0) (rmlch l Z a0 hw [] tt z bs i1 fm h0 n0 Zs V_tt Ol S_fm rfm hi0 hi1) hZ (hw _ (List.mem_of_getElem? (i := 72) rfl)) (hw _ (List.mem_of_getElem? (i := 71) rfl)) (by decide) (by decide)) (g := (mkF m 12 #[.val (.ref st), .val (.int i1)] [(.int i1), (.ref tt)])) rfl (by rw [hml]; rfl) (argsL := [(.ref tt), (.int i1)]) (rest := []) (lenOf pd_11 rfl) rfl (by show 2 * 0 + _ ≤ _; exact Nat.le_of_eq rfl) (hb hby dchA_12) (fun _ _ => ⟨rfl, e2, (Nat.le_of_ble_eq_true rfl), (Nat.le_of_ble_eq_true rfl)⟩)
  dsimp only [Pt.U, Pt.locs, Pt.cells, Pt.slots] at X3 l3 y3 z3 st3 hQ3
  subst l3 y3 z3
  obtain ⟨rfl, N3q, e3⟩ := hQ3
  have Nf := Fr.app Nf N3q
  refine own_go (fun tQ kQ => st3 tQ kQ) ?_
  show own_End p e below _ (T3.setTop (mkF m 15 #[.val (.ref st), .val (.int i1)] [(.int (own_ch (bs i1.toNatClampNeg)))]))
  obtain ⟨fs, hr, hrun, hended, hW, hsame⟩ := X3.leave (v := some (.int (nar .char (own_ch (bs i1.toNatClampNeg))))) (fun h => by rw [Bd.returns] at h; cases h)
  refine ⟨_, _, (retN X3 hx (t := .char) Bd.returns (by simp) (hb hby dchA_15) hr), hrun, hended, _, _, rfl, ?_, ⟨_, rfl⟩, hW, hsame.mono (by decide) (by decide)⟩
  show QchA Z st tt z bs cz i1 fm h0 n0 _ T3.heap _
  rw [e3]
  exact ⟨by rw [show nar .char (own_ch (bs i1.toNatClampNeg)) = own_ch (bs i1.toNatClampNeg) from own_narch _], Nf, rfl⟩
theorem pd_12 : parseMethodDescriptor "(Ljava/lang/Object;Ljava/lang/String;)Ljava/lang/Object;" = some ⟨[(.object "java/lang/Object"), (.object "java/lang/String")], some (.object "java/lang/Object")⟩ := by decide +kernel
theorem pd_13 : parseMethodDescriptor "()I" = some ⟨[], some .int⟩ := by decide +kernel
theorem pd_14 : parseMethodDescriptor "(Ljava/lang/String;)V" = some ⟨[(.object "java/lang/String")], none⟩ := by decide +kernel
theorem pd_15 : parseMethodDescriptor "(C)Z" = some ⟨[.char], some .boolean⟩ := by decide +kernel
theorem dpa_0 : decode prog_6_method_2_code 0 = .ok (.aload_n 0, 1) := by decide +kernel
theorem dpa_1 : decode prog_6_method_2_code 1 = .ok (.ldc 13, 2) := by decide +kernel
theorem dpa_3 : decode prog_6_method_2_code 3 = .ok (.invokestatic 15, 3) := by decide +kernel
theorem dpa_6 : decode prog_6_method_2_code 6 = .ok (.pop, 1) := by decide +kernel
theorem dpa_7 : decode prog_6_method_2_code 7 = .ok (.aload_n 0, 1) := by decide +kernel
theorem dpa_8 : decode prog_6_method_2_code 8 = .ok (.invokevirtual 21, 3) := by decide +kernel
theorem dpa_11 : decode prog_6_method_2_code 11 = .ok (.sipush 128, 3) := by decide +kernel
theorem dpa_14 : decode prog_6_method_2_code 14 = .ok (.if_icmp .le 17, 3) := by decide +kernel
theorem dpa_31 : decode prog_6_method_2_code 31 = .ok (.iconst 0, 1) := by decide +kernel
theorem dpa_32 : decode prog_6_method_2_code 32 = .ok (.istore_n 1, 1) := by decide +kernel
theorem dpa_33 : decode prog_6_method_2_code 33 = .ok (.iconst 0, 1) := by decide +kernel
theorem dpa_34 : decode prog_6_method_2_code 34 = .ok (.istore_n 2, 1) := by decide +kernel
theorem dpa_35 : decode prog_6_method_2_code 35 = .ok (.iconst 0, 1) := by decide +kernel
theorem dpa_36 : decode prog_6_method_2_code 36 = .ok (.istore_n 3, 1) := by decide +kernel
theorem dpa_37 : decode prog_6_method_2_code 37 = .ok (.iload_n 3, 1) := by decide +kernel
theorem dpa_38 : decode prog_6_method_2_code 38 = .ok (.aload_n 0, 1) := by decide +kernel
theorem dpa_39 : decode prog_6_method_2_code 39 = .ok (.invokevirtual 21, 3) := by decide +kernel
theorem dpa_42 : decode prog_6_method_2_code 42 = .ok (.if_icmp .gt 82, 3) := by decide +kernel
theorem dpa_45 : decode prog_6_method_2_code 45 = .ok (.iload_n 3, 1) := by decide +kernel
theorem dpa_46 : decode prog_6_method_2_code 46 = .ok (.aload_n 0, 1) := by decide +kernel
theorem dpa_47 : decode prog_6_method_2_code 47 = .ok (.invokevirtual 21, 3) := by decide +kernel
theorem dpa_50 : decode prog_6_method_2_code 50 = .ok (.if_icmp .eq 13, 3) := by decide +kernel
theorem dpa_53 : decode prog_6_method_2_code 53 = .ok (.aload_n 0, 1) := by decide +kernel
theorem dpa_54 : decode prog_6_method_2_code 54 = .ok (.iload_n 3, 1) := by decide +kernel
theorem dpa_55 : decode prog_6_method_2_code 55 = .ok (.invokevirtual 35, 3) := by decide +kernel
theorem dpa_58 : decode prog_6_method_2_code 58 = .ok (.bipush 46, 2) := by decide +kernel
theorem dpa_60 : decode prog_6_method_2_code 60 = .ok (.if_icmp .ne 25, 3) := by decide +kernel
theorem dpa_63 : decode prog_6_method_2_code 63 = .ok (.iload_n 3, 1) := by decide +kernel
theorem dpa_64 : decode prog_6_method_2_code 64 = .ok (.iload_n 2, 1) := by decide +kernel
theorem dpa_65 : decode prog_6_method_2_code 65 = .ok (.if_icmp .ne 10, 3) := by decide +kernel
theorem dpa_75 : decode prog_6_method_2_code 75 = .ok (.iinc 1 1, 3) := by decide +kernel
theorem dpa_78 : decode prog_6_method_2_code 78 = .ok (.iload_n 3, 1) := by decide +kernel
theorem dpa_79 : decode prog_6_method_2_code 79 = .ok (.iconst 1, 1) := by decide +kernel
theorem dpa_80 : decode prog_6_method_2_code 80 = .ok (.iadd, 1) := by decide +kernel
theorem dpa_81 : decode prog_6_method_2_code 81 = .ok (.istore_n 2, 1) := by decide +kernel
theorem dpa_82 : decode prog_6_method_2_code 82 = .ok (.goto 36, 3) := by decide +kernel
theorem dpa_85 : decode prog_6_method_2_code 85 = .ok (.aload_n 0, 1) := by decide +kernel
theorem dpa_86 : decode prog_6_method_2_code 86 = .ok (.iload_n 3, 1) := by decide +kernel
theorem dpa_87 : decode prog_6_method_2_code 87 = .ok (.invokevirtual 35, 3) := by decide +kernel
theorem dpa_90 : decode prog_6_method_2_code 90 = .ok (.invokestatic 41, 3) := by decide +kernel
theorem dpa_93 : decode prog_6_method_2_code 93 = .ok (.ifCond .ne 25, 3) := by decide +kernel
theorem dpa_118 : decode prog_6_method_2_code 118 = .ok (.iinc 3 1, 3) := by decide +kernel
theorem dpa_121 : decode prog_6_method_2_code 121 = .ok (.goto (-84), 3) := by decide +kernel
theorem dpa_124 : decode prog_6_method_2_code 124 = .ok (.iload_n 1, 1) := by decide +kernel
theorem dpa_125 : decode prog_6_method_2_code 125 = .ok (.iconst 2, 1) := by decide +kernel
theorem dpa_126 : decode prog_6_method_2_code 126 = .ok (.if_icmp .ge 10, 3) := by decide +kernel
theorem dpa_136 : decode prog_6_method_2_code 136 = .ok (.new 8, 3) := by decide +kernel
theorem dpa_139 : decode prog_6_method_2_code 139 = .ok (.dup, 1) := by decide +kernel
theorem dpa_140 : decode prog_6_method_2_code 140 = .ok (.aload_n 0, 1) := by decide +kernel
theorem dpa_141 : decode prog_6_method_2_code 141 = .ok (.invokespecial 59, 3) := by decide +kernel
theorem dpa_144 : decode prog_6_method_2_code 144 = .ok (.areturn, 1) := by decide +kernel
theorem ef_pa (m : MethodId) (x0 : Addr) : entryFrame m #[(.ref x0)] 5 = mkF m 0 #[.val (.ref x0), .unset, .unset, .unset, .unset] [] := by first | (simp [entryFrame, mkF, argsToLocals, Value.category]; done) | rfl
def Qpa (Z : State) (st : Addr) (tt : Addr) (z : Int32) (bs : Nat → Int32) (cz : Int32) (fm : Value) (cs : Nat → Int32) (N : Nat) (h0 : Heap) (n0 : Nat) (v : Option Value) (h : Heap) (L : List Loc) : Prop := ∃ pp, v = some (.ref pp) ∧ Fr n0 L ∧ Keep h0 h [] ∧ h0.size ≤ pp ∧ Exa Z h pp "com/example/grant3/grant3/Permission" ∧ Fld Z h pp "com/example/grant3/grant3/Permission" "code" "Ljava/lang/String;" (.ref st)
def Ppa (Z : State) (st : Addr) (tt : Addr) (z : Int32) (bs : Nat → Int32) (cz : Int32) (fm : Value) (cs : Nat → Int32) (N : Nat) (h0 : Heap) (n0 : Nat) (s : State) (oQ : Outcome) (U : State) : Prop := ∃ v L, oQ = .returned v ∧ Qpa Z st tt z bs cz fm cs N h0 n0 v U.heap L ∧ ReturnedEndW s oQ U L ({ frames := 4, cells := 3, slots := 85, locals := 53 } : Room).cells ({ frames := 4, cells := 3, slots := 85, locals := 53 } : Room).slots
set_option maxRecDepth 65536 in
set_option maxHeartbeats 40000000 in
theorem rmpa (l : Launch) (Z : State) (a0 : Array Value) (hw : ∀ d ∈ tables_1, d.before a0 Z = true) (ws : List Jvm.Cond) (st : Addr) (tt : Addr) (z : Int32) (bs : Nat → Int32) (cz : Int32) (fm : Value) (cs : Nat → Int32) (N : Nat) (h0 : Heap) (n0 : Nat) (Z0 : n0 ≤ h0.size) (E_st : Exa Z h0 st "java/lang/String") (F_value_st : Fld Z h0 st "java/lang/String" "value" "[B" (.ref tt)) (F_coder_st : Fld Z h0 st "java/lang/String" "coder" "B" (.int (0 : Int32))) (V_tt : own_Ar Z h0 tt .byte z (fun j => .int (bs j))) (Ol : Old Z n0 h0) (S_cs : Sta Z Z.heap "java/lang/String" "COMPACT_STRINGS" "Z" (.int cz)) (hcz : ¬ cz = 0) (S_fm : Sta Z Z.heap "jdk/internal/util/Preconditions" "SIOOBE_FORMATTER" "Ljava/util/function/BiFunction;" fm) (rfm : fm.isRef = true) (hz : z.toInt = N) (hcs : ∀ j, j < N → own_ch (bs j) = cs j) (hv : own_valid cs N) :
    MetFree l (⟨"com/example/grant3/grant3/Permission", "parse", "(Ljava/lang/String;)Lcom/example/grant3/grant3/Permission;"⟩ : MethodName) (head1 (Jvm.Cond.code (⟨"com/example/grant3/grant3/Permission", "parse", "(Ljava/lang/String;)Lcom/example/grant3/grant3/Permission;"⟩ : MethodName) prog_6_method_2_code 5 (some (.object "com/example/grant3/grant3/Permission")) :: ws) ({ frames := 4, cells := 3, slots := 85, locals := 53 } : Room)) (fun aQ U => aQ = #[(.ref st)] ∧ Z.Warmed39 U.vm ∧ U.heap = h0) (fun _ _ _ _ _ => True) (fun _ U oQ U' => ∃ v L, oQ = .returned v ∧ Qpa Z st tt z bs cz fm cs N h0 n0 v U'.heap L ∧ ReturnedEndW U oQ U' L ({ frames := 4, cells := 3, slots := 85, locals := 53 } : Room).cells ({ frames := 4, cells := 3, slots := 85, locals := 53 } : Room).slots) := by
  refine MetFree.of_bodySF (plainFor_of_name pn_2) hisR ?_
  intro p e s m args below meth c s₁ Bd hml0 hP hK
  obtain ⟨rfl, hZ, hh⟩ := hP
  have hx := Bd.exec
  have hby := Bd.bytes
  have hml : c.maxLocals = 5 := hml0
  have hown : (s.setVm s.vm).vm.findClass "com/example/grant3/grant3/Permission" = some m.cls := findClass_of_methodNamed Bd.named
  have hZ : Z.Warmed39 (s.setVm s.vm).vm := hZ
  have hS : s.Since s.vm h0.size := (State.WarmedH.refl s).since _
  have hkW : h0.size ≤ h0.size := Nat.le_refl _
  have hnm := (name_of_methodNamed Bd.named Bd.method).1
  have X0 : Stand p l e ({ frames := 4, cells := 3, slots := 85, locals := 53 } : Room) (s.setVm s.vm) m #[(.ref st)] below meth c s₁ [] 0 0 := Stand.of_body Bd
  have e0 : s₁.heap = h0 := by rw [← hh, Bd.state]; rfl
  have Nf := Fr.nil n0
  have Zs : n0 ≤ h0.size := Z0
  have Kp : Keep h0 h0 [] := Keep.refl _ _
  have szr : h0.size ≤ h0.size := Nat.le_refl _
  show own_End p e below (Ppa Z st tt z bs cz fm cs N h0 n0 s) (s₁.setTop (entryFrame m #[(.ref st)] 5))
  rw [ef_pa]
  have wS : ∀ d ∈ Bundle.stringAtoms, d.before a0 Z = true := by
    intro d hd
    simp only [Bundle.stringAtoms, List.mem_cons, List.not_mem_nil, or_false] at hd
    rcases hd with rfl | rfl | rfl | rfl | rfl | rfl | rfl
    · exact (hw _ (List.mem_of_getElem? (i := 10) rfl))
    · exact (hw _ (List.mem_of_getElem? (i := 9) rfl))
    · exact (hw _ (List.mem_of_getElem? (i := 27) rfl))
    · exact (hw _ (List.mem_of_getElem? (i := 37) rfl))
    · exact (hw _ (List.mem_of_getElem? (i := 35) rfl))
    · exact (hw _ (List.mem_of_getElem? (i := 43) rfl))
    · exact (hw _ (List.mem_of_getElem? (i := 44) rfl))
  obtain ⟨v1, v2, v3, v4, v5⟩ := hv
  refine own_go (fun tQ kQ => XS.aloadN X0.here hx rfl (hb hby dpa_0) rfl rfl kQ) ?_
  show own_End p e below _ (s₁.setTop (mkF m 1 #[.val (.ref st), .unset, .unset, .unset, .unset] [(.ref st)]))
  obtain ⟨mg, T1, h1, k1, X1, e1, E1, hS, hkW, hZ, hown, st1⟩ := ldcS X0 hx hZ hown (hw _ (List.mem_of_getElem? (i := 42) rfl)) wS e0 hS hkW (g := (mkF m 1 #[.val (.ref st), .unset, .unset, .unset, .unset] [(.ref st)])) rfl (hb hby dpa_1) (n := 80) (by decide) (by decide) (by decide) (by decide)
  have E_st := E_st.ext E1
  have F_value_st := F_value_st.ext E1
  have F_coder_st := F_coder_st.ext E1
  have V_tt := V_tt.ext E1
  have Ol := Ol.ext E1
  have Kp := Kp.ext E1
  have Zs := Nat.le_trans Zs E1.1
  have szr := Nat.le_trans szr E1.1
  refine own_go (fun tQ kQ => st1 tQ kQ) ?_
  show own_End p e below _ (T1.setTop (mkF m 3 #[.val (.ref st), .unset, .unset, .unset, .unset] [(.ref mg), (.ref st)]))
  obtain ⟨_, _, ⟨T2, L2, k2, n2⟩, -, X2, ⟨Lc2, hQ2, l2, y2, z2⟩, st2⟩ := Jvm.LawKit.callS X1 hx (y := (⟨"java/util/Objects", "requireNonNull", "(Ljava/lang/Object;Ljava/lang/String;)Ljava/lang/Object;"⟩ : MethodName)) hown (mvT hZ (hw _ (List.mem_of_getElem? (i := 45) rfl))) (mvT hZ (hw _ (List.mem_of_getElem? (i := 46) rfl))) (mvT hZ (hw _ (List.mem_of_getElem? (i := 47) rfl))) (mvT hZ (hw _ (List.mem_of_getElem? (i := 48) rfl))) (by decide) (backOf (W := 0) (rmrn l Z a0 hw [] st mg h1 n0 Zs ) hZ (hw _ (List.mem_of_getElem? (i := 48) rfl)) (hw _ (List.mem_of_getElem? (i := 47) rfl)) (by decide) (by decide)) (g := (mkF m 3 #[.val (.ref st), .unset, .unset, .unset, .unset] [(.ref mg), (.ref st)])) rfl (by rw [hml]; rfl) (argsL := [(.ref st), (.ref mg)]) (rest := []) (lenOf pd_12 rfl) rfl (by show 2 * 0 + _ ≤ _; exact Nat.le_of_eq rfl) (hb hby dpa_3) (fun _ _ => ⟨rfl, e1, (Nat.le_of_ble_eq_true rfl), (Nat.le_of_ble_eq_true rfl)⟩)
  dsimp only [Pt.U, Pt.locs, Pt.cells, Pt.slots] at X2 l2 y2 z2 st2 hQ2
  subst l2 y2 z2
  obtain ⟨rfl, N2q, e2⟩ := hQ2
  have Nf := Fr.app Nf N2q
  refine own_go (fun tQ kQ => st2 tQ kQ) ?_
  show own_End p e below _ (T2.setTop (mkF m 6 #[.val (.ref st), .unset, .unset, .unset, .unset] [(.ref st)]))
  refine own_go (fun tQ kQ => XS.pop X2.here hx rfl (hb hby dpa_6) rfl rfl kQ) ?_
  show own_End p e below _ (T2.setTop (mkF m 7 #[.val (.ref st), .unset, .unset, .unset, .unset] []))
  refine own_go (fun tQ kQ => XS.aloadN X2.here hx rfl (hb hby dpa_7) rfl rfl kQ) ?_
  show own_End p e below _ (T2.setTop (mkF m 8 #[.val (.ref st), .unset, .unset, .unset, .unset] [(.ref st)]))
  obtain ⟨cq3, kq3, q3a, q3b, q3c⟩ := isOf hZ e2 E_st
  obtain ⟨_, _, ⟨T3, L3, k3, n3⟩, -, X3, ⟨Lc3, hQ3, l3, y3, z3⟩, st3⟩ := X2.virtualBack hx (y := (⟨"java/lang/String", "length", "()I"⟩ : MethodName)) (z := (⟨"java/lang/String", "length", "()I"⟩ : MethodName)) hown (mvT hZ (hw _ (List.mem_of_getElem? (i := 49) rfl))) (mvT hZ (hw _ (List.mem_of_getElem? (i := 50) rfl))) (notFace_of_selects (args := #[]) (mvT hZ (hw _ (List.mem_of_getElem? (i := 52) rfl)))) (mvT hZ (hw _ (List.mem_of_getElem? (i := 52) rfl))) (mvT hZ (hw _ (List.mem_of_getElem? (i := 51) rfl))) (by decide) (backOf (W := 0) (rmlen l Z a0 hw [] st tt z bs cz h1 n0 Zs E_st F_value_st F_coder_st V_tt Ol S_cs hcz) hZ (hw _ (List.mem_of_getElem? (i := 53) rfl)) (hw _ (List.mem_of_getElem? (i := 10) rfl)) (by decide) (by decide)) q3a q3c (g := (mkF m 8 #[.val (.ref st), .unset, .unset, .unset, .unset] [(.ref st)])) rfl (by rw [hml]; rfl) (Steps.refl _) (argsL := []) (rest := []) (lenOf pd_13 rfl) rfl (by show 2 * 0 + _ ≤ _; exact Nat.le_of_eq rfl) (hb hby dpa_8) (fun _ _ => ⟨rfl, e2, (Nat.le_of_ble_eq_true rfl), (Nat.le_of_ble_eq_true rfl)⟩)
  dsimp only [Pt.U, Pt.locs, Pt.cells, Pt.slots] at X3 l3 y3 z3 st3 hQ3
  subst l3 y3 z3
  obtain ⟨rfl, N3q, e3⟩ := hQ3
  have Nf := Fr.app Nf N3q
  refine own_go (fun tQ kQ => st3.trans kQ) ?_
  show own_End p e below _ (T3.setTop (mkF m 11 #[.val (.ref st), .unset, .unset, .unset, .unset] [(.int z)]))
  refine own_go (fun tQ kQ => XS.sipush X3.here hx rfl (hb hby dpa_11) kQ) ?_
  show own_End p e below _ (T3.setTop (mkF m 14 #[.val (.ref st), .unset, .unset, .unset, .unset] [(.int (128 : Int32)), (.int z)]))
  refine own_go (fun tQ kQ => XS.icmpYes X3.here hx rfl (pc0 := 14) (pc' := 31) rfl (hb hby dpa_14) rfl (flt (fun q => absurd ((own_lt_of (by decide : (128 : Int32).toInt = (128 : Nat)) hz).mp q) (by omega))).2.2.2 (by decide) (by decide) kQ) ?_
  show own_End p e below _ (T3.setTop (mkF m 31 #[.val (.ref st), .unset, .unset, .unset, .unset] []))
  have lp : ∀ (k : Nat) (i : Int32) (n : Nat) (sg : Int32) (gN : Nat) (sx : Int32) (sN : Nat) (T : State) (locs : List Loc) (h : Heap) (vm0 : Vm) (k0 : Nat) (X : Stand p l e ({ frames := 4, cells := 3, slots := 85, locals := 53 } : Room) (s.setVm vm0) m #[(.ref st)] below meth c T locs 2 84) (eT : T.heap = h) (Nf : Fr n0 locs) (Zs : n0 ≤ h.size) (Kp : Keep h0 h []) (szr : h0.size ≤ h.size) (hS : s.Since vm0 k0) (hkW : k0 ≤ h.size) (hZ : Z.Warmed39 (s.setVm vm0).vm) (hown : (s.setVm vm0).vm.findClass "com/example/grant3/grant3/Permission" = some m.cls) (E_st : Exa Z h st "java/lang/String") (F_value_st : Fld Z h st "java/lang/String" "value" "[B" (.ref tt)) (F_coder_st : Fld Z h st "java/lang/String" "coder" "B" (.int (0 : Int32))) (V_tt : own_Ar Z h tt .byte z (fun j => .int (bs j))) (Ol : Old Z n0 h) (hi : i.toInt = n) (hk : n + k = N + 1) (hst : sx.toInt = sN) (hsn : sN ≤ n) (hs0 : n ≤ N → (sN = 0 ∨ ∃ j, sN = j + 1 ∧ j < N ∧ cs j = 46)) (hsg : sg.toInt = gN) (hgn : gN ≤ n) (hdot : (∃ j, j < n ∧ j < N ∧ cs j = 46) → 1 ≤ gN) (hend : n = N + 1 → 2 ≤ gN), own_End p e below (Ppa Z st tt z bs cz fm cs N h0 n0 s) (T.setTop (mkF m 37 #[.val (.ref st), .val (.int sg), .val (.int sx), .val (.int i), .unset] [])) := by
    intro k
    induction k with
    | zero =>
      intro i n sg gN sx sN T locs h vm0 k0 X eT Nf Zs Kp szr hS hkW hZ hown E_st F_value_st F_coder_st V_tt Ol hi hk hst hsn hs0 hsg hgn hdot hend
      refine own_go (fun tQ kQ => XS.iloadN X.here hx rfl (hb hby dpa_37) rfl kQ) ?_
      show own_End p e below _ (T.setTop (mkF m 38 #[.val (.ref st), .val (.int sg), .val (.int sx), .val (.int i), .unset] [(.int i)]))
      refine own_go (fun tQ kQ => XS.aloadN X.here hx rfl (hb hby dpa_38) rfl rfl kQ) ?_
      show own_End p e below _ (T.setTop (mkF m 39 #[.val (.ref st), .val (.int sg), .val (.int sx), .val (.int i), .unset] [(.ref st), (.int i)]))
      obtain ⟨cq4, kq4, q4a, q4b, q4c⟩ := isOf hZ eT E_st
      obtain ⟨_, _, ⟨T4, L4, k4, n4⟩, -, X4, ⟨Lc4, hQ4, l4, y4, z4⟩, st4⟩ := X.virtualBack hx (y := (⟨"java/lang/String", "length", "()I"⟩ : MethodName)) (z := (⟨"java/lang/String", "length", "()I"⟩ : MethodName)) hown (mvT hZ (hw _ (List.mem_of_getElem? (i := 49) rfl))) (mvT hZ (hw _ (List.mem_of_getElem? (i := 50) rfl))) (notFace_of_selects (args := #[]) (mvT hZ (hw _ (List.mem_of_getElem? (i := 52) rfl)))) (mvT hZ (hw _ (List.mem_of_getElem? (i := 52) rfl))) (mvT hZ (hw _ (List.mem_of_getElem? (i := 51) rfl))) (by decide) (backOf (W := 1) (rmlen l Z a0 hw [] st tt z bs cz h n0 Zs E_st F_value_st F_coder_st V_tt Ol S_cs hcz) hZ (hw _ (List.mem_of_getElem? (i := 53) rfl)) (hw _ (List.mem_of_getElem? (i := 10) rfl)) (by decide) (by decide)) q4a q4c (g := (mkF m 39 #[.val (.ref st), .val (.int sg), .val (.int sx), .val (.int i), .unset] [(.ref st), (.int i)])) rfl (by rw [hml]; rfl) (Steps.refl _) (argsL := []) (rest := [(.int i)]) (lenOf pd_13 rfl) rfl (by show 2 * 0 + _ ≤ _; exact Nat.le_of_eq rfl) (hb hby dpa_39) (fun _ _ => ⟨rfl, eT, (Nat.le_of_ble_eq_true rfl), (Nat.le_of_ble_eq_true rfl)⟩)
      dsimp only [Pt.U, Pt.locs, Pt.cells, Pt.slots] at X4 l4 y4 z4 st4 hQ4
      subst l4 y4 z4
      obtain ⟨rfl, N4q, e4⟩ := hQ4
      have Nf := Fr.app Nf N4q
      refine own_go (fun tQ kQ => st4.trans kQ) ?_
      show own_End p e below _ (T4.setTop (mkF m 42 #[.val (.ref st), .val (.int sg), .val (.int sx), .val (.int i), .unset] [(.int z), (.int i)]))
      refine own_go (fun tQ kQ => XS.icmpYes X4.here hx rfl (pc0 := 42) (pc' := 124) rfl (hb hby dpa_42) rfl (tlt ((own_lt_of hz hi).mpr (by omega))).2.2.1 (by decide) (by decide) kQ) ?_
      show own_End p e below _ (T4.setTop (mkF m 124 #[.val (.ref st), .val (.int sg), .val (.int sx), .val (.int i), .unset] []))
      refine own_go (fun tQ kQ => XS.iloadN X4.here hx rfl (hb hby dpa_124) rfl kQ) ?_
      show own_End p e below _ (T4.setTop (mkF m 125 #[.val (.ref st), .val (.int sg), .val (.int sx), .val (.int i), .unset] [(.int sg)]))
      refine own_go (fun tQ kQ => XS.iconst X4.here hx rfl (hb hby dpa_125) kQ) ?_
      show own_End p e below _ (T4.setTop (mkF m 126 #[.val (.ref st), .val (.int sg), .val (.int sx), .val (.int i), .unset] [(.int (2 : Int32)), (.int sg)]))
      refine own_go (fun tQ kQ => XS.icmpYes X4.here hx rfl (pc0 := 126) (pc' := 136) rfl (hb hby dpa_126) rfl (flt (fun q => absurd ((own_lt_of hsg (by decide : (2 : Int32).toInt = (2 : Nat))).mp q) (by have := hend (by omega); omega))).2.1 (by decide) (by decide) kQ) ?_
      show own_End p e below _ (T4.setTop (mkF m 136 #[.val (.ref st), .val (.int sg), .val (.int sx), .val (.int i), .unset] []))
      obtain ⟨T5, h5, X5, e5, E5, A5, D5, -, st5⟩ := newO X4 hx hZ hown (hw _ (List.mem_of_getElem? (i := 84) rfl)) (hw _ (List.mem_of_getElem? (i := 85) rfl)) (hw _ (List.mem_of_getElem? (i := 40) rfl)) e4 (g := (mkF m 136 #[.val (.ref st), .val (.int sg), .val (.int sx), .val (.int i), .unset] [])) rfl (hb hby dpa_136) (by decide) (by decide)
      obtain ⟨pp, g5⟩ : ∃ z, z = h.size := ⟨_, rfl⟩
      rw [← g5] at A5 D5 st5
      have ne_st_pp : st ≠ pp := Nat.ne_of_lt (Nat.lt_of_lt_of_le E_st.lt (Nat.le_of_eq g5.symm))
      have ne_tt_pp : tt ≠ pp := Nat.ne_of_lt (Nat.lt_of_lt_of_le V_tt.lt (Nat.le_of_eq g5.symm))
      have g_pp : n0 ≤ pp := Nat.le_trans Zs (Nat.le_of_eq g5.symm)
      have sz_pp : h0.size ≤ pp := Nat.le_trans szr (Nat.le_of_eq g5.symm)
      have E_st := E_st.ext E5
      have F_value_st := F_value_st.ext E5
      have F_coder_st := F_coder_st.ext E5
      have V_tt := V_tt.ext E5
      have Ol := Ol.ext E5
      have Kp := Kp.ext E5
      have Zs := Nat.le_trans Zs E5.1
      have szr := Nat.le_trans szr E5.1
      have hkW := Nat.le_trans hkW E5.1
      have E_pp := A5
      have F_code_pp : Fld Z h5 pp "com/example/grant3/grant3/Permission" "code" "Ljava/lang/String;" .null := D5 (Or.inr (hw _ (List.mem_of_getElem? (i := 91) rfl))) (ty := (.object "java/lang/String")) (by decide)
      refine own_go (fun tQ kQ => st5 tQ kQ) ?_
      show own_End p e below _ (T5.setTop (mkF m 139 #[.val (.ref st), .val (.int sg), .val (.int sx), .val (.int i), .unset] [(.ref pp)]))
      refine own_go (fun tQ kQ => XS.dup X5.here hx rfl (hb hby dpa_139) rfl rfl kQ) ?_
      show own_End p e below _ (T5.setTop (mkF m 140 #[.val (.ref st), .val (.int sg), .val (.int sx), .val (.int i), .unset] [(.ref pp), (.ref pp)]))
      refine own_go (fun tQ kQ => XS.aloadN X5.here hx rfl (hb hby dpa_140) rfl rfl kQ) ?_
      show own_End p e below _ (T5.setTop (mkF m 141 #[.val (.ref st), .val (.int sg), .val (.int sx), .val (.int i), .unset] [(.ref st), (.ref pp), (.ref pp)]))
      obtain ⟨_, _, ⟨T6, L6, k6, n6⟩, -, X6, ⟨Lc6, hQ6, l6, y6, z6⟩, st6⟩ := X5.specialBack hx (y := (⟨"com/example/grant3/grant3/Permission", "<init>", "(Ljava/lang/String;)V"⟩ : MethodName)) rfl hown (mvT hZ (hw _ (List.mem_of_getElem? (i := 86) rfl))) (mvT hZ (hw _ (List.mem_of_getElem? (i := 87) rfl))) (mvT hZ (hw _ (List.mem_of_getElem? (i := 88) rfl))) (by decide) (backOf (W := 1) (rmpi l Z a0 hw [] pp st h5 n0 Zs E_pp F_code_pp g_pp) hZ (hw _ (List.mem_of_getElem? (i := 88) rfl)) (hw _ (List.mem_of_getElem? (i := 40) rfl)) (by decide) (by decide)) (g := (mkF m 141 #[.val (.ref st), .val (.int sg), .val (.int sx), .val (.int i), .unset] [(.ref st), (.ref pp), (.ref pp)])) rfl (by rw [hml]; rfl) (Steps.refl _) (a := pp) (argsL := [(.ref st)]) (rest := [(.ref pp)]) (lenOf pd_14 rfl) rfl (by show 2 * 0 + _ ≤ _; exact Nat.le_of_eq rfl) (hb hby dpa_141) (fun _ _ => ⟨rfl, e5, (Nat.le_of_ble_eq_true rfl), (Nat.le_of_ble_eq_true rfl)⟩)
      dsimp only [Pt.U, Pt.locs, Pt.cells, Pt.slots] at X6 l6 y6 z6 st6 hQ6
      subst l6 y6 z6
      obtain ⟨rfl, N6q, K6, F_code_pp⟩ := hQ6
      have Nf := Fr.app Nf N6q
      have E_st := E_st.keep K6
      have F_value_st := F_value_st.keep K6 (ninS ne_st_pp nin0)
      have F_coder_st := F_coder_st.keep K6 (ninS ne_st_pp nin0)
      have V_tt := V_tt.keep K6 (ninS ne_tt_pp nin0)
      have Ol := Ol.keep K6 (allS g_pp all0)
      have E_pp := E_pp.keep K6
      have Kp := Kp.trans K6 (allS (Or.inr sz_pp) all0)
      have Zs := Nat.le_trans Zs K6.1
      have szr := Nat.le_trans szr K6.1
      have hkW := Nat.le_trans hkW K6.1
      refine own_go (fun tQ kQ => st6.trans kQ) ?_
      show own_End p e below _ (T6.setTop (mkF m 144 #[.val (.ref st), .val (.int sg), .val (.int sx), .val (.int i), .unset] [(.ref pp)]))
      obtain ⟨fs, hr, hrun, hended, hend⟩ := X6.leaveW hS hkW (v := some (.ref pp)) (fun h => by rw [Bd.returns] at h; cases h)
      refine ⟨_, _, ?_, hrun, hended, _, _, rfl, ?_, ⟨hend.1, hend.2.1, hend.2.2.1, hend.2.2.2.mono (by decide) (by decide)⟩⟩
      · exact (by
          jvm_step X6.here [X6.here.top, hx, (hb hby dpa_144), X6.method', Bd.returns, Value.isRef, FieldType.isReference, narrow]
          first | (intro acts; rw [hr _ acts rfl rfl rfl]) | rw [hr _ _ rfl rfl rfl]
          exact Steps.refl _)
      · show Qpa Z st tt z bs cz fm cs N h0 n0 _ T6.heap _
        exact ⟨pp, rfl, Nf, Kp, sz_pp, E_pp, F_code_pp⟩
    | succ k ih =>
      intro i n sg gN sx sN T locs h vm0 k0 X eT Nf Zs Kp szr hS hkW hZ hown E_st F_value_st F_coder_st V_tt Ol hi hk hst hsn hs0 hsg hgn hdot hend
      refine own_go (fun tQ kQ => XS.iloadN X.here hx rfl (hb hby dpa_37) rfl kQ) ?_
      show own_End p e below _ (T.setTop (mkF m 38 #[.val (.ref st), .val (.int sg), .val (.int sx), .val (.int i), .unset] [(.int i)]))
      refine own_go (fun tQ kQ => XS.aloadN X.here hx rfl (hb hby dpa_38) rfl rfl kQ) ?_
      show own_End p e below _ (T.setTop (mkF m 39 #[.val (.ref st), .val (.int sg), .val (.int sx), .val (.int i), .unset] [(.ref st), (.int i)]))
      obtain ⟨cq7, kq7, q7a, q7b, q7c⟩ := isOf hZ eT E_st
      obtain ⟨_, _, ⟨T7, L7, k7, n7⟩, -, X7, ⟨Lc7, hQ7, l7, y7, z7⟩, st7⟩ := X.virtualBack hx (y := (⟨"java/lang/String", "length", "()I"⟩ : MethodName)) (z := (⟨"java/lang/String", "length", "()I"⟩ : MethodName)) hown (mvT hZ (hw _ (List.mem_of_getElem? (i := 49) rfl))) (mvT hZ (hw _ (List.mem_of_getElem? (i := 50) rfl))) (notFace_of_selects (args := #[]) (mvT hZ (hw _ (List.mem_of_getElem? (i := 52) rfl)))) (mvT hZ (hw _ (List.mem_of_getElem? (i := 52) rfl))) (mvT hZ (hw _ (List.mem_of_getElem? (i := 51) rfl))) (by decide) (backOf (W := 1) (rmlen l Z a0 hw [] st tt z bs cz h n0 Zs E_st F_value_st F_coder_st V_tt Ol S_cs hcz) hZ (hw _ (List.mem_of_getElem? (i := 53) rfl)) (hw _ (List.mem_of_getElem? (i := 10) rfl)) (by decide) (by decide)) q7a q7c (g := (mkF m 39 #[.val (.ref st), .val (.int sg), .val (.int sx), .val (.int i), .unset] [(.ref st), (.int i)])) rfl (by rw [hml]; rfl) (Steps.refl _) (argsL := []) (rest := [(.int i)]) (lenOf pd_13 rfl) rfl (by show 2 * 0 + _ ≤ _; exact Nat.le_of_eq rfl) (hb hby dpa_39) (fun _ _ => ⟨rfl, eT, (Nat.le_of_ble_eq_true rfl), (Nat.le_of_ble_eq_true rfl)⟩)
      dsimp only [Pt.U, Pt.locs, Pt.cells, Pt.slots] at X7 l7 y7 z7 st7 hQ7
      subst l7 y7 z7
      obtain ⟨rfl, N7q, e7⟩ := hQ7
      have Nf := Fr.app Nf N7q
      refine own_go (fun tQ kQ => st7.trans kQ) ?_
      show own_End p e below _ (T7.setTop (mkF m 42 #[.val (.ref st), .val (.int sg), .val (.int sx), .val (.int i), .unset] [(.int z), (.int i)]))
      refine own_go (fun tQ kQ => XS.icmpNo X7.here hx rfl (hb hby dpa_42) rfl (flt (fun q => absurd ((own_lt_of hz hi).mp q) (by omega))).2.2.1 kQ) ?_
      show own_End p e below _ (T7.setTop (mkF m 45 #[.val (.ref st), .val (.int sg), .val (.int sx), .val (.int i), .unset] []))
      refine own_go (fun tQ kQ => XS.iloadN X7.here hx rfl (hb hby dpa_45) rfl kQ) ?_
      show own_End p e below _ (T7.setTop (mkF m 46 #[.val (.ref st), .val (.int sg), .val (.int sx), .val (.int i), .unset] [(.int i)]))
      refine own_go (fun tQ kQ => XS.aloadN X7.here hx rfl (hb hby dpa_46) rfl rfl kQ) ?_
      show own_End p e below _ (T7.setTop (mkF m 47 #[.val (.ref st), .val (.int sg), .val (.int sx), .val (.int i), .unset] [(.ref st), (.int i)]))
      obtain ⟨cq8, kq8, q8a, q8b, q8c⟩ := isOf hZ e7 E_st
      obtain ⟨_, _, ⟨T8, L8, k8, n8⟩, -, X8, ⟨Lc8, hQ8, l8, y8, z8⟩, st8⟩ := X7.virtualBack hx (y := (⟨"java/lang/String", "length", "()I"⟩ : MethodName)) (z := (⟨"java/lang/String", "length", "()I"⟩ : MethodName)) hown (mvT hZ (hw _ (List.mem_of_getElem? (i := 49) rfl))) (mvT hZ (hw _ (List.mem_of_getElem? (i := 50) rfl))) (notFace_of_selects (args := #[]) (mvT hZ (hw _ (List.mem_of_getElem? (i := 52) rfl)))) (mvT hZ (hw _ (List.mem_of_getElem? (i := 52) rfl))) (mvT hZ (hw _ (List.mem_of_getElem? (i := 51) rfl))) (by decide) (backOf (W := 1) (rmlen l Z a0 hw [] st tt z bs cz h n0 Zs E_st F_value_st F_coder_st V_tt Ol S_cs hcz) hZ (hw _ (List.mem_of_getElem? (i := 53) rfl)) (hw _ (List.mem_of_getElem? (i := 10) rfl)) (by decide) (by decide)) q8a q8c (g := (mkF m 47 #[.val (.ref st), .val (.int sg), .val (.int sx), .val (.int i), .unset] [(.ref st), (.int i)])) rfl (by rw [hml]; rfl) (Steps.refl _) (argsL := []) (rest := [(.int i)]) (lenOf pd_13 rfl) rfl (by show 2 * 0 + _ ≤ _; exact Nat.le_of_eq rfl) (hb hby dpa_47) (fun _ _ => ⟨rfl, e7, (Nat.le_of_ble_eq_true rfl), (Nat.le_of_ble_eq_true rfl)⟩)
      dsimp only [Pt.U, Pt.locs, Pt.cells, Pt.slots] at X8 l8 y8 z8 st8 hQ8
      subst l8 y8 z8
      obtain ⟨rfl, N8q, e8⟩ := hQ8
      have Nf := Fr.app Nf N8q
      refine own_go (fun tQ kQ => st8.trans kQ) ?_
      show own_End p e below _ (T8.setTop (mkF m 50 #[.val (.ref st), .val (.int sg), .val (.int sx), .val (.int i), .unset] [(.int z), (.int i)]))
      by_cases hc50 : i = z
      ·
        refine own_go (fun tQ kQ => XS.icmpYes X8.here hx rfl (pc0 := 50) (pc' := 63) rfl (hb hby dpa_50) rfl (teq hc50).1 (by decide) (by decide) kQ) ?_
        show own_End p e below _ (T8.setTop (mkF m 63 #[.val (.ref st), .val (.int sg), .val (.int sx), .val (.int i), .unset] []))
        have hnz : n = N := (own_eq_of hi hz).mp hc50
        refine own_go (fun tQ kQ => XS.iloadN X8.here hx rfl (hb hby dpa_63) rfl kQ) ?_
        show own_End p e below _ (T8.setTop (mkF m 64 #[.val (.ref st), .val (.int sg), .val (.int sx), .val (.int i), .unset] [(.int i)]))
        refine own_go (fun tQ kQ => XS.iloadN X8.here hx rfl (hb hby dpa_64) rfl kQ) ?_
        show own_End p e below _ (T8.setTop (mkF m 65 #[.val (.ref st), .val (.int sg), .val (.int sx), .val (.int i), .unset] [(.int sx), (.int i)]))
        refine own_go (fun tQ kQ => XS.icmpYes X8.here hx rfl (pc0 := 65) (pc' := 75) rfl (hb hby dpa_65) rfl (feq (fun q => absurd ((own_eq_of hi hst).mp q) (by
                intro e
                rcases hs0 (by omega) with q0 | ⟨j, q1, q2, q3⟩
                · omega
                · have := (v4 j q2 q3).2.1; omega))).2 (by decide) (by decide) kQ) ?_
        show own_End p e below _ (T8.setTop (mkF m 75 #[.val (.ref st), .val (.int sg), .val (.int sx), .val (.int i), .unset] []))
        refine own_go (fun tQ kQ => XS.iinc X8.here hx rfl (hb hby dpa_75) rfl (l' := #[.val (.ref st), .val (.int (sg + (1 : Int32))), .val (.int sx), .val (.int i), .unset]) rfl kQ) ?_
        show own_End p e below _ (T8.setTop (mkF m 78 #[.val (.ref st), .val (.int (sg + (1 : Int32))), .val (.int sx), .val (.int i), .unset] []))
        refine own_go (fun tQ kQ => XS.iloadN X8.here hx rfl (hb hby dpa_78) rfl kQ) ?_
        show own_End p e below _ (T8.setTop (mkF m 79 #[.val (.ref st), .val (.int (sg + (1 : Int32))), .val (.int sx), .val (.int i), .unset] [(.int i)]))
        refine own_go (fun tQ kQ => XS.iconst X8.here hx rfl (hb hby dpa_79) kQ) ?_
        show own_End p e below _ (T8.setTop (mkF m 80 #[.val (.ref st), .val (.int (sg + (1 : Int32))), .val (.int sx), .val (.int i), .unset] [(.int (1 : Int32)), (.int i)]))
        refine own_go (fun tQ kQ => XS.iadd X8.here hx rfl (hb hby dpa_80) rfl kQ) ?_
        show own_End p e below _ (T8.setTop (mkF m 81 #[.val (.ref st), .val (.int (sg + (1 : Int32))), .val (.int sx), .val (.int i), .unset] [(.int (i + (1 : Int32)))]))
        refine own_go (fun tQ kQ => XS.istoreN X8.here hx rfl (hb hby dpa_81) rfl (l' := #[.val (.ref st), .val (.int (sg + (1 : Int32))), .val (.int (i + (1 : Int32))), .val (.int i), .unset]) rfl kQ) ?_
        show own_End p e below _ (T8.setTop (mkF m 82 #[.val (.ref st), .val (.int (sg + (1 : Int32))), .val (.int (i + (1 : Int32))), .val (.int i), .unset] []))
        refine own_go (fun tQ kQ => XS.goto X8.here hx rfl (pc0 := 82) (pc' := 118) rfl (hb hby dpa_82) (by decide) (by decide) kQ) ?_
        show own_End p e below _ (T8.setTop (mkF m 118 #[.val (.ref st), .val (.int (sg + (1 : Int32))), .val (.int (i + (1 : Int32))), .val (.int i), .unset] []))
        refine own_go (fun tQ kQ => XS.iinc X8.here hx rfl (hb hby dpa_118) rfl (l' := #[.val (.ref st), .val (.int (sg + (1 : Int32))), .val (.int (i + (1 : Int32))), .val (.int (i + (1 : Int32))), .unset]) rfl kQ) ?_
        show own_End p e below _ (T8.setTop (mkF m 121 #[.val (.ref st), .val (.int (sg + (1 : Int32))), .val (.int (i + (1 : Int32))), .val (.int (i + (1 : Int32))), .unset] []))
        refine own_go (fun tQ kQ => XS.goto X8.here hx rfl (pc0 := 121) (pc' := 37) rfl (hb hby dpa_121) (by decide) (by decide) kQ) ?_
        show own_End p e below _ (T8.setTop (mkF m 37 #[.val (.ref st), .val (.int (sg + (1 : Int32))), .val (.int (i + (1 : Int32))), .val (.int (i + (1 : Int32))), .unset] []))
        exact ih (i + (1 : Int32)) (n + 1) (sg + (1 : Int32)) (gN + 1) (i + (1 : Int32)) (n + 1) T8 _ h _ _ X8 e8 Nf Zs Kp szr hS hkW hZ hown E_st F_value_st F_coder_st V_tt Ol (own_inc hi (by omega)) (by omega) (own_inc hi (by omega)) (Nat.le_refl _) (fun q => absurd q (by omega)) (own_inc hsg (by omega)) (by omega) (fun _ => by omega) (fun _ => by have := hdot (by obtain ⟨j, a1, a2⟩ := v5; exact ⟨j, by omega, a1, a2⟩); omega)
      ·
        refine own_go (fun tQ kQ => XS.icmpNo X8.here hx rfl (hb hby dpa_50) rfl (feq hc50).1 kQ) ?_
        show own_End p e below _ (T8.setTop (mkF m 53 #[.val (.ref st), .val (.int sg), .val (.int sx), .val (.int i), .unset] []))
        have hnN : n < N := by have : ¬ n = N := fun e => hc50 ((own_eq_of hi hz).mpr e)
                               omega
        have hci : own_ch (bs i.toNatClampNeg) = cs n := by rw [own_clamp hi]; exact hcs n hnN
        refine own_go (fun tQ kQ => XS.aloadN X8.here hx rfl (hb hby dpa_53) rfl rfl kQ) ?_
        show own_End p e below _ (T8.setTop (mkF m 54 #[.val (.ref st), .val (.int sg), .val (.int sx), .val (.int i), .unset] [(.ref st)]))
        refine own_go (fun tQ kQ => XS.iloadN X8.here hx rfl (hb hby dpa_54) rfl kQ) ?_
        show own_End p e below _ (T8.setTop (mkF m 55 #[.val (.ref st), .val (.int sg), .val (.int sx), .val (.int i), .unset] [(.int i), (.ref st)]))
        obtain ⟨cq9, kq9, q9a, q9b, q9c⟩ := isOf hZ e8 E_st
        obtain ⟨_, _, ⟨T9, L9, k9, n9⟩, -, X9, ⟨Lc9, hQ9, l9, y9, z9⟩, st9⟩ := X8.virtualBack hx (y := (⟨"java/lang/String", "charAt", "(I)C"⟩ : MethodName)) (z := (⟨"java/lang/String", "charAt", "(I)C"⟩ : MethodName)) hown (mvT hZ (hw _ (List.mem_of_getElem? (i := 59) rfl))) (mvT hZ (hw _ (List.mem_of_getElem? (i := 60) rfl))) (notFace_of_selects (args := #[]) (mvT hZ (hw _ (List.mem_of_getElem? (i := 62) rfl)))) (mvT hZ (hw _ (List.mem_of_getElem? (i := 62) rfl))) (mvT hZ (hw _ (List.mem_of_getElem? (i := 61) rfl))) (by decide) (backOf (W := 0) (rmchA l Z a0 hw [] st tt z bs cz i fm h n0 Zs E_st F_value_st F_coder_st V_tt Ol S_cs hcz S_fm rfm (own_nn hi) ((own_lt_of hi hz).mpr hnN)) hZ (hw _ (List.mem_of_getElem? (i := 63) rfl)) (hw _ (List.mem_of_getElem? (i := 10) rfl)) (by decide) (by decide)) q9a q9c (g := (mkF m 55 #[.val (.ref st), .val (.int sg), .val (.int sx), .val (.int i), .unset] [(.int i), (.ref st)])) rfl (by rw [hml]; rfl) (Steps.refl _) (argsL := [(.int i)]) (rest := []) (lenOf pd_1 rfl) rfl (by show 2 * 0 + _ ≤ _; exact Nat.le_of_eq rfl) (hb hby dpa_55) (fun _ _ => ⟨rfl, e8, (Nat.le_of_ble_eq_true rfl), (Nat.le_of_ble_eq_true rfl)⟩)
        dsimp only [Pt.U, Pt.locs, Pt.cells, Pt.slots] at X9 l9 y9 z9 st9 hQ9
        subst l9 y9 z9
        obtain ⟨rfl, N9q, e9⟩ := hQ9
        have Nf := Fr.app Nf N9q
        refine own_go (fun tQ kQ => st9.trans kQ) ?_
        show own_End p e below _ (T9.setTop (mkF m 58 #[.val (.ref st), .val (.int sg), .val (.int sx), .val (.int i), .unset] [(.int (own_ch (bs i.toNatClampNeg)))]))
        rw [hci]
        show own_End p e below _ (T9.setTop (mkF m 58 #[.val (.ref st), .val (.int sg), .val (.int sx), .val (.int i), .unset] [(.int (cs n))]))
        refine own_go (fun tQ kQ => XS.bipush X9.here hx rfl (hb hby dpa_58) kQ) ?_
        show own_End p e below _ (T9.setTop (mkF m 60 #[.val (.ref st), .val (.int sg), .val (.int sx), .val (.int i), .unset] [(.int (46 : Int32)), (.int (cs n))]))
        by_cases hc60 : (cs n) = (46 : Int32)
        ·
          refine own_go (fun tQ kQ => XS.icmpNo X9.here hx rfl (hb hby dpa_60) rfl (teq hc60).2 kQ) ?_
          show own_End p e below _ (T9.setTop (mkF m 63 #[.val (.ref st), .val (.int sg), .val (.int sx), .val (.int i), .unset] []))
          refine own_go (fun tQ kQ => XS.iloadN X9.here hx rfl (hb hby dpa_63) rfl kQ) ?_
          show own_End p e below _ (T9.setTop (mkF m 64 #[.val (.ref st), .val (.int sg), .val (.int sx), .val (.int i), .unset] [(.int i)]))
          refine own_go (fun tQ kQ => XS.iloadN X9.here hx rfl (hb hby dpa_64) rfl kQ) ?_
          show own_End p e below _ (T9.setTop (mkF m 65 #[.val (.ref st), .val (.int sg), .val (.int sx), .val (.int i), .unset] [(.int sx), (.int i)]))
          refine own_go (fun tQ kQ => XS.icmpYes X9.here hx rfl (pc0 := 65) (pc' := 75) rfl (hb hby dpa_65) rfl (feq (fun q => absurd ((own_eq_of hi hst).mp q) (by
                  intro e
                  rcases hs0 (by omega) with q0 | ⟨j, q1, q2, q3⟩
                  · have := (v4 n hnN hc60).1; omega
                  · have e2 : j + 1 = n := by omega
                    exact (v4 j q2 q3).2.2 (by rw [e2]; exact hc60)))).2 (by decide) (by decide) kQ) ?_
          show own_End p e below _ (T9.setTop (mkF m 75 #[.val (.ref st), .val (.int sg), .val (.int sx), .val (.int i), .unset] []))
          refine own_go (fun tQ kQ => XS.iinc X9.here hx rfl (hb hby dpa_75) rfl (l' := #[.val (.ref st), .val (.int (sg + (1 : Int32))), .val (.int sx), .val (.int i), .unset]) rfl kQ) ?_
          show own_End p e below _ (T9.setTop (mkF m 78 #[.val (.ref st), .val (.int (sg + (1 : Int32))), .val (.int sx), .val (.int i), .unset] []))
          refine own_go (fun tQ kQ => XS.iloadN X9.here hx rfl (hb hby dpa_78) rfl kQ) ?_
          show own_End p e below _ (T9.setTop (mkF m 79 #[.val (.ref st), .val (.int (sg + (1 : Int32))), .val (.int sx), .val (.int i), .unset] [(.int i)]))
          refine own_go (fun tQ kQ => XS.iconst X9.here hx rfl (hb hby dpa_79) kQ) ?_
          show own_End p e below _ (T9.setTop (mkF m 80 #[.val (.ref st), .val (.int (sg + (1 : Int32))), .val (.int sx), .val (.int i), .unset] [(.int (1 : Int32)), (.int i)]))
          refine own_go (fun tQ kQ => XS.iadd X9.here hx rfl (hb hby dpa_80) rfl kQ) ?_
          show own_End p e below _ (T9.setTop (mkF m 81 #[.val (.ref st), .val (.int (sg + (1 : Int32))), .val (.int sx), .val (.int i), .unset] [(.int (i + (1 : Int32)))]))
          refine own_go (fun tQ kQ => XS.istoreN X9.here hx rfl (hb hby dpa_81) rfl (l' := #[.val (.ref st), .val (.int (sg + (1 : Int32))), .val (.int (i + (1 : Int32))), .val (.int i), .unset]) rfl kQ) ?_
          show own_End p e below _ (T9.setTop (mkF m 82 #[.val (.ref st), .val (.int (sg + (1 : Int32))), .val (.int (i + (1 : Int32))), .val (.int i), .unset] []))
          refine own_go (fun tQ kQ => XS.goto X9.here hx rfl (pc0 := 82) (pc' := 118) rfl (hb hby dpa_82) (by decide) (by decide) kQ) ?_
          show own_End p e below _ (T9.setTop (mkF m 118 #[.val (.ref st), .val (.int (sg + (1 : Int32))), .val (.int (i + (1 : Int32))), .val (.int i), .unset] []))
          refine own_go (fun tQ kQ => XS.iinc X9.here hx rfl (hb hby dpa_118) rfl (l' := #[.val (.ref st), .val (.int (sg + (1 : Int32))), .val (.int (i + (1 : Int32))), .val (.int (i + (1 : Int32))), .unset]) rfl kQ) ?_
          show own_End p e below _ (T9.setTop (mkF m 121 #[.val (.ref st), .val (.int (sg + (1 : Int32))), .val (.int (i + (1 : Int32))), .val (.int (i + (1 : Int32))), .unset] []))
          refine own_go (fun tQ kQ => XS.goto X9.here hx rfl (pc0 := 121) (pc' := 37) rfl (hb hby dpa_121) (by decide) (by decide) kQ) ?_
          show own_End p e below _ (T9.setTop (mkF m 37 #[.val (.ref st), .val (.int (sg + (1 : Int32))), .val (.int (i + (1 : Int32))), .val (.int (i + (1 : Int32))), .unset] []))
          exact ih (i + (1 : Int32)) (n + 1) (sg + (1 : Int32)) (gN + 1) (i + (1 : Int32)) (n + 1) T9 _ h _ _ X9 e9 Nf Zs Kp szr hS hkW hZ hown E_st F_value_st F_coder_st V_tt Ol (own_inc hi (by omega)) (by omega) (own_inc hi (by omega)) (Nat.le_refl _) (fun _ => Or.inr ⟨n, rfl, hnN, hc60⟩) (own_inc hsg (by omega)) (by omega) (fun _ => by omega) (fun q => absurd q (by omega))
        ·
          refine own_go (fun tQ kQ => XS.icmpYes X9.here hx rfl (pc0 := 60) (pc' := 85) rfl (hb hby dpa_60) rfl (feq hc60).2 (by decide) (by decide) kQ) ?_
          show own_End p e below _ (T9.setTop (mkF m 85 #[.val (.ref st), .val (.int sg), .val (.int sx), .val (.int i), .unset] []))
          refine own_go (fun tQ kQ => XS.aloadN X9.here hx rfl (hb hby dpa_85) rfl rfl kQ) ?_
          show own_End p e below _ (T9.setTop (mkF m 86 #[.val (.ref st), .val (.int sg), .val (.int sx), .val (.int i), .unset] [(.ref st)]))
          refine own_go (fun tQ kQ => XS.iloadN X9.here hx rfl (hb hby dpa_86) rfl kQ) ?_
          show own_End p e below _ (T9.setTop (mkF m 87 #[.val (.ref st), .val (.int sg), .val (.int sx), .val (.int i), .unset] [(.int i), (.ref st)]))
          obtain ⟨cq10, kq10, q10a, q10b, q10c⟩ := isOf hZ e9 E_st
          obtain ⟨_, _, ⟨T10, L10, k10, n10⟩, -, X10, ⟨Lc10, hQ10, l10, y10, z10⟩, st10⟩ := X9.virtualBack hx (y := (⟨"java/lang/String", "charAt", "(I)C"⟩ : MethodName)) (z := (⟨"java/lang/String", "charAt", "(I)C"⟩ : MethodName)) hown (mvT hZ (hw _ (List.mem_of_getElem? (i := 59) rfl))) (mvT hZ (hw _ (List.mem_of_getElem? (i := 60) rfl))) (notFace_of_selects (args := #[]) (mvT hZ (hw _ (List.mem_of_getElem? (i := 62) rfl)))) (mvT hZ (hw _ (List.mem_of_getElem? (i := 62) rfl))) (mvT hZ (hw _ (List.mem_of_getElem? (i := 61) rfl))) (by decide) (backOf (W := 0) (rmchA l Z a0 hw [] st tt z bs cz i fm h n0 Zs E_st F_value_st F_coder_st V_tt Ol S_cs hcz S_fm rfm (own_nn hi) ((own_lt_of hi hz).mpr hnN)) hZ (hw _ (List.mem_of_getElem? (i := 63) rfl)) (hw _ (List.mem_of_getElem? (i := 10) rfl)) (by decide) (by decide)) q10a q10c (g := (mkF m 87 #[.val (.ref st), .val (.int sg), .val (.int sx), .val (.int i), .unset] [(.int i), (.ref st)])) rfl (by rw [hml]; rfl) (Steps.refl _) (argsL := [(.int i)]) (rest := []) (lenOf pd_1 rfl) rfl (by show 2 * 0 + _ ≤ _; exact Nat.le_of_eq rfl) (hb hby dpa_87) (fun _ _ => ⟨rfl, e9, (Nat.le_of_ble_eq_true rfl), (Nat.le_of_ble_eq_true rfl)⟩)
          dsimp only [Pt.U, Pt.locs, Pt.cells, Pt.slots] at X10 l10 y10 z10 st10 hQ10
          subst l10 y10 z10
          obtain ⟨rfl, N10q, e10⟩ := hQ10
          have Nf := Fr.app Nf N10q
          refine own_go (fun tQ kQ => st10.trans kQ) ?_
          show own_End p e below _ (T10.setTop (mkF m 90 #[.val (.ref st), .val (.int sg), .val (.int sx), .val (.int i), .unset] [(.int (own_ch (bs i.toNatClampNeg)))]))
          rw [hci]
          show own_End p e below _ (T10.setTop (mkF m 90 #[.val (.ref st), .val (.int sg), .val (.int sx), .val (.int i), .unset] [(.int (cs n))]))
          have hsgn : own_seg (cs n) := (v3 n hnN).resolve_left hc60
          obtain ⟨_, _, ⟨T11, L11, k11, n11⟩, -, X11, ⟨Lc11, hQ11, l11, y11, z11⟩, st11⟩ := Jvm.LawKit.callS X10 hx (y := (⟨"com/example/grant3/grant3/Permission", "isSegmentCharacter", "(C)Z"⟩ : MethodName)) hown (mvT hZ (hw _ (List.mem_of_getElem? (i := 81) rfl))) (mvT hZ (hw _ (List.mem_of_getElem? (i := 82) rfl))) (mvT hZ (hw _ (List.mem_of_getElem? (i := 40) rfl))) (mvT hZ (hw _ (List.mem_of_getElem? (i := 83) rfl))) (by decide) (backOf (W := 0) (rmis l Z a0 hw [] (cs n) h n0 Zs hsgn) hZ (hw _ (List.mem_of_getElem? (i := 83) rfl)) (hw _ (List.mem_of_getElem? (i := 40) rfl)) (by decide) (by decide)) (g := (mkF m 90 #[.val (.ref st), .val (.int sg), .val (.int sx), .val (.int i), .unset] [(.int (cs n))])) rfl (by rw [hml]; rfl) (argsL := [(.int (cs n))]) (rest := []) (lenOf pd_15 rfl) rfl (by show 2 * 0 + _ ≤ _; exact Nat.le_of_eq rfl) (hb hby dpa_90) (fun _ _ => ⟨rfl, e10, (Nat.le_of_ble_eq_true rfl), (Nat.le_of_ble_eq_true rfl)⟩)
          dsimp only [Pt.U, Pt.locs, Pt.cells, Pt.slots] at X11 l11 y11 z11 st11 hQ11
          subst l11 y11 z11
          obtain ⟨rfl, N11q, e11⟩ := hQ11
          have Nf := Fr.app Nf N11q
          refine own_go (fun tQ kQ => st11 tQ kQ) ?_
          show own_End p e below _ (T11.setTop (mkF m 93 #[.val (.ref st), .val (.int sg), .val (.int sx), .val (.int i), .unset] [(.int (1 : Int32))]))
          refine own_go (fun tQ kQ => XS.ifYes X11.here hx rfl (pc0 := 93) (pc' := 118) rfl (hb hby dpa_93) rfl ((if0 _ _).trans (feq (by decide)).2) (by decide) (by decide) kQ) ?_
          show own_End p e below _ (T11.setTop (mkF m 118 #[.val (.ref st), .val (.int sg), .val (.int sx), .val (.int i), .unset] []))
          refine own_go (fun tQ kQ => XS.iinc X11.here hx rfl (hb hby dpa_118) rfl (l' := #[.val (.ref st), .val (.int sg), .val (.int sx), .val (.int (i + (1 : Int32))), .unset]) rfl kQ) ?_
          show own_End p e below _ (T11.setTop (mkF m 121 #[.val (.ref st), .val (.int sg), .val (.int sx), .val (.int (i + (1 : Int32))), .unset] []))
          refine own_go (fun tQ kQ => XS.goto X11.here hx rfl (pc0 := 121) (pc' := 37) rfl (hb hby dpa_121) (by decide) (by decide) kQ) ?_
          show own_End p e below _ (T11.setTop (mkF m 37 #[.val (.ref st), .val (.int sg), .val (.int sx), .val (.int (i + (1 : Int32))), .unset] []))
          exact ih (i + (1 : Int32)) (n + 1) sg gN sx sN T11 _ h _ _ X11 e11 Nf Zs Kp szr hS hkW hZ hown E_st F_value_st F_coder_st V_tt Ol (own_inc hi (by omega)) (by omega) hst (by omega) (fun q => hs0 (by omega)) hsg (by omega) (fun ⟨j, a1, a2, a3⟩ => hdot ⟨j, by
                  rcases Nat.lt_or_ge j n with r | r
                  · exact r
                  · have : j = n := by omega
                    exact absurd (this ▸ a3) hc60, a2, a3⟩) (fun q => absurd q (by omega))
  refine own_go (fun tQ kQ => XS.iconst X3.here hx rfl (hb hby dpa_31) kQ) ?_
  show own_End p e below _ (T3.setTop (mkF m 32 #[.val (.ref st), .unset, .unset, .unset, .unset] [(.int (0 : Int32))]))
  refine own_go (fun tQ kQ => XS.istoreN X3.here hx rfl (hb hby dpa_32) rfl (l' := #[.val (.ref st), .val (.int (0 : Int32)), .unset, .unset, .unset]) rfl kQ) ?_
  show own_End p e below _ (T3.setTop (mkF m 33 #[.val (.ref st), .val (.int (0 : Int32)), .unset, .unset, .unset] []))
  refine own_go (fun tQ kQ => XS.iconst X3.here hx rfl (hb hby dpa_33) kQ) ?_
  show own_End p e below _ (T3.setTop (mkF m 34 #[.val (.ref st), .val (.int (0 : Int32)), .unset, .unset, .unset] [(.int (0 : Int32))]))
  refine own_go (fun tQ kQ => XS.istoreN X3.here hx rfl (hb hby dpa_34) rfl (l' := #[.val (.ref st), .val (.int (0 : Int32)), .val (.int (0 : Int32)), .unset, .unset]) rfl kQ) ?_
  show own_End p e below _ (T3.setTop (mkF m 35 #[.val (.ref st), .val (.int (0 : Int32)), .val (.int (0 : Int32)), .unset, .unset] []))
  refine own_go (fun tQ kQ => XS.iconst X3.here hx rfl (hb hby dpa_35) kQ) ?_
  show own_End p e below _ (T3.setTop (mkF m 36 #[.val (.ref st), .val (.int (0 : Int32)), .val (.int (0 : Int32)), .unset, .unset] [(.int (0 : Int32))]))
  refine own_go (fun tQ kQ => XS.istoreN X3.here hx rfl (hb hby dpa_36) rfl (l' := #[.val (.ref st), .val (.int (0 : Int32)), .val (.int (0 : Int32)), .val (.int (0 : Int32)), .unset]) rfl kQ) ?_
  show own_End p e below _ (T3.setTop (mkF m 37 #[.val (.ref st), .val (.int (0 : Int32)), .val (.int (0 : Int32)), .val (.int (0 : Int32)), .unset] []))
  exact lp (N + 1) (0 : Int32) 0 (0 : Int32) 0 (0 : Int32) 0 T3 _ h1 _ _ X3 e3 Nf Zs Kp szr hS hkW hZ hown E_st F_value_st F_coder_st V_tt Ol (by decide) (by omega) (by decide) (Nat.le_refl _) (fun _ => Or.inl rfl) (by decide) (Nat.le_refl _) (fun ⟨j, a, _⟩ => absurd a (Nat.not_lt_zero _)) (fun q => absurd q (by omega))
theorem pd_16 : parseMethodDescriptor "(Ljava/lang/String;)Lcom/example/grant3/grant3/Permission;" = some ⟨[(.object "java/lang/String")], some (.object "com/example/grant3/grant3/Permission")⟩ := by decide +kernel
theorem pd_17 : parseMethodDescriptor "()Ljava/lang/String;" = some ⟨[], some (.object "java/lang/String")⟩ := by decide +kernel
theorem pd_18 : parseMethodDescriptor "(Ljava/lang/Object;)Z" = some ⟨[(.object "java/lang/Object")], some .boolean⟩ := by decide +kernel
theorem pd_19 : parseMethodDescriptor "(JI)C" = some ⟨[.long, .int], some .char⟩ := by decide +kernel
theorem pd_20 : parseMethodDescriptor "([C)V" = some ⟨[(.array .char)], none⟩ := by decide +kernel
theorem ef_0 (m : MethodId) (x0 : Int32) (x1 : Int64) : entryFrame m #[(.int x0), (.long x1)] maxLocals = mkF m 0 #[.val (.int x0), .val (.long x1), .second, .unset, .unset, .unset, .unset, .unset, .unset, .unset, .unset, .unset, .unset, .unset, .unset, .unset] [] := by first | (simp [entryFrame, mkF, argsToLocals, Value.category, maxLocals]; done) | rfl
def Q0 (Z : State) (i0 : Int32) (q1 : Int64) (cz : Int32) (fm : Value) (h0 : Heap) (n0 : Nat) (v : Option Value) (h : Heap) (L : List Loc) : Prop := v = some (.int 1) ∧ Fr n0 L
def P0 (Z : State) (i0 : Int32) (q1 : Int64) (cz : Int32) (fm : Value) (h0 : Heap) (n0 : Nat) (s : State) (oQ : Outcome) (U : State) : Prop := ∃ v L, oQ = .returned v ∧ Q0 Z i0 q1 cz fm h0 n0 v U.heap L ∧ ReturnedEndW s oQ U L 8 200
set_option maxRecDepth 65536 in
set_option maxHeartbeats 40000000 in
theorem rm0 (l : Launch) (Z : State) (a0 : Array Value) (hw : ∀ d ∈ tables_1, d.before a0 Z = true) (ws : List Jvm.Cond) (i0 : Int32) (q1 : Int64) (cz : Int32) (fm : Value) (h0 : Heap) (n0 : Nat) (Z0 : n0 ≤ h0.size) (Ol : Old Z n0 h0) (S_cs : Sta Z Z.heap "java/lang/String" "COMPACT_STRINGS" "Z" (.int cz)) (hcz : ¬ cz = 0) (S_fm : Sta Z Z.heap "jdk/internal/util/Preconditions" "SIOOBE_FORMATTER" "Ljava/util/function/BiFunction;" fm) (rfm : fm.isRef = true) :
    MetFree l x (head1 (Jvm.Cond.code x code maxLocals ret :: ws) room_1) (fun aQ U => aQ = #[(.int i0), (.long q1)] ∧ Z.Warmed39 U.vm ∧ U.heap = h0) (fun _ _ _ _ _ => True) (fun _ U oQ U' => ∃ v L, oQ = .returned v ∧ Q0 Z i0 q1 cz fm h0 n0 v U'.heap L ∧ ReturnedEndW U oQ U' L 8 200) := by
  refine MetFree.of_bodySF (plainFor_of_name pn_0) hisR ?_
  intro p e s m args below meth c s₁ Bd hml0 hP hK
  obtain ⟨rfl, hZ, hh⟩ := hP
  have hx := Bd.exec
  have hby := Bd.bytes
  have hml : c.maxLocals = 16 := hml0
  have hown : (s.setVm s.vm).vm.findClass "com/example/grant3/grant3/PermissionParsePinLaw" = some m.cls := findClass_of_methodNamed Bd.named
  have hZ : Z.Warmed39 (s.setVm s.vm).vm := hZ
  have hS : s.Since s.vm h0.size := (State.WarmedH.refl s).since _
  have hkW : h0.size ≤ h0.size := Nat.le_refl _
  have hnm := (name_of_methodNamed Bd.named Bd.method).1
  have X0 : Stand p l e room_1 (s.setVm s.vm) m #[(.int i0), (.long q1)] below meth c s₁ [] 0 0 := Stand.of_body Bd
  have e0 : s₁.heap = h0 := by rw [← hh, Bd.state]; rfl
  have Nf := Fr.nil n0
  have Zs : n0 ≤ h0.size := Z0
  have Kp : Keep h0 h0 [] := Keep.refl _ _
  have szr : h0.size ≤ h0.size := Nat.le_refl _
  show own_End p e below (P0 Z i0 q1 cz fm h0 n0 s) (s₁.setTop (entryFrame m #[(.int i0), (.long q1)] maxLocals))
  rw [ef_0]
  have hws : ∀ d ∈ StrChars.Road.words, d.before a0 Z = true := fun d hd => hw d ((by decide +kernel : ∀ d ∈ StrChars.Road.words, d ∈ tables_1) d hd)
  refine own_go (fun tQ kQ => XS.iconst X0.here hx rfl (hb hby at_0) kQ) ?_
  show own_End p e below _ (s₁.setTop (mkF m 1 #[.val (.int i0), .val (.long q1), .second, .unset, .unset, .unset, .unset, .unset, .unset, .unset, .unset, .unset, .unset, .unset, .unset, .unset] [(.int (3 : Int32))]))
  refine own_go (fun tQ kQ => XS.iloadN X0.here hx rfl (hb hby at_1) rfl kQ) ?_
  show own_End p e below _ (s₁.setTop (mkF m 2 #[.val (.int i0), .val (.long q1), .second, .unset, .unset, .unset, .unset, .unset, .unset, .unset, .unset, .unset, .unset, .unset, .unset, .unset] [(.int i0), (.int (3 : Int32))]))
  refine own_go (fun tQ kQ => XS.iconst X0.here hx rfl (hb hby at_2) kQ) ?_
  show own_End p e below _ (s₁.setTop (mkF m 3 #[.val (.int i0), .val (.long q1), .second, .unset, .unset, .unset, .unset, .unset, .unset, .unset, .unset, .unset, .unset, .unset, .unset, .unset] [(.int (3 : Int32)), (.int i0), (.int (3 : Int32))]))
  refine own_go (fun tQ kQ => XS.iand X0.here hx rfl (hb hby at_3) rfl kQ) ?_
  show own_End p e below _ (s₁.setTop (mkF m 4 #[.val (.int i0), .val (.long q1), .second, .unset, .unset, .unset, .unset, .unset, .unset, .unset, .unset, .unset, .unset, .unset, .unset, .unset] [(.int (i0 &&& (3 : Int32))), (.int (3 : Int32))]))
  refine own_go (fun tQ kQ => XS.iadd X0.here hx rfl (hb hby at_4) rfl kQ) ?_
  show own_End p e below _ (s₁.setTop (mkF m 5 #[.val (.int i0), .val (.long q1), .second, .unset, .unset, .unset, .unset, .unset, .unset, .unset, .unset, .unset, .unset, .unset, .unset, .unset] [(.int ((3 : Int32) + (i0 &&& (3 : Int32))))]))
  refine own_go (fun tQ kQ => XS.istoreN X0.here hx rfl (hb hby at_5) rfl (l' := #[.val (.int i0), .val (.long q1), .second, .val (.int ((3 : Int32) + (i0 &&& (3 : Int32)))), .unset, .unset, .unset, .unset, .unset, .unset, .unset, .unset, .unset, .unset, .unset, .unset]) rfl kQ) ?_
  show own_End p e below _ (s₁.setTop (mkF m 6 #[.val (.int i0), .val (.long q1), .second, .val (.int ((3 : Int32) + (i0 &&& (3 : Int32)))), .unset, .unset, .unset, .unset, .unset, .unset, .unset, .unset, .unset, .unset, .unset, .unset] []))
  obtain ⟨ln, hl0, hln⟩ := own_len i0
  rw [← hl0]
  show own_End p e below _ (s₁.setTop (mkF m 6 #[.val (.int i0), .val (.long q1), .second, .val (.int ln), .unset, .unset, .unset, .unset, .unset, .unset, .unset, .unset, .unset, .unset, .unset, .unset] []))
  have J360_3 : ∀ (st : Addr) (tt : Addr) (z : Int32) (bs : Nat → Int32) (cs : Nat → Int32) (N : Nat) (d1 : Int32) (d2 : Int32) (d3 : Int32) (d4 : Int32) (c0 : Int32) (c1 : Int32) (c2 : Int32) (c3 : Int32) (c4 : Int32) (c5 : Int32) (T : State) (locs : List Loc) (h : Heap) (vm0 : Vm) (k0 : Nat) (X : Stand p l e room_1 (s.setVm vm0) m #[(.int i0), (.long q1)] below meth c T locs 3 10) (eT : T.heap = h) (Nf : Fr n0 locs) (Zs : n0 ≤ h.size) (Kp : Keep h0 h []) (szr : h0.size ≤ h.size) (hS : s.Since vm0 k0) (hkW : k0 ≤ h.size) (hZ : Z.Warmed39 (s.setVm vm0).vm) (hown : (s.setVm vm0).vm.findClass "com/example/grant3/grant3/PermissionParsePinLaw" = some m.cls) (E_st : Exa Z h st "java/lang/String") (F_value_st : Fld Z h st "java/lang/String" "value" "[B" (.ref tt)) (F_coder_st : Fld Z h st "java/lang/String" "coder" "B" (.int (0 : Int32))) (V_tt : own_Ar Z h tt .byte z (fun j => .int (bs j))) (Ol : Old Z n0 h) (hz : z.toInt = N) (hcs : ∀ j, j < N → own_ch (bs j) = cs j) (hv : own_valid cs N), own_End p e below (P0 Z i0 q1 cz fm h0 n0 s) (T.setTop (mkF m 360 #[.val (.int i0), .val (.long q1), .second, .val (.int (3 : Int32)), .val (.int d1), .val (.int d2), .val (.int d3), .val (.int d4), .val (.int c0), .val (.int c1), .val (.int c2), .val (.int c3), .val (.int c4), .val (.int c5), .val (.ref st), .unset] [])) := by
    intro st tt z bs cs N d1 d2 d3 d4 c0 c1 c2 c3 c4 c5 T locs h vm0 k0 X eT Nf Zs Kp szr hS hkW hZ hown E_st F_value_st F_coder_st V_tt Ol hz hcs hv
    refine own_go (fun tQ kQ => XS.aload X.here hx rfl (hb hby at_360) rfl rfl kQ) ?_
    show own_End p e below _ (T.setTop (mkF m 362 #[.val (.int i0), .val (.long q1), .second, .val (.int (3 : Int32)), .val (.int d1), .val (.int d2), .val (.int d3), .val (.int d4), .val (.int c0), .val (.int c1), .val (.int c2), .val (.int c3), .val (.int c4), .val (.int c5), .val (.ref st), .unset] [(.ref st)]))
    obtain ⟨_, _, ⟨T1, L1, k1, n1⟩, -, X1, S1, G1, ⟨Lc1, hQ1, l1, y1, z1⟩, st1⟩ := Jvm.RoadKit.callSS X hx (y := (⟨"com/example/grant3/grant3/Permission", "parse", "(Ljava/lang/String;)Lcom/example/grant3/grant3/Permission;"⟩ : MethodName)) hown (mvT hZ (hw _ (List.mem_of_getElem? (i := 38) rfl))) (mvT hZ (hw _ (List.mem_of_getElem? (i := 39) rfl))) (mvT hZ (hw _ (List.mem_of_getElem? (i := 40) rfl))) (mvT hZ (hw _ (List.mem_of_getElem? (i := 41) rfl))) (by decide) (backOfS (W := 0) (rmpa l Z a0 hw [] st tt z bs cz fm cs N h n0 Zs E_st F_value_st F_coder_st V_tt Ol S_cs hcz S_fm rfm hz hcs hv) hZ (hw _ (List.mem_of_getElem? (i := 41) rfl)) (hw _ (List.mem_of_getElem? (i := 40) rfl)) (by decide) (by decide)) (g := (mkF m 362 #[.val (.int i0), .val (.long q1), .second, .val (.int (3 : Int32)), .val (.int d1), .val (.int d2), .val (.int d3), .val (.int d4), .val (.int c0), .val (.int c1), .val (.int c2), .val (.int c3), .val (.int c4), .val (.int c5), .val (.ref st), .unset] [(.ref st)])) rfl (by rw [hml]; rfl) (argsL := [(.ref st)]) (rest := []) (lenOf pd_16 rfl) rfl (by show 2 * 0 + _ ≤ _; exact Nat.le_of_eq rfl) (hb hby at_362) (fun _ _ => ⟨rfl, eT, (Nat.le_of_ble_eq_true rfl), (Nat.le_of_ble_eq_true rfl)⟩)
    dsimp only [Pt.U, Pt.locs, Pt.cells, Pt.slots] at X1 l1 y1 z1 st1 hQ1 S1 G1
    subst l1 y1 z1
    obtain ⟨X1, hS, hZ, hown⟩ := rebS hS (by rw [eT]; exact hkW) X1 S1 G1 hZ hown
    have hkW : T1.heap.size ≤ T1.heap.size := Nat.le_refl _
    obtain ⟨pp, rfl, N1q, K1, hb1, E_pp, F_code_pp⟩ := hQ1
    have Nf := Fr.app Nf N1q
    have ne_st_pp : st ≠ pp := Nat.ne_of_lt (Nat.lt_of_lt_of_le E_st.lt hb1)
    have ne_tt_pp : tt ≠ pp := Nat.ne_of_lt (Nat.lt_of_lt_of_le V_tt.lt hb1)
    have g_pp : n0 ≤ pp := Nat.le_trans Zs hb1
    have sz_pp : h0.size ≤ pp := Nat.le_trans szr hb1
    have E_st := E_st.keep K1
    have F_value_st := F_value_st.keep K1 nin0
    have F_coder_st := F_coder_st.keep K1 nin0
    have V_tt := V_tt.keep K1 nin0
    have Ol := Ol.keep K1 all0
    have Kp := Kp.trans K1 all0
    have Zs := Nat.le_trans Zs K1.1
    have szr := Nat.le_trans szr K1.1
    refine own_go (fun tQ kQ => st1.trans kQ) ?_
    show own_End p e below _ (T1.setTop (mkF m 365 #[.val (.int i0), .val (.long q1), .second, .val (.int (3 : Int32)), .val (.int d1), .val (.int d2), .val (.int d3), .val (.int d4), .val (.int c0), .val (.int c1), .val (.int c2), .val (.int c3), .val (.int c4), .val (.int c5), .val (.ref st), .unset] [(.ref pp)]))
    refine own_go (fun tQ kQ => XS.astore X1.here hx rfl (hb hby at_365) rfl rfl (l' := #[.val (.int i0), .val (.long q1), .second, .val (.int (3 : Int32)), .val (.int d1), .val (.int d2), .val (.int d3), .val (.int d4), .val (.int c0), .val (.int c1), .val (.int c2), .val (.int c3), .val (.int c4), .val (.int c5), .val (.ref st), .val (.ref pp)]) rfl kQ) ?_
    show own_End p e below _ (T1.setTop (mkF m 367 #[.val (.int i0), .val (.long q1), .second, .val (.int (3 : Int32)), .val (.int d1), .val (.int d2), .val (.int d3), .val (.int d4), .val (.int c0), .val (.int c1), .val (.int c2), .val (.int c3), .val (.int c4), .val (.int c5), .val (.ref st), .val (.ref pp)] []))
    refine own_go (fun tQ kQ => XS.aload X1.here hx rfl (hb hby at_367) rfl rfl kQ) ?_
    show own_End p e below _ (T1.setTop (mkF m 369 #[.val (.int i0), .val (.long q1), .second, .val (.int (3 : Int32)), .val (.int d1), .val (.int d2), .val (.int d3), .val (.int d4), .val (.int c0), .val (.int c1), .val (.int c2), .val (.int c3), .val (.int c4), .val (.int c5), .val (.ref st), .val (.ref pp)] [(.ref pp)]))
    refine own_go (fun tQ kQ => XS.ifnullNo X1.here hx rfl (hb hby at_369) rfl kQ) ?_
    show own_End p e below _ (T1.setTop (mkF m 372 #[.val (.int i0), .val (.long q1), .second, .val (.int (3 : Int32)), .val (.int d1), .val (.int d2), .val (.int d3), .val (.int d4), .val (.int c0), .val (.int c1), .val (.int c2), .val (.int c3), .val (.int c4), .val (.int c5), .val (.ref st), .val (.ref pp)] []))
    refine own_go (fun tQ kQ => XS.aload X1.here hx rfl (hb hby at_372) rfl rfl kQ) ?_
    show own_End p e below _ (T1.setTop (mkF m 374 #[.val (.int i0), .val (.long q1), .second, .val (.int (3 : Int32)), .val (.int d1), .val (.int d2), .val (.int d3), .val (.int d4), .val (.int c0), .val (.int c1), .val (.int c2), .val (.int c3), .val (.int c4), .val (.int c5), .val (.ref st), .val (.ref pp)] [(.ref st)]))
    refine own_go (fun tQ kQ => XS.aload X1.here hx rfl (hb hby at_374) rfl rfl kQ) ?_
    show own_End p e below _ (T1.setTop (mkF m 376 #[.val (.int i0), .val (.long q1), .second, .val (.int (3 : Int32)), .val (.int d1), .val (.int d2), .val (.int d3), .val (.int d4), .val (.int c0), .val (.int c1), .val (.int c2), .val (.int c3), .val (.int c4), .val (.int c5), .val (.ref st), .val (.ref pp)] [(.ref pp), (.ref st)]))
    obtain ⟨cq2, kq2, q2a, q2b, q2c⟩ := isOf hZ rfl E_pp
    obtain ⟨_, _, ⟨T2, L2, k2, n2⟩, -, X2, ⟨Lc2, hQ2, l2, y2, z2⟩, st2⟩ := X1.virtualBack hx (y := (⟨"com/example/grant3/grant3/Permission", "toString", "()Ljava/lang/String;"⟩ : MethodName)) (z := (⟨"com/example/grant3/grant3/Permission", "toString", "()Ljava/lang/String;"⟩ : MethodName)) hown (mvT hZ (hw _ (List.mem_of_getElem? (i := 92) rfl))) (mvT hZ (hw _ (List.mem_of_getElem? (i := 93) rfl))) (notFace_of_selects (args := #[]) (mvT hZ (hw _ (List.mem_of_getElem? (i := 95) rfl)))) (mvT hZ (hw _ (List.mem_of_getElem? (i := 95) rfl))) (mvT hZ (hw _ (List.mem_of_getElem? (i := 94) rfl))) (by decide) (backOf (W := 1) (rmts l Z a0 hw [] pp st T1.heap n0 Zs F_code_pp) hZ (hw _ (List.mem_of_getElem? (i := 96) rfl)) (hw _ (List.mem_of_getElem? (i := 40) rfl)) (by decide) (by decide)) q2a q2c (g := (mkF m 376 #[.val (.int i0), .val (.long q1), .second, .val (.int (3 : Int32)), .val (.int d1), .val (.int d2), .val (.int d3), .val (.int d4), .val (.int c0), .val (.int c1), .val (.int c2), .val (.int c3), .val (.int c4), .val (.int c5), .val (.ref st), .val (.ref pp)] [(.ref pp), (.ref st)])) rfl (by rw [hml]; rfl) (Steps.refl _) (argsL := []) (rest := [(.ref st)]) (lenOf pd_17 rfl) rfl (by show 2 * 0 + _ ≤ _; exact Nat.le_of_eq rfl) (hb hby at_376) (fun _ _ => ⟨rfl, rfl, (Nat.le_of_ble_eq_true rfl), (Nat.le_of_ble_eq_true rfl)⟩)
    dsimp only [Pt.U, Pt.locs, Pt.cells, Pt.slots] at X2 l2 y2 z2 st2 hQ2
    subst l2 y2 z2
    obtain ⟨rfl, N2q, e2⟩ := hQ2
    have Nf := Fr.app Nf N2q
    refine own_go (fun tQ kQ => st2.trans kQ) ?_
    show own_End p e below _ (T2.setTop (mkF m 379 #[.val (.int i0), .val (.long q1), .second, .val (.int (3 : Int32)), .val (.int d1), .val (.int d2), .val (.int d3), .val (.int d4), .val (.int c0), .val (.int c1), .val (.int c2), .val (.int c3), .val (.int c4), .val (.int c5), .val (.ref st), .val (.ref pp)] [(.ref st), (.ref st)]))
    obtain ⟨cq3, kq3, q3a, q3b, q3c⟩ := isOf hZ e2 E_st
    obtain ⟨_, _, ⟨T3, L3, k3, n3⟩, -, X3, ⟨Lc3, hQ3, l3, y3, z3⟩, st3⟩ := X2.virtualBack hx (y := (⟨"java/lang/String", "equals", "(Ljava/lang/Object;)Z"⟩ : MethodName)) (z := (⟨"java/lang/String", "equals", "(Ljava/lang/Object;)Z"⟩ : MethodName)) hown (mvT hZ (hw _ (List.mem_of_getElem? (i := 97) rfl))) (mvT hZ (hw _ (List.mem_of_getElem? (i := 98) rfl))) (notFace_of_selects (args := #[]) (mvT hZ (hw _ (List.mem_of_getElem? (i := 100) rfl)))) (mvT hZ (hw _ (List.mem_of_getElem? (i := 100) rfl))) (mvT hZ (hw _ (List.mem_of_getElem? (i := 99) rfl))) (by decide) (backOf (W := 0) (rmeq l Z a0 hw [] st T1.heap n0 Zs ) hZ (hw _ (List.mem_of_getElem? (i := 101) rfl)) (hw _ (List.mem_of_getElem? (i := 10) rfl)) (by decide) (by decide)) q3a q3c (g := (mkF m 379 #[.val (.int i0), .val (.long q1), .second, .val (.int (3 : Int32)), .val (.int d1), .val (.int d2), .val (.int d3), .val (.int d4), .val (.int c0), .val (.int c1), .val (.int c2), .val (.int c3), .val (.int c4), .val (.int c5), .val (.ref st), .val (.ref pp)] [(.ref st), (.ref st)])) rfl (by rw [hml]; rfl) (Steps.refl _) (argsL := [(.ref st)]) (rest := []) (lenOf pd_18 rfl) rfl (by show 2 * 0 + _ ≤ _; exact Nat.le_of_eq rfl) (hb hby at_379) (fun _ _ => ⟨rfl, e2, (Nat.le_of_ble_eq_true rfl), (Nat.le_of_ble_eq_true rfl)⟩)
    dsimp only [Pt.U, Pt.locs, Pt.cells, Pt.slots] at X3 l3 y3 z3 st3 hQ3
    subst l3 y3 z3
    obtain ⟨rfl, N3q, e3⟩ := hQ3
    have Nf := Fr.app Nf N3q
    refine own_go (fun tQ kQ => st3.trans kQ) ?_
    show own_End p e below _ (T3.setTop (mkF m 382 #[.val (.int i0), .val (.long q1), .second, .val (.int (3 : Int32)), .val (.int d1), .val (.int d2), .val (.int d3), .val (.int d4), .val (.int c0), .val (.int c1), .val (.int c2), .val (.int c3), .val (.int c4), .val (.int c5), .val (.ref st), .val (.ref pp)] [(.int (1 : Int32))]))
    refine own_go (fun tQ kQ => XS.ifNo X3.here hx rfl (hb hby at_382) rfl ((if0 _ _).trans (feq (by decide)).1) kQ) ?_
    show own_End p e below _ (T3.setTop (mkF m 385 #[.val (.int i0), .val (.long q1), .second, .val (.int (3 : Int32)), .val (.int d1), .val (.int d2), .val (.int d3), .val (.int d4), .val (.int c0), .val (.int c1), .val (.int c2), .val (.int c3), .val (.int c4), .val (.int c5), .val (.ref st), .val (.ref pp)] []))
    refine own_go (fun tQ kQ => XS.iconst X3.here hx rfl (hb hby at_385) kQ) ?_
    show own_End p e below _ (T3.setTop (mkF m 386 #[.val (.int i0), .val (.long q1), .second, .val (.int (3 : Int32)), .val (.int d1), .val (.int d2), .val (.int d3), .val (.int d4), .val (.int c0), .val (.int c1), .val (.int c2), .val (.int c3), .val (.int c4), .val (.int c5), .val (.ref st), .val (.ref pp)] [(.int (1 : Int32))]))
    refine own_go (fun tQ kQ => XS.goto X3.here hx rfl (pc0 := 386) (pc' := 390) rfl (hb hby at_386) (by decide) (by decide) kQ) ?_
    show own_End p e below _ (T3.setTop (mkF m 390 #[.val (.int i0), .val (.long q1), .second, .val (.int (3 : Int32)), .val (.int d1), .val (.int d2), .val (.int d3), .val (.int d4), .val (.int c0), .val (.int c1), .val (.int c2), .val (.int c3), .val (.int c4), .val (.int c5), .val (.ref st), .val (.ref pp)] [(.int (1 : Int32))]))
    obtain ⟨fs, hr, hrun, hended, hend⟩ := X3.leaveW hS (by rw [e3]; exact hkW) (v := some (.int (1 : Int32))) (fun h => by rw [Bd.returns] at h; cases h)
    refine ⟨_, _, (retN X3 hx (t := .boolean) Bd.returns (by simp) (hb hby at_390) hr), hrun, hended, _, _, rfl, ?_, ⟨hend.1, hend.2.1, hend.2.2.1, hend.2.2.2.mono (by decide) (by decide)⟩⟩
    show Q0 Z i0 q1 cz fm h0 n0 _ T3.heap _
    rw [e3]
    exact ⟨rfl, Nf⟩
  have J360_4 : ∀ (st : Addr) (tt : Addr) (z : Int32) (bs : Nat → Int32) (cs : Nat → Int32) (N : Nat) (d1 : Int32) (d2 : Int32) (d3 : Int32) (d4 : Int32) (c0 : Int32) (c1 : Int32) (c2 : Int32) (c3 : Int32) (c4 : Int32) (c5 : Int32) (T : State) (locs : List Loc) (h : Heap) (vm0 : Vm) (k0 : Nat) (X : Stand p l e room_1 (s.setVm vm0) m #[(.int i0), (.long q1)] below meth c T locs 3 12) (eT : T.heap = h) (Nf : Fr n0 locs) (Zs : n0 ≤ h.size) (Kp : Keep h0 h []) (szr : h0.size ≤ h.size) (hS : s.Since vm0 k0) (hkW : k0 ≤ h.size) (hZ : Z.Warmed39 (s.setVm vm0).vm) (hown : (s.setVm vm0).vm.findClass "com/example/grant3/grant3/PermissionParsePinLaw" = some m.cls) (E_st : Exa Z h st "java/lang/String") (F_value_st : Fld Z h st "java/lang/String" "value" "[B" (.ref tt)) (F_coder_st : Fld Z h st "java/lang/String" "coder" "B" (.int (0 : Int32))) (V_tt : own_Ar Z h tt .byte z (fun j => .int (bs j))) (Ol : Old Z n0 h) (hz : z.toInt = N) (hcs : ∀ j, j < N → own_ch (bs j) = cs j) (hv : own_valid cs N), own_End p e below (P0 Z i0 q1 cz fm h0 n0 s) (T.setTop (mkF m 360 #[.val (.int i0), .val (.long q1), .second, .val (.int (4 : Int32)), .val (.int d1), .val (.int d2), .val (.int d3), .val (.int d4), .val (.int c0), .val (.int c1), .val (.int c2), .val (.int c3), .val (.int c4), .val (.int c5), .val (.ref st), .unset] [])) := by
    intro st tt z bs cs N d1 d2 d3 d4 c0 c1 c2 c3 c4 c5 T locs h vm0 k0 X eT Nf Zs Kp szr hS hkW hZ hown E_st F_value_st F_coder_st V_tt Ol hz hcs hv
    refine own_go (fun tQ kQ => XS.aload X.here hx rfl (hb hby at_360) rfl rfl kQ) ?_
    show own_End p e below _ (T.setTop (mkF m 362 #[.val (.int i0), .val (.long q1), .second, .val (.int (4 : Int32)), .val (.int d1), .val (.int d2), .val (.int d3), .val (.int d4), .val (.int c0), .val (.int c1), .val (.int c2), .val (.int c3), .val (.int c4), .val (.int c5), .val (.ref st), .unset] [(.ref st)]))
    obtain ⟨_, _, ⟨T4, L4, k4, n4⟩, -, X4, S4, G4, ⟨Lc4, hQ4, l4, y4, z4⟩, st4⟩ := Jvm.RoadKit.callSS X hx (y := (⟨"com/example/grant3/grant3/Permission", "parse", "(Ljava/lang/String;)Lcom/example/grant3/grant3/Permission;"⟩ : MethodName)) hown (mvT hZ (hw _ (List.mem_of_getElem? (i := 38) rfl))) (mvT hZ (hw _ (List.mem_of_getElem? (i := 39) rfl))) (mvT hZ (hw _ (List.mem_of_getElem? (i := 40) rfl))) (mvT hZ (hw _ (List.mem_of_getElem? (i := 41) rfl))) (by decide) (backOfS (W := 0) (rmpa l Z a0 hw [] st tt z bs cz fm cs N h n0 Zs E_st F_value_st F_coder_st V_tt Ol S_cs hcz S_fm rfm hz hcs hv) hZ (hw _ (List.mem_of_getElem? (i := 41) rfl)) (hw _ (List.mem_of_getElem? (i := 40) rfl)) (by decide) (by decide)) (g := (mkF m 362 #[.val (.int i0), .val (.long q1), .second, .val (.int (4 : Int32)), .val (.int d1), .val (.int d2), .val (.int d3), .val (.int d4), .val (.int c0), .val (.int c1), .val (.int c2), .val (.int c3), .val (.int c4), .val (.int c5), .val (.ref st), .unset] [(.ref st)])) rfl (by rw [hml]; rfl) (argsL := [(.ref st)]) (rest := []) (lenOf pd_16 rfl) rfl (by show 2 * 0 + _ ≤ _; exact Nat.le_of_eq rfl) (hb hby at_362) (fun _ _ => ⟨rfl, eT, (Nat.le_of_ble_eq_true rfl), (Nat.le_of_ble_eq_true rfl)⟩)
    dsimp only [Pt.U, Pt.locs, Pt.cells, Pt.slots] at X4 l4 y4 z4 st4 hQ4 S4 G4
    subst l4 y4 z4
    obtain ⟨X4, hS, hZ, hown⟩ := rebS hS (by rw [eT]; exact hkW) X4 S4 G4 hZ hown
    have hkW : T4.heap.size ≤ T4.heap.size := Nat.le_refl _
    obtain ⟨pp, rfl, N4q, K4, hb4, E_pp, F_code_pp⟩ := hQ4
    have Nf := Fr.app Nf N4q
    have ne_st_pp : st ≠ pp := Nat.ne_of_lt (Nat.lt_of_lt_of_le E_st.lt hb4)
    have ne_tt_pp : tt ≠ pp := Nat.ne_of_lt (Nat.lt_of_lt_of_le V_tt.lt hb4)
    have g_pp : n0 ≤ pp := Nat.le_trans Zs hb4
    have sz_pp : h0.size ≤ pp := Nat.le_trans szr hb4
    have E_st := E_st.keep K4
    have F_value_st := F_value_st.keep K4 nin0
    have F_coder_st := F_coder_st.keep K4 nin0
    have V_tt := V_tt.keep K4 nin0
    have Ol := Ol.keep K4 all0
    have Kp := Kp.trans K4 all0
    have Zs := Nat.le_trans Zs K4.1
    have szr := Nat.le_trans szr K4.1
    refine own_go (fun tQ kQ => st4.trans kQ) ?_
    show own_End p e below _ (T4.setTop (mkF m 365 #[.val (.int i0), .val (.long q1), .second, .val (.int (4 : Int32)), .val (.int d1), .val (.int d2), .val (.int d3), .val (.int d4), .val (.int c0), .val (.int c1), .val (.int c2), .val (.int c3), .val (.int c4), .val (.int c5), .val (.ref st), .unset] [(.ref pp)]))
    refine own_go (fun tQ kQ => XS.astore X4.here hx rfl (hb hby at_365) rfl rfl (l' := #[.val (.int i0), .val (.long q1), .second, .val (.int (4 : Int32)), .val (.int d1), .val (.int d2), .val (.int d3), .val (.int d4), .val (.int c0), .val (.int c1), .val (.int c2), .val (.int c3), .val (.int c4), .val (.int c5), .val (.ref st), .val (.ref pp)]) rfl kQ) ?_
    show own_End p e below _ (T4.setTop (mkF m 367 #[.val (.int i0), .val (.long q1), .second, .val (.int (4 : Int32)), .val (.int d1), .val (.int d2), .val (.int d3), .val (.int d4), .val (.int c0), .val (.int c1), .val (.int c2), .val (.int c3), .val (.int c4), .val (.int c5), .val (.ref st), .val (.ref pp)] []))
    refine own_go (fun tQ kQ => XS.aload X4.here hx rfl (hb hby at_367) rfl rfl kQ) ?_
    show own_End p e below _ (T4.setTop (mkF m 369 #[.val (.int i0), .val (.long q1), .second, .val (.int (4 : Int32)), .val (.int d1), .val (.int d2), .val (.int d3), .val (.int d4), .val (.int c0), .val (.int c1), .val (.int c2), .val (.int c3), .val (.int c4), .val (.int c5), .val (.ref st), .val (.ref pp)] [(.ref pp)]))
    refine own_go (fun tQ kQ => XS.ifnullNo X4.here hx rfl (hb hby at_369) rfl kQ) ?_
    show own_End p e below _ (T4.setTop (mkF m 372 #[.val (.int i0), .val (.long q1), .second, .val (.int (4 : Int32)), .val (.int d1), .val (.int d2), .val (.int d3), .val (.int d4), .val (.int c0), .val (.int c1), .val (.int c2), .val (.int c3), .val (.int c4), .val (.int c5), .val (.ref st), .val (.ref pp)] []))
    refine own_go (fun tQ kQ => XS.aload X4.here hx rfl (hb hby at_372) rfl rfl kQ) ?_
    show own_End p e below _ (T4.setTop (mkF m 374 #[.val (.int i0), .val (.long q1), .second, .val (.int (4 : Int32)), .val (.int d1), .val (.int d2), .val (.int d3), .val (.int d4), .val (.int c0), .val (.int c1), .val (.int c2), .val (.int c3), .val (.int c4), .val (.int c5), .val (.ref st), .val (.ref pp)] [(.ref st)]))
    refine own_go (fun tQ kQ => XS.aload X4.here hx rfl (hb hby at_374) rfl rfl kQ) ?_
    show own_End p e below _ (T4.setTop (mkF m 376 #[.val (.int i0), .val (.long q1), .second, .val (.int (4 : Int32)), .val (.int d1), .val (.int d2), .val (.int d3), .val (.int d4), .val (.int c0), .val (.int c1), .val (.int c2), .val (.int c3), .val (.int c4), .val (.int c5), .val (.ref st), .val (.ref pp)] [(.ref pp), (.ref st)]))
    obtain ⟨cq5, kq5, q5a, q5b, q5c⟩ := isOf hZ rfl E_pp
    obtain ⟨_, _, ⟨T5, L5, k5, n5⟩, -, X5, ⟨Lc5, hQ5, l5, y5, z5⟩, st5⟩ := X4.virtualBack hx (y := (⟨"com/example/grant3/grant3/Permission", "toString", "()Ljava/lang/String;"⟩ : MethodName)) (z := (⟨"com/example/grant3/grant3/Permission", "toString", "()Ljava/lang/String;"⟩ : MethodName)) hown (mvT hZ (hw _ (List.mem_of_getElem? (i := 92) rfl))) (mvT hZ (hw _ (List.mem_of_getElem? (i := 93) rfl))) (notFace_of_selects (args := #[]) (mvT hZ (hw _ (List.mem_of_getElem? (i := 95) rfl)))) (mvT hZ (hw _ (List.mem_of_getElem? (i := 95) rfl))) (mvT hZ (hw _ (List.mem_of_getElem? (i := 94) rfl))) (by decide) (backOf (W := 1) (rmts l Z a0 hw [] pp st T4.heap n0 Zs F_code_pp) hZ (hw _ (List.mem_of_getElem? (i := 96) rfl)) (hw _ (List.mem_of_getElem? (i := 40) rfl)) (by decide) (by decide)) q5a q5c (g := (mkF m 376 #[.val (.int i0), .val (.long q1), .second, .val (.int (4 : Int32)), .val (.int d1), .val (.int d2), .val (.int d3), .val (.int d4), .val (.int c0), .val (.int c1), .val (.int c2), .val (.int c3), .val (.int c4), .val (.int c5), .val (.ref st), .val (.ref pp)] [(.ref pp), (.ref st)])) rfl (by rw [hml]; rfl) (Steps.refl _) (argsL := []) (rest := [(.ref st)]) (lenOf pd_17 rfl) rfl (by show 2 * 0 + _ ≤ _; exact Nat.le_of_eq rfl) (hb hby at_376) (fun _ _ => ⟨rfl, rfl, (Nat.le_of_ble_eq_true rfl), (Nat.le_of_ble_eq_true rfl)⟩)
    dsimp only [Pt.U, Pt.locs, Pt.cells, Pt.slots] at X5 l5 y5 z5 st5 hQ5
    subst l5 y5 z5
    obtain ⟨rfl, N5q, e5⟩ := hQ5
    have Nf := Fr.app Nf N5q
    refine own_go (fun tQ kQ => st5.trans kQ) ?_
    show own_End p e below _ (T5.setTop (mkF m 379 #[.val (.int i0), .val (.long q1), .second, .val (.int (4 : Int32)), .val (.int d1), .val (.int d2), .val (.int d3), .val (.int d4), .val (.int c0), .val (.int c1), .val (.int c2), .val (.int c3), .val (.int c4), .val (.int c5), .val (.ref st), .val (.ref pp)] [(.ref st), (.ref st)]))
    obtain ⟨cq6, kq6, q6a, q6b, q6c⟩ := isOf hZ e5 E_st
    obtain ⟨_, _, ⟨T6, L6, k6, n6⟩, -, X6, ⟨Lc6, hQ6, l6, y6, z6⟩, st6⟩ := X5.virtualBack hx (y := (⟨"java/lang/String", "equals", "(Ljava/lang/Object;)Z"⟩ : MethodName)) (z := (⟨"java/lang/String", "equals", "(Ljava/lang/Object;)Z"⟩ : MethodName)) hown (mvT hZ (hw _ (List.mem_of_getElem? (i := 97) rfl))) (mvT hZ (hw _ (List.mem_of_getElem? (i := 98) rfl))) (notFace_of_selects (args := #[]) (mvT hZ (hw _ (List.mem_of_getElem? (i := 100) rfl)))) (mvT hZ (hw _ (List.mem_of_getElem? (i := 100) rfl))) (mvT hZ (hw _ (List.mem_of_getElem? (i := 99) rfl))) (by decide) (backOf (W := 0) (rmeq l Z a0 hw [] st T4.heap n0 Zs ) hZ (hw _ (List.mem_of_getElem? (i := 101) rfl)) (hw _ (List.mem_of_getElem? (i := 10) rfl)) (by decide) (by decide)) q6a q6c (g := (mkF m 379 #[.val (.int i0), .val (.long q1), .second, .val (.int (4 : Int32)), .val (.int d1), .val (.int d2), .val (.int d3), .val (.int d4), .val (.int c0), .val (.int c1), .val (.int c2), .val (.int c3), .val (.int c4), .val (.int c5), .val (.ref st), .val (.ref pp)] [(.ref st), (.ref st)])) rfl (by rw [hml]; rfl) (Steps.refl _) (argsL := [(.ref st)]) (rest := []) (lenOf pd_18 rfl) rfl (by show 2 * 0 + _ ≤ _; exact Nat.le_of_eq rfl) (hb hby at_379) (fun _ _ => ⟨rfl, e5, (Nat.le_of_ble_eq_true rfl), (Nat.le_of_ble_eq_true rfl)⟩)
    dsimp only [Pt.U, Pt.locs, Pt.cells, Pt.slots] at X6 l6 y6 z6 st6 hQ6
    subst l6 y6 z6
    obtain ⟨rfl, N6q, e6⟩ := hQ6
    have Nf := Fr.app Nf N6q
    refine own_go (fun tQ kQ => st6.trans kQ) ?_
    show own_End p e below _ (T6.setTop (mkF m 382 #[.val (.int i0), .val (.long q1), .second, .val (.int (4 : Int32)), .val (.int d1), .val (.int d2), .val (.int d3), .val (.int d4), .val (.int c0), .val (.int c1), .val (.int c2), .val (.int c3), .val (.int c4), .val (.int c5), .val (.ref st), .val (.ref pp)] [(.int (1 : Int32))]))
    refine own_go (fun tQ kQ => XS.ifNo X6.here hx rfl (hb hby at_382) rfl ((if0 _ _).trans (feq (by decide)).1) kQ) ?_
    show own_End p e below _ (T6.setTop (mkF m 385 #[.val (.int i0), .val (.long q1), .second, .val (.int (4 : Int32)), .val (.int d1), .val (.int d2), .val (.int d3), .val (.int d4), .val (.int c0), .val (.int c1), .val (.int c2), .val (.int c3), .val (.int c4), .val (.int c5), .val (.ref st), .val (.ref pp)] []))
    refine own_go (fun tQ kQ => XS.iconst X6.here hx rfl (hb hby at_385) kQ) ?_
    show own_End p e below _ (T6.setTop (mkF m 386 #[.val (.int i0), .val (.long q1), .second, .val (.int (4 : Int32)), .val (.int d1), .val (.int d2), .val (.int d3), .val (.int d4), .val (.int c0), .val (.int c1), .val (.int c2), .val (.int c3), .val (.int c4), .val (.int c5), .val (.ref st), .val (.ref pp)] [(.int (1 : Int32))]))
    refine own_go (fun tQ kQ => XS.goto X6.here hx rfl (pc0 := 386) (pc' := 390) rfl (hb hby at_386) (by decide) (by decide) kQ) ?_
    show own_End p e below _ (T6.setTop (mkF m 390 #[.val (.int i0), .val (.long q1), .second, .val (.int (4 : Int32)), .val (.int d1), .val (.int d2), .val (.int d3), .val (.int d4), .val (.int c0), .val (.int c1), .val (.int c2), .val (.int c3), .val (.int c4), .val (.int c5), .val (.ref st), .val (.ref pp)] [(.int (1 : Int32))]))
    obtain ⟨fs, hr, hrun, hended, hend⟩ := X6.leaveW hS (by rw [e6]; exact hkW) (v := some (.int (1 : Int32))) (fun h => by rw [Bd.returns] at h; cases h)
    refine ⟨_, _, (retN X6 hx (t := .boolean) Bd.returns (by simp) (hb hby at_390) hr), hrun, hended, _, _, rfl, ?_, ⟨hend.1, hend.2.1, hend.2.2.1, hend.2.2.2.mono (by decide) (by decide)⟩⟩
    show Q0 Z i0 q1 cz fm h0 n0 _ T6.heap _
    rw [e6]
    exact ⟨rfl, Nf⟩
  have J360_5 : ∀ (st : Addr) (tt : Addr) (z : Int32) (bs : Nat → Int32) (cs : Nat → Int32) (N : Nat) (d1 : Int32) (d2 : Int32) (d3 : Int32) (d4 : Int32) (c0 : Int32) (c1 : Int32) (c2 : Int32) (c3 : Int32) (c4 : Int32) (c5 : Int32) (T : State) (locs : List Loc) (h : Heap) (vm0 : Vm) (k0 : Nat) (X : Stand p l e room_1 (s.setVm vm0) m #[(.int i0), (.long q1)] below meth c T locs 3 14) (eT : T.heap = h) (Nf : Fr n0 locs) (Zs : n0 ≤ h.size) (Kp : Keep h0 h []) (szr : h0.size ≤ h.size) (hS : s.Since vm0 k0) (hkW : k0 ≤ h.size) (hZ : Z.Warmed39 (s.setVm vm0).vm) (hown : (s.setVm vm0).vm.findClass "com/example/grant3/grant3/PermissionParsePinLaw" = some m.cls) (E_st : Exa Z h st "java/lang/String") (F_value_st : Fld Z h st "java/lang/String" "value" "[B" (.ref tt)) (F_coder_st : Fld Z h st "java/lang/String" "coder" "B" (.int (0 : Int32))) (V_tt : own_Ar Z h tt .byte z (fun j => .int (bs j))) (Ol : Old Z n0 h) (hz : z.toInt = N) (hcs : ∀ j, j < N → own_ch (bs j) = cs j) (hv : own_valid cs N), own_End p e below (P0 Z i0 q1 cz fm h0 n0 s) (T.setTop (mkF m 360 #[.val (.int i0), .val (.long q1), .second, .val (.int (5 : Int32)), .val (.int d1), .val (.int d2), .val (.int d3), .val (.int d4), .val (.int c0), .val (.int c1), .val (.int c2), .val (.int c3), .val (.int c4), .val (.int c5), .val (.ref st), .unset] [])) := by
    intro st tt z bs cs N d1 d2 d3 d4 c0 c1 c2 c3 c4 c5 T locs h vm0 k0 X eT Nf Zs Kp szr hS hkW hZ hown E_st F_value_st F_coder_st V_tt Ol hz hcs hv
    refine own_go (fun tQ kQ => XS.aload X.here hx rfl (hb hby at_360) rfl rfl kQ) ?_
    show own_End p e below _ (T.setTop (mkF m 362 #[.val (.int i0), .val (.long q1), .second, .val (.int (5 : Int32)), .val (.int d1), .val (.int d2), .val (.int d3), .val (.int d4), .val (.int c0), .val (.int c1), .val (.int c2), .val (.int c3), .val (.int c4), .val (.int c5), .val (.ref st), .unset] [(.ref st)]))
    obtain ⟨_, _, ⟨T7, L7, k7, n7⟩, -, X7, S7, G7, ⟨Lc7, hQ7, l7, y7, z7⟩, st7⟩ := Jvm.RoadKit.callSS X hx (y := (⟨"com/example/grant3/grant3/Permission", "parse", "(Ljava/lang/String;)Lcom/example/grant3/grant3/Permission;"⟩ : MethodName)) hown (mvT hZ (hw _ (List.mem_of_getElem? (i := 38) rfl))) (mvT hZ (hw _ (List.mem_of_getElem? (i := 39) rfl))) (mvT hZ (hw _ (List.mem_of_getElem? (i := 40) rfl))) (mvT hZ (hw _ (List.mem_of_getElem? (i := 41) rfl))) (by decide) (backOfS (W := 0) (rmpa l Z a0 hw [] st tt z bs cz fm cs N h n0 Zs E_st F_value_st F_coder_st V_tt Ol S_cs hcz S_fm rfm hz hcs hv) hZ (hw _ (List.mem_of_getElem? (i := 41) rfl)) (hw _ (List.mem_of_getElem? (i := 40) rfl)) (by decide) (by decide)) (g := (mkF m 362 #[.val (.int i0), .val (.long q1), .second, .val (.int (5 : Int32)), .val (.int d1), .val (.int d2), .val (.int d3), .val (.int d4), .val (.int c0), .val (.int c1), .val (.int c2), .val (.int c3), .val (.int c4), .val (.int c5), .val (.ref st), .unset] [(.ref st)])) rfl (by rw [hml]; rfl) (argsL := [(.ref st)]) (rest := []) (lenOf pd_16 rfl) rfl (by show 2 * 0 + _ ≤ _; exact Nat.le_of_eq rfl) (hb hby at_362) (fun _ _ => ⟨rfl, eT, (Nat.le_of_ble_eq_true rfl), (Nat.le_of_ble_eq_true rfl)⟩)
    dsimp only [Pt.U, Pt.locs, Pt.cells, Pt.slots] at X7 l7 y7 z7 st7 hQ7 S7 G7
    subst l7 y7 z7
    obtain ⟨X7, hS, hZ, hown⟩ := rebS hS (by rw [eT]; exact hkW) X7 S7 G7 hZ hown
    have hkW : T7.heap.size ≤ T7.heap.size := Nat.le_refl _
    obtain ⟨pp, rfl, N7q, K7, hb7, E_pp, F_code_pp⟩ := hQ7
    have Nf := Fr.app Nf N7q
    have ne_st_pp : st ≠ pp := Nat.ne_of_lt (Nat.lt_of_lt_of_le E_st.lt hb7)
    have ne_tt_pp : tt ≠ pp := Nat.ne_of_lt (Nat.lt_of_lt_of_le V_tt.lt hb7)
    have g_pp : n0 ≤ pp := Nat.le_trans Zs hb7
    have sz_pp : h0.size ≤ pp := Nat.le_trans szr hb7
    have E_st := E_st.keep K7
    have F_value_st := F_value_st.keep K7 nin0
    have F_coder_st := F_coder_st.keep K7 nin0
    have V_tt := V_tt.keep K7 nin0
    have Ol := Ol.keep K7 all0
    have Kp := Kp.trans K7 all0
    have Zs := Nat.le_trans Zs K7.1
    have szr := Nat.le_trans szr K7.1
    refine own_go (fun tQ kQ => st7.trans kQ) ?_
    show own_End p e below _ (T7.setTop (mkF m 365 #[.val (.int i0), .val (.long q1), .second, .val (.int (5 : Int32)), .val (.int d1), .val (.int d2), .val (.int d3), .val (.int d4), .val (.int c0), .val (.int c1), .val (.int c2), .val (.int c3), .val (.int c4), .val (.int c5), .val (.ref st), .unset] [(.ref pp)]))
    refine own_go (fun tQ kQ => XS.astore X7.here hx rfl (hb hby at_365) rfl rfl (l' := #[.val (.int i0), .val (.long q1), .second, .val (.int (5 : Int32)), .val (.int d1), .val (.int d2), .val (.int d3), .val (.int d4), .val (.int c0), .val (.int c1), .val (.int c2), .val (.int c3), .val (.int c4), .val (.int c5), .val (.ref st), .val (.ref pp)]) rfl kQ) ?_
    show own_End p e below _ (T7.setTop (mkF m 367 #[.val (.int i0), .val (.long q1), .second, .val (.int (5 : Int32)), .val (.int d1), .val (.int d2), .val (.int d3), .val (.int d4), .val (.int c0), .val (.int c1), .val (.int c2), .val (.int c3), .val (.int c4), .val (.int c5), .val (.ref st), .val (.ref pp)] []))
    refine own_go (fun tQ kQ => XS.aload X7.here hx rfl (hb hby at_367) rfl rfl kQ) ?_
    show own_End p e below _ (T7.setTop (mkF m 369 #[.val (.int i0), .val (.long q1), .second, .val (.int (5 : Int32)), .val (.int d1), .val (.int d2), .val (.int d3), .val (.int d4), .val (.int c0), .val (.int c1), .val (.int c2), .val (.int c3), .val (.int c4), .val (.int c5), .val (.ref st), .val (.ref pp)] [(.ref pp)]))
    refine own_go (fun tQ kQ => XS.ifnullNo X7.here hx rfl (hb hby at_369) rfl kQ) ?_
    show own_End p e below _ (T7.setTop (mkF m 372 #[.val (.int i0), .val (.long q1), .second, .val (.int (5 : Int32)), .val (.int d1), .val (.int d2), .val (.int d3), .val (.int d4), .val (.int c0), .val (.int c1), .val (.int c2), .val (.int c3), .val (.int c4), .val (.int c5), .val (.ref st), .val (.ref pp)] []))
    refine own_go (fun tQ kQ => XS.aload X7.here hx rfl (hb hby at_372) rfl rfl kQ) ?_
    show own_End p e below _ (T7.setTop (mkF m 374 #[.val (.int i0), .val (.long q1), .second, .val (.int (5 : Int32)), .val (.int d1), .val (.int d2), .val (.int d3), .val (.int d4), .val (.int c0), .val (.int c1), .val (.int c2), .val (.int c3), .val (.int c4), .val (.int c5), .val (.ref st), .val (.ref pp)] [(.ref st)]))
    refine own_go (fun tQ kQ => XS.aload X7.here hx rfl (hb hby at_374) rfl rfl kQ) ?_
    show own_End p e below _ (T7.setTop (mkF m 376 #[.val (.int i0), .val (.long q1), .second, .val (.int (5 : Int32)), .val (.int d1), .val (.int d2), .val (.int d3), .val (.int d4), .val (.int c0), .val (.int c1), .val (.int c2), .val (.int c3), .val (.int c4), .val (.int c5), .val (.ref st), .val (.ref pp)] [(.ref pp), (.ref st)]))
    obtain ⟨cq8, kq8, q8a, q8b, q8c⟩ := isOf hZ rfl E_pp
    obtain ⟨_, _, ⟨T8, L8, k8, n8⟩, -, X8, ⟨Lc8, hQ8, l8, y8, z8⟩, st8⟩ := X7.virtualBack hx (y := (⟨"com/example/grant3/grant3/Permission", "toString", "()Ljava/lang/String;"⟩ : MethodName)) (z := (⟨"com/example/grant3/grant3/Permission", "toString", "()Ljava/lang/String;"⟩ : MethodName)) hown (mvT hZ (hw _ (List.mem_of_getElem? (i := 92) rfl))) (mvT hZ (hw _ (List.mem_of_getElem? (i := 93) rfl))) (notFace_of_selects (args := #[]) (mvT hZ (hw _ (List.mem_of_getElem? (i := 95) rfl)))) (mvT hZ (hw _ (List.mem_of_getElem? (i := 95) rfl))) (mvT hZ (hw _ (List.mem_of_getElem? (i := 94) rfl))) (by decide) (backOf (W := 1) (rmts l Z a0 hw [] pp st T7.heap n0 Zs F_code_pp) hZ (hw _ (List.mem_of_getElem? (i := 96) rfl)) (hw _ (List.mem_of_getElem? (i := 40) rfl)) (by decide) (by decide)) q8a q8c (g := (mkF m 376 #[.val (.int i0), .val (.long q1), .second, .val (.int (5 : Int32)), .val (.int d1), .val (.int d2), .val (.int d3), .val (.int d4), .val (.int c0), .val (.int c1), .val (.int c2), .val (.int c3), .val (.int c4), .val (.int c5), .val (.ref st), .val (.ref pp)] [(.ref pp), (.ref st)])) rfl (by rw [hml]; rfl) (Steps.refl _) (argsL := []) (rest := [(.ref st)]) (lenOf pd_17 rfl) rfl (by show 2 * 0 + _ ≤ _; exact Nat.le_of_eq rfl) (hb hby at_376) (fun _ _ => ⟨rfl, rfl, (Nat.le_of_ble_eq_true rfl), (Nat.le_of_ble_eq_true rfl)⟩)
    dsimp only [Pt.U, Pt.locs, Pt.cells, Pt.slots] at X8 l8 y8 z8 st8 hQ8
    subst l8 y8 z8
    obtain ⟨rfl, N8q, e8⟩ := hQ8
    have Nf := Fr.app Nf N8q
    refine own_go (fun tQ kQ => st8.trans kQ) ?_
    show own_End p e below _ (T8.setTop (mkF m 379 #[.val (.int i0), .val (.long q1), .second, .val (.int (5 : Int32)), .val (.int d1), .val (.int d2), .val (.int d3), .val (.int d4), .val (.int c0), .val (.int c1), .val (.int c2), .val (.int c3), .val (.int c4), .val (.int c5), .val (.ref st), .val (.ref pp)] [(.ref st), (.ref st)]))
    obtain ⟨cq9, kq9, q9a, q9b, q9c⟩ := isOf hZ e8 E_st
    obtain ⟨_, _, ⟨T9, L9, k9, n9⟩, -, X9, ⟨Lc9, hQ9, l9, y9, z9⟩, st9⟩ := X8.virtualBack hx (y := (⟨"java/lang/String", "equals", "(Ljava/lang/Object;)Z"⟩ : MethodName)) (z := (⟨"java/lang/String", "equals", "(Ljava/lang/Object;)Z"⟩ : MethodName)) hown (mvT hZ (hw _ (List.mem_of_getElem? (i := 97) rfl))) (mvT hZ (hw _ (List.mem_of_getElem? (i := 98) rfl))) (notFace_of_selects (args := #[]) (mvT hZ (hw _ (List.mem_of_getElem? (i := 100) rfl)))) (mvT hZ (hw _ (List.mem_of_getElem? (i := 100) rfl))) (mvT hZ (hw _ (List.mem_of_getElem? (i := 99) rfl))) (by decide) (backOf (W := 0) (rmeq l Z a0 hw [] st T7.heap n0 Zs ) hZ (hw _ (List.mem_of_getElem? (i := 101) rfl)) (hw _ (List.mem_of_getElem? (i := 10) rfl)) (by decide) (by decide)) q9a q9c (g := (mkF m 379 #[.val (.int i0), .val (.long q1), .second, .val (.int (5 : Int32)), .val (.int d1), .val (.int d2), .val (.int d3), .val (.int d4), .val (.int c0), .val (.int c1), .val (.int c2), .val (.int c3), .val (.int c4), .val (.int c5), .val (.ref st), .val (.ref pp)] [(.ref st), (.ref st)])) rfl (by rw [hml]; rfl) (Steps.refl _) (argsL := [(.ref st)]) (rest := []) (lenOf pd_18 rfl) rfl (by show 2 * 0 + _ ≤ _; exact Nat.le_of_eq rfl) (hb hby at_379) (fun _ _ => ⟨rfl, e8, (Nat.le_of_ble_eq_true rfl), (Nat.le_of_ble_eq_true rfl)⟩)
    dsimp only [Pt.U, Pt.locs, Pt.cells, Pt.slots] at X9 l9 y9 z9 st9 hQ9
    subst l9 y9 z9
    obtain ⟨rfl, N9q, e9⟩ := hQ9
    have Nf := Fr.app Nf N9q
    refine own_go (fun tQ kQ => st9.trans kQ) ?_
    show own_End p e below _ (T9.setTop (mkF m 382 #[.val (.int i0), .val (.long q1), .second, .val (.int (5 : Int32)), .val (.int d1), .val (.int d2), .val (.int d3), .val (.int d4), .val (.int c0), .val (.int c1), .val (.int c2), .val (.int c3), .val (.int c4), .val (.int c5), .val (.ref st), .val (.ref pp)] [(.int (1 : Int32))]))
    refine own_go (fun tQ kQ => XS.ifNo X9.here hx rfl (hb hby at_382) rfl ((if0 _ _).trans (feq (by decide)).1) kQ) ?_
    show own_End p e below _ (T9.setTop (mkF m 385 #[.val (.int i0), .val (.long q1), .second, .val (.int (5 : Int32)), .val (.int d1), .val (.int d2), .val (.int d3), .val (.int d4), .val (.int c0), .val (.int c1), .val (.int c2), .val (.int c3), .val (.int c4), .val (.int c5), .val (.ref st), .val (.ref pp)] []))
    refine own_go (fun tQ kQ => XS.iconst X9.here hx rfl (hb hby at_385) kQ) ?_
    show own_End p e below _ (T9.setTop (mkF m 386 #[.val (.int i0), .val (.long q1), .second, .val (.int (5 : Int32)), .val (.int d1), .val (.int d2), .val (.int d3), .val (.int d4), .val (.int c0), .val (.int c1), .val (.int c2), .val (.int c3), .val (.int c4), .val (.int c5), .val (.ref st), .val (.ref pp)] [(.int (1 : Int32))]))
    refine own_go (fun tQ kQ => XS.goto X9.here hx rfl (pc0 := 386) (pc' := 390) rfl (hb hby at_386) (by decide) (by decide) kQ) ?_
    show own_End p e below _ (T9.setTop (mkF m 390 #[.val (.int i0), .val (.long q1), .second, .val (.int (5 : Int32)), .val (.int d1), .val (.int d2), .val (.int d3), .val (.int d4), .val (.int c0), .val (.int c1), .val (.int c2), .val (.int c3), .val (.int c4), .val (.int c5), .val (.ref st), .val (.ref pp)] [(.int (1 : Int32))]))
    obtain ⟨fs, hr, hrun, hended, hend⟩ := X9.leaveW hS (by rw [e9]; exact hkW) (v := some (.int (1 : Int32))) (fun h => by rw [Bd.returns] at h; cases h)
    refine ⟨_, _, (retN X9 hx (t := .boolean) Bd.returns (by simp) (hb hby at_390) hr), hrun, hended, _, _, rfl, ?_, ⟨hend.1, hend.2.1, hend.2.2.1, hend.2.2.2.mono (by decide) (by decide)⟩⟩
    show Q0 Z i0 q1 cz fm h0 n0 _ T9.heap _
    rw [e9]
    exact ⟨rfl, Nf⟩
  have J360_6 : ∀ (st : Addr) (tt : Addr) (z : Int32) (bs : Nat → Int32) (cs : Nat → Int32) (N : Nat) (d1 : Int32) (d2 : Int32) (d3 : Int32) (d4 : Int32) (c0 : Int32) (c1 : Int32) (c2 : Int32) (c3 : Int32) (c4 : Int32) (c5 : Int32) (T : State) (locs : List Loc) (h : Heap) (vm0 : Vm) (k0 : Nat) (X : Stand p l e room_1 (s.setVm vm0) m #[(.int i0), (.long q1)] below meth c T locs 3 16) (eT : T.heap = h) (Nf : Fr n0 locs) (Zs : n0 ≤ h.size) (Kp : Keep h0 h []) (szr : h0.size ≤ h.size) (hS : s.Since vm0 k0) (hkW : k0 ≤ h.size) (hZ : Z.Warmed39 (s.setVm vm0).vm) (hown : (s.setVm vm0).vm.findClass "com/example/grant3/grant3/PermissionParsePinLaw" = some m.cls) (E_st : Exa Z h st "java/lang/String") (F_value_st : Fld Z h st "java/lang/String" "value" "[B" (.ref tt)) (F_coder_st : Fld Z h st "java/lang/String" "coder" "B" (.int (0 : Int32))) (V_tt : own_Ar Z h tt .byte z (fun j => .int (bs j))) (Ol : Old Z n0 h) (hz : z.toInt = N) (hcs : ∀ j, j < N → own_ch (bs j) = cs j) (hv : own_valid cs N), own_End p e below (P0 Z i0 q1 cz fm h0 n0 s) (T.setTop (mkF m 360 #[.val (.int i0), .val (.long q1), .second, .val (.int (6 : Int32)), .val (.int d1), .val (.int d2), .val (.int d3), .val (.int d4), .val (.int c0), .val (.int c1), .val (.int c2), .val (.int c3), .val (.int c4), .val (.int c5), .val (.ref st), .unset] [])) := by
    intro st tt z bs cs N d1 d2 d3 d4 c0 c1 c2 c3 c4 c5 T locs h vm0 k0 X eT Nf Zs Kp szr hS hkW hZ hown E_st F_value_st F_coder_st V_tt Ol hz hcs hv
    refine own_go (fun tQ kQ => XS.aload X.here hx rfl (hb hby at_360) rfl rfl kQ) ?_
    show own_End p e below _ (T.setTop (mkF m 362 #[.val (.int i0), .val (.long q1), .second, .val (.int (6 : Int32)), .val (.int d1), .val (.int d2), .val (.int d3), .val (.int d4), .val (.int c0), .val (.int c1), .val (.int c2), .val (.int c3), .val (.int c4), .val (.int c5), .val (.ref st), .unset] [(.ref st)]))
    obtain ⟨_, _, ⟨T10, L10, k10, n10⟩, -, X10, S10, G10, ⟨Lc10, hQ10, l10, y10, z10⟩, st10⟩ := Jvm.RoadKit.callSS X hx (y := (⟨"com/example/grant3/grant3/Permission", "parse", "(Ljava/lang/String;)Lcom/example/grant3/grant3/Permission;"⟩ : MethodName)) hown (mvT hZ (hw _ (List.mem_of_getElem? (i := 38) rfl))) (mvT hZ (hw _ (List.mem_of_getElem? (i := 39) rfl))) (mvT hZ (hw _ (List.mem_of_getElem? (i := 40) rfl))) (mvT hZ (hw _ (List.mem_of_getElem? (i := 41) rfl))) (by decide) (backOfS (W := 0) (rmpa l Z a0 hw [] st tt z bs cz fm cs N h n0 Zs E_st F_value_st F_coder_st V_tt Ol S_cs hcz S_fm rfm hz hcs hv) hZ (hw _ (List.mem_of_getElem? (i := 41) rfl)) (hw _ (List.mem_of_getElem? (i := 40) rfl)) (by decide) (by decide)) (g := (mkF m 362 #[.val (.int i0), .val (.long q1), .second, .val (.int (6 : Int32)), .val (.int d1), .val (.int d2), .val (.int d3), .val (.int d4), .val (.int c0), .val (.int c1), .val (.int c2), .val (.int c3), .val (.int c4), .val (.int c5), .val (.ref st), .unset] [(.ref st)])) rfl (by rw [hml]; rfl) (argsL := [(.ref st)]) (rest := []) (lenOf pd_16 rfl) rfl (by show 2 * 0 + _ ≤ _; exact Nat.le_of_eq rfl) (hb hby at_362) (fun _ _ => ⟨rfl, eT, (Nat.le_of_ble_eq_true rfl), (Nat.le_of_ble_eq_true rfl)⟩)
    dsimp only [Pt.U, Pt.locs, Pt.cells, Pt.slots] at X10 l10 y10 z10 st10 hQ10 S10 G10
    subst l10 y10 z10
    obtain ⟨X10, hS, hZ, hown⟩ := rebS hS (by rw [eT]; exact hkW) X10 S10 G10 hZ hown
    have hkW : T10.heap.size ≤ T10.heap.size := Nat.le_refl _
    obtain ⟨pp, rfl, N10q, K10, hb10, E_pp, F_code_pp⟩ := hQ10
    have Nf := Fr.app Nf N10q
    have ne_st_pp : st ≠ pp := Nat.ne_of_lt (Nat.lt_of_lt_of_le E_st.lt hb10)
    have ne_tt_pp : tt ≠ pp := Nat.ne_of_lt (Nat.lt_of_lt_of_le V_tt.lt hb10)
    have g_pp : n0 ≤ pp := Nat.le_trans Zs hb10
    have sz_pp : h0.size ≤ pp := Nat.le_trans szr hb10
    have E_st := E_st.keep K10
    have F_value_st := F_value_st.keep K10 nin0
    have F_coder_st := F_coder_st.keep K10 nin0
    have V_tt := V_tt.keep K10 nin0
    have Ol := Ol.keep K10 all0
    have Kp := Kp.trans K10 all0
    have Zs := Nat.le_trans Zs K10.1
    have szr := Nat.le_trans szr K10.1
    refine own_go (fun tQ kQ => st10.trans kQ) ?_
    show own_End p e below _ (T10.setTop (mkF m 365 #[.val (.int i0), .val (.long q1), .second, .val (.int (6 : Int32)), .val (.int d1), .val (.int d2), .val (.int d3), .val (.int d4), .val (.int c0), .val (.int c1), .val (.int c2), .val (.int c3), .val (.int c4), .val (.int c5), .val (.ref st), .unset] [(.ref pp)]))
    refine own_go (fun tQ kQ => XS.astore X10.here hx rfl (hb hby at_365) rfl rfl (l' := #[.val (.int i0), .val (.long q1), .second, .val (.int (6 : Int32)), .val (.int d1), .val (.int d2), .val (.int d3), .val (.int d4), .val (.int c0), .val (.int c1), .val (.int c2), .val (.int c3), .val (.int c4), .val (.int c5), .val (.ref st), .val (.ref pp)]) rfl kQ) ?_
    show own_End p e below _ (T10.setTop (mkF m 367 #[.val (.int i0), .val (.long q1), .second, .val (.int (6 : Int32)), .val (.int d1), .val (.int d2), .val (.int d3), .val (.int d4), .val (.int c0), .val (.int c1), .val (.int c2), .val (.int c3), .val (.int c4), .val (.int c5), .val (.ref st), .val (.ref pp)] []))
    refine own_go (fun tQ kQ => XS.aload X10.here hx rfl (hb hby at_367) rfl rfl kQ) ?_
    show own_End p e below _ (T10.setTop (mkF m 369 #[.val (.int i0), .val (.long q1), .second, .val (.int (6 : Int32)), .val (.int d1), .val (.int d2), .val (.int d3), .val (.int d4), .val (.int c0), .val (.int c1), .val (.int c2), .val (.int c3), .val (.int c4), .val (.int c5), .val (.ref st), .val (.ref pp)] [(.ref pp)]))
    refine own_go (fun tQ kQ => XS.ifnullNo X10.here hx rfl (hb hby at_369) rfl kQ) ?_
    show own_End p e below _ (T10.setTop (mkF m 372 #[.val (.int i0), .val (.long q1), .second, .val (.int (6 : Int32)), .val (.int d1), .val (.int d2), .val (.int d3), .val (.int d4), .val (.int c0), .val (.int c1), .val (.int c2), .val (.int c3), .val (.int c4), .val (.int c5), .val (.ref st), .val (.ref pp)] []))
    refine own_go (fun tQ kQ => XS.aload X10.here hx rfl (hb hby at_372) rfl rfl kQ) ?_
    show own_End p e below _ (T10.setTop (mkF m 374 #[.val (.int i0), .val (.long q1), .second, .val (.int (6 : Int32)), .val (.int d1), .val (.int d2), .val (.int d3), .val (.int d4), .val (.int c0), .val (.int c1), .val (.int c2), .val (.int c3), .val (.int c4), .val (.int c5), .val (.ref st), .val (.ref pp)] [(.ref st)]))
    refine own_go (fun tQ kQ => XS.aload X10.here hx rfl (hb hby at_374) rfl rfl kQ) ?_
    show own_End p e below _ (T10.setTop (mkF m 376 #[.val (.int i0), .val (.long q1), .second, .val (.int (6 : Int32)), .val (.int d1), .val (.int d2), .val (.int d3), .val (.int d4), .val (.int c0), .val (.int c1), .val (.int c2), .val (.int c3), .val (.int c4), .val (.int c5), .val (.ref st), .val (.ref pp)] [(.ref pp), (.ref st)]))
    obtain ⟨cq11, kq11, q11a, q11b, q11c⟩ := isOf hZ rfl E_pp
    obtain ⟨_, _, ⟨T11, L11, k11, n11⟩, -, X11, ⟨Lc11, hQ11, l11, y11, z11⟩, st11⟩ := X10.virtualBack hx (y := (⟨"com/example/grant3/grant3/Permission", "toString", "()Ljava/lang/String;"⟩ : MethodName)) (z := (⟨"com/example/grant3/grant3/Permission", "toString", "()Ljava/lang/String;"⟩ : MethodName)) hown (mvT hZ (hw _ (List.mem_of_getElem? (i := 92) rfl))) (mvT hZ (hw _ (List.mem_of_getElem? (i := 93) rfl))) (notFace_of_selects (args := #[]) (mvT hZ (hw _ (List.mem_of_getElem? (i := 95) rfl)))) (mvT hZ (hw _ (List.mem_of_getElem? (i := 95) rfl))) (mvT hZ (hw _ (List.mem_of_getElem? (i := 94) rfl))) (by decide) (backOf (W := 1) (rmts l Z a0 hw [] pp st T10.heap n0 Zs F_code_pp) hZ (hw _ (List.mem_of_getElem? (i := 96) rfl)) (hw _ (List.mem_of_getElem? (i := 40) rfl)) (by decide) (by decide)) q11a q11c (g := (mkF m 376 #[.val (.int i0), .val (.long q1), .second, .val (.int (6 : Int32)), .val (.int d1), .val (.int d2), .val (.int d3), .val (.int d4), .val (.int c0), .val (.int c1), .val (.int c2), .val (.int c3), .val (.int c4), .val (.int c5), .val (.ref st), .val (.ref pp)] [(.ref pp), (.ref st)])) rfl (by rw [hml]; rfl) (Steps.refl _) (argsL := []) (rest := [(.ref st)]) (lenOf pd_17 rfl) rfl (by show 2 * 0 + _ ≤ _; exact Nat.le_of_eq rfl) (hb hby at_376) (fun _ _ => ⟨rfl, rfl, (Nat.le_of_ble_eq_true rfl), (Nat.le_of_ble_eq_true rfl)⟩)
    dsimp only [Pt.U, Pt.locs, Pt.cells, Pt.slots] at X11 l11 y11 z11 st11 hQ11
    subst l11 y11 z11
    obtain ⟨rfl, N11q, e11⟩ := hQ11
    have Nf := Fr.app Nf N11q
    refine own_go (fun tQ kQ => st11.trans kQ) ?_
    show own_End p e below _ (T11.setTop (mkF m 379 #[.val (.int i0), .val (.long q1), .second, .val (.int (6 : Int32)), .val (.int d1), .val (.int d2), .val (.int d3), .val (.int d4), .val (.int c0), .val (.int c1), .val (.int c2), .val (.int c3), .val (.int c4), .val (.int c5), .val (.ref st), .val (.ref pp)] [(.ref st), (.ref st)]))
    obtain ⟨cq12, kq12, q12a, q12b, q12c⟩ := isOf hZ e11 E_st
    obtain ⟨_, _, ⟨T12, L12, k12, n12⟩, -, X12, ⟨Lc12, hQ12, l12, y12, z12⟩, st12⟩ := X11.virtualBack hx (y := (⟨"java/lang/String", "equals", "(Ljava/lang/Object;)Z"⟩ : MethodName)) (z := (⟨"java/lang/String", "equals", "(Ljava/lang/Object;)Z"⟩ : MethodName)) hown (mvT hZ (hw _ (List.mem_of_getElem? (i := 97) rfl))) (mvT hZ (hw _ (List.mem_of_getElem? (i := 98) rfl))) (notFace_of_selects (args := #[]) (mvT hZ (hw _ (List.mem_of_getElem? (i := 100) rfl)))) (mvT hZ (hw _ (List.mem_of_getElem? (i := 100) rfl))) (mvT hZ (hw _ (List.mem_of_getElem? (i := 99) rfl))) (by decide) (backOf (W := 0) (rmeq l Z a0 hw [] st T10.heap n0 Zs ) hZ (hw _ (List.mem_of_getElem? (i := 101) rfl)) (hw _ (List.mem_of_getElem? (i := 10) rfl)) (by decide) (by decide)) q12a q12c (g := (mkF m 379 #[.val (.int i0), .val (.long q1), .second, .val (.int (6 : Int32)), .val (.int d1), .val (.int d2), .val (.int d3), .val (.int d4), .val (.int c0), .val (.int c1), .val (.int c2), .val (.int c3), .val (.int c4), .val (.int c5), .val (.ref st), .val (.ref pp)] [(.ref st), (.ref st)])) rfl (by rw [hml]; rfl) (Steps.refl _) (argsL := [(.ref st)]) (rest := []) (lenOf pd_18 rfl) rfl (by show 2 * 0 + _ ≤ _; exact Nat.le_of_eq rfl) (hb hby at_379) (fun _ _ => ⟨rfl, e11, (Nat.le_of_ble_eq_true rfl), (Nat.le_of_ble_eq_true rfl)⟩)
    dsimp only [Pt.U, Pt.locs, Pt.cells, Pt.slots] at X12 l12 y12 z12 st12 hQ12
    subst l12 y12 z12
    obtain ⟨rfl, N12q, e12⟩ := hQ12
    have Nf := Fr.app Nf N12q
    refine own_go (fun tQ kQ => st12.trans kQ) ?_
    show own_End p e below _ (T12.setTop (mkF m 382 #[.val (.int i0), .val (.long q1), .second, .val (.int (6 : Int32)), .val (.int d1), .val (.int d2), .val (.int d3), .val (.int d4), .val (.int c0), .val (.int c1), .val (.int c2), .val (.int c3), .val (.int c4), .val (.int c5), .val (.ref st), .val (.ref pp)] [(.int (1 : Int32))]))
    refine own_go (fun tQ kQ => XS.ifNo X12.here hx rfl (hb hby at_382) rfl ((if0 _ _).trans (feq (by decide)).1) kQ) ?_
    show own_End p e below _ (T12.setTop (mkF m 385 #[.val (.int i0), .val (.long q1), .second, .val (.int (6 : Int32)), .val (.int d1), .val (.int d2), .val (.int d3), .val (.int d4), .val (.int c0), .val (.int c1), .val (.int c2), .val (.int c3), .val (.int c4), .val (.int c5), .val (.ref st), .val (.ref pp)] []))
    refine own_go (fun tQ kQ => XS.iconst X12.here hx rfl (hb hby at_385) kQ) ?_
    show own_End p e below _ (T12.setTop (mkF m 386 #[.val (.int i0), .val (.long q1), .second, .val (.int (6 : Int32)), .val (.int d1), .val (.int d2), .val (.int d3), .val (.int d4), .val (.int c0), .val (.int c1), .val (.int c2), .val (.int c3), .val (.int c4), .val (.int c5), .val (.ref st), .val (.ref pp)] [(.int (1 : Int32))]))
    refine own_go (fun tQ kQ => XS.goto X12.here hx rfl (pc0 := 386) (pc' := 390) rfl (hb hby at_386) (by decide) (by decide) kQ) ?_
    show own_End p e below _ (T12.setTop (mkF m 390 #[.val (.int i0), .val (.long q1), .second, .val (.int (6 : Int32)), .val (.int d1), .val (.int d2), .val (.int d3), .val (.int d4), .val (.int c0), .val (.int c1), .val (.int c2), .val (.int c3), .val (.int c4), .val (.int c5), .val (.ref st), .val (.ref pp)] [(.int (1 : Int32))]))
    obtain ⟨fs, hr, hrun, hended, hend⟩ := X12.leaveW hS (by rw [e12]; exact hkW) (v := some (.int (1 : Int32))) (fun h => by rw [Bd.returns] at h; cases h)
    refine ⟨_, _, (retN X12 hx (t := .boolean) Bd.returns (by simp) (hb hby at_390) hr), hrun, hended, _, _, rfl, ?_, ⟨hend.1, hend.2.1, hend.2.2.1, hend.2.2.2.mono (by decide) (by decide)⟩⟩
    show Q0 Z i0 q1 cz fm h0 n0 _ T12.heap _
    rw [e12]
    exact ⟨rfl, Nf⟩
  have J188 : ∀ (d1 : Int32) (d2 : Int32) (d3 : Int32) (d4 : Int32) (c0 : Int32) (c1 : Int32) (c2 : Int32) (c3 : Int32) (c4 : Int32) (T : State) (locs : List Loc) (h : Heap) (vm0 : Vm) (k0 : Nat) (X : Stand p l e room_1 (s.setVm vm0) m #[(.int i0), (.long q1)] below meth c T locs 0 0) (eT : T.heap = h) (Nf : Fr n0 locs) (Zs : n0 ≤ h.size) (Kp : Keep h0 h []) (szr : h0.size ≤ h.size) (hS : s.Since vm0 k0) (hkW : k0 ≤ h.size) (hZ : Z.Warmed39 (s.setVm vm0).vm) (hown : (s.setVm vm0).vm.findClass "com/example/grant3/grant3/PermissionParsePinLaw" = some m.cls) (Ol : Old Z n0 h) (H1 : d1 = 0 ∨ d1 = 1) (H2 : d2 = 0 ∨ (d2 = 1 ∧ ¬ ln < 4 ∧ d1 = 0)) (H3 : d3 = 0 ∨ (d3 = 1 ∧ ¬ ln < 5 ∧ d2 = 0)) (H4 : d4 = 0 ∨ (d4 = 1 ∧ ¬ ln < 6 ∧ d3 = 0)) (HX : d1 = 1 ∨ d2 = 1 ∨ d3 = 1 ∨ d4 = 1) (S0 : own_seg c0) (K1 : (d1 = 1 ∧ c1 = 46) ∨ (d1 = 0 ∧ own_seg c1)) (K2 : (d2 = 1 ∧ c2 = 46) ∨ (d2 = 0 ∧ own_seg c2)) (K3 : (d3 = 1 ∧ c3 = 46) ∨ (d3 = 0 ∧ own_seg c3)) (K4 : (d4 = 1 ∧ c4 = 46) ∨ (d4 = 0 ∧ own_seg c4)), own_End p e below (P0 Z i0 q1 cz fm h0 n0 s) (T.setTop (mkF m 188 #[.val (.int i0), .val (.long q1), .second, .val (.int ln), .val (.int d1), .val (.int d2), .val (.int d3), .val (.int d4), .val (.int c0), .val (.int c1), .val (.int c2), .val (.int c3), .unset, .unset, .unset, .unset] [(.int c4)])) := by
    intro d1 d2 d3 d4 c0 c1 c2 c3 c4 T locs h vm0 k0 X eT Nf Zs Kp szr hS hkW hZ hown Ol H1 H2 H3 H4 HX S0 K1 K2 K3 K4
    refine own_go (fun tQ kQ => XS.istore X.here hx rfl (hb hby at_188) rfl (l' := #[.val (.int i0), .val (.long q1), .second, .val (.int ln), .val (.int d1), .val (.int d2), .val (.int d3), .val (.int d4), .val (.int c0), .val (.int c1), .val (.int c2), .val (.int c3), .val (.int c4), .unset, .unset, .unset]) rfl kQ) ?_
    show own_End p e below _ (T.setTop (mkF m 190 #[.val (.int i0), .val (.long q1), .second, .val (.int ln), .val (.int d1), .val (.int d2), .val (.int d3), .val (.int d4), .val (.int c0), .val (.int c1), .val (.int c2), .val (.int c3), .val (.int c4), .unset, .unset, .unset] []))
    refine own_go (fun tQ kQ => XS.lloadN X.here hx rfl (hb hby at_190) rfl kQ) ?_
    show own_End p e below _ (T.setTop (mkF m 191 #[.val (.int i0), .val (.long q1), .second, .val (.int ln), .val (.int d1), .val (.int d2), .val (.int d3), .val (.int d4), .val (.int c0), .val (.int c1), .val (.int c2), .val (.int c3), .val (.int c4), .unset, .unset, .unset] [(.long q1)]))
    refine own_go (fun tQ kQ => XS.iconst X.here hx rfl (hb hby at_191) kQ) ?_
    show own_End p e below _ (T.setTop (mkF m 192 #[.val (.int i0), .val (.long q1), .second, .val (.int ln), .val (.int d1), .val (.int d2), .val (.int d3), .val (.int d4), .val (.int c0), .val (.int c1), .val (.int c2), .val (.int c3), .val (.int c4), .unset, .unset, .unset] [(.int (5 : Int32)), (.long q1)]))
    obtain ⟨_, _, ⟨T13, L13, k13, n13⟩, -, X13, ⟨Lc13, hQ13, l13, y13, z13⟩, st13⟩ := Jvm.LawKit.callS X hx (y := (⟨"com/example/grant3/grant3/PermissionParsePinLaw", "at", "(JI)C"⟩ : MethodName)) hown (mvT hZ (hw _ (List.mem_of_getElem? (i := 0) rfl))) (mvT hZ (hw _ (List.mem_of_getElem? (i := 1) rfl))) (mvT hZ (hw _ (List.mem_of_getElem? (i := 2) rfl))) (mvT hZ (hw _ (List.mem_of_getElem? (i := 3) rfl))) (by decide) (backOf (W := 0) (rmat_ l Z a0 hw [] q1 (5 : Int32) h n0 Zs ) hZ (hw _ (List.mem_of_getElem? (i := 3) rfl)) (hw _ (List.mem_of_getElem? (i := 2) rfl)) (by decide) (by decide)) (g := (mkF m 192 #[.val (.int i0), .val (.long q1), .second, .val (.int ln), .val (.int d1), .val (.int d2), .val (.int d3), .val (.int d4), .val (.int c0), .val (.int c1), .val (.int c2), .val (.int c3), .val (.int c4), .unset, .unset, .unset] [(.int (5 : Int32)), (.long q1)])) rfl (by rw [hml]; rfl) (argsL := [(.long q1), (.int (5 : Int32))]) (rest := []) (lenOf pd_19 rfl) rfl (by show 2 * 0 + _ ≤ _; exact Nat.le_of_eq rfl) (hb hby at_192) (fun _ _ => ⟨rfl, eT, (Nat.le_of_ble_eq_true rfl), (Nat.le_of_ble_eq_true rfl)⟩)
    dsimp only [Pt.U, Pt.locs, Pt.cells, Pt.slots] at X13 l13 y13 z13 st13 hQ13
    subst l13 y13 z13
    obtain ⟨c5, rfl, N13q, e13, S5⟩ := hQ13
    have Nf := Fr.app Nf N13q
    refine own_go (fun tQ kQ => st13 tQ kQ) ?_
    show own_End p e below _ (T13.setTop (mkF m 195 #[.val (.int i0), .val (.long q1), .second, .val (.int ln), .val (.int d1), .val (.int d2), .val (.int d3), .val (.int d4), .val (.int c0), .val (.int c1), .val (.int c2), .val (.int c3), .val (.int c4), .unset, .unset, .unset] [(.int c5)]))
    refine own_go (fun tQ kQ => XS.istore X13.here hx rfl (hb hby at_195) rfl (l' := #[.val (.int i0), .val (.long q1), .second, .val (.int ln), .val (.int d1), .val (.int d2), .val (.int d3), .val (.int d4), .val (.int c0), .val (.int c1), .val (.int c2), .val (.int c3), .val (.int c4), .val (.int c5), .unset, .unset]) rfl kQ) ?_
    show own_End p e below _ (T13.setTop (mkF m 197 #[.val (.int i0), .val (.long q1), .second, .val (.int ln), .val (.int d1), .val (.int d2), .val (.int d3), .val (.int d4), .val (.int c0), .val (.int c1), .val (.int c2), .val (.int c3), .val (.int c4), .val (.int c5), .unset, .unset] []))
    have G1 : own_c c1 := K1.elim (fun q => Or.inl q.2) (fun q => Or.inr q.2)
    have G2 : own_c c2 := K2.elim (fun q => Or.inl q.2) (fun q => Or.inr q.2)
    have G3 : own_c c3 := K3.elim (fun q => Or.inl q.2) (fun q => Or.inr q.2)
    have G4 : own_c c4 := K4.elim (fun q => Or.inl q.2) (fun q => Or.inr q.2)
    have G0 : own_c c0 := Or.inr S0
    have G5 : own_c c5 := Or.inr S5
    rcases hln with rfl | rfl | rfl | rfl
    ·
      show own_End p e below _ (T13.setTop (mkF m 197 #[.val (.int i0), .val (.long q1), .second, .val (.int (3 : Int32)), .val (.int d1), .val (.int d2), .val (.int d3), .val (.int d4), .val (.int c0), .val (.int c1), .val (.int c2), .val (.int c3), .val (.int c4), .val (.int c5), .unset, .unset] []))
      refine own_go (fun tQ kQ => XS.iloadN X13.here hx rfl (hb hby at_197) rfl kQ) ?_
      show own_End p e below _ (T13.setTop (mkF m 198 #[.val (.int i0), .val (.long q1), .second, .val (.int (3 : Int32)), .val (.int d1), .val (.int d2), .val (.int d3), .val (.int d4), .val (.int c0), .val (.int c1), .val (.int c2), .val (.int c3), .val (.int c4), .val (.int c5), .unset, .unset] [(.int (3 : Int32))]))
      refine own_go (fun tQ kQ => XS.iconst X13.here hx rfl (hb hby at_198) kQ) ?_
      show own_End p e below _ (T13.setTop (mkF m 199 #[.val (.int i0), .val (.long q1), .second, .val (.int (3 : Int32)), .val (.int d1), .val (.int d2), .val (.int d3), .val (.int d4), .val (.int c0), .val (.int c1), .val (.int c2), .val (.int c3), .val (.int c4), .val (.int c5), .unset, .unset] [(.int (3 : Int32)), (.int (3 : Int32))]))
      refine own_go (fun tQ kQ => XS.icmpNo X13.here hx rfl (hb hby at_199) rfl (teq (by decide)).2 kQ) ?_
      show own_End p e below _ (T13.setTop (mkF m 202 #[.val (.int i0), .val (.long q1), .second, .val (.int (3 : Int32)), .val (.int d1), .val (.int d2), .val (.int d3), .val (.int d4), .val (.int c0), .val (.int c1), .val (.int c2), .val (.int c3), .val (.int c4), .val (.int c5), .unset, .unset] []))
      obtain ⟨T14, h14, X14, e14, E14, A14, D14, -, st14⟩ := newO X13 hx hZ hown (hw _ (List.mem_of_getElem? (i := 8) rfl)) (hw _ (List.mem_of_getElem? (i := 9) rfl)) (hw _ (List.mem_of_getElem? (i := 10) rfl)) e13 (g := (mkF m 202 #[.val (.int i0), .val (.long q1), .second, .val (.int (3 : Int32)), .val (.int d1), .val (.int d2), .val (.int d3), .val (.int d4), .val (.int c0), .val (.int c1), .val (.int c2), .val (.int c3), .val (.int c4), .val (.int c5), .unset, .unset] [])) rfl (hb hby at_202) (by decide) (by decide)
      obtain ⟨st, g14⟩ : ∃ z, z = h.size := ⟨_, rfl⟩
      rw [← g14] at A14 D14 st14
      have g_st : n0 ≤ st := Nat.le_trans Zs (Nat.le_of_eq g14.symm)
      have sz_st : h0.size ≤ st := Nat.le_trans szr (Nat.le_of_eq g14.symm)
      have Ol := Ol.ext E14
      have Kp := Kp.ext E14
      have Zs := Nat.le_trans Zs E14.1
      have szr := Nat.le_trans szr E14.1
      have hkW := Nat.le_trans hkW E14.1
      have E_st := A14
      have F_coder_st : Fld Z h14 st "java/lang/String" "coder" "B" (.int (0 : Int32)) := D14 (Or.inr (hw _ (List.mem_of_getElem? (i := 35) rfl))) (ty := .byte) (by decide)
      have F_value_st : Fld Z h14 st "java/lang/String" "value" "[B" .null := D14 (Or.inr (hw _ (List.mem_of_getElem? (i := 37) rfl))) (ty := (.array .byte)) (by decide)
      refine own_go (fun tQ kQ => st14 tQ kQ) ?_
      show own_End p e below _ (T14.setTop (mkF m 205 #[.val (.int i0), .val (.long q1), .second, .val (.int (3 : Int32)), .val (.int d1), .val (.int d2), .val (.int d3), .val (.int d4), .val (.int c0), .val (.int c1), .val (.int c2), .val (.int c3), .val (.int c4), .val (.int c5), .unset, .unset] [(.ref st)]))
      refine own_go (fun tQ kQ => XS.dup X14.here hx rfl (hb hby at_205) rfl rfl kQ) ?_
      show own_End p e below _ (T14.setTop (mkF m 206 #[.val (.int i0), .val (.long q1), .second, .val (.int (3 : Int32)), .val (.int d1), .val (.int d2), .val (.int d3), .val (.int d4), .val (.int c0), .val (.int c1), .val (.int c2), .val (.int c3), .val (.int c4), .val (.int c5), .unset, .unset] [(.ref st), (.ref st)]))
      refine own_go (fun tQ kQ => XS.iconst X14.here hx rfl (hb hby at_206) kQ) ?_
      show own_End p e below _ (T14.setTop (mkF m 207 #[.val (.int i0), .val (.long q1), .second, .val (.int (3 : Int32)), .val (.int d1), .val (.int d2), .val (.int d3), .val (.int d4), .val (.int c0), .val (.int c1), .val (.int c2), .val (.int c3), .val (.int c4), .val (.int c5), .unset, .unset] [(.int (3 : Int32)), (.ref st), (.ref st)]))
      obtain ⟨T15, h15, k15, X15, e15, E15, A15, st15⟩ := newP X14 hx hZ (hw _ (List.mem_of_getElem? (i := 11) rfl)) e14 (g := (mkF m 207 #[.val (.int i0), .val (.long q1), .second, .val (.int (3 : Int32)), .val (.int d1), .val (.int d2), .val (.int d3), .val (.int d4), .val (.int c0), .val (.int c1), .val (.int c2), .val (.int c3), .val (.int c4), .val (.int c5), .unset, .unset] [(.int (3 : Int32)), (.ref st), (.ref st)])) rfl (hb hby at_207) rfl (by decide) (cap := 3) (by decide) (by decide) (by decide) (by decide)
      obtain ⟨ca, g15⟩ : ∃ z, z = h14.size := ⟨_, rfl⟩
      rw [← g15] at A15 st15
      have ne_st_ca : st ≠ ca := Nat.ne_of_lt (Nat.lt_of_lt_of_le E_st.lt (Nat.le_of_eq g15.symm))
      have g_ca : n0 ≤ ca := Nat.le_trans Zs (Nat.le_of_eq g15.symm)
      have sz_ca : h0.size ≤ ca := Nat.le_trans szr (Nat.le_of_eq g15.symm)
      have Ol := Ol.ext E15
      have E_st := E_st.ext E15
      have F_coder_st := F_coder_st.ext E15
      have F_value_st := F_value_st.ext E15
      have Kp := Kp.ext E15
      have Zs := Nat.le_trans Zs E15.1
      have szr := Nat.le_trans szr E15.1
      have hkW := Nat.le_trans hkW E15.1
      have V_ca : own_Ar Z h15 ca .char (3 : Int32) (fun _ => (.int (0 : Int32))) := own_Ar.new A15 (by decide)
      refine own_go (fun tQ kQ => st15 tQ kQ) ?_
      show own_End p e below _ (T15.setTop (mkF m 209 #[.val (.int i0), .val (.long q1), .second, .val (.int (3 : Int32)), .val (.int d1), .val (.int d2), .val (.int d3), .val (.int d4), .val (.int c0), .val (.int c1), .val (.int c2), .val (.int c3), .val (.int c4), .val (.int c5), .unset, .unset] [(.ref ca), (.ref st), (.ref st)]))
      refine own_go (fun tQ kQ => XS.dup X15.here hx rfl (hb hby at_209) rfl rfl kQ) ?_
      show own_End p e below _ (T15.setTop (mkF m 210 #[.val (.int i0), .val (.long q1), .second, .val (.int (3 : Int32)), .val (.int d1), .val (.int d2), .val (.int d3), .val (.int d4), .val (.int c0), .val (.int c1), .val (.int c2), .val (.int c3), .val (.int c4), .val (.int c5), .unset, .unset] [(.ref ca), (.ref ca), (.ref st), (.ref st)]))
      refine own_go (fun tQ kQ => XS.iconst X15.here hx rfl (hb hby at_210) kQ) ?_
      show own_End p e below _ (T15.setTop (mkF m 211 #[.val (.int i0), .val (.long q1), .second, .val (.int (3 : Int32)), .val (.int d1), .val (.int d2), .val (.int d3), .val (.int d4), .val (.int c0), .val (.int c1), .val (.int c2), .val (.int c3), .val (.int c4), .val (.int c5), .unset, .unset] [(.int (0 : Int32)), (.ref ca), (.ref ca), (.ref st), (.ref st)]))
      refine own_go (fun tQ kQ => XS.iload X15.here hx rfl (hb hby at_211) rfl kQ) ?_
      show own_End p e below _ (T15.setTop (mkF m 213 #[.val (.int i0), .val (.long q1), .second, .val (.int (3 : Int32)), .val (.int d1), .val (.int d2), .val (.int d3), .val (.int d4), .val (.int c0), .val (.int c1), .val (.int c2), .val (.int c3), .val (.int c4), .val (.int c5), .unset, .unset] [(.int c0), (.int (0 : Int32)), (.ref ca), (.ref ca), (.ref st), (.ref st)]))
      obtain ⟨cl16, Ar16, S16, M16, H16⟩ := id V_ca
      have hin16 := inb_of (j := (0 : Int32)) S16 ⟨(by decide), (by decide)⟩
      obtain ⟨T17, h17, X17, e17, W17, st17⟩ := stC X15 hx hZ e15 Ar16 (j := (0 : Int32)) hin16 (g := (mkF m 213 #[.val (.int i0), .val (.long q1), .second, .val (.int (3 : Int32)), .val (.int d1), .val (.int d2), .val (.int d3), .val (.int d4), .val (.int c0), .val (.int c1), .val (.int c2), .val (.int c3), .val (.int c4), .val (.int c5), .unset, .unset] [(.int c0), (.int (0 : Int32)), (.ref ca), (.ref ca), (.ref st), (.ref st)])) rfl rfl (hb hby at_213)
      have V_ca := own_Ar_set Ar16 S16 M16 H16 W17
      have Ol := Ol.wr W17 g_ca
      have E_st := E_st.wr W17
      have F_coder_st := F_coder_st.other W17 (Or.inl ne_st_ca)
      have F_value_st := F_value_st.other W17 (Or.inl ne_st_ca)
      have Kp := Kp.wr W17 (Or.inr sz_ca)
      have Nf := Fr.snoc X17 Nf g_ca
      have Zs := Nat.le_trans Zs (Keep.of_wr W17).1
      have szr := Nat.le_trans szr (Keep.of_wr W17).1
      have hkW := Nat.le_trans hkW (Keep.of_wr W17).1
      refine own_go (fun tQ kQ => st17 tQ kQ) ?_
      show own_End p e below _ (T17.setTop (mkF m 214 #[.val (.int i0), .val (.long q1), .second, .val (.int (3 : Int32)), .val (.int d1), .val (.int d2), .val (.int d3), .val (.int d4), .val (.int c0), .val (.int c1), .val (.int c2), .val (.int c3), .val (.int c4), .val (.int c5), .unset, .unset] [(.ref ca), (.ref st), (.ref st)]))
      refine own_go (fun tQ kQ => XS.dup X17.here hx rfl (hb hby at_214) rfl rfl kQ) ?_
      show own_End p e below _ (T17.setTop (mkF m 215 #[.val (.int i0), .val (.long q1), .second, .val (.int (3 : Int32)), .val (.int d1), .val (.int d2), .val (.int d3), .val (.int d4), .val (.int c0), .val (.int c1), .val (.int c2), .val (.int c3), .val (.int c4), .val (.int c5), .unset, .unset] [(.ref ca), (.ref ca), (.ref st), (.ref st)]))
      refine own_go (fun tQ kQ => XS.iconst X17.here hx rfl (hb hby at_215) kQ) ?_
      show own_End p e below _ (T17.setTop (mkF m 216 #[.val (.int i0), .val (.long q1), .second, .val (.int (3 : Int32)), .val (.int d1), .val (.int d2), .val (.int d3), .val (.int d4), .val (.int c0), .val (.int c1), .val (.int c2), .val (.int c3), .val (.int c4), .val (.int c5), .unset, .unset] [(.int (1 : Int32)), (.ref ca), (.ref ca), (.ref st), (.ref st)]))
      refine own_go (fun tQ kQ => XS.iload X17.here hx rfl (hb hby at_216) rfl kQ) ?_
      show own_End p e below _ (T17.setTop (mkF m 218 #[.val (.int i0), .val (.long q1), .second, .val (.int (3 : Int32)), .val (.int d1), .val (.int d2), .val (.int d3), .val (.int d4), .val (.int c0), .val (.int c1), .val (.int c2), .val (.int c3), .val (.int c4), .val (.int c5), .unset, .unset] [(.int c1), (.int (1 : Int32)), (.ref ca), (.ref ca), (.ref st), (.ref st)]))
      obtain ⟨cl18, Ar18, S18, M18, H18⟩ := id V_ca
      have hin18 := inb_of (j := (1 : Int32)) S18 ⟨(by decide), (by decide)⟩
      obtain ⟨T19, h19, X19, e19, W19, st19⟩ := stC X17 hx hZ e17 Ar18 (j := (1 : Int32)) hin18 (g := (mkF m 218 #[.val (.int i0), .val (.long q1), .second, .val (.int (3 : Int32)), .val (.int d1), .val (.int d2), .val (.int d3), .val (.int d4), .val (.int c0), .val (.int c1), .val (.int c2), .val (.int c3), .val (.int c4), .val (.int c5), .unset, .unset] [(.int c1), (.int (1 : Int32)), (.ref ca), (.ref ca), (.ref st), (.ref st)])) rfl rfl (hb hby at_218)
      have V_ca := own_Ar_set Ar18 S18 M18 H18 W19
      have Ol := Ol.wr W19 g_ca
      have E_st := E_st.wr W19
      have F_coder_st := F_coder_st.other W19 (Or.inl ne_st_ca)
      have F_value_st := F_value_st.other W19 (Or.inl ne_st_ca)
      have Kp := Kp.wr W19 (Or.inr sz_ca)
      have Nf := Fr.snoc X19 Nf g_ca
      have Zs := Nat.le_trans Zs (Keep.of_wr W19).1
      have szr := Nat.le_trans szr (Keep.of_wr W19).1
      have hkW := Nat.le_trans hkW (Keep.of_wr W19).1
      refine own_go (fun tQ kQ => st19 tQ kQ) ?_
      show own_End p e below _ (T19.setTop (mkF m 219 #[.val (.int i0), .val (.long q1), .second, .val (.int (3 : Int32)), .val (.int d1), .val (.int d2), .val (.int d3), .val (.int d4), .val (.int c0), .val (.int c1), .val (.int c2), .val (.int c3), .val (.int c4), .val (.int c5), .unset, .unset] [(.ref ca), (.ref st), (.ref st)]))
      refine own_go (fun tQ kQ => XS.dup X19.here hx rfl (hb hby at_219) rfl rfl kQ) ?_
      show own_End p e below _ (T19.setTop (mkF m 220 #[.val (.int i0), .val (.long q1), .second, .val (.int (3 : Int32)), .val (.int d1), .val (.int d2), .val (.int d3), .val (.int d4), .val (.int c0), .val (.int c1), .val (.int c2), .val (.int c3), .val (.int c4), .val (.int c5), .unset, .unset] [(.ref ca), (.ref ca), (.ref st), (.ref st)]))
      refine own_go (fun tQ kQ => XS.iconst X19.here hx rfl (hb hby at_220) kQ) ?_
      show own_End p e below _ (T19.setTop (mkF m 221 #[.val (.int i0), .val (.long q1), .second, .val (.int (3 : Int32)), .val (.int d1), .val (.int d2), .val (.int d3), .val (.int d4), .val (.int c0), .val (.int c1), .val (.int c2), .val (.int c3), .val (.int c4), .val (.int c5), .unset, .unset] [(.int (2 : Int32)), (.ref ca), (.ref ca), (.ref st), (.ref st)]))
      refine own_go (fun tQ kQ => XS.iload X19.here hx rfl (hb hby at_221) rfl kQ) ?_
      show own_End p e below _ (T19.setTop (mkF m 223 #[.val (.int i0), .val (.long q1), .second, .val (.int (3 : Int32)), .val (.int d1), .val (.int d2), .val (.int d3), .val (.int d4), .val (.int c0), .val (.int c1), .val (.int c2), .val (.int c3), .val (.int c4), .val (.int c5), .unset, .unset] [(.int c2), (.int (2 : Int32)), (.ref ca), (.ref ca), (.ref st), (.ref st)]))
      obtain ⟨cl20, Ar20, S20, M20, H20⟩ := id V_ca
      have hin20 := inb_of (j := (2 : Int32)) S20 ⟨(by decide), (by decide)⟩
      obtain ⟨T21, h21, X21, e21, W21, st21⟩ := stC X19 hx hZ e19 Ar20 (j := (2 : Int32)) hin20 (g := (mkF m 223 #[.val (.int i0), .val (.long q1), .second, .val (.int (3 : Int32)), .val (.int d1), .val (.int d2), .val (.int d3), .val (.int d4), .val (.int c0), .val (.int c1), .val (.int c2), .val (.int c3), .val (.int c4), .val (.int c5), .unset, .unset] [(.int c2), (.int (2 : Int32)), (.ref ca), (.ref ca), (.ref st), (.ref st)])) rfl rfl (hb hby at_223)
      have V_ca := own_Ar_set Ar20 S20 M20 H20 W21
      have Ol := Ol.wr W21 g_ca
      have E_st := E_st.wr W21
      have F_coder_st := F_coder_st.other W21 (Or.inl ne_st_ca)
      have F_value_st := F_value_st.other W21 (Or.inl ne_st_ca)
      have Kp := Kp.wr W21 (Or.inr sz_ca)
      have Nf := Fr.snoc X21 Nf g_ca
      have Zs := Nat.le_trans Zs (Keep.of_wr W21).1
      have szr := Nat.le_trans szr (Keep.of_wr W21).1
      have hkW := Nat.le_trans hkW (Keep.of_wr W21).1
      refine own_go (fun tQ kQ => st21 tQ kQ) ?_
      show own_End p e below _ (T21.setTop (mkF m 224 #[.val (.int i0), .val (.long q1), .second, .val (.int (3 : Int32)), .val (.int d1), .val (.int d2), .val (.int d3), .val (.int d4), .val (.int c0), .val (.int c1), .val (.int c2), .val (.int c3), .val (.int c4), .val (.int c5), .unset, .unset] [(.ref ca), (.ref st), (.ref st)]))
      have hcc : ∀ c ∈ ([c0, c1, c2] : List Int32), own_c c := by
        intro c hc
        simp only [List.mem_cons, List.not_mem_nil, or_false] at hc
        rcases hc with rfl | rfl | rfl
        · exact G0
        · exact G1
        · exact G2
      obtain ⟨kca, V_ca⟩ := V_ca.arv (vs := ([c0, c1, c2] : List Int32).map Value.int) (d := .int (0 : Int32)) (fun j hj => by
        have hj' : j < 3 := hj
        have hj2 : j = 0 ∨ j = 1 ∨ j = 2 := by omega
        rcases hj2 with rfl | rfl | rfl
        · show Value.int (nar .char c0) = Value.int c0; rw [own_c_nar G0]
        · show Value.int (nar .char c1) = Value.int c1; rw [own_c_nar G1]
        · show Value.int (nar .char c2) = Value.int c2; rw [own_c_nar G2]) (fun j hj => by
        have hj' : j < 3 := hj
        have hj2 : j = 0 ∨ j = 1 ∨ j = 2 := by omega
        rcases hj2 with rfl | rfl | rfl
        · exact own_fit G0
        · exact own_fit G1
        · exact own_fit G2)
      obtain ⟨_, _, ⟨T22, L22, k22, n22⟩, -, X22, ⟨Lc22, hQ22, l22, y22, z22⟩, st22⟩ := X21.specialBack hx (y := (⟨"java/lang/String", "<init>", "([C)V"⟩ : MethodName)) rfl hown (mvT hZ (hw _ (List.mem_of_getElem? (i := 12) rfl))) (mvT hZ (hw _ (List.mem_of_getElem? (i := 13) rfl))) (mvT hZ (hw _ (List.mem_of_getElem? (i := 14) rfl))) (by decide) (StrChars.Road.backV (W := 1) hZ hws (kI := 4) (hw _ (List.mem_of_getElem? (i := 9) rfl)) (cs := ([c0, c1, c2] : List Int32)) (bs := ([c0, c1, c2] : List Int32).map (fun c => c.toInt8.toInt32)) (n := 3) g_st Zs E_st F_value_st F_coder_st V_ca (S_cs.ext Ol.2) hcz rfl rfl (by decide) (by decide) (fun c hc => own_c_b (hcc c hc)) rfl (by decide) (by decide)) (g := (mkF m 224 #[.val (.int i0), .val (.long q1), .second, .val (.int (3 : Int32)), .val (.int d1), .val (.int d2), .val (.int d3), .val (.int d4), .val (.int c0), .val (.int c1), .val (.int c2), .val (.int c3), .val (.int c4), .val (.int c5), .unset, .unset] [(.ref ca), (.ref st), (.ref st)])) rfl (by rw [hml]; rfl) (Steps.refl _) (a := st) (argsL := [(.ref ca)]) (rest := [(.ref st)]) (lenOf pd_20 rfl) rfl (by show 2 * 0 + _ ≤ _; exact Nat.le_of_eq rfl) (hb hby at_224) (fun _ _ => ⟨rfl, e21, (Nat.le_of_ble_eq_true rfl), (Nat.le_of_ble_eq_true rfl)⟩)
      dsimp only [Pt.U, Pt.locs, Pt.cells, Pt.slots] at X22 l22 y22 z22 st22 hQ22
      subst l22 y22 z22
      obtain ⟨rfl, N22q, K22, -, F_coder_st, tt, kb, -, hb22, -, F_value_st, Kv⟩ := hQ22
      have Nf := Fr.app Nf N22q
      have ne_st_tt : st ≠ tt := Nat.ne_of_lt (Nat.lt_of_lt_of_le E_st.lt hb22)
      have ne_ca_tt : ca ≠ tt := Nat.ne_of_lt (Nat.lt_of_lt_of_le V_ca.lt hb22)
      have g_tt : n0 ≤ tt := Nat.le_trans Zs hb22
      have sz_tt : h0.size ≤ tt := Nat.le_trans szr hb22
      have Ol := Ol.keep K22 (allS g_st all0)
      have E_st := E_st.keep K22
      have V_ca := V_ca.keep K22 (ninS (Ne.symm ne_st_ca) nin0)
      have Kp := Kp.trans K22 (allS (Or.inr sz_st) all0)
      have Zs := Nat.le_trans Zs K22.1
      have szr := Nat.le_trans szr K22.1
      have hkW := Nat.le_trans hkW K22.1
      refine own_go (fun tQ kQ => st22.trans kQ) ?_
      show own_End p e below _ (T22.setTop (mkF m 227 #[.val (.int i0), .val (.long q1), .second, .val (.int (3 : Int32)), .val (.int d1), .val (.int d2), .val (.int d3), .val (.int d4), .val (.int c0), .val (.int c1), .val (.int c2), .val (.int c3), .val (.int c4), .val (.int c5), .unset, .unset] [(.ref st)]))
      have V_tt := (own_Ar.of_arv Kv).turn (g := fun j => .int ((fun j => (([c0, c1, c2] : List Int32).getD j 0).toInt8.toInt32) j)) (fun j hj => by
        have hj' : j < 3 := hj
        have hj2 : j = 0 ∨ j = 1 ∨ j = 2 := by omega
        rcases hj2 with rfl | rfl | rfl <;> rfl)
      refine own_go (fun tQ kQ => XS.astore X22.here hx rfl (hb hby at_227) rfl rfl (l' := #[.val (.int i0), .val (.long q1), .second, .val (.int (3 : Int32)), .val (.int d1), .val (.int d2), .val (.int d3), .val (.int d4), .val (.int c0), .val (.int c1), .val (.int c2), .val (.int c3), .val (.int c4), .val (.int c5), .val (.ref st), .unset]) rfl kQ) ?_
      show own_End p e below _ (T22.setTop (mkF m 229 #[.val (.int i0), .val (.long q1), .second, .val (.int (3 : Int32)), .val (.int d1), .val (.int d2), .val (.int d3), .val (.int d4), .val (.int c0), .val (.int c1), .val (.int c2), .val (.int c3), .val (.int c4), .val (.int c5), .val (.ref st), .unset] []))
      refine own_go (fun tQ kQ => XS.goto X22.here hx rfl (pc0 := 229) (pc' := 360) rfl (hb hby at_229) (by decide) (by decide) kQ) ?_
      show own_End p e below _ (T22.setTop (mkF m 360 #[.val (.int i0), .val (.long q1), .second, .val (.int (3 : Int32)), .val (.int d1), .val (.int d2), .val (.int d3), .val (.int d4), .val (.int c0), .val (.int c1), .val (.int c2), .val (.int c3), .val (.int c4), .val (.int c5), .val (.ref st), .unset] []))
      exact J360_3 st tt (3 : Int32) (fun j => (([c0, c1, c2] : List Int32).getD j 0).toInt8.toInt32) (fun j => ([c0, c1, c2] : List Int32).getD j 0) 3 d1 d2 d3 d4 c0 c1 c2 c3 c4 c5 T22 _ T22.heap _ _ X22 rfl Nf Zs Kp szr hS hkW hZ hown E_st F_value_st F_coder_st V_tt Ol (by decide) (fun j hj => by
        have hj2 : j = 0 ∨ j = 1 ∨ j = 2 := by omega
        rcases hj2 with rfl | rfl | rfl
        · exact own_ch_of (own_c_b G0).1 (own_c_b G0).2
        · exact own_ch_of (own_c_b G1).1 (own_c_b G1).2
        · exact own_ch_of (own_c_b G2).1 (own_c_b G2).2) (own_val3 H1 H2 H3 H4 HX K1 K2 K3 K4 S0 S5)
    ·
      show own_End p e below _ (T13.setTop (mkF m 197 #[.val (.int i0), .val (.long q1), .second, .val (.int (4 : Int32)), .val (.int d1), .val (.int d2), .val (.int d3), .val (.int d4), .val (.int c0), .val (.int c1), .val (.int c2), .val (.int c3), .val (.int c4), .val (.int c5), .unset, .unset] []))
      refine own_go (fun tQ kQ => XS.iloadN X13.here hx rfl (hb hby at_197) rfl kQ) ?_
      show own_End p e below _ (T13.setTop (mkF m 198 #[.val (.int i0), .val (.long q1), .second, .val (.int (4 : Int32)), .val (.int d1), .val (.int d2), .val (.int d3), .val (.int d4), .val (.int c0), .val (.int c1), .val (.int c2), .val (.int c3), .val (.int c4), .val (.int c5), .unset, .unset] [(.int (4 : Int32))]))
      refine own_go (fun tQ kQ => XS.iconst X13.here hx rfl (hb hby at_198) kQ) ?_
      show own_End p e below _ (T13.setTop (mkF m 199 #[.val (.int i0), .val (.long q1), .second, .val (.int (4 : Int32)), .val (.int d1), .val (.int d2), .val (.int d3), .val (.int d4), .val (.int c0), .val (.int c1), .val (.int c2), .val (.int c3), .val (.int c4), .val (.int c5), .unset, .unset] [(.int (3 : Int32)), (.int (4 : Int32))]))
      refine own_go (fun tQ kQ => XS.icmpYes X13.here hx rfl (pc0 := 199) (pc' := 232) rfl (hb hby at_199) rfl (feq (by decide)).2 (by decide) (by decide) kQ) ?_
      show own_End p e below _ (T13.setTop (mkF m 232 #[.val (.int i0), .val (.long q1), .second, .val (.int (4 : Int32)), .val (.int d1), .val (.int d2), .val (.int d3), .val (.int d4), .val (.int c0), .val (.int c1), .val (.int c2), .val (.int c3), .val (.int c4), .val (.int c5), .unset, .unset] []))
      refine own_go (fun tQ kQ => XS.iloadN X13.here hx rfl (hb hby at_232) rfl kQ) ?_
      show own_End p e below _ (T13.setTop (mkF m 233 #[.val (.int i0), .val (.long q1), .second, .val (.int (4 : Int32)), .val (.int d1), .val (.int d2), .val (.int d3), .val (.int d4), .val (.int c0), .val (.int c1), .val (.int c2), .val (.int c3), .val (.int c4), .val (.int c5), .unset, .unset] [(.int (4 : Int32))]))
      refine own_go (fun tQ kQ => XS.iconst X13.here hx rfl (hb hby at_233) kQ) ?_
      show own_End p e below _ (T13.setTop (mkF m 234 #[.val (.int i0), .val (.long q1), .second, .val (.int (4 : Int32)), .val (.int d1), .val (.int d2), .val (.int d3), .val (.int d4), .val (.int c0), .val (.int c1), .val (.int c2), .val (.int c3), .val (.int c4), .val (.int c5), .unset, .unset] [(.int (4 : Int32)), (.int (4 : Int32))]))
      refine own_go (fun tQ kQ => XS.icmpNo X13.here hx rfl (hb hby at_234) rfl (teq (by decide)).2 kQ) ?_
      show own_End p e below _ (T13.setTop (mkF m 237 #[.val (.int i0), .val (.long q1), .second, .val (.int (4 : Int32)), .val (.int d1), .val (.int d2), .val (.int d3), .val (.int d4), .val (.int c0), .val (.int c1), .val (.int c2), .val (.int c3), .val (.int c4), .val (.int c5), .unset, .unset] []))
      obtain ⟨T23, h23, X23, e23, E23, A23, D23, -, st23⟩ := newO X13 hx hZ hown (hw _ (List.mem_of_getElem? (i := 8) rfl)) (hw _ (List.mem_of_getElem? (i := 9) rfl)) (hw _ (List.mem_of_getElem? (i := 10) rfl)) e13 (g := (mkF m 237 #[.val (.int i0), .val (.long q1), .second, .val (.int (4 : Int32)), .val (.int d1), .val (.int d2), .val (.int d3), .val (.int d4), .val (.int c0), .val (.int c1), .val (.int c2), .val (.int c3), .val (.int c4), .val (.int c5), .unset, .unset] [])) rfl (hb hby at_237) (by decide) (by decide)
      obtain ⟨st, g23⟩ : ∃ z, z = h.size := ⟨_, rfl⟩
      rw [← g23] at A23 D23 st23
      have g_st : n0 ≤ st := Nat.le_trans Zs (Nat.le_of_eq g23.symm)
      have sz_st : h0.size ≤ st := Nat.le_trans szr (Nat.le_of_eq g23.symm)
      have Ol := Ol.ext E23
      have Kp := Kp.ext E23
      have Zs := Nat.le_trans Zs E23.1
      have szr := Nat.le_trans szr E23.1
      have hkW := Nat.le_trans hkW E23.1
      have E_st := A23
      have F_coder_st : Fld Z h23 st "java/lang/String" "coder" "B" (.int (0 : Int32)) := D23 (Or.inr (hw _ (List.mem_of_getElem? (i := 35) rfl))) (ty := .byte) (by decide)
      have F_value_st : Fld Z h23 st "java/lang/String" "value" "[B" .null := D23 (Or.inr (hw _ (List.mem_of_getElem? (i := 37) rfl))) (ty := (.array .byte)) (by decide)
      refine own_go (fun tQ kQ => st23 tQ kQ) ?_
      show own_End p e below _ (T23.setTop (mkF m 240 #[.val (.int i0), .val (.long q1), .second, .val (.int (4 : Int32)), .val (.int d1), .val (.int d2), .val (.int d3), .val (.int d4), .val (.int c0), .val (.int c1), .val (.int c2), .val (.int c3), .val (.int c4), .val (.int c5), .unset, .unset] [(.ref st)]))
      refine own_go (fun tQ kQ => XS.dup X23.here hx rfl (hb hby at_240) rfl rfl kQ) ?_
      show own_End p e below _ (T23.setTop (mkF m 241 #[.val (.int i0), .val (.long q1), .second, .val (.int (4 : Int32)), .val (.int d1), .val (.int d2), .val (.int d3), .val (.int d4), .val (.int c0), .val (.int c1), .val (.int c2), .val (.int c3), .val (.int c4), .val (.int c5), .unset, .unset] [(.ref st), (.ref st)]))
      refine own_go (fun tQ kQ => XS.iconst X23.here hx rfl (hb hby at_241) kQ) ?_
      show own_End p e below _ (T23.setTop (mkF m 242 #[.val (.int i0), .val (.long q1), .second, .val (.int (4 : Int32)), .val (.int d1), .val (.int d2), .val (.int d3), .val (.int d4), .val (.int c0), .val (.int c1), .val (.int c2), .val (.int c3), .val (.int c4), .val (.int c5), .unset, .unset] [(.int (4 : Int32)), (.ref st), (.ref st)]))
      obtain ⟨T24, h24, k24, X24, e24, E24, A24, st24⟩ := newP X23 hx hZ (hw _ (List.mem_of_getElem? (i := 11) rfl)) e23 (g := (mkF m 242 #[.val (.int i0), .val (.long q1), .second, .val (.int (4 : Int32)), .val (.int d1), .val (.int d2), .val (.int d3), .val (.int d4), .val (.int c0), .val (.int c1), .val (.int c2), .val (.int c3), .val (.int c4), .val (.int c5), .unset, .unset] [(.int (4 : Int32)), (.ref st), (.ref st)])) rfl (hb hby at_242) rfl (by decide) (cap := 4) (by decide) (by decide) (by decide) (by decide)
      obtain ⟨ca, g24⟩ : ∃ z, z = h23.size := ⟨_, rfl⟩
      rw [← g24] at A24 st24
      have ne_st_ca : st ≠ ca := Nat.ne_of_lt (Nat.lt_of_lt_of_le E_st.lt (Nat.le_of_eq g24.symm))
      have g_ca : n0 ≤ ca := Nat.le_trans Zs (Nat.le_of_eq g24.symm)
      have sz_ca : h0.size ≤ ca := Nat.le_trans szr (Nat.le_of_eq g24.symm)
      have Ol := Ol.ext E24
      have E_st := E_st.ext E24
      have F_coder_st := F_coder_st.ext E24
      have F_value_st := F_value_st.ext E24
      have Kp := Kp.ext E24
      have Zs := Nat.le_trans Zs E24.1
      have szr := Nat.le_trans szr E24.1
      have hkW := Nat.le_trans hkW E24.1
      have V_ca : own_Ar Z h24 ca .char (4 : Int32) (fun _ => (.int (0 : Int32))) := own_Ar.new A24 (by decide)
      refine own_go (fun tQ kQ => st24 tQ kQ) ?_
      show own_End p e below _ (T24.setTop (mkF m 244 #[.val (.int i0), .val (.long q1), .second, .val (.int (4 : Int32)), .val (.int d1), .val (.int d2), .val (.int d3), .val (.int d4), .val (.int c0), .val (.int c1), .val (.int c2), .val (.int c3), .val (.int c4), .val (.int c5), .unset, .unset] [(.ref ca), (.ref st), (.ref st)]))
      refine own_go (fun tQ kQ => XS.dup X24.here hx rfl (hb hby at_244) rfl rfl kQ) ?_
      show own_End p e below _ (T24.setTop (mkF m 245 #[.val (.int i0), .val (.long q1), .second, .val (.int (4 : Int32)), .val (.int d1), .val (.int d2), .val (.int d3), .val (.int d4), .val (.int c0), .val (.int c1), .val (.int c2), .val (.int c3), .val (.int c4), .val (.int c5), .unset, .unset] [(.ref ca), (.ref ca), (.ref st), (.ref st)]))
      refine own_go (fun tQ kQ => XS.iconst X24.here hx rfl (hb hby at_245) kQ) ?_
      show own_End p e below _ (T24.setTop (mkF m 246 #[.val (.int i0), .val (.long q1), .second, .val (.int (4 : Int32)), .val (.int d1), .val (.int d2), .val (.int d3), .val (.int d4), .val (.int c0), .val (.int c1), .val (.int c2), .val (.int c3), .val (.int c4), .val (.int c5), .unset, .unset] [(.int (0 : Int32)), (.ref ca), (.ref ca), (.ref st), (.ref st)]))
      refine own_go (fun tQ kQ => XS.iload X24.here hx rfl (hb hby at_246) rfl kQ) ?_
      show own_End p e below _ (T24.setTop (mkF m 248 #[.val (.int i0), .val (.long q1), .second, .val (.int (4 : Int32)), .val (.int d1), .val (.int d2), .val (.int d3), .val (.int d4), .val (.int c0), .val (.int c1), .val (.int c2), .val (.int c3), .val (.int c4), .val (.int c5), .unset, .unset] [(.int c0), (.int (0 : Int32)), (.ref ca), (.ref ca), (.ref st), (.ref st)]))
      obtain ⟨cl25, Ar25, S25, M25, H25⟩ := id V_ca
      have hin25 := inb_of (j := (0 : Int32)) S25 ⟨(by decide), (by decide)⟩
      obtain ⟨T26, h26, X26, e26, W26, st26⟩ := stC X24 hx hZ e24 Ar25 (j := (0 : Int32)) hin25 (g := (mkF m 248 #[.val (.int i0), .val (.long q1), .second, .val (.int (4 : Int32)), .val (.int d1), .val (.int d2), .val (.int d3), .val (.int d4), .val (.int c0), .val (.int c1), .val (.int c2), .val (.int c3), .val (.int c4), .val (.int c5), .unset, .unset] [(.int c0), (.int (0 : Int32)), (.ref ca), (.ref ca), (.ref st), (.ref st)])) rfl rfl (hb hby at_248)
      have V_ca := own_Ar_set Ar25 S25 M25 H25 W26
      have Ol := Ol.wr W26 g_ca
      have E_st := E_st.wr W26
      have F_coder_st := F_coder_st.other W26 (Or.inl ne_st_ca)
      have F_value_st := F_value_st.other W26 (Or.inl ne_st_ca)
      have Kp := Kp.wr W26 (Or.inr sz_ca)
      have Nf := Fr.snoc X26 Nf g_ca
      have Zs := Nat.le_trans Zs (Keep.of_wr W26).1
      have szr := Nat.le_trans szr (Keep.of_wr W26).1
      have hkW := Nat.le_trans hkW (Keep.of_wr W26).1
      refine own_go (fun tQ kQ => st26 tQ kQ) ?_
      show own_End p e below _ (T26.setTop (mkF m 249 #[.val (.int i0), .val (.long q1), .second, .val (.int (4 : Int32)), .val (.int d1), .val (.int d2), .val (.int d3), .val (.int d4), .val (.int c0), .val (.int c1), .val (.int c2), .val (.int c3), .val (.int c4), .val (.int c5), .unset, .unset] [(.ref ca), (.ref st), (.ref st)]))
      refine own_go (fun tQ kQ => XS.dup X26.here hx rfl (hb hby at_249) rfl rfl kQ) ?_
      show own_End p e below _ (T26.setTop (mkF m 250 #[.val (.int i0), .val (.long q1), .second, .val (.int (4 : Int32)), .val (.int d1), .val (.int d2), .val (.int d3), .val (.int d4), .val (.int c0), .val (.int c1), .val (.int c2), .val (.int c3), .val (.int c4), .val (.int c5), .unset, .unset] [(.ref ca), (.ref ca), (.ref st), (.ref st)]))
      refine own_go (fun tQ kQ => XS.iconst X26.here hx rfl (hb hby at_250) kQ) ?_
      show own_End p e below _ (T26.setTop (mkF m 251 #[.val (.int i0), .val (.long q1), .second, .val (.int (4 : Int32)), .val (.int d1), .val (.int d2), .val (.int d3), .val (.int d4), .val (.int c0), .val (.int c1), .val (.int c2), .val (.int c3), .val (.int c4), .val (.int c5), .unset, .unset] [(.int (1 : Int32)), (.ref ca), (.ref ca), (.ref st), (.ref st)]))
      refine own_go (fun tQ kQ => XS.iload X26.here hx rfl (hb hby at_251) rfl kQ) ?_
      show own_End p e below _ (T26.setTop (mkF m 253 #[.val (.int i0), .val (.long q1), .second, .val (.int (4 : Int32)), .val (.int d1), .val (.int d2), .val (.int d3), .val (.int d4), .val (.int c0), .val (.int c1), .val (.int c2), .val (.int c3), .val (.int c4), .val (.int c5), .unset, .unset] [(.int c1), (.int (1 : Int32)), (.ref ca), (.ref ca), (.ref st), (.ref st)]))
      obtain ⟨cl27, Ar27, S27, M27, H27⟩ := id V_ca
      have hin27 := inb_of (j := (1 : Int32)) S27 ⟨(by decide), (by decide)⟩
      obtain ⟨T28, h28, X28, e28, W28, st28⟩ := stC X26 hx hZ e26 Ar27 (j := (1 : Int32)) hin27 (g := (mkF m 253 #[.val (.int i0), .val (.long q1), .second, .val (.int (4 : Int32)), .val (.int d1), .val (.int d2), .val (.int d3), .val (.int d4), .val (.int c0), .val (.int c1), .val (.int c2), .val (.int c3), .val (.int c4), .val (.int c5), .unset, .unset] [(.int c1), (.int (1 : Int32)), (.ref ca), (.ref ca), (.ref st), (.ref st)])) rfl rfl (hb hby at_253)
      have V_ca := own_Ar_set Ar27 S27 M27 H27 W28
      have Ol := Ol.wr W28 g_ca
      have E_st := E_st.wr W28
      have F_coder_st := F_coder_st.other W28 (Or.inl ne_st_ca)
      have F_value_st := F_value_st.other W28 (Or.inl ne_st_ca)
      have Kp := Kp.wr W28 (Or.inr sz_ca)
      have Nf := Fr.snoc X28 Nf g_ca
      have Zs := Nat.le_trans Zs (Keep.of_wr W28).1
      have szr := Nat.le_trans szr (Keep.of_wr W28).1
      have hkW := Nat.le_trans hkW (Keep.of_wr W28).1
      refine own_go (fun tQ kQ => st28 tQ kQ) ?_
      show own_End p e below _ (T28.setTop (mkF m 254 #[.val (.int i0), .val (.long q1), .second, .val (.int (4 : Int32)), .val (.int d1), .val (.int d2), .val (.int d3), .val (.int d4), .val (.int c0), .val (.int c1), .val (.int c2), .val (.int c3), .val (.int c4), .val (.int c5), .unset, .unset] [(.ref ca), (.ref st), (.ref st)]))
      refine own_go (fun tQ kQ => XS.dup X28.here hx rfl (hb hby at_254) rfl rfl kQ) ?_
      show own_End p e below _ (T28.setTop (mkF m 255 #[.val (.int i0), .val (.long q1), .second, .val (.int (4 : Int32)), .val (.int d1), .val (.int d2), .val (.int d3), .val (.int d4), .val (.int c0), .val (.int c1), .val (.int c2), .val (.int c3), .val (.int c4), .val (.int c5), .unset, .unset] [(.ref ca), (.ref ca), (.ref st), (.ref st)]))
      refine own_go (fun tQ kQ => XS.iconst X28.here hx rfl (hb hby at_255) kQ) ?_
      show own_End p e below _ (T28.setTop (mkF m 256 #[.val (.int i0), .val (.long q1), .second, .val (.int (4 : Int32)), .val (.int d1), .val (.int d2), .val (.int d3), .val (.int d4), .val (.int c0), .val (.int c1), .val (.int c2), .val (.int c3), .val (.int c4), .val (.int c5), .unset, .unset] [(.int (2 : Int32)), (.ref ca), (.ref ca), (.ref st), (.ref st)]))
      refine own_go (fun tQ kQ => XS.iload X28.here hx rfl (hb hby at_256) rfl kQ) ?_
      show own_End p e below _ (T28.setTop (mkF m 258 #[.val (.int i0), .val (.long q1), .second, .val (.int (4 : Int32)), .val (.int d1), .val (.int d2), .val (.int d3), .val (.int d4), .val (.int c0), .val (.int c1), .val (.int c2), .val (.int c3), .val (.int c4), .val (.int c5), .unset, .unset] [(.int c2), (.int (2 : Int32)), (.ref ca), (.ref ca), (.ref st), (.ref st)]))
      obtain ⟨cl29, Ar29, S29, M29, H29⟩ := id V_ca
      have hin29 := inb_of (j := (2 : Int32)) S29 ⟨(by decide), (by decide)⟩
      obtain ⟨T30, h30, X30, e30, W30, st30⟩ := stC X28 hx hZ e28 Ar29 (j := (2 : Int32)) hin29 (g := (mkF m 258 #[.val (.int i0), .val (.long q1), .second, .val (.int (4 : Int32)), .val (.int d1), .val (.int d2), .val (.int d3), .val (.int d4), .val (.int c0), .val (.int c1), .val (.int c2), .val (.int c3), .val (.int c4), .val (.int c5), .unset, .unset] [(.int c2), (.int (2 : Int32)), (.ref ca), (.ref ca), (.ref st), (.ref st)])) rfl rfl (hb hby at_258)
      have V_ca := own_Ar_set Ar29 S29 M29 H29 W30
      have Ol := Ol.wr W30 g_ca
      have E_st := E_st.wr W30
      have F_coder_st := F_coder_st.other W30 (Or.inl ne_st_ca)
      have F_value_st := F_value_st.other W30 (Or.inl ne_st_ca)
      have Kp := Kp.wr W30 (Or.inr sz_ca)
      have Nf := Fr.snoc X30 Nf g_ca
      have Zs := Nat.le_trans Zs (Keep.of_wr W30).1
      have szr := Nat.le_trans szr (Keep.of_wr W30).1
      have hkW := Nat.le_trans hkW (Keep.of_wr W30).1
      refine own_go (fun tQ kQ => st30 tQ kQ) ?_
      show own_End p e below _ (T30.setTop (mkF m 259 #[.val (.int i0), .val (.long q1), .second, .val (.int (4 : Int32)), .val (.int d1), .val (.int d2), .val (.int d3), .val (.int d4), .val (.int c0), .val (.int c1), .val (.int c2), .val (.int c3), .val (.int c4), .val (.int c5), .unset, .unset] [(.ref ca), (.ref st), (.ref st)]))
      refine own_go (fun tQ kQ => XS.dup X30.here hx rfl (hb hby at_259) rfl rfl kQ) ?_
      show own_End p e below _ (T30.setTop (mkF m 260 #[.val (.int i0), .val (.long q1), .second, .val (.int (4 : Int32)), .val (.int d1), .val (.int d2), .val (.int d3), .val (.int d4), .val (.int c0), .val (.int c1), .val (.int c2), .val (.int c3), .val (.int c4), .val (.int c5), .unset, .unset] [(.ref ca), (.ref ca), (.ref st), (.ref st)]))
      refine own_go (fun tQ kQ => XS.iconst X30.here hx rfl (hb hby at_260) kQ) ?_
      show own_End p e below _ (T30.setTop (mkF m 261 #[.val (.int i0), .val (.long q1), .second, .val (.int (4 : Int32)), .val (.int d1), .val (.int d2), .val (.int d3), .val (.int d4), .val (.int c0), .val (.int c1), .val (.int c2), .val (.int c3), .val (.int c4), .val (.int c5), .unset, .unset] [(.int (3 : Int32)), (.ref ca), (.ref ca), (.ref st), (.ref st)]))
      refine own_go (fun tQ kQ => XS.iload X30.here hx rfl (hb hby at_261) rfl kQ) ?_
      show own_End p e below _ (T30.setTop (mkF m 263 #[.val (.int i0), .val (.long q1), .second, .val (.int (4 : Int32)), .val (.int d1), .val (.int d2), .val (.int d3), .val (.int d4), .val (.int c0), .val (.int c1), .val (.int c2), .val (.int c3), .val (.int c4), .val (.int c5), .unset, .unset] [(.int c3), (.int (3 : Int32)), (.ref ca), (.ref ca), (.ref st), (.ref st)]))
      obtain ⟨cl31, Ar31, S31, M31, H31⟩ := id V_ca
      have hin31 := inb_of (j := (3 : Int32)) S31 ⟨(by decide), (by decide)⟩
      obtain ⟨T32, h32, X32, e32, W32, st32⟩ := stC X30 hx hZ e30 Ar31 (j := (3 : Int32)) hin31 (g := (mkF m 263 #[.val (.int i0), .val (.long q1), .second, .val (.int (4 : Int32)), .val (.int d1), .val (.int d2), .val (.int d3), .val (.int d4), .val (.int c0), .val (.int c1), .val (.int c2), .val (.int c3), .val (.int c4), .val (.int c5), .unset, .unset] [(.int c3), (.int (3 : Int32)), (.ref ca), (.ref ca), (.ref st), (.ref st)])) rfl rfl (hb hby at_263)
      have V_ca := own_Ar_set Ar31 S31 M31 H31 W32
      have Ol := Ol.wr W32 g_ca
      have E_st := E_st.wr W32
      have F_coder_st := F_coder_st.other W32 (Or.inl ne_st_ca)
      have F_value_st := F_value_st.other W32 (Or.inl ne_st_ca)
      have Kp := Kp.wr W32 (Or.inr sz_ca)
      have Nf := Fr.snoc X32 Nf g_ca
      have Zs := Nat.le_trans Zs (Keep.of_wr W32).1
      have szr := Nat.le_trans szr (Keep.of_wr W32).1
      have hkW := Nat.le_trans hkW (Keep.of_wr W32).1
      refine own_go (fun tQ kQ => st32 tQ kQ) ?_
      show own_End p e below _ (T32.setTop (mkF m 264 #[.val (.int i0), .val (.long q1), .second, .val (.int (4 : Int32)), .val (.int d1), .val (.int d2), .val (.int d3), .val (.int d4), .val (.int c0), .val (.int c1), .val (.int c2), .val (.int c3), .val (.int c4), .val (.int c5), .unset, .unset] [(.ref ca), (.ref st), (.ref st)]))
      have hcc : ∀ c ∈ ([c0, c1, c2, c3] : List Int32), own_c c := by
        intro c hc
        simp only [List.mem_cons, List.not_mem_nil, or_false] at hc
        rcases hc with rfl | rfl | rfl | rfl
        · exact G0
        · exact G1
        · exact G2
        · exact G3
      obtain ⟨kca, V_ca⟩ := V_ca.arv (vs := ([c0, c1, c2, c3] : List Int32).map Value.int) (d := .int (0 : Int32)) (fun j hj => by
        have hj' : j < 4 := hj
        have hj2 : j = 0 ∨ j = 1 ∨ j = 2 ∨ j = 3 := by omega
        rcases hj2 with rfl | rfl | rfl | rfl
        · show Value.int (nar .char c0) = Value.int c0; rw [own_c_nar G0]
        · show Value.int (nar .char c1) = Value.int c1; rw [own_c_nar G1]
        · show Value.int (nar .char c2) = Value.int c2; rw [own_c_nar G2]
        · show Value.int (nar .char c3) = Value.int c3; rw [own_c_nar G3]) (fun j hj => by
        have hj' : j < 4 := hj
        have hj2 : j = 0 ∨ j = 1 ∨ j = 2 ∨ j = 3 := by omega
        rcases hj2 with rfl | rfl | rfl | rfl
        · exact own_fit G0
        · exact own_fit G1
        · exact own_fit G2
        · exact own_fit G3)
      obtain ⟨_, _, ⟨T33, L33, k33, n33⟩, -, X33, ⟨Lc33, hQ33, l33, y33, z33⟩, st33⟩ := X32.specialBack hx (y := (⟨"java/lang/String", "<init>", "([C)V"⟩ : MethodName)) rfl hown (mvT hZ (hw _ (List.mem_of_getElem? (i := 12) rfl))) (mvT hZ (hw _ (List.mem_of_getElem? (i := 13) rfl))) (mvT hZ (hw _ (List.mem_of_getElem? (i := 14) rfl))) (by decide) (StrChars.Road.backV (W := 1) hZ hws (kI := 4) (hw _ (List.mem_of_getElem? (i := 9) rfl)) (cs := ([c0, c1, c2, c3] : List Int32)) (bs := ([c0, c1, c2, c3] : List Int32).map (fun c => c.toInt8.toInt32)) (n := 4) g_st Zs E_st F_value_st F_coder_st V_ca (S_cs.ext Ol.2) hcz rfl rfl (by decide) (by decide) (fun c hc => own_c_b (hcc c hc)) rfl (by decide) (by decide)) (g := (mkF m 264 #[.val (.int i0), .val (.long q1), .second, .val (.int (4 : Int32)), .val (.int d1), .val (.int d2), .val (.int d3), .val (.int d4), .val (.int c0), .val (.int c1), .val (.int c2), .val (.int c3), .val (.int c4), .val (.int c5), .unset, .unset] [(.ref ca), (.ref st), (.ref st)])) rfl (by rw [hml]; rfl) (Steps.refl _) (a := st) (argsL := [(.ref ca)]) (rest := [(.ref st)]) (lenOf pd_20 rfl) rfl (by show 2 * 0 + _ ≤ _; exact Nat.le_of_eq rfl) (hb hby at_264) (fun _ _ => ⟨rfl, e32, (Nat.le_of_ble_eq_true rfl), (Nat.le_of_ble_eq_true rfl)⟩)
      dsimp only [Pt.U, Pt.locs, Pt.cells, Pt.slots] at X33 l33 y33 z33 st33 hQ33
      subst l33 y33 z33
      obtain ⟨rfl, N33q, K33, -, F_coder_st, tt, kb, -, hb33, -, F_value_st, Kv⟩ := hQ33
      have Nf := Fr.app Nf N33q
      have ne_st_tt : st ≠ tt := Nat.ne_of_lt (Nat.lt_of_lt_of_le E_st.lt hb33)
      have ne_ca_tt : ca ≠ tt := Nat.ne_of_lt (Nat.lt_of_lt_of_le V_ca.lt hb33)
      have g_tt : n0 ≤ tt := Nat.le_trans Zs hb33
      have sz_tt : h0.size ≤ tt := Nat.le_trans szr hb33
      have Ol := Ol.keep K33 (allS g_st all0)
      have E_st := E_st.keep K33
      have V_ca := V_ca.keep K33 (ninS (Ne.symm ne_st_ca) nin0)
      have Kp := Kp.trans K33 (allS (Or.inr sz_st) all0)
      have Zs := Nat.le_trans Zs K33.1
      have szr := Nat.le_trans szr K33.1
      have hkW := Nat.le_trans hkW K33.1
      refine own_go (fun tQ kQ => st33.trans kQ) ?_
      show own_End p e below _ (T33.setTop (mkF m 267 #[.val (.int i0), .val (.long q1), .second, .val (.int (4 : Int32)), .val (.int d1), .val (.int d2), .val (.int d3), .val (.int d4), .val (.int c0), .val (.int c1), .val (.int c2), .val (.int c3), .val (.int c4), .val (.int c5), .unset, .unset] [(.ref st)]))
      have V_tt := (own_Ar.of_arv Kv).turn (g := fun j => .int ((fun j => (([c0, c1, c2, c3] : List Int32).getD j 0).toInt8.toInt32) j)) (fun j hj => by
        have hj' : j < 4 := hj
        have hj2 : j = 0 ∨ j = 1 ∨ j = 2 ∨ j = 3 := by omega
        rcases hj2 with rfl | rfl | rfl | rfl <;> rfl)
      refine own_go (fun tQ kQ => XS.astore X33.here hx rfl (hb hby at_267) rfl rfl (l' := #[.val (.int i0), .val (.long q1), .second, .val (.int (4 : Int32)), .val (.int d1), .val (.int d2), .val (.int d3), .val (.int d4), .val (.int c0), .val (.int c1), .val (.int c2), .val (.int c3), .val (.int c4), .val (.int c5), .val (.ref st), .unset]) rfl kQ) ?_
      show own_End p e below _ (T33.setTop (mkF m 269 #[.val (.int i0), .val (.long q1), .second, .val (.int (4 : Int32)), .val (.int d1), .val (.int d2), .val (.int d3), .val (.int d4), .val (.int c0), .val (.int c1), .val (.int c2), .val (.int c3), .val (.int c4), .val (.int c5), .val (.ref st), .unset] []))
      refine own_go (fun tQ kQ => XS.goto X33.here hx rfl (pc0 := 269) (pc' := 360) rfl (hb hby at_269) (by decide) (by decide) kQ) ?_
      show own_End p e below _ (T33.setTop (mkF m 360 #[.val (.int i0), .val (.long q1), .second, .val (.int (4 : Int32)), .val (.int d1), .val (.int d2), .val (.int d3), .val (.int d4), .val (.int c0), .val (.int c1), .val (.int c2), .val (.int c3), .val (.int c4), .val (.int c5), .val (.ref st), .unset] []))
      exact J360_4 st tt (4 : Int32) (fun j => (([c0, c1, c2, c3] : List Int32).getD j 0).toInt8.toInt32) (fun j => ([c0, c1, c2, c3] : List Int32).getD j 0) 4 d1 d2 d3 d4 c0 c1 c2 c3 c4 c5 T33 _ T33.heap _ _ X33 rfl Nf Zs Kp szr hS hkW hZ hown E_st F_value_st F_coder_st V_tt Ol (by decide) (fun j hj => by
        have hj2 : j = 0 ∨ j = 1 ∨ j = 2 ∨ j = 3 := by omega
        rcases hj2 with rfl | rfl | rfl | rfl
        · exact own_ch_of (own_c_b G0).1 (own_c_b G0).2
        · exact own_ch_of (own_c_b G1).1 (own_c_b G1).2
        · exact own_ch_of (own_c_b G2).1 (own_c_b G2).2
        · exact own_ch_of (own_c_b G3).1 (own_c_b G3).2) (own_val4 H1 H2 H3 H4 HX K1 K2 K3 K4 S0 S5)
    ·
      show own_End p e below _ (T13.setTop (mkF m 197 #[.val (.int i0), .val (.long q1), .second, .val (.int (5 : Int32)), .val (.int d1), .val (.int d2), .val (.int d3), .val (.int d4), .val (.int c0), .val (.int c1), .val (.int c2), .val (.int c3), .val (.int c4), .val (.int c5), .unset, .unset] []))
      refine own_go (fun tQ kQ => XS.iloadN X13.here hx rfl (hb hby at_197) rfl kQ) ?_
      show own_End p e below _ (T13.setTop (mkF m 198 #[.val (.int i0), .val (.long q1), .second, .val (.int (5 : Int32)), .val (.int d1), .val (.int d2), .val (.int d3), .val (.int d4), .val (.int c0), .val (.int c1), .val (.int c2), .val (.int c3), .val (.int c4), .val (.int c5), .unset, .unset] [(.int (5 : Int32))]))
      refine own_go (fun tQ kQ => XS.iconst X13.here hx rfl (hb hby at_198) kQ) ?_
      show own_End p e below _ (T13.setTop (mkF m 199 #[.val (.int i0), .val (.long q1), .second, .val (.int (5 : Int32)), .val (.int d1), .val (.int d2), .val (.int d3), .val (.int d4), .val (.int c0), .val (.int c1), .val (.int c2), .val (.int c3), .val (.int c4), .val (.int c5), .unset, .unset] [(.int (3 : Int32)), (.int (5 : Int32))]))
      refine own_go (fun tQ kQ => XS.icmpYes X13.here hx rfl (pc0 := 199) (pc' := 232) rfl (hb hby at_199) rfl (feq (by decide)).2 (by decide) (by decide) kQ) ?_
      show own_End p e below _ (T13.setTop (mkF m 232 #[.val (.int i0), .val (.long q1), .second, .val (.int (5 : Int32)), .val (.int d1), .val (.int d2), .val (.int d3), .val (.int d4), .val (.int c0), .val (.int c1), .val (.int c2), .val (.int c3), .val (.int c4), .val (.int c5), .unset, .unset] []))
      refine own_go (fun tQ kQ => XS.iloadN X13.here hx rfl (hb hby at_232) rfl kQ) ?_
      show own_End p e below _ (T13.setTop (mkF m 233 #[.val (.int i0), .val (.long q1), .second, .val (.int (5 : Int32)), .val (.int d1), .val (.int d2), .val (.int d3), .val (.int d4), .val (.int c0), .val (.int c1), .val (.int c2), .val (.int c3), .val (.int c4), .val (.int c5), .unset, .unset] [(.int (5 : Int32))]))
      refine own_go (fun tQ kQ => XS.iconst X13.here hx rfl (hb hby at_233) kQ) ?_
      show own_End p e below _ (T13.setTop (mkF m 234 #[.val (.int i0), .val (.long q1), .second, .val (.int (5 : Int32)), .val (.int d1), .val (.int d2), .val (.int d3), .val (.int d4), .val (.int c0), .val (.int c1), .val (.int c2), .val (.int c3), .val (.int c4), .val (.int c5), .unset, .unset] [(.int (4 : Int32)), (.int (5 : Int32))]))
      refine own_go (fun tQ kQ => XS.icmpYes X13.here hx rfl (pc0 := 234) (pc' := 272) rfl (hb hby at_234) rfl (feq (by decide)).2 (by decide) (by decide) kQ) ?_
      show own_End p e below _ (T13.setTop (mkF m 272 #[.val (.int i0), .val (.long q1), .second, .val (.int (5 : Int32)), .val (.int d1), .val (.int d2), .val (.int d3), .val (.int d4), .val (.int c0), .val (.int c1), .val (.int c2), .val (.int c3), .val (.int c4), .val (.int c5), .unset, .unset] []))
      refine own_go (fun tQ kQ => XS.iloadN X13.here hx rfl (hb hby at_272) rfl kQ) ?_
      show own_End p e below _ (T13.setTop (mkF m 273 #[.val (.int i0), .val (.long q1), .second, .val (.int (5 : Int32)), .val (.int d1), .val (.int d2), .val (.int d3), .val (.int d4), .val (.int c0), .val (.int c1), .val (.int c2), .val (.int c3), .val (.int c4), .val (.int c5), .unset, .unset] [(.int (5 : Int32))]))
      refine own_go (fun tQ kQ => XS.iconst X13.here hx rfl (hb hby at_273) kQ) ?_
      show own_End p e below _ (T13.setTop (mkF m 274 #[.val (.int i0), .val (.long q1), .second, .val (.int (5 : Int32)), .val (.int d1), .val (.int d2), .val (.int d3), .val (.int d4), .val (.int c0), .val (.int c1), .val (.int c2), .val (.int c3), .val (.int c4), .val (.int c5), .unset, .unset] [(.int (5 : Int32)), (.int (5 : Int32))]))
      refine own_go (fun tQ kQ => XS.icmpNo X13.here hx rfl (hb hby at_274) rfl (teq (by decide)).2 kQ) ?_
      show own_End p e below _ (T13.setTop (mkF m 277 #[.val (.int i0), .val (.long q1), .second, .val (.int (5 : Int32)), .val (.int d1), .val (.int d2), .val (.int d3), .val (.int d4), .val (.int c0), .val (.int c1), .val (.int c2), .val (.int c3), .val (.int c4), .val (.int c5), .unset, .unset] []))
      obtain ⟨T34, h34, X34, e34, E34, A34, D34, -, st34⟩ := newO X13 hx hZ hown (hw _ (List.mem_of_getElem? (i := 8) rfl)) (hw _ (List.mem_of_getElem? (i := 9) rfl)) (hw _ (List.mem_of_getElem? (i := 10) rfl)) e13 (g := (mkF m 277 #[.val (.int i0), .val (.long q1), .second, .val (.int (5 : Int32)), .val (.int d1), .val (.int d2), .val (.int d3), .val (.int d4), .val (.int c0), .val (.int c1), .val (.int c2), .val (.int c3), .val (.int c4), .val (.int c5), .unset, .unset] [])) rfl (hb hby at_277) (by decide) (by decide)
      obtain ⟨st, g34⟩ : ∃ z, z = h.size := ⟨_, rfl⟩
      rw [← g34] at A34 D34 st34
      have g_st : n0 ≤ st := Nat.le_trans Zs (Nat.le_of_eq g34.symm)
      have sz_st : h0.size ≤ st := Nat.le_trans szr (Nat.le_of_eq g34.symm)
      have Ol := Ol.ext E34
      have Kp := Kp.ext E34
      have Zs := Nat.le_trans Zs E34.1
      have szr := Nat.le_trans szr E34.1
      have hkW := Nat.le_trans hkW E34.1
      have E_st := A34
      have F_coder_st : Fld Z h34 st "java/lang/String" "coder" "B" (.int (0 : Int32)) := D34 (Or.inr (hw _ (List.mem_of_getElem? (i := 35) rfl))) (ty := .byte) (by decide)
      have F_value_st : Fld Z h34 st "java/lang/String" "value" "[B" .null := D34 (Or.inr (hw _ (List.mem_of_getElem? (i := 37) rfl))) (ty := (.array .byte)) (by decide)
      refine own_go (fun tQ kQ => st34 tQ kQ) ?_
      show own_End p e below _ (T34.setTop (mkF m 280 #[.val (.int i0), .val (.long q1), .second, .val (.int (5 : Int32)), .val (.int d1), .val (.int d2), .val (.int d3), .val (.int d4), .val (.int c0), .val (.int c1), .val (.int c2), .val (.int c3), .val (.int c4), .val (.int c5), .unset, .unset] [(.ref st)]))
      refine own_go (fun tQ kQ => XS.dup X34.here hx rfl (hb hby at_280) rfl rfl kQ) ?_
      show own_End p e below _ (T34.setTop (mkF m 281 #[.val (.int i0), .val (.long q1), .second, .val (.int (5 : Int32)), .val (.int d1), .val (.int d2), .val (.int d3), .val (.int d4), .val (.int c0), .val (.int c1), .val (.int c2), .val (.int c3), .val (.int c4), .val (.int c5), .unset, .unset] [(.ref st), (.ref st)]))
      refine own_go (fun tQ kQ => XS.iconst X34.here hx rfl (hb hby at_281) kQ) ?_
      show own_End p e below _ (T34.setTop (mkF m 282 #[.val (.int i0), .val (.long q1), .second, .val (.int (5 : Int32)), .val (.int d1), .val (.int d2), .val (.int d3), .val (.int d4), .val (.int c0), .val (.int c1), .val (.int c2), .val (.int c3), .val (.int c4), .val (.int c5), .unset, .unset] [(.int (5 : Int32)), (.ref st), (.ref st)]))
      obtain ⟨T35, h35, k35, X35, e35, E35, A35, st35⟩ := newP X34 hx hZ (hw _ (List.mem_of_getElem? (i := 11) rfl)) e34 (g := (mkF m 282 #[.val (.int i0), .val (.long q1), .second, .val (.int (5 : Int32)), .val (.int d1), .val (.int d2), .val (.int d3), .val (.int d4), .val (.int c0), .val (.int c1), .val (.int c2), .val (.int c3), .val (.int c4), .val (.int c5), .unset, .unset] [(.int (5 : Int32)), (.ref st), (.ref st)])) rfl (hb hby at_282) rfl (by decide) (cap := 5) (by decide) (by decide) (by decide) (by decide)
      obtain ⟨ca, g35⟩ : ∃ z, z = h34.size := ⟨_, rfl⟩
      rw [← g35] at A35 st35
      have ne_st_ca : st ≠ ca := Nat.ne_of_lt (Nat.lt_of_lt_of_le E_st.lt (Nat.le_of_eq g35.symm))
      have g_ca : n0 ≤ ca := Nat.le_trans Zs (Nat.le_of_eq g35.symm)
      have sz_ca : h0.size ≤ ca := Nat.le_trans szr (Nat.le_of_eq g35.symm)
      have Ol := Ol.ext E35
      have E_st := E_st.ext E35
      have F_coder_st := F_coder_st.ext E35
      have F_value_st := F_value_st.ext E35
      have Kp := Kp.ext E35
      have Zs := Nat.le_trans Zs E35.1
      have szr := Nat.le_trans szr E35.1
      have hkW := Nat.le_trans hkW E35.1
      have V_ca : own_Ar Z h35 ca .char (5 : Int32) (fun _ => (.int (0 : Int32))) := own_Ar.new A35 (by decide)
      refine own_go (fun tQ kQ => st35 tQ kQ) ?_
      show own_End p e below _ (T35.setTop (mkF m 284 #[.val (.int i0), .val (.long q1), .second, .val (.int (5 : Int32)), .val (.int d1), .val (.int d2), .val (.int d3), .val (.int d4), .val (.int c0), .val (.int c1), .val (.int c2), .val (.int c3), .val (.int c4), .val (.int c5), .unset, .unset] [(.ref ca), (.ref st), (.ref st)]))
      refine own_go (fun tQ kQ => XS.dup X35.here hx rfl (hb hby at_284) rfl rfl kQ) ?_
      show own_End p e below _ (T35.setTop (mkF m 285 #[.val (.int i0), .val (.long q1), .second, .val (.int (5 : Int32)), .val (.int d1), .val (.int d2), .val (.int d3), .val (.int d4), .val (.int c0), .val (.int c1), .val (.int c2), .val (.int c3), .val (.int c4), .val (.int c5), .unset, .unset] [(.ref ca), (.ref ca), (.ref st), (.ref st)]))
      refine own_go (fun tQ kQ => XS.iconst X35.here hx rfl (hb hby at_285) kQ) ?_
      show own_End p e below _ (T35.setTop (mkF m 286 #[.val (.int i0), .val (.long q1), .second, .val (.int (5 : Int32)), .val (.int d1), .val (.int d2), .val (.int d3), .val (.int d4), .val (.int c0), .val (.int c1), .val (.int c2), .val (.int c3), .val (.int c4), .val (.int c5), .unset, .unset] [(.int (0 : Int32)), (.ref ca), (.ref ca), (.ref st), (.ref st)]))
      refine own_go (fun tQ kQ => XS.iload X35.here hx rfl (hb hby at_286) rfl kQ) ?_
      show own_End p e below _ (T35.setTop (mkF m 288 #[.val (.int i0), .val (.long q1), .second, .val (.int (5 : Int32)), .val (.int d1), .val (.int d2), .val (.int d3), .val (.int d4), .val (.int c0), .val (.int c1), .val (.int c2), .val (.int c3), .val (.int c4), .val (.int c5), .unset, .unset] [(.int c0), (.int (0 : Int32)), (.ref ca), (.ref ca), (.ref st), (.ref st)]))
      obtain ⟨cl36, Ar36, S36, M36, H36⟩ := id V_ca
      have hin36 := inb_of (j := (0 : Int32)) S36 ⟨(by decide), (by decide)⟩
      obtain ⟨T37, h37, X37, e37, W37, st37⟩ := stC X35 hx hZ e35 Ar36 (j := (0 : Int32)) hin36 (g := (mkF m 288 #[.val (.int i0), .val (.long q1), .second, .val (.int (5 : Int32)), .val (.int d1), .val (.int d2), .val (.int d3), .val (.int d4), .val (.int c0), .val (.int c1), .val (.int c2), .val (.int c3), .val (.int c4), .val (.int c5), .unset, .unset] [(.int c0), (.int (0 : Int32)), (.ref ca), (.ref ca), (.ref st), (.ref st)])) rfl rfl (hb hby at_288)
      have V_ca := own_Ar_set Ar36 S36 M36 H36 W37
      have Ol := Ol.wr W37 g_ca
      have E_st := E_st.wr W37
      have F_coder_st := F_coder_st.other W37 (Or.inl ne_st_ca)
      have F_value_st := F_value_st.other W37 (Or.inl ne_st_ca)
      have Kp := Kp.wr W37 (Or.inr sz_ca)
      have Nf := Fr.snoc X37 Nf g_ca
      have Zs := Nat.le_trans Zs (Keep.of_wr W37).1
      have szr := Nat.le_trans szr (Keep.of_wr W37).1
      have hkW := Nat.le_trans hkW (Keep.of_wr W37).1
      refine own_go (fun tQ kQ => st37 tQ kQ) ?_
      show own_End p e below _ (T37.setTop (mkF m 289 #[.val (.int i0), .val (.long q1), .second, .val (.int (5 : Int32)), .val (.int d1), .val (.int d2), .val (.int d3), .val (.int d4), .val (.int c0), .val (.int c1), .val (.int c2), .val (.int c3), .val (.int c4), .val (.int c5), .unset, .unset] [(.ref ca), (.ref st), (.ref st)]))
      refine own_go (fun tQ kQ => XS.dup X37.here hx rfl (hb hby at_289) rfl rfl kQ) ?_
      show own_End p e below _ (T37.setTop (mkF m 290 #[.val (.int i0), .val (.long q1), .second, .val (.int (5 : Int32)), .val (.int d1), .val (.int d2), .val (.int d3), .val (.int d4), .val (.int c0), .val (.int c1), .val (.int c2), .val (.int c3), .val (.int c4), .val (.int c5), .unset, .unset] [(.ref ca), (.ref ca), (.ref st), (.ref st)]))
      refine own_go (fun tQ kQ => XS.iconst X37.here hx rfl (hb hby at_290) kQ) ?_
      show own_End p e below _ (T37.setTop (mkF m 291 #[.val (.int i0), .val (.long q1), .second, .val (.int (5 : Int32)), .val (.int d1), .val (.int d2), .val (.int d3), .val (.int d4), .val (.int c0), .val (.int c1), .val (.int c2), .val (.int c3), .val (.int c4), .val (.int c5), .unset, .unset] [(.int (1 : Int32)), (.ref ca), (.ref ca), (.ref st), (.ref st)]))
      refine own_go (fun tQ kQ => XS.iload X37.here hx rfl (hb hby at_291) rfl kQ) ?_
      show own_End p e below _ (T37.setTop (mkF m 293 #[.val (.int i0), .val (.long q1), .second, .val (.int (5 : Int32)), .val (.int d1), .val (.int d2), .val (.int d3), .val (.int d4), .val (.int c0), .val (.int c1), .val (.int c2), .val (.int c3), .val (.int c4), .val (.int c5), .unset, .unset] [(.int c1), (.int (1 : Int32)), (.ref ca), (.ref ca), (.ref st), (.ref st)]))
      obtain ⟨cl38, Ar38, S38, M38, H38⟩ := id V_ca
      have hin38 := inb_of (j := (1 : Int32)) S38 ⟨(by decide), (by decide)⟩
      obtain ⟨T39, h39, X39, e39, W39, st39⟩ := stC X37 hx hZ e37 Ar38 (j := (1 : Int32)) hin38 (g := (mkF m 293 #[.val (.int i0), .val (.long q1), .second, .val (.int (5 : Int32)), .val (.int d1), .val (.int d2), .val (.int d3), .val (.int d4), .val (.int c0), .val (.int c1), .val (.int c2), .val (.int c3), .val (.int c4), .val (.int c5), .unset, .unset] [(.int c1), (.int (1 : Int32)), (.ref ca), (.ref ca), (.ref st), (.ref st)])) rfl rfl (hb hby at_293)
      have V_ca := own_Ar_set Ar38 S38 M38 H38 W39
      have Ol := Ol.wr W39 g_ca
      have E_st := E_st.wr W39
      have F_coder_st := F_coder_st.other W39 (Or.inl ne_st_ca)
      have F_value_st := F_value_st.other W39 (Or.inl ne_st_ca)
      have Kp := Kp.wr W39 (Or.inr sz_ca)
      have Nf := Fr.snoc X39 Nf g_ca
      have Zs := Nat.le_trans Zs (Keep.of_wr W39).1
      have szr := Nat.le_trans szr (Keep.of_wr W39).1
      have hkW := Nat.le_trans hkW (Keep.of_wr W39).1
      refine own_go (fun tQ kQ => st39 tQ kQ) ?_
      show own_End p e below _ (T39.setTop (mkF m 294 #[.val (.int i0), .val (.long q1), .second, .val (.int (5 : Int32)), .val (.int d1), .val (.int d2), .val (.int d3), .val (.int d4), .val (.int c0), .val (.int c1), .val (.int c2), .val (.int c3), .val (.int c4), .val (.int c5), .unset, .unset] [(.ref ca), (.ref st), (.ref st)]))
      refine own_go (fun tQ kQ => XS.dup X39.here hx rfl (hb hby at_294) rfl rfl kQ) ?_
      show own_End p e below _ (T39.setTop (mkF m 295 #[.val (.int i0), .val (.long q1), .second, .val (.int (5 : Int32)), .val (.int d1), .val (.int d2), .val (.int d3), .val (.int d4), .val (.int c0), .val (.int c1), .val (.int c2), .val (.int c3), .val (.int c4), .val (.int c5), .unset, .unset] [(.ref ca), (.ref ca), (.ref st), (.ref st)]))
      refine own_go (fun tQ kQ => XS.iconst X39.here hx rfl (hb hby at_295) kQ) ?_
      show own_End p e below _ (T39.setTop (mkF m 296 #[.val (.int i0), .val (.long q1), .second, .val (.int (5 : Int32)), .val (.int d1), .val (.int d2), .val (.int d3), .val (.int d4), .val (.int c0), .val (.int c1), .val (.int c2), .val (.int c3), .val (.int c4), .val (.int c5), .unset, .unset] [(.int (2 : Int32)), (.ref ca), (.ref ca), (.ref st), (.ref st)]))
      refine own_go (fun tQ kQ => XS.iload X39.here hx rfl (hb hby at_296) rfl kQ) ?_
      show own_End p e below _ (T39.setTop (mkF m 298 #[.val (.int i0), .val (.long q1), .second, .val (.int (5 : Int32)), .val (.int d1), .val (.int d2), .val (.int d3), .val (.int d4), .val (.int c0), .val (.int c1), .val (.int c2), .val (.int c3), .val (.int c4), .val (.int c5), .unset, .unset] [(.int c2), (.int (2 : Int32)), (.ref ca), (.ref ca), (.ref st), (.ref st)]))
      obtain ⟨cl40, Ar40, S40, M40, H40⟩ := id V_ca
      have hin40 := inb_of (j := (2 : Int32)) S40 ⟨(by decide), (by decide)⟩
      obtain ⟨T41, h41, X41, e41, W41, st41⟩ := stC X39 hx hZ e39 Ar40 (j := (2 : Int32)) hin40 (g := (mkF m 298 #[.val (.int i0), .val (.long q1), .second, .val (.int (5 : Int32)), .val (.int d1), .val (.int d2), .val (.int d3), .val (.int d4), .val (.int c0), .val (.int c1), .val (.int c2), .val (.int c3), .val (.int c4), .val (.int c5), .unset, .unset] [(.int c2), (.int (2 : Int32)), (.ref ca), (.ref ca), (.ref st), (.ref st)])) rfl rfl (hb hby at_298)
      have V_ca := own_Ar_set Ar40 S40 M40 H40 W41
      have Ol := Ol.wr W41 g_ca
      have E_st := E_st.wr W41
      have F_coder_st := F_coder_st.other W41 (Or.inl ne_st_ca)
      have F_value_st := F_value_st.other W41 (Or.inl ne_st_ca)
      have Kp := Kp.wr W41 (Or.inr sz_ca)
      have Nf := Fr.snoc X41 Nf g_ca
      have Zs := Nat.le_trans Zs (Keep.of_wr W41).1
      have szr := Nat.le_trans szr (Keep.of_wr W41).1
      have hkW := Nat.le_trans hkW (Keep.of_wr W41).1
      refine own_go (fun tQ kQ => st41 tQ kQ) ?_
      show own_End p e below _ (T41.setTop (mkF m 299 #[.val (.int i0), .val (.long q1), .second, .val (.int (5 : Int32)), .val (.int d1), .val (.int d2), .val (.int d3), .val (.int d4), .val (.int c0), .val (.int c1), .val (.int c2), .val (.int c3), .val (.int c4), .val (.int c5), .unset, .unset] [(.ref ca), (.ref st), (.ref st)]))
      refine own_go (fun tQ kQ => XS.dup X41.here hx rfl (hb hby at_299) rfl rfl kQ) ?_
      show own_End p e below _ (T41.setTop (mkF m 300 #[.val (.int i0), .val (.long q1), .second, .val (.int (5 : Int32)), .val (.int d1), .val (.int d2), .val (.int d3), .val (.int d4), .val (.int c0), .val (.int c1), .val (.int c2), .val (.int c3), .val (.int c4), .val (.int c5), .unset, .unset] [(.ref ca), (.ref ca), (.ref st), (.ref st)]))
      refine own_go (fun tQ kQ => XS.iconst X41.here hx rfl (hb hby at_300) kQ) ?_
      show own_End p e below _ (T41.setTop (mkF m 301 #[.val (.int i0), .val (.long q1), .second, .val (.int (5 : Int32)), .val (.int d1), .val (.int d2), .val (.int d3), .val (.int d4), .val (.int c0), .val (.int c1), .val (.int c2), .val (.int c3), .val (.int c4), .val (.int c5), .unset, .unset] [(.int (3 : Int32)), (.ref ca), (.ref ca), (.ref st), (.ref st)]))
      refine own_go (fun tQ kQ => XS.iload X41.here hx rfl (hb hby at_301) rfl kQ) ?_
      show own_End p e below _ (T41.setTop (mkF m 303 #[.val (.int i0), .val (.long q1), .second, .val (.int (5 : Int32)), .val (.int d1), .val (.int d2), .val (.int d3), .val (.int d4), .val (.int c0), .val (.int c1), .val (.int c2), .val (.int c3), .val (.int c4), .val (.int c5), .unset, .unset] [(.int c3), (.int (3 : Int32)), (.ref ca), (.ref ca), (.ref st), (.ref st)]))
      obtain ⟨cl42, Ar42, S42, M42, H42⟩ := id V_ca
      have hin42 := inb_of (j := (3 : Int32)) S42 ⟨(by decide), (by decide)⟩
      obtain ⟨T43, h43, X43, e43, W43, st43⟩ := stC X41 hx hZ e41 Ar42 (j := (3 : Int32)) hin42 (g := (mkF m 303 #[.val (.int i0), .val (.long q1), .second, .val (.int (5 : Int32)), .val (.int d1), .val (.int d2), .val (.int d3), .val (.int d4), .val (.int c0), .val (.int c1), .val (.int c2), .val (.int c3), .val (.int c4), .val (.int c5), .unset, .unset] [(.int c3), (.int (3 : Int32)), (.ref ca), (.ref ca), (.ref st), (.ref st)])) rfl rfl (hb hby at_303)
      have V_ca := own_Ar_set Ar42 S42 M42 H42 W43
      have Ol := Ol.wr W43 g_ca
      have E_st := E_st.wr W43
      have F_coder_st := F_coder_st.other W43 (Or.inl ne_st_ca)
      have F_value_st := F_value_st.other W43 (Or.inl ne_st_ca)
      have Kp := Kp.wr W43 (Or.inr sz_ca)
      have Nf := Fr.snoc X43 Nf g_ca
      have Zs := Nat.le_trans Zs (Keep.of_wr W43).1
      have szr := Nat.le_trans szr (Keep.of_wr W43).1
      have hkW := Nat.le_trans hkW (Keep.of_wr W43).1
      refine own_go (fun tQ kQ => st43 tQ kQ) ?_
      show own_End p e below _ (T43.setTop (mkF m 304 #[.val (.int i0), .val (.long q1), .second, .val (.int (5 : Int32)), .val (.int d1), .val (.int d2), .val (.int d3), .val (.int d4), .val (.int c0), .val (.int c1), .val (.int c2), .val (.int c3), .val (.int c4), .val (.int c5), .unset, .unset] [(.ref ca), (.ref st), (.ref st)]))
      refine own_go (fun tQ kQ => XS.dup X43.here hx rfl (hb hby at_304) rfl rfl kQ) ?_
      show own_End p e below _ (T43.setTop (mkF m 305 #[.val (.int i0), .val (.long q1), .second, .val (.int (5 : Int32)), .val (.int d1), .val (.int d2), .val (.int d3), .val (.int d4), .val (.int c0), .val (.int c1), .val (.int c2), .val (.int c3), .val (.int c4), .val (.int c5), .unset, .unset] [(.ref ca), (.ref ca), (.ref st), (.ref st)]))
      refine own_go (fun tQ kQ => XS.iconst X43.here hx rfl (hb hby at_305) kQ) ?_
      show own_End p e below _ (T43.setTop (mkF m 306 #[.val (.int i0), .val (.long q1), .second, .val (.int (5 : Int32)), .val (.int d1), .val (.int d2), .val (.int d3), .val (.int d4), .val (.int c0), .val (.int c1), .val (.int c2), .val (.int c3), .val (.int c4), .val (.int c5), .unset, .unset] [(.int (4 : Int32)), (.ref ca), (.ref ca), (.ref st), (.ref st)]))
      refine own_go (fun tQ kQ => XS.iload X43.here hx rfl (hb hby at_306) rfl kQ) ?_
      show own_End p e below _ (T43.setTop (mkF m 308 #[.val (.int i0), .val (.long q1), .second, .val (.int (5 : Int32)), .val (.int d1), .val (.int d2), .val (.int d3), .val (.int d4), .val (.int c0), .val (.int c1), .val (.int c2), .val (.int c3), .val (.int c4), .val (.int c5), .unset, .unset] [(.int c4), (.int (4 : Int32)), (.ref ca), (.ref ca), (.ref st), (.ref st)]))
      obtain ⟨cl44, Ar44, S44, M44, H44⟩ := id V_ca
      have hin44 := inb_of (j := (4 : Int32)) S44 ⟨(by decide), (by decide)⟩
      obtain ⟨T45, h45, X45, e45, W45, st45⟩ := stC X43 hx hZ e43 Ar44 (j := (4 : Int32)) hin44 (g := (mkF m 308 #[.val (.int i0), .val (.long q1), .second, .val (.int (5 : Int32)), .val (.int d1), .val (.int d2), .val (.int d3), .val (.int d4), .val (.int c0), .val (.int c1), .val (.int c2), .val (.int c3), .val (.int c4), .val (.int c5), .unset, .unset] [(.int c4), (.int (4 : Int32)), (.ref ca), (.ref ca), (.ref st), (.ref st)])) rfl rfl (hb hby at_308)
      have V_ca := own_Ar_set Ar44 S44 M44 H44 W45
      have Ol := Ol.wr W45 g_ca
      have E_st := E_st.wr W45
      have F_coder_st := F_coder_st.other W45 (Or.inl ne_st_ca)
      have F_value_st := F_value_st.other W45 (Or.inl ne_st_ca)
      have Kp := Kp.wr W45 (Or.inr sz_ca)
      have Nf := Fr.snoc X45 Nf g_ca
      have Zs := Nat.le_trans Zs (Keep.of_wr W45).1
      have szr := Nat.le_trans szr (Keep.of_wr W45).1
      have hkW := Nat.le_trans hkW (Keep.of_wr W45).1
      refine own_go (fun tQ kQ => st45 tQ kQ) ?_
      show own_End p e below _ (T45.setTop (mkF m 309 #[.val (.int i0), .val (.long q1), .second, .val (.int (5 : Int32)), .val (.int d1), .val (.int d2), .val (.int d3), .val (.int d4), .val (.int c0), .val (.int c1), .val (.int c2), .val (.int c3), .val (.int c4), .val (.int c5), .unset, .unset] [(.ref ca), (.ref st), (.ref st)]))
      have hcc : ∀ c ∈ ([c0, c1, c2, c3, c4] : List Int32), own_c c := by
        intro c hc
        simp only [List.mem_cons, List.not_mem_nil, or_false] at hc
        rcases hc with rfl | rfl | rfl | rfl | rfl
        · exact G0
        · exact G1
        · exact G2
        · exact G3
        · exact G4
      obtain ⟨kca, V_ca⟩ := V_ca.arv (vs := ([c0, c1, c2, c3, c4] : List Int32).map Value.int) (d := .int (0 : Int32)) (fun j hj => by
        have hj' : j < 5 := hj
        have hj2 : j = 0 ∨ j = 1 ∨ j = 2 ∨ j = 3 ∨ j = 4 := by omega
        rcases hj2 with rfl | rfl | rfl | rfl | rfl
        · show Value.int (nar .char c0) = Value.int c0; rw [own_c_nar G0]
        · show Value.int (nar .char c1) = Value.int c1; rw [own_c_nar G1]
        · show Value.int (nar .char c2) = Value.int c2; rw [own_c_nar G2]
        · show Value.int (nar .char c3) = Value.int c3; rw [own_c_nar G3]
        · show Value.int (nar .char c4) = Value.int c4; rw [own_c_nar G4]) (fun j hj => by
        have hj' : j < 5 := hj
        have hj2 : j = 0 ∨ j = 1 ∨ j = 2 ∨ j = 3 ∨ j = 4 := by omega
        rcases hj2 with rfl | rfl | rfl | rfl | rfl
        · exact own_fit G0
        · exact own_fit G1
        · exact own_fit G2
        · exact own_fit G3
        · exact own_fit G4)
      obtain ⟨_, _, ⟨T46, L46, k46, n46⟩, -, X46, ⟨Lc46, hQ46, l46, y46, z46⟩, st46⟩ := X45.specialBack hx (y := (⟨"java/lang/String", "<init>", "([C)V"⟩ : MethodName)) rfl hown (mvT hZ (hw _ (List.mem_of_getElem? (i := 12) rfl))) (mvT hZ (hw _ (List.mem_of_getElem? (i := 13) rfl))) (mvT hZ (hw _ (List.mem_of_getElem? (i := 14) rfl))) (by decide) (StrChars.Road.backV (W := 1) hZ hws (kI := 4) (hw _ (List.mem_of_getElem? (i := 9) rfl)) (cs := ([c0, c1, c2, c3, c4] : List Int32)) (bs := ([c0, c1, c2, c3, c4] : List Int32).map (fun c => c.toInt8.toInt32)) (n := 5) g_st Zs E_st F_value_st F_coder_st V_ca (S_cs.ext Ol.2) hcz rfl rfl (by decide) (by decide) (fun c hc => own_c_b (hcc c hc)) rfl (by decide) (by decide)) (g := (mkF m 309 #[.val (.int i0), .val (.long q1), .second, .val (.int (5 : Int32)), .val (.int d1), .val (.int d2), .val (.int d3), .val (.int d4), .val (.int c0), .val (.int c1), .val (.int c2), .val (.int c3), .val (.int c4), .val (.int c5), .unset, .unset] [(.ref ca), (.ref st), (.ref st)])) rfl (by rw [hml]; rfl) (Steps.refl _) (a := st) (argsL := [(.ref ca)]) (rest := [(.ref st)]) (lenOf pd_20 rfl) rfl (by show 2 * 0 + _ ≤ _; exact Nat.le_of_eq rfl) (hb hby at_309) (fun _ _ => ⟨rfl, e45, (Nat.le_of_ble_eq_true rfl), (Nat.le_of_ble_eq_true rfl)⟩)
      dsimp only [Pt.U, Pt.locs, Pt.cells, Pt.slots] at X46 l46 y46 z46 st46 hQ46
      subst l46 y46 z46
      obtain ⟨rfl, N46q, K46, -, F_coder_st, tt, kb, -, hb46, -, F_value_st, Kv⟩ := hQ46
      have Nf := Fr.app Nf N46q
      have ne_st_tt : st ≠ tt := Nat.ne_of_lt (Nat.lt_of_lt_of_le E_st.lt hb46)
      have ne_ca_tt : ca ≠ tt := Nat.ne_of_lt (Nat.lt_of_lt_of_le V_ca.lt hb46)
      have g_tt : n0 ≤ tt := Nat.le_trans Zs hb46
      have sz_tt : h0.size ≤ tt := Nat.le_trans szr hb46
      have Ol := Ol.keep K46 (allS g_st all0)
      have E_st := E_st.keep K46
      have V_ca := V_ca.keep K46 (ninS (Ne.symm ne_st_ca) nin0)
      have Kp := Kp.trans K46 (allS (Or.inr sz_st) all0)
      have Zs := Nat.le_trans Zs K46.1
      have szr := Nat.le_trans szr K46.1
      have hkW := Nat.le_trans hkW K46.1
      refine own_go (fun tQ kQ => st46.trans kQ) ?_
      show own_End p e below _ (T46.setTop (mkF m 312 #[.val (.int i0), .val (.long q1), .second, .val (.int (5 : Int32)), .val (.int d1), .val (.int d2), .val (.int d3), .val (.int d4), .val (.int c0), .val (.int c1), .val (.int c2), .val (.int c3), .val (.int c4), .val (.int c5), .unset, .unset] [(.ref st)]))
      have V_tt := (own_Ar.of_arv Kv).turn (g := fun j => .int ((fun j => (([c0, c1, c2, c3, c4] : List Int32).getD j 0).toInt8.toInt32) j)) (fun j hj => by
        have hj' : j < 5 := hj
        have hj2 : j = 0 ∨ j = 1 ∨ j = 2 ∨ j = 3 ∨ j = 4 := by omega
        rcases hj2 with rfl | rfl | rfl | rfl | rfl <;> rfl)
      refine own_go (fun tQ kQ => XS.astore X46.here hx rfl (hb hby at_312) rfl rfl (l' := #[.val (.int i0), .val (.long q1), .second, .val (.int (5 : Int32)), .val (.int d1), .val (.int d2), .val (.int d3), .val (.int d4), .val (.int c0), .val (.int c1), .val (.int c2), .val (.int c3), .val (.int c4), .val (.int c5), .val (.ref st), .unset]) rfl kQ) ?_
      show own_End p e below _ (T46.setTop (mkF m 314 #[.val (.int i0), .val (.long q1), .second, .val (.int (5 : Int32)), .val (.int d1), .val (.int d2), .val (.int d3), .val (.int d4), .val (.int c0), .val (.int c1), .val (.int c2), .val (.int c3), .val (.int c4), .val (.int c5), .val (.ref st), .unset] []))
      refine own_go (fun tQ kQ => XS.goto X46.here hx rfl (pc0 := 314) (pc' := 360) rfl (hb hby at_314) (by decide) (by decide) kQ) ?_
      show own_End p e below _ (T46.setTop (mkF m 360 #[.val (.int i0), .val (.long q1), .second, .val (.int (5 : Int32)), .val (.int d1), .val (.int d2), .val (.int d3), .val (.int d4), .val (.int c0), .val (.int c1), .val (.int c2), .val (.int c3), .val (.int c4), .val (.int c5), .val (.ref st), .unset] []))
      exact J360_5 st tt (5 : Int32) (fun j => (([c0, c1, c2, c3, c4] : List Int32).getD j 0).toInt8.toInt32) (fun j => ([c0, c1, c2, c3, c4] : List Int32).getD j 0) 5 d1 d2 d3 d4 c0 c1 c2 c3 c4 c5 T46 _ T46.heap _ _ X46 rfl Nf Zs Kp szr hS hkW hZ hown E_st F_value_st F_coder_st V_tt Ol (by decide) (fun j hj => by
        have hj2 : j = 0 ∨ j = 1 ∨ j = 2 ∨ j = 3 ∨ j = 4 := by omega
        rcases hj2 with rfl | rfl | rfl | rfl | rfl
        · exact own_ch_of (own_c_b G0).1 (own_c_b G0).2
        · exact own_ch_of (own_c_b G1).1 (own_c_b G1).2
        · exact own_ch_of (own_c_b G2).1 (own_c_b G2).2
        · exact own_ch_of (own_c_b G3).1 (own_c_b G3).2
        · exact own_ch_of (own_c_b G4).1 (own_c_b G4).2) (own_val5 H1 H2 H3 H4 HX K1 K2 K3 K4 S0 S5)
    ·
      show own_End p e below _ (T13.setTop (mkF m 197 #[.val (.int i0), .val (.long q1), .second, .val (.int (6 : Int32)), .val (.int d1), .val (.int d2), .val (.int d3), .val (.int d4), .val (.int c0), .val (.int c1), .val (.int c2), .val (.int c3), .val (.int c4), .val (.int c5), .unset, .unset] []))
      refine own_go (fun tQ kQ => XS.iloadN X13.here hx rfl (hb hby at_197) rfl kQ) ?_
      show own_End p e below _ (T13.setTop (mkF m 198 #[.val (.int i0), .val (.long q1), .second, .val (.int (6 : Int32)), .val (.int d1), .val (.int d2), .val (.int d3), .val (.int d4), .val (.int c0), .val (.int c1), .val (.int c2), .val (.int c3), .val (.int c4), .val (.int c5), .unset, .unset] [(.int (6 : Int32))]))
      refine own_go (fun tQ kQ => XS.iconst X13.here hx rfl (hb hby at_198) kQ) ?_
      show own_End p e below _ (T13.setTop (mkF m 199 #[.val (.int i0), .val (.long q1), .second, .val (.int (6 : Int32)), .val (.int d1), .val (.int d2), .val (.int d3), .val (.int d4), .val (.int c0), .val (.int c1), .val (.int c2), .val (.int c3), .val (.int c4), .val (.int c5), .unset, .unset] [(.int (3 : Int32)), (.int (6 : Int32))]))
      refine own_go (fun tQ kQ => XS.icmpYes X13.here hx rfl (pc0 := 199) (pc' := 232) rfl (hb hby at_199) rfl (feq (by decide)).2 (by decide) (by decide) kQ) ?_
      show own_End p e below _ (T13.setTop (mkF m 232 #[.val (.int i0), .val (.long q1), .second, .val (.int (6 : Int32)), .val (.int d1), .val (.int d2), .val (.int d3), .val (.int d4), .val (.int c0), .val (.int c1), .val (.int c2), .val (.int c3), .val (.int c4), .val (.int c5), .unset, .unset] []))
      refine own_go (fun tQ kQ => XS.iloadN X13.here hx rfl (hb hby at_232) rfl kQ) ?_
      show own_End p e below _ (T13.setTop (mkF m 233 #[.val (.int i0), .val (.long q1), .second, .val (.int (6 : Int32)), .val (.int d1), .val (.int d2), .val (.int d3), .val (.int d4), .val (.int c0), .val (.int c1), .val (.int c2), .val (.int c3), .val (.int c4), .val (.int c5), .unset, .unset] [(.int (6 : Int32))]))
      refine own_go (fun tQ kQ => XS.iconst X13.here hx rfl (hb hby at_233) kQ) ?_
      show own_End p e below _ (T13.setTop (mkF m 234 #[.val (.int i0), .val (.long q1), .second, .val (.int (6 : Int32)), .val (.int d1), .val (.int d2), .val (.int d3), .val (.int d4), .val (.int c0), .val (.int c1), .val (.int c2), .val (.int c3), .val (.int c4), .val (.int c5), .unset, .unset] [(.int (4 : Int32)), (.int (6 : Int32))]))
      refine own_go (fun tQ kQ => XS.icmpYes X13.here hx rfl (pc0 := 234) (pc' := 272) rfl (hb hby at_234) rfl (feq (by decide)).2 (by decide) (by decide) kQ) ?_
      show own_End p e below _ (T13.setTop (mkF m 272 #[.val (.int i0), .val (.long q1), .second, .val (.int (6 : Int32)), .val (.int d1), .val (.int d2), .val (.int d3), .val (.int d4), .val (.int c0), .val (.int c1), .val (.int c2), .val (.int c3), .val (.int c4), .val (.int c5), .unset, .unset] []))
      refine own_go (fun tQ kQ => XS.iloadN X13.here hx rfl (hb hby at_272) rfl kQ) ?_
      show own_End p e below _ (T13.setTop (mkF m 273 #[.val (.int i0), .val (.long q1), .second, .val (.int (6 : Int32)), .val (.int d1), .val (.int d2), .val (.int d3), .val (.int d4), .val (.int c0), .val (.int c1), .val (.int c2), .val (.int c3), .val (.int c4), .val (.int c5), .unset, .unset] [(.int (6 : Int32))]))
      refine own_go (fun tQ kQ => XS.iconst X13.here hx rfl (hb hby at_273) kQ) ?_
      show own_End p e below _ (T13.setTop (mkF m 274 #[.val (.int i0), .val (.long q1), .second, .val (.int (6 : Int32)), .val (.int d1), .val (.int d2), .val (.int d3), .val (.int d4), .val (.int c0), .val (.int c1), .val (.int c2), .val (.int c3), .val (.int c4), .val (.int c5), .unset, .unset] [(.int (5 : Int32)), (.int (6 : Int32))]))
      refine own_go (fun tQ kQ => XS.icmpYes X13.here hx rfl (pc0 := 274) (pc' := 317) rfl (hb hby at_274) rfl (feq (by decide)).2 (by decide) (by decide) kQ) ?_
      show own_End p e below _ (T13.setTop (mkF m 317 #[.val (.int i0), .val (.long q1), .second, .val (.int (6 : Int32)), .val (.int d1), .val (.int d2), .val (.int d3), .val (.int d4), .val (.int c0), .val (.int c1), .val (.int c2), .val (.int c3), .val (.int c4), .val (.int c5), .unset, .unset] []))
      obtain ⟨T47, h47, X47, e47, E47, A47, D47, -, st47⟩ := newO X13 hx hZ hown (hw _ (List.mem_of_getElem? (i := 8) rfl)) (hw _ (List.mem_of_getElem? (i := 9) rfl)) (hw _ (List.mem_of_getElem? (i := 10) rfl)) e13 (g := (mkF m 317 #[.val (.int i0), .val (.long q1), .second, .val (.int (6 : Int32)), .val (.int d1), .val (.int d2), .val (.int d3), .val (.int d4), .val (.int c0), .val (.int c1), .val (.int c2), .val (.int c3), .val (.int c4), .val (.int c5), .unset, .unset] [])) rfl (hb hby at_317) (by decide) (by decide)
      obtain ⟨st, g47⟩ : ∃ z, z = h.size := ⟨_, rfl⟩
      rw [← g47] at A47 D47 st47
      have g_st : n0 ≤ st := Nat.le_trans Zs (Nat.le_of_eq g47.symm)
      have sz_st : h0.size ≤ st := Nat.le_trans szr (Nat.le_of_eq g47.symm)
      have Ol := Ol.ext E47
      have Kp := Kp.ext E47
      have Zs := Nat.le_trans Zs E47.1
      have szr := Nat.le_trans szr E47.1
      have hkW := Nat.le_trans hkW E47.1
      have E_st := A47
      have F_coder_st : Fld Z h47 st "java/lang/String" "coder" "B" (.int (0 : Int32)) := D47 (Or.inr (hw _ (List.mem_of_getElem? (i := 35) rfl))) (ty := .byte) (by decide)
      have F_value_st : Fld Z h47 st "java/lang/String" "value" "[B" .null := D47 (Or.inr (hw _ (List.mem_of_getElem? (i := 37) rfl))) (ty := (.array .byte)) (by decide)
      refine own_go (fun tQ kQ => st47 tQ kQ) ?_
      show own_End p e below _ (T47.setTop (mkF m 320 #[.val (.int i0), .val (.long q1), .second, .val (.int (6 : Int32)), .val (.int d1), .val (.int d2), .val (.int d3), .val (.int d4), .val (.int c0), .val (.int c1), .val (.int c2), .val (.int c3), .val (.int c4), .val (.int c5), .unset, .unset] [(.ref st)]))
      refine own_go (fun tQ kQ => XS.dup X47.here hx rfl (hb hby at_320) rfl rfl kQ) ?_
      show own_End p e below _ (T47.setTop (mkF m 321 #[.val (.int i0), .val (.long q1), .second, .val (.int (6 : Int32)), .val (.int d1), .val (.int d2), .val (.int d3), .val (.int d4), .val (.int c0), .val (.int c1), .val (.int c2), .val (.int c3), .val (.int c4), .val (.int c5), .unset, .unset] [(.ref st), (.ref st)]))
      refine own_go (fun tQ kQ => XS.bipush X47.here hx rfl (hb hby at_321) kQ) ?_
      show own_End p e below _ (T47.setTop (mkF m 323 #[.val (.int i0), .val (.long q1), .second, .val (.int (6 : Int32)), .val (.int d1), .val (.int d2), .val (.int d3), .val (.int d4), .val (.int c0), .val (.int c1), .val (.int c2), .val (.int c3), .val (.int c4), .val (.int c5), .unset, .unset] [(.int (6 : Int32)), (.ref st), (.ref st)]))
      obtain ⟨T48, h48, k48, X48, e48, E48, A48, st48⟩ := newP X47 hx hZ (hw _ (List.mem_of_getElem? (i := 11) rfl)) e47 (g := (mkF m 323 #[.val (.int i0), .val (.long q1), .second, .val (.int (6 : Int32)), .val (.int d1), .val (.int d2), .val (.int d3), .val (.int d4), .val (.int c0), .val (.int c1), .val (.int c2), .val (.int c3), .val (.int c4), .val (.int c5), .unset, .unset] [(.int (6 : Int32)), (.ref st), (.ref st)])) rfl (hb hby at_323) rfl (by decide) (cap := 6) (by decide) (by decide) (by decide) (by decide)
      obtain ⟨ca, g48⟩ : ∃ z, z = h47.size := ⟨_, rfl⟩
      rw [← g48] at A48 st48
      have ne_st_ca : st ≠ ca := Nat.ne_of_lt (Nat.lt_of_lt_of_le E_st.lt (Nat.le_of_eq g48.symm))
      have g_ca : n0 ≤ ca := Nat.le_trans Zs (Nat.le_of_eq g48.symm)
      have sz_ca : h0.size ≤ ca := Nat.le_trans szr (Nat.le_of_eq g48.symm)
      have Ol := Ol.ext E48
      have E_st := E_st.ext E48
      have F_coder_st := F_coder_st.ext E48
      have F_value_st := F_value_st.ext E48
      have Kp := Kp.ext E48
      have Zs := Nat.le_trans Zs E48.1
      have szr := Nat.le_trans szr E48.1
      have hkW := Nat.le_trans hkW E48.1
      have V_ca : own_Ar Z h48 ca .char (6 : Int32) (fun _ => (.int (0 : Int32))) := own_Ar.new A48 (by decide)
      refine own_go (fun tQ kQ => st48 tQ kQ) ?_
      show own_End p e below _ (T48.setTop (mkF m 325 #[.val (.int i0), .val (.long q1), .second, .val (.int (6 : Int32)), .val (.int d1), .val (.int d2), .val (.int d3), .val (.int d4), .val (.int c0), .val (.int c1), .val (.int c2), .val (.int c3), .val (.int c4), .val (.int c5), .unset, .unset] [(.ref ca), (.ref st), (.ref st)]))
      refine own_go (fun tQ kQ => XS.dup X48.here hx rfl (hb hby at_325) rfl rfl kQ) ?_
      show own_End p e below _ (T48.setTop (mkF m 326 #[.val (.int i0), .val (.long q1), .second, .val (.int (6 : Int32)), .val (.int d1), .val (.int d2), .val (.int d3), .val (.int d4), .val (.int c0), .val (.int c1), .val (.int c2), .val (.int c3), .val (.int c4), .val (.int c5), .unset, .unset] [(.ref ca), (.ref ca), (.ref st), (.ref st)]))
      refine own_go (fun tQ kQ => XS.iconst X48.here hx rfl (hb hby at_326) kQ) ?_
      show own_End p e below _ (T48.setTop (mkF m 327 #[.val (.int i0), .val (.long q1), .second, .val (.int (6 : Int32)), .val (.int d1), .val (.int d2), .val (.int d3), .val (.int d4), .val (.int c0), .val (.int c1), .val (.int c2), .val (.int c3), .val (.int c4), .val (.int c5), .unset, .unset] [(.int (0 : Int32)), (.ref ca), (.ref ca), (.ref st), (.ref st)]))
      refine own_go (fun tQ kQ => XS.iload X48.here hx rfl (hb hby at_327) rfl kQ) ?_
      show own_End p e below _ (T48.setTop (mkF m 329 #[.val (.int i0), .val (.long q1), .second, .val (.int (6 : Int32)), .val (.int d1), .val (.int d2), .val (.int d3), .val (.int d4), .val (.int c0), .val (.int c1), .val (.int c2), .val (.int c3), .val (.int c4), .val (.int c5), .unset, .unset] [(.int c0), (.int (0 : Int32)), (.ref ca), (.ref ca), (.ref st), (.ref st)]))
      obtain ⟨cl49, Ar49, S49, M49, H49⟩ := id V_ca
      have hin49 := inb_of (j := (0 : Int32)) S49 ⟨(by decide), (by decide)⟩
      obtain ⟨T50, h50, X50, e50, W50, st50⟩ := stC X48 hx hZ e48 Ar49 (j := (0 : Int32)) hin49 (g := (mkF m 329 #[.val (.int i0), .val (.long q1), .second, .val (.int (6 : Int32)), .val (.int d1), .val (.int d2), .val (.int d3), .val (.int d4), .val (.int c0), .val (.int c1), .val (.int c2), .val (.int c3), .val (.int c4), .val (.int c5), .unset, .unset] [(.int c0), (.int (0 : Int32)), (.ref ca), (.ref ca), (.ref st), (.ref st)])) rfl rfl (hb hby at_329)
      have V_ca := own_Ar_set Ar49 S49 M49 H49 W50
      have Ol := Ol.wr W50 g_ca
      have E_st := E_st.wr W50
      have F_coder_st := F_coder_st.other W50 (Or.inl ne_st_ca)
      have F_value_st := F_value_st.other W50 (Or.inl ne_st_ca)
      have Kp := Kp.wr W50 (Or.inr sz_ca)
      have Nf := Fr.snoc X50 Nf g_ca
      have Zs := Nat.le_trans Zs (Keep.of_wr W50).1
      have szr := Nat.le_trans szr (Keep.of_wr W50).1
      have hkW := Nat.le_trans hkW (Keep.of_wr W50).1
      refine own_go (fun tQ kQ => st50 tQ kQ) ?_
      show own_End p e below _ (T50.setTop (mkF m 330 #[.val (.int i0), .val (.long q1), .second, .val (.int (6 : Int32)), .val (.int d1), .val (.int d2), .val (.int d3), .val (.int d4), .val (.int c0), .val (.int c1), .val (.int c2), .val (.int c3), .val (.int c4), .val (.int c5), .unset, .unset] [(.ref ca), (.ref st), (.ref st)]))
      refine own_go (fun tQ kQ => XS.dup X50.here hx rfl (hb hby at_330) rfl rfl kQ) ?_
      show own_End p e below _ (T50.setTop (mkF m 331 #[.val (.int i0), .val (.long q1), .second, .val (.int (6 : Int32)), .val (.int d1), .val (.int d2), .val (.int d3), .val (.int d4), .val (.int c0), .val (.int c1), .val (.int c2), .val (.int c3), .val (.int c4), .val (.int c5), .unset, .unset] [(.ref ca), (.ref ca), (.ref st), (.ref st)]))
      refine own_go (fun tQ kQ => XS.iconst X50.here hx rfl (hb hby at_331) kQ) ?_
      show own_End p e below _ (T50.setTop (mkF m 332 #[.val (.int i0), .val (.long q1), .second, .val (.int (6 : Int32)), .val (.int d1), .val (.int d2), .val (.int d3), .val (.int d4), .val (.int c0), .val (.int c1), .val (.int c2), .val (.int c3), .val (.int c4), .val (.int c5), .unset, .unset] [(.int (1 : Int32)), (.ref ca), (.ref ca), (.ref st), (.ref st)]))
      refine own_go (fun tQ kQ => XS.iload X50.here hx rfl (hb hby at_332) rfl kQ) ?_
      show own_End p e below _ (T50.setTop (mkF m 334 #[.val (.int i0), .val (.long q1), .second, .val (.int (6 : Int32)), .val (.int d1), .val (.int d2), .val (.int d3), .val (.int d4), .val (.int c0), .val (.int c1), .val (.int c2), .val (.int c3), .val (.int c4), .val (.int c5), .unset, .unset] [(.int c1), (.int (1 : Int32)), (.ref ca), (.ref ca), (.ref st), (.ref st)]))
      obtain ⟨cl51, Ar51, S51, M51, H51⟩ := id V_ca
      have hin51 := inb_of (j := (1 : Int32)) S51 ⟨(by decide), (by decide)⟩
      obtain ⟨T52, h52, X52, e52, W52, st52⟩ := stC X50 hx hZ e50 Ar51 (j := (1 : Int32)) hin51 (g := (mkF m 334 #[.val (.int i0), .val (.long q1), .second, .val (.int (6 : Int32)), .val (.int d1), .val (.int d2), .val (.int d3), .val (.int d4), .val (.int c0), .val (.int c1), .val (.int c2), .val (.int c3), .val (.int c4), .val (.int c5), .unset, .unset] [(.int c1), (.int (1 : Int32)), (.ref ca), (.ref ca), (.ref st), (.ref st)])) rfl rfl (hb hby at_334)
      have V_ca := own_Ar_set Ar51 S51 M51 H51 W52
      have Ol := Ol.wr W52 g_ca
      have E_st := E_st.wr W52
      have F_coder_st := F_coder_st.other W52 (Or.inl ne_st_ca)
      have F_value_st := F_value_st.other W52 (Or.inl ne_st_ca)
      have Kp := Kp.wr W52 (Or.inr sz_ca)
      have Nf := Fr.snoc X52 Nf g_ca
      have Zs := Nat.le_trans Zs (Keep.of_wr W52).1
      have szr := Nat.le_trans szr (Keep.of_wr W52).1
      have hkW := Nat.le_trans hkW (Keep.of_wr W52).1
      refine own_go (fun tQ kQ => st52 tQ kQ) ?_
      show own_End p e below _ (T52.setTop (mkF m 335 #[.val (.int i0), .val (.long q1), .second, .val (.int (6 : Int32)), .val (.int d1), .val (.int d2), .val (.int d3), .val (.int d4), .val (.int c0), .val (.int c1), .val (.int c2), .val (.int c3), .val (.int c4), .val (.int c5), .unset, .unset] [(.ref ca), (.ref st), (.ref st)]))
      refine own_go (fun tQ kQ => XS.dup X52.here hx rfl (hb hby at_335) rfl rfl kQ) ?_
      show own_End p e below _ (T52.setTop (mkF m 336 #[.val (.int i0), .val (.long q1), .second, .val (.int (6 : Int32)), .val (.int d1), .val (.int d2), .val (.int d3), .val (.int d4), .val (.int c0), .val (.int c1), .val (.int c2), .val (.int c3), .val (.int c4), .val (.int c5), .unset, .unset] [(.ref ca), (.ref ca), (.ref st), (.ref st)]))
      refine own_go (fun tQ kQ => XS.iconst X52.here hx rfl (hb hby at_336) kQ) ?_
      show own_End p e below _ (T52.setTop (mkF m 337 #[.val (.int i0), .val (.long q1), .second, .val (.int (6 : Int32)), .val (.int d1), .val (.int d2), .val (.int d3), .val (.int d4), .val (.int c0), .val (.int c1), .val (.int c2), .val (.int c3), .val (.int c4), .val (.int c5), .unset, .unset] [(.int (2 : Int32)), (.ref ca), (.ref ca), (.ref st), (.ref st)]))
      refine own_go (fun tQ kQ => XS.iload X52.here hx rfl (hb hby at_337) rfl kQ) ?_
      show own_End p e below _ (T52.setTop (mkF m 339 #[.val (.int i0), .val (.long q1), .second, .val (.int (6 : Int32)), .val (.int d1), .val (.int d2), .val (.int d3), .val (.int d4), .val (.int c0), .val (.int c1), .val (.int c2), .val (.int c3), .val (.int c4), .val (.int c5), .unset, .unset] [(.int c2), (.int (2 : Int32)), (.ref ca), (.ref ca), (.ref st), (.ref st)]))
      obtain ⟨cl53, Ar53, S53, M53, H53⟩ := id V_ca
      have hin53 := inb_of (j := (2 : Int32)) S53 ⟨(by decide), (by decide)⟩
      obtain ⟨T54, h54, X54, e54, W54, st54⟩ := stC X52 hx hZ e52 Ar53 (j := (2 : Int32)) hin53 (g := (mkF m 339 #[.val (.int i0), .val (.long q1), .second, .val (.int (6 : Int32)), .val (.int d1), .val (.int d2), .val (.int d3), .val (.int d4), .val (.int c0), .val (.int c1), .val (.int c2), .val (.int c3), .val (.int c4), .val (.int c5), .unset, .unset] [(.int c2), (.int (2 : Int32)), (.ref ca), (.ref ca), (.ref st), (.ref st)])) rfl rfl (hb hby at_339)
      have V_ca := own_Ar_set Ar53 S53 M53 H53 W54
      have Ol := Ol.wr W54 g_ca
      have E_st := E_st.wr W54
      have F_coder_st := F_coder_st.other W54 (Or.inl ne_st_ca)
      have F_value_st := F_value_st.other W54 (Or.inl ne_st_ca)
      have Kp := Kp.wr W54 (Or.inr sz_ca)
      have Nf := Fr.snoc X54 Nf g_ca
      have Zs := Nat.le_trans Zs (Keep.of_wr W54).1
      have szr := Nat.le_trans szr (Keep.of_wr W54).1
      have hkW := Nat.le_trans hkW (Keep.of_wr W54).1
      refine own_go (fun tQ kQ => st54 tQ kQ) ?_
      show own_End p e below _ (T54.setTop (mkF m 340 #[.val (.int i0), .val (.long q1), .second, .val (.int (6 : Int32)), .val (.int d1), .val (.int d2), .val (.int d3), .val (.int d4), .val (.int c0), .val (.int c1), .val (.int c2), .val (.int c3), .val (.int c4), .val (.int c5), .unset, .unset] [(.ref ca), (.ref st), (.ref st)]))
      refine own_go (fun tQ kQ => XS.dup X54.here hx rfl (hb hby at_340) rfl rfl kQ) ?_
      show own_End p e below _ (T54.setTop (mkF m 341 #[.val (.int i0), .val (.long q1), .second, .val (.int (6 : Int32)), .val (.int d1), .val (.int d2), .val (.int d3), .val (.int d4), .val (.int c0), .val (.int c1), .val (.int c2), .val (.int c3), .val (.int c4), .val (.int c5), .unset, .unset] [(.ref ca), (.ref ca), (.ref st), (.ref st)]))
      refine own_go (fun tQ kQ => XS.iconst X54.here hx rfl (hb hby at_341) kQ) ?_
      show own_End p e below _ (T54.setTop (mkF m 342 #[.val (.int i0), .val (.long q1), .second, .val (.int (6 : Int32)), .val (.int d1), .val (.int d2), .val (.int d3), .val (.int d4), .val (.int c0), .val (.int c1), .val (.int c2), .val (.int c3), .val (.int c4), .val (.int c5), .unset, .unset] [(.int (3 : Int32)), (.ref ca), (.ref ca), (.ref st), (.ref st)]))
      refine own_go (fun tQ kQ => XS.iload X54.here hx rfl (hb hby at_342) rfl kQ) ?_
      show own_End p e below _ (T54.setTop (mkF m 344 #[.val (.int i0), .val (.long q1), .second, .val (.int (6 : Int32)), .val (.int d1), .val (.int d2), .val (.int d3), .val (.int d4), .val (.int c0), .val (.int c1), .val (.int c2), .val (.int c3), .val (.int c4), .val (.int c5), .unset, .unset] [(.int c3), (.int (3 : Int32)), (.ref ca), (.ref ca), (.ref st), (.ref st)]))
      obtain ⟨cl55, Ar55, S55, M55, H55⟩ := id V_ca
      have hin55 := inb_of (j := (3 : Int32)) S55 ⟨(by decide), (by decide)⟩
      obtain ⟨T56, h56, X56, e56, W56, st56⟩ := stC X54 hx hZ e54 Ar55 (j := (3 : Int32)) hin55 (g := (mkF m 344 #[.val (.int i0), .val (.long q1), .second, .val (.int (6 : Int32)), .val (.int d1), .val (.int d2), .val (.int d3), .val (.int d4), .val (.int c0), .val (.int c1), .val (.int c2), .val (.int c3), .val (.int c4), .val (.int c5), .unset, .unset] [(.int c3), (.int (3 : Int32)), (.ref ca), (.ref ca), (.ref st), (.ref st)])) rfl rfl (hb hby at_344)
      have V_ca := own_Ar_set Ar55 S55 M55 H55 W56
      have Ol := Ol.wr W56 g_ca
      have E_st := E_st.wr W56
      have F_coder_st := F_coder_st.other W56 (Or.inl ne_st_ca)
      have F_value_st := F_value_st.other W56 (Or.inl ne_st_ca)
      have Kp := Kp.wr W56 (Or.inr sz_ca)
      have Nf := Fr.snoc X56 Nf g_ca
      have Zs := Nat.le_trans Zs (Keep.of_wr W56).1
      have szr := Nat.le_trans szr (Keep.of_wr W56).1
      have hkW := Nat.le_trans hkW (Keep.of_wr W56).1
      refine own_go (fun tQ kQ => st56 tQ kQ) ?_
      show own_End p e below _ (T56.setTop (mkF m 345 #[.val (.int i0), .val (.long q1), .second, .val (.int (6 : Int32)), .val (.int d1), .val (.int d2), .val (.int d3), .val (.int d4), .val (.int c0), .val (.int c1), .val (.int c2), .val (.int c3), .val (.int c4), .val (.int c5), .unset, .unset] [(.ref ca), (.ref st), (.ref st)]))
      refine own_go (fun tQ kQ => XS.dup X56.here hx rfl (hb hby at_345) rfl rfl kQ) ?_
      show own_End p e below _ (T56.setTop (mkF m 346 #[.val (.int i0), .val (.long q1), .second, .val (.int (6 : Int32)), .val (.int d1), .val (.int d2), .val (.int d3), .val (.int d4), .val (.int c0), .val (.int c1), .val (.int c2), .val (.int c3), .val (.int c4), .val (.int c5), .unset, .unset] [(.ref ca), (.ref ca), (.ref st), (.ref st)]))
      refine own_go (fun tQ kQ => XS.iconst X56.here hx rfl (hb hby at_346) kQ) ?_
      show own_End p e below _ (T56.setTop (mkF m 347 #[.val (.int i0), .val (.long q1), .second, .val (.int (6 : Int32)), .val (.int d1), .val (.int d2), .val (.int d3), .val (.int d4), .val (.int c0), .val (.int c1), .val (.int c2), .val (.int c3), .val (.int c4), .val (.int c5), .unset, .unset] [(.int (4 : Int32)), (.ref ca), (.ref ca), (.ref st), (.ref st)]))
      refine own_go (fun tQ kQ => XS.iload X56.here hx rfl (hb hby at_347) rfl kQ) ?_
      show own_End p e below _ (T56.setTop (mkF m 349 #[.val (.int i0), .val (.long q1), .second, .val (.int (6 : Int32)), .val (.int d1), .val (.int d2), .val (.int d3), .val (.int d4), .val (.int c0), .val (.int c1), .val (.int c2), .val (.int c3), .val (.int c4), .val (.int c5), .unset, .unset] [(.int c4), (.int (4 : Int32)), (.ref ca), (.ref ca), (.ref st), (.ref st)]))
      obtain ⟨cl57, Ar57, S57, M57, H57⟩ := id V_ca
      have hin57 := inb_of (j := (4 : Int32)) S57 ⟨(by decide), (by decide)⟩
      obtain ⟨T58, h58, X58, e58, W58, st58⟩ := stC X56 hx hZ e56 Ar57 (j := (4 : Int32)) hin57 (g := (mkF m 349 #[.val (.int i0), .val (.long q1), .second, .val (.int (6 : Int32)), .val (.int d1), .val (.int d2), .val (.int d3), .val (.int d4), .val (.int c0), .val (.int c1), .val (.int c2), .val (.int c3), .val (.int c4), .val (.int c5), .unset, .unset] [(.int c4), (.int (4 : Int32)), (.ref ca), (.ref ca), (.ref st), (.ref st)])) rfl rfl (hb hby at_349)
      have V_ca := own_Ar_set Ar57 S57 M57 H57 W58
      have Ol := Ol.wr W58 g_ca
      have E_st := E_st.wr W58
      have F_coder_st := F_coder_st.other W58 (Or.inl ne_st_ca)
      have F_value_st := F_value_st.other W58 (Or.inl ne_st_ca)
      have Kp := Kp.wr W58 (Or.inr sz_ca)
      have Nf := Fr.snoc X58 Nf g_ca
      have Zs := Nat.le_trans Zs (Keep.of_wr W58).1
      have szr := Nat.le_trans szr (Keep.of_wr W58).1
      have hkW := Nat.le_trans hkW (Keep.of_wr W58).1
      refine own_go (fun tQ kQ => st58 tQ kQ) ?_
      show own_End p e below _ (T58.setTop (mkF m 350 #[.val (.int i0), .val (.long q1), .second, .val (.int (6 : Int32)), .val (.int d1), .val (.int d2), .val (.int d3), .val (.int d4), .val (.int c0), .val (.int c1), .val (.int c2), .val (.int c3), .val (.int c4), .val (.int c5), .unset, .unset] [(.ref ca), (.ref st), (.ref st)]))
      refine own_go (fun tQ kQ => XS.dup X58.here hx rfl (hb hby at_350) rfl rfl kQ) ?_
      show own_End p e below _ (T58.setTop (mkF m 351 #[.val (.int i0), .val (.long q1), .second, .val (.int (6 : Int32)), .val (.int d1), .val (.int d2), .val (.int d3), .val (.int d4), .val (.int c0), .val (.int c1), .val (.int c2), .val (.int c3), .val (.int c4), .val (.int c5), .unset, .unset] [(.ref ca), (.ref ca), (.ref st), (.ref st)]))
      refine own_go (fun tQ kQ => XS.iconst X58.here hx rfl (hb hby at_351) kQ) ?_
      show own_End p e below _ (T58.setTop (mkF m 352 #[.val (.int i0), .val (.long q1), .second, .val (.int (6 : Int32)), .val (.int d1), .val (.int d2), .val (.int d3), .val (.int d4), .val (.int c0), .val (.int c1), .val (.int c2), .val (.int c3), .val (.int c4), .val (.int c5), .unset, .unset] [(.int (5 : Int32)), (.ref ca), (.ref ca), (.ref st), (.ref st)]))
      refine own_go (fun tQ kQ => XS.iload X58.here hx rfl (hb hby at_352) rfl kQ) ?_
      show own_End p e below _ (T58.setTop (mkF m 354 #[.val (.int i0), .val (.long q1), .second, .val (.int (6 : Int32)), .val (.int d1), .val (.int d2), .val (.int d3), .val (.int d4), .val (.int c0), .val (.int c1), .val (.int c2), .val (.int c3), .val (.int c4), .val (.int c5), .unset, .unset] [(.int c5), (.int (5 : Int32)), (.ref ca), (.ref ca), (.ref st), (.ref st)]))
      obtain ⟨cl59, Ar59, S59, M59, H59⟩ := id V_ca
      have hin59 := inb_of (j := (5 : Int32)) S59 ⟨(by decide), (by decide)⟩
      obtain ⟨T60, h60, X60, e60, W60, st60⟩ := stC X58 hx hZ e58 Ar59 (j := (5 : Int32)) hin59 (g := (mkF m 354 #[.val (.int i0), .val (.long q1), .second, .val (.int (6 : Int32)), .val (.int d1), .val (.int d2), .val (.int d3), .val (.int d4), .val (.int c0), .val (.int c1), .val (.int c2), .val (.int c3), .val (.int c4), .val (.int c5), .unset, .unset] [(.int c5), (.int (5 : Int32)), (.ref ca), (.ref ca), (.ref st), (.ref st)])) rfl rfl (hb hby at_354)
      have V_ca := own_Ar_set Ar59 S59 M59 H59 W60
      have Ol := Ol.wr W60 g_ca
      have E_st := E_st.wr W60
      have F_coder_st := F_coder_st.other W60 (Or.inl ne_st_ca)
      have F_value_st := F_value_st.other W60 (Or.inl ne_st_ca)
      have Kp := Kp.wr W60 (Or.inr sz_ca)
      have Nf := Fr.snoc X60 Nf g_ca
      have Zs := Nat.le_trans Zs (Keep.of_wr W60).1
      have szr := Nat.le_trans szr (Keep.of_wr W60).1
      have hkW := Nat.le_trans hkW (Keep.of_wr W60).1
      refine own_go (fun tQ kQ => st60 tQ kQ) ?_
      show own_End p e below _ (T60.setTop (mkF m 355 #[.val (.int i0), .val (.long q1), .second, .val (.int (6 : Int32)), .val (.int d1), .val (.int d2), .val (.int d3), .val (.int d4), .val (.int c0), .val (.int c1), .val (.int c2), .val (.int c3), .val (.int c4), .val (.int c5), .unset, .unset] [(.ref ca), (.ref st), (.ref st)]))
      have hcc : ∀ c ∈ ([c0, c1, c2, c3, c4, c5] : List Int32), own_c c := by
        intro c hc
        simp only [List.mem_cons, List.not_mem_nil, or_false] at hc
        rcases hc with rfl | rfl | rfl | rfl | rfl | rfl
        · exact G0
        · exact G1
        · exact G2
        · exact G3
        · exact G4
        · exact G5
      obtain ⟨kca, V_ca⟩ := V_ca.arv (vs := ([c0, c1, c2, c3, c4, c5] : List Int32).map Value.int) (d := .int (0 : Int32)) (fun j hj => by
        have hj' : j < 6 := hj
        have hj2 : j = 0 ∨ j = 1 ∨ j = 2 ∨ j = 3 ∨ j = 4 ∨ j = 5 := by omega
        rcases hj2 with rfl | rfl | rfl | rfl | rfl | rfl
        · show Value.int (nar .char c0) = Value.int c0; rw [own_c_nar G0]
        · show Value.int (nar .char c1) = Value.int c1; rw [own_c_nar G1]
        · show Value.int (nar .char c2) = Value.int c2; rw [own_c_nar G2]
        · show Value.int (nar .char c3) = Value.int c3; rw [own_c_nar G3]
        · show Value.int (nar .char c4) = Value.int c4; rw [own_c_nar G4]
        · show Value.int (nar .char c5) = Value.int c5; rw [own_c_nar G5]) (fun j hj => by
        have hj' : j < 6 := hj
        have hj2 : j = 0 ∨ j = 1 ∨ j = 2 ∨ j = 3 ∨ j = 4 ∨ j = 5 := by omega
        rcases hj2 with rfl | rfl | rfl | rfl | rfl | rfl
        · exact own_fit G0
        · exact own_fit G1
        · exact own_fit G2
        · exact own_fit G3
        · exact own_fit G4
        · exact own_fit G5)
      obtain ⟨_, _, ⟨T61, L61, k61, n61⟩, -, X61, ⟨Lc61, hQ61, l61, y61, z61⟩, st61⟩ := X60.specialBack hx (y := (⟨"java/lang/String", "<init>", "([C)V"⟩ : MethodName)) rfl hown (mvT hZ (hw _ (List.mem_of_getElem? (i := 12) rfl))) (mvT hZ (hw _ (List.mem_of_getElem? (i := 13) rfl))) (mvT hZ (hw _ (List.mem_of_getElem? (i := 14) rfl))) (by decide) (StrChars.Road.backV (W := 1) hZ hws (kI := 4) (hw _ (List.mem_of_getElem? (i := 9) rfl)) (cs := ([c0, c1, c2, c3, c4, c5] : List Int32)) (bs := ([c0, c1, c2, c3, c4, c5] : List Int32).map (fun c => c.toInt8.toInt32)) (n := 6) g_st Zs E_st F_value_st F_coder_st V_ca (S_cs.ext Ol.2) hcz rfl rfl (by decide) (by decide) (fun c hc => own_c_b (hcc c hc)) rfl (by decide) (by decide)) (g := (mkF m 355 #[.val (.int i0), .val (.long q1), .second, .val (.int (6 : Int32)), .val (.int d1), .val (.int d2), .val (.int d3), .val (.int d4), .val (.int c0), .val (.int c1), .val (.int c2), .val (.int c3), .val (.int c4), .val (.int c5), .unset, .unset] [(.ref ca), (.ref st), (.ref st)])) rfl (by rw [hml]; rfl) (Steps.refl _) (a := st) (argsL := [(.ref ca)]) (rest := [(.ref st)]) (lenOf pd_20 rfl) rfl (by show 2 * 0 + _ ≤ _; exact Nat.le_of_eq rfl) (hb hby at_355) (fun _ _ => ⟨rfl, e60, (Nat.le_of_ble_eq_true rfl), (Nat.le_of_ble_eq_true rfl)⟩)
      dsimp only [Pt.U, Pt.locs, Pt.cells, Pt.slots] at X61 l61 y61 z61 st61 hQ61
      subst l61 y61 z61
      obtain ⟨rfl, N61q, K61, -, F_coder_st, tt, kb, -, hb61, -, F_value_st, Kv⟩ := hQ61
      have Nf := Fr.app Nf N61q
      have ne_st_tt : st ≠ tt := Nat.ne_of_lt (Nat.lt_of_lt_of_le E_st.lt hb61)
      have ne_ca_tt : ca ≠ tt := Nat.ne_of_lt (Nat.lt_of_lt_of_le V_ca.lt hb61)
      have g_tt : n0 ≤ tt := Nat.le_trans Zs hb61
      have sz_tt : h0.size ≤ tt := Nat.le_trans szr hb61
      have Ol := Ol.keep K61 (allS g_st all0)
      have E_st := E_st.keep K61
      have V_ca := V_ca.keep K61 (ninS (Ne.symm ne_st_ca) nin0)
      have Kp := Kp.trans K61 (allS (Or.inr sz_st) all0)
      have Zs := Nat.le_trans Zs K61.1
      have szr := Nat.le_trans szr K61.1
      have hkW := Nat.le_trans hkW K61.1
      refine own_go (fun tQ kQ => st61.trans kQ) ?_
      show own_End p e below _ (T61.setTop (mkF m 358 #[.val (.int i0), .val (.long q1), .second, .val (.int (6 : Int32)), .val (.int d1), .val (.int d2), .val (.int d3), .val (.int d4), .val (.int c0), .val (.int c1), .val (.int c2), .val (.int c3), .val (.int c4), .val (.int c5), .unset, .unset] [(.ref st)]))
      have V_tt := (own_Ar.of_arv Kv).turn (g := fun j => .int ((fun j => (([c0, c1, c2, c3, c4, c5] : List Int32).getD j 0).toInt8.toInt32) j)) (fun j hj => by
        have hj' : j < 6 := hj
        have hj2 : j = 0 ∨ j = 1 ∨ j = 2 ∨ j = 3 ∨ j = 4 ∨ j = 5 := by omega
        rcases hj2 with rfl | rfl | rfl | rfl | rfl | rfl <;> rfl)
      refine own_go (fun tQ kQ => XS.astore X61.here hx rfl (hb hby at_358) rfl rfl (l' := #[.val (.int i0), .val (.long q1), .second, .val (.int (6 : Int32)), .val (.int d1), .val (.int d2), .val (.int d3), .val (.int d4), .val (.int c0), .val (.int c1), .val (.int c2), .val (.int c3), .val (.int c4), .val (.int c5), .val (.ref st), .unset]) rfl kQ) ?_
      show own_End p e below _ (T61.setTop (mkF m 360 #[.val (.int i0), .val (.long q1), .second, .val (.int (6 : Int32)), .val (.int d1), .val (.int d2), .val (.int d3), .val (.int d4), .val (.int c0), .val (.int c1), .val (.int c2), .val (.int c3), .val (.int c4), .val (.int c5), .val (.ref st), .unset] []))
      exact J360_6 st tt (6 : Int32) (fun j => (([c0, c1, c2, c3, c4, c5] : List Int32).getD j 0).toInt8.toInt32) (fun j => ([c0, c1, c2, c3, c4, c5] : List Int32).getD j 0) 6 d1 d2 d3 d4 c0 c1 c2 c3 c4 c5 T61 _ T61.heap _ _ X61 rfl Nf Zs Kp szr hS hkW hZ hown E_st F_value_st F_coder_st V_tt Ol (by decide) (fun j hj => by
        have hj2 : j = 0 ∨ j = 1 ∨ j = 2 ∨ j = 3 ∨ j = 4 ∨ j = 5 := by omega
        rcases hj2 with rfl | rfl | rfl | rfl | rfl | rfl
        · exact own_ch_of (own_c_b G0).1 (own_c_b G0).2
        · exact own_ch_of (own_c_b G1).1 (own_c_b G1).2
        · exact own_ch_of (own_c_b G2).1 (own_c_b G2).2
        · exact own_ch_of (own_c_b G3).1 (own_c_b G3).2
        · exact own_ch_of (own_c_b G4).1 (own_c_b G4).2
        · exact own_ch_of (own_c_b G5).1 (own_c_b G5).2) (own_val6 H1 H2 H3 H4 HX K1 K2 K3 K4 S0 S5)
  have J171 : ∀ (d1 : Int32) (d2 : Int32) (d3 : Int32) (d4 : Int32) (c0 : Int32) (c1 : Int32) (c2 : Int32) (c3 : Int32) (T : State) (locs : List Loc) (h : Heap) (vm0 : Vm) (k0 : Nat) (X : Stand p l e room_1 (s.setVm vm0) m #[(.int i0), (.long q1)] below meth c T locs 0 0) (eT : T.heap = h) (Nf : Fr n0 locs) (Zs : n0 ≤ h.size) (Kp : Keep h0 h []) (szr : h0.size ≤ h.size) (hS : s.Since vm0 k0) (hkW : k0 ≤ h.size) (hZ : Z.Warmed39 (s.setVm vm0).vm) (hown : (s.setVm vm0).vm.findClass "com/example/grant3/grant3/PermissionParsePinLaw" = some m.cls) (Ol : Old Z n0 h) (H1 : d1 = 0 ∨ d1 = 1) (H2 : d2 = 0 ∨ (d2 = 1 ∧ ¬ ln < 4 ∧ d1 = 0)) (H3 : d3 = 0 ∨ (d3 = 1 ∧ ¬ ln < 5 ∧ d2 = 0)) (H4 : d4 = 0 ∨ (d4 = 1 ∧ ¬ ln < 6 ∧ d3 = 0)) (HX : d1 = 1 ∨ d2 = 1 ∨ d3 = 1 ∨ d4 = 1) (S0 : own_seg c0) (K1 : (d1 = 1 ∧ c1 = 46) ∨ (d1 = 0 ∧ own_seg c1)) (K2 : (d2 = 1 ∧ c2 = 46) ∨ (d2 = 0 ∧ own_seg c2)) (K3 : (d3 = 1 ∧ c3 = 46) ∨ (d3 = 0 ∧ own_seg c3)), own_End p e below (P0 Z i0 q1 cz fm h0 n0 s) (T.setTop (mkF m 171 #[.val (.int i0), .val (.long q1), .second, .val (.int ln), .val (.int d1), .val (.int d2), .val (.int d3), .val (.int d4), .val (.int c0), .val (.int c1), .val (.int c2), .unset, .unset, .unset, .unset, .unset] [(.int c3)])) := by
    intro d1 d2 d3 d4 c0 c1 c2 c3 T locs h vm0 k0 X eT Nf Zs Kp szr hS hkW hZ hown Ol H1 H2 H3 H4 HX S0 K1 K2 K3
    refine own_go (fun tQ kQ => XS.istore X.here hx rfl (hb hby at_171) rfl (l' := #[.val (.int i0), .val (.long q1), .second, .val (.int ln), .val (.int d1), .val (.int d2), .val (.int d3), .val (.int d4), .val (.int c0), .val (.int c1), .val (.int c2), .val (.int c3), .unset, .unset, .unset, .unset]) rfl kQ) ?_
    show own_End p e below _ (T.setTop (mkF m 173 #[.val (.int i0), .val (.long q1), .second, .val (.int ln), .val (.int d1), .val (.int d2), .val (.int d3), .val (.int d4), .val (.int c0), .val (.int c1), .val (.int c2), .val (.int c3), .unset, .unset, .unset, .unset] []))
    refine own_go (fun tQ kQ => XS.iload X.here hx rfl (hb hby at_173) rfl kQ) ?_
    show own_End p e below _ (T.setTop (mkF m 175 #[.val (.int i0), .val (.long q1), .second, .val (.int ln), .val (.int d1), .val (.int d2), .val (.int d3), .val (.int d4), .val (.int c0), .val (.int c1), .val (.int c2), .val (.int c3), .unset, .unset, .unset, .unset] [(.int d4)]))
    by_cases hc175 : d4 = (0 : Int32)
    ·
      refine own_go (fun tQ kQ => XS.ifYes X.here hx rfl (pc0 := 175) (pc' := 183) rfl (hb hby at_175) rfl ((if0 _ _).trans (teq hc175).1) (by decide) (by decide) kQ) ?_
      show own_End p e below _ (T.setTop (mkF m 183 #[.val (.int i0), .val (.long q1), .second, .val (.int ln), .val (.int d1), .val (.int d2), .val (.int d3), .val (.int d4), .val (.int c0), .val (.int c1), .val (.int c2), .val (.int c3), .unset, .unset, .unset, .unset] []))
      refine own_go (fun tQ kQ => XS.lloadN X.here hx rfl (hb hby at_183) rfl kQ) ?_
      show own_End p e below _ (T.setTop (mkF m 184 #[.val (.int i0), .val (.long q1), .second, .val (.int ln), .val (.int d1), .val (.int d2), .val (.int d3), .val (.int d4), .val (.int c0), .val (.int c1), .val (.int c2), .val (.int c3), .unset, .unset, .unset, .unset] [(.long q1)]))
      refine own_go (fun tQ kQ => XS.iconst X.here hx rfl (hb hby at_184) kQ) ?_
      show own_End p e below _ (T.setTop (mkF m 185 #[.val (.int i0), .val (.long q1), .second, .val (.int ln), .val (.int d1), .val (.int d2), .val (.int d3), .val (.int d4), .val (.int c0), .val (.int c1), .val (.int c2), .val (.int c3), .unset, .unset, .unset, .unset] [(.int (4 : Int32)), (.long q1)]))
      obtain ⟨_, _, ⟨T62, L62, k62, n62⟩, -, X62, ⟨Lc62, hQ62, l62, y62, z62⟩, st62⟩ := Jvm.LawKit.callS X hx (y := (⟨"com/example/grant3/grant3/PermissionParsePinLaw", "at", "(JI)C"⟩ : MethodName)) hown (mvT hZ (hw _ (List.mem_of_getElem? (i := 0) rfl))) (mvT hZ (hw _ (List.mem_of_getElem? (i := 1) rfl))) (mvT hZ (hw _ (List.mem_of_getElem? (i := 2) rfl))) (mvT hZ (hw _ (List.mem_of_getElem? (i := 3) rfl))) (by decide) (backOf (W := 0) (rmat_ l Z a0 hw [] q1 (4 : Int32) h n0 Zs ) hZ (hw _ (List.mem_of_getElem? (i := 3) rfl)) (hw _ (List.mem_of_getElem? (i := 2) rfl)) (by decide) (by decide)) (g := (mkF m 185 #[.val (.int i0), .val (.long q1), .second, .val (.int ln), .val (.int d1), .val (.int d2), .val (.int d3), .val (.int d4), .val (.int c0), .val (.int c1), .val (.int c2), .val (.int c3), .unset, .unset, .unset, .unset] [(.int (4 : Int32)), (.long q1)])) rfl (by rw [hml]; rfl) (argsL := [(.long q1), (.int (4 : Int32))]) (rest := []) (lenOf pd_19 rfl) rfl (by show 2 * 0 + _ ≤ _; exact Nat.le_of_eq rfl) (hb hby at_185) (fun _ _ => ⟨rfl, eT, (Nat.le_of_ble_eq_true rfl), (Nat.le_of_ble_eq_true rfl)⟩)
      dsimp only [Pt.U, Pt.locs, Pt.cells, Pt.slots] at X62 l62 y62 z62 st62 hQ62
      subst l62 y62 z62
      obtain ⟨c4, rfl, N62q, e62, S4⟩ := hQ62
      have Nf := Fr.app Nf N62q
      refine own_go (fun tQ kQ => st62 tQ kQ) ?_
      show own_End p e below _ (T62.setTop (mkF m 188 #[.val (.int i0), .val (.long q1), .second, .val (.int ln), .val (.int d1), .val (.int d2), .val (.int d3), .val (.int d4), .val (.int c0), .val (.int c1), .val (.int c2), .val (.int c3), .unset, .unset, .unset, .unset] [(.int c4)]))
      exact J188 d1 d2 d3 d4 c0 c1 c2 c3 c4 T62 _ h _ _ X62 e62 Nf Zs Kp szr hS hkW hZ hown Ol H1 H2 H3 H4 HX S0 K1 K2 K3 (Or.inr ⟨hc175, S4⟩)
    ·
      refine own_go (fun tQ kQ => XS.ifNo X.here hx rfl (hb hby at_175) rfl ((if0 _ _).trans (feq hc175).1) kQ) ?_
      show own_End p e below _ (T.setTop (mkF m 178 #[.val (.int i0), .val (.long q1), .second, .val (.int ln), .val (.int d1), .val (.int d2), .val (.int d3), .val (.int d4), .val (.int c0), .val (.int c1), .val (.int c2), .val (.int c3), .unset, .unset, .unset, .unset] []))
      refine own_go (fun tQ kQ => XS.bipush X.here hx rfl (hb hby at_178) kQ) ?_
      show own_End p e below _ (T.setTop (mkF m 180 #[.val (.int i0), .val (.long q1), .second, .val (.int ln), .val (.int d1), .val (.int d2), .val (.int d3), .val (.int d4), .val (.int c0), .val (.int c1), .val (.int c2), .val (.int c3), .unset, .unset, .unset, .unset] [(.int (46 : Int32))]))
      refine own_go (fun tQ kQ => XS.goto X.here hx rfl (pc0 := 180) (pc' := 188) rfl (hb hby at_180) (by decide) (by decide) kQ) ?_
      show own_End p e below _ (T.setTop (mkF m 188 #[.val (.int i0), .val (.long q1), .second, .val (.int ln), .val (.int d1), .val (.int d2), .val (.int d3), .val (.int d4), .val (.int c0), .val (.int c1), .val (.int c2), .val (.int c3), .unset, .unset, .unset, .unset] [(.int (46 : Int32))]))
      exact J188 d1 d2 d3 d4 c0 c1 c2 c3 (46 : Int32) T _ h _ _ X eT Nf Zs Kp szr hS hkW hZ hown Ol H1 H2 H3 H4 HX S0 K1 K2 K3 (Or.inl ⟨own_one H4 hc175, rfl⟩)
  have J154 : ∀ (d1 : Int32) (d2 : Int32) (d3 : Int32) (d4 : Int32) (c0 : Int32) (c1 : Int32) (c2 : Int32) (T : State) (locs : List Loc) (h : Heap) (vm0 : Vm) (k0 : Nat) (X : Stand p l e room_1 (s.setVm vm0) m #[(.int i0), (.long q1)] below meth c T locs 0 0) (eT : T.heap = h) (Nf : Fr n0 locs) (Zs : n0 ≤ h.size) (Kp : Keep h0 h []) (szr : h0.size ≤ h.size) (hS : s.Since vm0 k0) (hkW : k0 ≤ h.size) (hZ : Z.Warmed39 (s.setVm vm0).vm) (hown : (s.setVm vm0).vm.findClass "com/example/grant3/grant3/PermissionParsePinLaw" = some m.cls) (Ol : Old Z n0 h) (H1 : d1 = 0 ∨ d1 = 1) (H2 : d2 = 0 ∨ (d2 = 1 ∧ ¬ ln < 4 ∧ d1 = 0)) (H3 : d3 = 0 ∨ (d3 = 1 ∧ ¬ ln < 5 ∧ d2 = 0)) (H4 : d4 = 0 ∨ (d4 = 1 ∧ ¬ ln < 6 ∧ d3 = 0)) (HX : d1 = 1 ∨ d2 = 1 ∨ d3 = 1 ∨ d4 = 1) (S0 : own_seg c0) (K1 : (d1 = 1 ∧ c1 = 46) ∨ (d1 = 0 ∧ own_seg c1)) (K2 : (d2 = 1 ∧ c2 = 46) ∨ (d2 = 0 ∧ own_seg c2)), own_End p e below (P0 Z i0 q1 cz fm h0 n0 s) (T.setTop (mkF m 154 #[.val (.int i0), .val (.long q1), .second, .val (.int ln), .val (.int d1), .val (.int d2), .val (.int d3), .val (.int d4), .val (.int c0), .val (.int c1), .unset, .unset, .unset, .unset, .unset, .unset] [(.int c2)])) := by
    intro d1 d2 d3 d4 c0 c1 c2 T locs h vm0 k0 X eT Nf Zs Kp szr hS hkW hZ hown Ol H1 H2 H3 H4 HX S0 K1 K2
    refine own_go (fun tQ kQ => XS.istore X.here hx rfl (hb hby at_154) rfl (l' := #[.val (.int i0), .val (.long q1), .second, .val (.int ln), .val (.int d1), .val (.int d2), .val (.int d3), .val (.int d4), .val (.int c0), .val (.int c1), .val (.int c2), .unset, .unset, .unset, .unset, .unset]) rfl kQ) ?_
    show own_End p e below _ (T.setTop (mkF m 156 #[.val (.int i0), .val (.long q1), .second, .val (.int ln), .val (.int d1), .val (.int d2), .val (.int d3), .val (.int d4), .val (.int c0), .val (.int c1), .val (.int c2), .unset, .unset, .unset, .unset, .unset] []))
    refine own_go (fun tQ kQ => XS.iload X.here hx rfl (hb hby at_156) rfl kQ) ?_
    show own_End p e below _ (T.setTop (mkF m 158 #[.val (.int i0), .val (.long q1), .second, .val (.int ln), .val (.int d1), .val (.int d2), .val (.int d3), .val (.int d4), .val (.int c0), .val (.int c1), .val (.int c2), .unset, .unset, .unset, .unset, .unset] [(.int d3)]))
    by_cases hc158 : d3 = (0 : Int32)
    ·
      refine own_go (fun tQ kQ => XS.ifYes X.here hx rfl (pc0 := 158) (pc' := 166) rfl (hb hby at_158) rfl ((if0 _ _).trans (teq hc158).1) (by decide) (by decide) kQ) ?_
      show own_End p e below _ (T.setTop (mkF m 166 #[.val (.int i0), .val (.long q1), .second, .val (.int ln), .val (.int d1), .val (.int d2), .val (.int d3), .val (.int d4), .val (.int c0), .val (.int c1), .val (.int c2), .unset, .unset, .unset, .unset, .unset] []))
      refine own_go (fun tQ kQ => XS.lloadN X.here hx rfl (hb hby at_166) rfl kQ) ?_
      show own_End p e below _ (T.setTop (mkF m 167 #[.val (.int i0), .val (.long q1), .second, .val (.int ln), .val (.int d1), .val (.int d2), .val (.int d3), .val (.int d4), .val (.int c0), .val (.int c1), .val (.int c2), .unset, .unset, .unset, .unset, .unset] [(.long q1)]))
      refine own_go (fun tQ kQ => XS.iconst X.here hx rfl (hb hby at_167) kQ) ?_
      show own_End p e below _ (T.setTop (mkF m 168 #[.val (.int i0), .val (.long q1), .second, .val (.int ln), .val (.int d1), .val (.int d2), .val (.int d3), .val (.int d4), .val (.int c0), .val (.int c1), .val (.int c2), .unset, .unset, .unset, .unset, .unset] [(.int (3 : Int32)), (.long q1)]))
      obtain ⟨_, _, ⟨T63, L63, k63, n63⟩, -, X63, ⟨Lc63, hQ63, l63, y63, z63⟩, st63⟩ := Jvm.LawKit.callS X hx (y := (⟨"com/example/grant3/grant3/PermissionParsePinLaw", "at", "(JI)C"⟩ : MethodName)) hown (mvT hZ (hw _ (List.mem_of_getElem? (i := 0) rfl))) (mvT hZ (hw _ (List.mem_of_getElem? (i := 1) rfl))) (mvT hZ (hw _ (List.mem_of_getElem? (i := 2) rfl))) (mvT hZ (hw _ (List.mem_of_getElem? (i := 3) rfl))) (by decide) (backOf (W := 0) (rmat_ l Z a0 hw [] q1 (3 : Int32) h n0 Zs ) hZ (hw _ (List.mem_of_getElem? (i := 3) rfl)) (hw _ (List.mem_of_getElem? (i := 2) rfl)) (by decide) (by decide)) (g := (mkF m 168 #[.val (.int i0), .val (.long q1), .second, .val (.int ln), .val (.int d1), .val (.int d2), .val (.int d3), .val (.int d4), .val (.int c0), .val (.int c1), .val (.int c2), .unset, .unset, .unset, .unset, .unset] [(.int (3 : Int32)), (.long q1)])) rfl (by rw [hml]; rfl) (argsL := [(.long q1), (.int (3 : Int32))]) (rest := []) (lenOf pd_19 rfl) rfl (by show 2 * 0 + _ ≤ _; exact Nat.le_of_eq rfl) (hb hby at_168) (fun _ _ => ⟨rfl, eT, (Nat.le_of_ble_eq_true rfl), (Nat.le_of_ble_eq_true rfl)⟩)
      dsimp only [Pt.U, Pt.locs, Pt.cells, Pt.slots] at X63 l63 y63 z63 st63 hQ63
      subst l63 y63 z63
      obtain ⟨c3, rfl, N63q, e63, S3⟩ := hQ63
      have Nf := Fr.app Nf N63q
      refine own_go (fun tQ kQ => st63 tQ kQ) ?_
      show own_End p e below _ (T63.setTop (mkF m 171 #[.val (.int i0), .val (.long q1), .second, .val (.int ln), .val (.int d1), .val (.int d2), .val (.int d3), .val (.int d4), .val (.int c0), .val (.int c1), .val (.int c2), .unset, .unset, .unset, .unset, .unset] [(.int c3)]))
      exact J171 d1 d2 d3 d4 c0 c1 c2 c3 T63 _ h _ _ X63 e63 Nf Zs Kp szr hS hkW hZ hown Ol H1 H2 H3 H4 HX S0 K1 K2 (Or.inr ⟨hc158, S3⟩)
    ·
      refine own_go (fun tQ kQ => XS.ifNo X.here hx rfl (hb hby at_158) rfl ((if0 _ _).trans (feq hc158).1) kQ) ?_
      show own_End p e below _ (T.setTop (mkF m 161 #[.val (.int i0), .val (.long q1), .second, .val (.int ln), .val (.int d1), .val (.int d2), .val (.int d3), .val (.int d4), .val (.int c0), .val (.int c1), .val (.int c2), .unset, .unset, .unset, .unset, .unset] []))
      refine own_go (fun tQ kQ => XS.bipush X.here hx rfl (hb hby at_161) kQ) ?_
      show own_End p e below _ (T.setTop (mkF m 163 #[.val (.int i0), .val (.long q1), .second, .val (.int ln), .val (.int d1), .val (.int d2), .val (.int d3), .val (.int d4), .val (.int c0), .val (.int c1), .val (.int c2), .unset, .unset, .unset, .unset, .unset] [(.int (46 : Int32))]))
      refine own_go (fun tQ kQ => XS.goto X.here hx rfl (pc0 := 163) (pc' := 171) rfl (hb hby at_163) (by decide) (by decide) kQ) ?_
      show own_End p e below _ (T.setTop (mkF m 171 #[.val (.int i0), .val (.long q1), .second, .val (.int ln), .val (.int d1), .val (.int d2), .val (.int d3), .val (.int d4), .val (.int c0), .val (.int c1), .val (.int c2), .unset, .unset, .unset, .unset, .unset] [(.int (46 : Int32))]))
      exact J171 d1 d2 d3 d4 c0 c1 c2 (46 : Int32) T _ h _ _ X eT Nf Zs Kp szr hS hkW hZ hown Ol H1 H2 H3 H4 HX S0 K1 K2 (Or.inl ⟨own_one H3 hc158, rfl⟩)
  have J137 : ∀ (d1 : Int32) (d2 : Int32) (d3 : Int32) (d4 : Int32) (c0 : Int32) (c1 : Int32) (T : State) (locs : List Loc) (h : Heap) (vm0 : Vm) (k0 : Nat) (X : Stand p l e room_1 (s.setVm vm0) m #[(.int i0), (.long q1)] below meth c T locs 0 0) (eT : T.heap = h) (Nf : Fr n0 locs) (Zs : n0 ≤ h.size) (Kp : Keep h0 h []) (szr : h0.size ≤ h.size) (hS : s.Since vm0 k0) (hkW : k0 ≤ h.size) (hZ : Z.Warmed39 (s.setVm vm0).vm) (hown : (s.setVm vm0).vm.findClass "com/example/grant3/grant3/PermissionParsePinLaw" = some m.cls) (Ol : Old Z n0 h) (H1 : d1 = 0 ∨ d1 = 1) (H2 : d2 = 0 ∨ (d2 = 1 ∧ ¬ ln < 4 ∧ d1 = 0)) (H3 : d3 = 0 ∨ (d3 = 1 ∧ ¬ ln < 5 ∧ d2 = 0)) (H4 : d4 = 0 ∨ (d4 = 1 ∧ ¬ ln < 6 ∧ d3 = 0)) (HX : d1 = 1 ∨ d2 = 1 ∨ d3 = 1 ∨ d4 = 1) (S0 : own_seg c0) (K1 : (d1 = 1 ∧ c1 = 46) ∨ (d1 = 0 ∧ own_seg c1)), own_End p e below (P0 Z i0 q1 cz fm h0 n0 s) (T.setTop (mkF m 137 #[.val (.int i0), .val (.long q1), .second, .val (.int ln), .val (.int d1), .val (.int d2), .val (.int d3), .val (.int d4), .val (.int c0), .unset, .unset, .unset, .unset, .unset, .unset, .unset] [(.int c1)])) := by
    intro d1 d2 d3 d4 c0 c1 T locs h vm0 k0 X eT Nf Zs Kp szr hS hkW hZ hown Ol H1 H2 H3 H4 HX S0 K1
    refine own_go (fun tQ kQ => XS.istore X.here hx rfl (hb hby at_137) rfl (l' := #[.val (.int i0), .val (.long q1), .second, .val (.int ln), .val (.int d1), .val (.int d2), .val (.int d3), .val (.int d4), .val (.int c0), .val (.int c1), .unset, .unset, .unset, .unset, .unset, .unset]) rfl kQ) ?_
    show own_End p e below _ (T.setTop (mkF m 139 #[.val (.int i0), .val (.long q1), .second, .val (.int ln), .val (.int d1), .val (.int d2), .val (.int d3), .val (.int d4), .val (.int c0), .val (.int c1), .unset, .unset, .unset, .unset, .unset, .unset] []))
    refine own_go (fun tQ kQ => XS.iload X.here hx rfl (hb hby at_139) rfl kQ) ?_
    show own_End p e below _ (T.setTop (mkF m 141 #[.val (.int i0), .val (.long q1), .second, .val (.int ln), .val (.int d1), .val (.int d2), .val (.int d3), .val (.int d4), .val (.int c0), .val (.int c1), .unset, .unset, .unset, .unset, .unset, .unset] [(.int d2)]))
    by_cases hc141 : d2 = (0 : Int32)
    ·
      refine own_go (fun tQ kQ => XS.ifYes X.here hx rfl (pc0 := 141) (pc' := 149) rfl (hb hby at_141) rfl ((if0 _ _).trans (teq hc141).1) (by decide) (by decide) kQ) ?_
      show own_End p e below _ (T.setTop (mkF m 149 #[.val (.int i0), .val (.long q1), .second, .val (.int ln), .val (.int d1), .val (.int d2), .val (.int d3), .val (.int d4), .val (.int c0), .val (.int c1), .unset, .unset, .unset, .unset, .unset, .unset] []))
      refine own_go (fun tQ kQ => XS.lloadN X.here hx rfl (hb hby at_149) rfl kQ) ?_
      show own_End p e below _ (T.setTop (mkF m 150 #[.val (.int i0), .val (.long q1), .second, .val (.int ln), .val (.int d1), .val (.int d2), .val (.int d3), .val (.int d4), .val (.int c0), .val (.int c1), .unset, .unset, .unset, .unset, .unset, .unset] [(.long q1)]))
      refine own_go (fun tQ kQ => XS.iconst X.here hx rfl (hb hby at_150) kQ) ?_
      show own_End p e below _ (T.setTop (mkF m 151 #[.val (.int i0), .val (.long q1), .second, .val (.int ln), .val (.int d1), .val (.int d2), .val (.int d3), .val (.int d4), .val (.int c0), .val (.int c1), .unset, .unset, .unset, .unset, .unset, .unset] [(.int (2 : Int32)), (.long q1)]))
      obtain ⟨_, _, ⟨T64, L64, k64, n64⟩, -, X64, ⟨Lc64, hQ64, l64, y64, z64⟩, st64⟩ := Jvm.LawKit.callS X hx (y := (⟨"com/example/grant3/grant3/PermissionParsePinLaw", "at", "(JI)C"⟩ : MethodName)) hown (mvT hZ (hw _ (List.mem_of_getElem? (i := 0) rfl))) (mvT hZ (hw _ (List.mem_of_getElem? (i := 1) rfl))) (mvT hZ (hw _ (List.mem_of_getElem? (i := 2) rfl))) (mvT hZ (hw _ (List.mem_of_getElem? (i := 3) rfl))) (by decide) (backOf (W := 0) (rmat_ l Z a0 hw [] q1 (2 : Int32) h n0 Zs ) hZ (hw _ (List.mem_of_getElem? (i := 3) rfl)) (hw _ (List.mem_of_getElem? (i := 2) rfl)) (by decide) (by decide)) (g := (mkF m 151 #[.val (.int i0), .val (.long q1), .second, .val (.int ln), .val (.int d1), .val (.int d2), .val (.int d3), .val (.int d4), .val (.int c0), .val (.int c1), .unset, .unset, .unset, .unset, .unset, .unset] [(.int (2 : Int32)), (.long q1)])) rfl (by rw [hml]; rfl) (argsL := [(.long q1), (.int (2 : Int32))]) (rest := []) (lenOf pd_19 rfl) rfl (by show 2 * 0 + _ ≤ _; exact Nat.le_of_eq rfl) (hb hby at_151) (fun _ _ => ⟨rfl, eT, (Nat.le_of_ble_eq_true rfl), (Nat.le_of_ble_eq_true rfl)⟩)
      dsimp only [Pt.U, Pt.locs, Pt.cells, Pt.slots] at X64 l64 y64 z64 st64 hQ64
      subst l64 y64 z64
      obtain ⟨c2, rfl, N64q, e64, S2⟩ := hQ64
      have Nf := Fr.app Nf N64q
      refine own_go (fun tQ kQ => st64 tQ kQ) ?_
      show own_End p e below _ (T64.setTop (mkF m 154 #[.val (.int i0), .val (.long q1), .second, .val (.int ln), .val (.int d1), .val (.int d2), .val (.int d3), .val (.int d4), .val (.int c0), .val (.int c1), .unset, .unset, .unset, .unset, .unset, .unset] [(.int c2)]))
      exact J154 d1 d2 d3 d4 c0 c1 c2 T64 _ h _ _ X64 e64 Nf Zs Kp szr hS hkW hZ hown Ol H1 H2 H3 H4 HX S0 K1 (Or.inr ⟨hc141, S2⟩)
    ·
      refine own_go (fun tQ kQ => XS.ifNo X.here hx rfl (hb hby at_141) rfl ((if0 _ _).trans (feq hc141).1) kQ) ?_
      show own_End p e below _ (T.setTop (mkF m 144 #[.val (.int i0), .val (.long q1), .second, .val (.int ln), .val (.int d1), .val (.int d2), .val (.int d3), .val (.int d4), .val (.int c0), .val (.int c1), .unset, .unset, .unset, .unset, .unset, .unset] []))
      refine own_go (fun tQ kQ => XS.bipush X.here hx rfl (hb hby at_144) kQ) ?_
      show own_End p e below _ (T.setTop (mkF m 146 #[.val (.int i0), .val (.long q1), .second, .val (.int ln), .val (.int d1), .val (.int d2), .val (.int d3), .val (.int d4), .val (.int c0), .val (.int c1), .unset, .unset, .unset, .unset, .unset, .unset] [(.int (46 : Int32))]))
      refine own_go (fun tQ kQ => XS.goto X.here hx rfl (pc0 := 146) (pc' := 154) rfl (hb hby at_146) (by decide) (by decide) kQ) ?_
      show own_End p e below _ (T.setTop (mkF m 154 #[.val (.int i0), .val (.long q1), .second, .val (.int ln), .val (.int d1), .val (.int d2), .val (.int d3), .val (.int d4), .val (.int c0), .val (.int c1), .unset, .unset, .unset, .unset, .unset, .unset] [(.int (46 : Int32))]))
      exact J154 d1 d2 d3 d4 c0 c1 (46 : Int32) T _ h _ _ X eT Nf Zs Kp szr hS hkW hZ hown Ol H1 H2 H3 H4 HX S0 K1 (Or.inl ⟨own_one H2 hc141, rfl⟩)
  have J115 : ∀ (d1 : Int32) (d2 : Int32) (d3 : Int32) (d4 : Int32) (T : State) (locs : List Loc) (h : Heap) (vm0 : Vm) (k0 : Nat) (X : Stand p l e room_1 (s.setVm vm0) m #[(.int i0), (.long q1)] below meth c T locs 0 0) (eT : T.heap = h) (Nf : Fr n0 locs) (Zs : n0 ≤ h.size) (Kp : Keep h0 h []) (szr : h0.size ≤ h.size) (hS : s.Since vm0 k0) (hkW : k0 ≤ h.size) (hZ : Z.Warmed39 (s.setVm vm0).vm) (hown : (s.setVm vm0).vm.findClass "com/example/grant3/grant3/PermissionParsePinLaw" = some m.cls) (Ol : Old Z n0 h) (H1 : d1 = 0 ∨ d1 = 1) (H2 : d2 = 0 ∨ (d2 = 1 ∧ ¬ ln < 4 ∧ d1 = 0)) (H3 : d3 = 0 ∨ (d3 = 1 ∧ ¬ ln < 5 ∧ d2 = 0)) (H4 : d4 = 0 ∨ (d4 = 1 ∧ ¬ ln < 6 ∧ d3 = 0)) (HX : d1 = 1 ∨ d2 = 1 ∨ d3 = 1 ∨ d4 = 1), own_End p e below (P0 Z i0 q1 cz fm h0 n0 s) (T.setTop (mkF m 115 #[.val (.int i0), .val (.long q1), .second, .val (.int ln), .val (.int d1), .val (.int d2), .val (.int d3), .val (.int d4), .unset, .unset, .unset, .unset, .unset, .unset, .unset, .unset] [])) := by
    intro d1 d2 d3 d4 T locs h vm0 k0 X eT Nf Zs Kp szr hS hkW hZ hown Ol H1 H2 H3 H4 HX
    refine own_go (fun tQ kQ => XS.lloadN X.here hx rfl (hb hby at_115) rfl kQ) ?_
    show own_End p e below _ (T.setTop (mkF m 116 #[.val (.int i0), .val (.long q1), .second, .val (.int ln), .val (.int d1), .val (.int d2), .val (.int d3), .val (.int d4), .unset, .unset, .unset, .unset, .unset, .unset, .unset, .unset] [(.long q1)]))
    refine own_go (fun tQ kQ => XS.iconst X.here hx rfl (hb hby at_116) kQ) ?_
    show own_End p e below _ (T.setTop (mkF m 117 #[.val (.int i0), .val (.long q1), .second, .val (.int ln), .val (.int d1), .val (.int d2), .val (.int d3), .val (.int d4), .unset, .unset, .unset, .unset, .unset, .unset, .unset, .unset] [(.int (0 : Int32)), (.long q1)]))
    obtain ⟨_, _, ⟨T65, L65, k65, n65⟩, -, X65, ⟨Lc65, hQ65, l65, y65, z65⟩, st65⟩ := Jvm.LawKit.callS X hx (y := (⟨"com/example/grant3/grant3/PermissionParsePinLaw", "at", "(JI)C"⟩ : MethodName)) hown (mvT hZ (hw _ (List.mem_of_getElem? (i := 0) rfl))) (mvT hZ (hw _ (List.mem_of_getElem? (i := 1) rfl))) (mvT hZ (hw _ (List.mem_of_getElem? (i := 2) rfl))) (mvT hZ (hw _ (List.mem_of_getElem? (i := 3) rfl))) (by decide) (backOf (W := 0) (rmat_ l Z a0 hw [] q1 (0 : Int32) h n0 Zs ) hZ (hw _ (List.mem_of_getElem? (i := 3) rfl)) (hw _ (List.mem_of_getElem? (i := 2) rfl)) (by decide) (by decide)) (g := (mkF m 117 #[.val (.int i0), .val (.long q1), .second, .val (.int ln), .val (.int d1), .val (.int d2), .val (.int d3), .val (.int d4), .unset, .unset, .unset, .unset, .unset, .unset, .unset, .unset] [(.int (0 : Int32)), (.long q1)])) rfl (by rw [hml]; rfl) (argsL := [(.long q1), (.int (0 : Int32))]) (rest := []) (lenOf pd_19 rfl) rfl (by show 2 * 0 + _ ≤ _; exact Nat.le_of_eq rfl) (hb hby at_117) (fun _ _ => ⟨rfl, eT, (Nat.le_of_ble_eq_true rfl), (Nat.le_of_ble_eq_true rfl)⟩)
    dsimp only [Pt.U, Pt.locs, Pt.cells, Pt.slots] at X65 l65 y65 z65 st65 hQ65
    subst l65 y65 z65
    obtain ⟨c0, rfl, N65q, e65, S0⟩ := hQ65
    have Nf := Fr.app Nf N65q
    refine own_go (fun tQ kQ => st65 tQ kQ) ?_
    show own_End p e below _ (T65.setTop (mkF m 120 #[.val (.int i0), .val (.long q1), .second, .val (.int ln), .val (.int d1), .val (.int d2), .val (.int d3), .val (.int d4), .unset, .unset, .unset, .unset, .unset, .unset, .unset, .unset] [(.int c0)]))
    refine own_go (fun tQ kQ => XS.istore X65.here hx rfl (hb hby at_120) rfl (l' := #[.val (.int i0), .val (.long q1), .second, .val (.int ln), .val (.int d1), .val (.int d2), .val (.int d3), .val (.int d4), .val (.int c0), .unset, .unset, .unset, .unset, .unset, .unset, .unset]) rfl kQ) ?_
    show own_End p e below _ (T65.setTop (mkF m 122 #[.val (.int i0), .val (.long q1), .second, .val (.int ln), .val (.int d1), .val (.int d2), .val (.int d3), .val (.int d4), .val (.int c0), .unset, .unset, .unset, .unset, .unset, .unset, .unset] []))
    refine own_go (fun tQ kQ => XS.iload X65.here hx rfl (hb hby at_122) rfl kQ) ?_
    show own_End p e below _ (T65.setTop (mkF m 124 #[.val (.int i0), .val (.long q1), .second, .val (.int ln), .val (.int d1), .val (.int d2), .val (.int d3), .val (.int d4), .val (.int c0), .unset, .unset, .unset, .unset, .unset, .unset, .unset] [(.int d1)]))
    by_cases hc124 : d1 = (0 : Int32)
    ·
      refine own_go (fun tQ kQ => XS.ifYes X65.here hx rfl (pc0 := 124) (pc' := 132) rfl (hb hby at_124) rfl ((if0 _ _).trans (teq hc124).1) (by decide) (by decide) kQ) ?_
      show own_End p e below _ (T65.setTop (mkF m 132 #[.val (.int i0), .val (.long q1), .second, .val (.int ln), .val (.int d1), .val (.int d2), .val (.int d3), .val (.int d4), .val (.int c0), .unset, .unset, .unset, .unset, .unset, .unset, .unset] []))
      refine own_go (fun tQ kQ => XS.lloadN X65.here hx rfl (hb hby at_132) rfl kQ) ?_
      show own_End p e below _ (T65.setTop (mkF m 133 #[.val (.int i0), .val (.long q1), .second, .val (.int ln), .val (.int d1), .val (.int d2), .val (.int d3), .val (.int d4), .val (.int c0), .unset, .unset, .unset, .unset, .unset, .unset, .unset] [(.long q1)]))
      refine own_go (fun tQ kQ => XS.iconst X65.here hx rfl (hb hby at_133) kQ) ?_
      show own_End p e below _ (T65.setTop (mkF m 134 #[.val (.int i0), .val (.long q1), .second, .val (.int ln), .val (.int d1), .val (.int d2), .val (.int d3), .val (.int d4), .val (.int c0), .unset, .unset, .unset, .unset, .unset, .unset, .unset] [(.int (1 : Int32)), (.long q1)]))
      obtain ⟨_, _, ⟨T66, L66, k66, n66⟩, -, X66, ⟨Lc66, hQ66, l66, y66, z66⟩, st66⟩ := Jvm.LawKit.callS X65 hx (y := (⟨"com/example/grant3/grant3/PermissionParsePinLaw", "at", "(JI)C"⟩ : MethodName)) hown (mvT hZ (hw _ (List.mem_of_getElem? (i := 0) rfl))) (mvT hZ (hw _ (List.mem_of_getElem? (i := 1) rfl))) (mvT hZ (hw _ (List.mem_of_getElem? (i := 2) rfl))) (mvT hZ (hw _ (List.mem_of_getElem? (i := 3) rfl))) (by decide) (backOf (W := 0) (rmat_ l Z a0 hw [] q1 (1 : Int32) h n0 Zs ) hZ (hw _ (List.mem_of_getElem? (i := 3) rfl)) (hw _ (List.mem_of_getElem? (i := 2) rfl)) (by decide) (by decide)) (g := (mkF m 134 #[.val (.int i0), .val (.long q1), .second, .val (.int ln), .val (.int d1), .val (.int d2), .val (.int d3), .val (.int d4), .val (.int c0), .unset, .unset, .unset, .unset, .unset, .unset, .unset] [(.int (1 : Int32)), (.long q1)])) rfl (by rw [hml]; rfl) (argsL := [(.long q1), (.int (1 : Int32))]) (rest := []) (lenOf pd_19 rfl) rfl (by show 2 * 0 + _ ≤ _; exact Nat.le_of_eq rfl) (hb hby at_134) (fun _ _ => ⟨rfl, e65, (Nat.le_of_ble_eq_true rfl), (Nat.le_of_ble_eq_true rfl)⟩)
      dsimp only [Pt.U, Pt.locs, Pt.cells, Pt.slots] at X66 l66 y66 z66 st66 hQ66
      subst l66 y66 z66
      obtain ⟨c1, rfl, N66q, e66, S1⟩ := hQ66
      have Nf := Fr.app Nf N66q
      refine own_go (fun tQ kQ => st66 tQ kQ) ?_
      show own_End p e below _ (T66.setTop (mkF m 137 #[.val (.int i0), .val (.long q1), .second, .val (.int ln), .val (.int d1), .val (.int d2), .val (.int d3), .val (.int d4), .val (.int c0), .unset, .unset, .unset, .unset, .unset, .unset, .unset] [(.int c1)]))
      exact J137 d1 d2 d3 d4 c0 c1 T66 _ h _ _ X66 e66 Nf Zs Kp szr hS hkW hZ hown Ol H1 H2 H3 H4 HX S0 (Or.inr ⟨hc124, S1⟩)
    ·
      refine own_go (fun tQ kQ => XS.ifNo X65.here hx rfl (hb hby at_124) rfl ((if0 _ _).trans (feq hc124).1) kQ) ?_
      show own_End p e below _ (T65.setTop (mkF m 127 #[.val (.int i0), .val (.long q1), .second, .val (.int ln), .val (.int d1), .val (.int d2), .val (.int d3), .val (.int d4), .val (.int c0), .unset, .unset, .unset, .unset, .unset, .unset, .unset] []))
      refine own_go (fun tQ kQ => XS.bipush X65.here hx rfl (hb hby at_127) kQ) ?_
      show own_End p e below _ (T65.setTop (mkF m 129 #[.val (.int i0), .val (.long q1), .second, .val (.int ln), .val (.int d1), .val (.int d2), .val (.int d3), .val (.int d4), .val (.int c0), .unset, .unset, .unset, .unset, .unset, .unset, .unset] [(.int (46 : Int32))]))
      refine own_go (fun tQ kQ => XS.goto X65.here hx rfl (pc0 := 129) (pc' := 137) rfl (hb hby at_129) (by decide) (by decide) kQ) ?_
      show own_End p e below _ (T65.setTop (mkF m 137 #[.val (.int i0), .val (.long q1), .second, .val (.int ln), .val (.int d1), .val (.int d2), .val (.int d3), .val (.int d4), .val (.int c0), .unset, .unset, .unset, .unset, .unset, .unset, .unset] [(.int (46 : Int32))]))
      exact J137 d1 d2 d3 d4 c0 (46 : Int32) T65 _ h _ _ X65 e65 Nf Zs Kp szr hS hkW hZ hown Ol H1 H2 H3 H4 HX S0 (Or.inl ⟨own_one1 H1 hc124, rfl⟩)
  have J90 : ∀ (d1 : Int32) (d2 : Int32) (d3 : Int32) (d4 : Int32) (T : State) (locs : List Loc) (h : Heap) (vm0 : Vm) (k0 : Nat) (X : Stand p l e room_1 (s.setVm vm0) m #[(.int i0), (.long q1)] below meth c T locs 0 0) (eT : T.heap = h) (Nf : Fr n0 locs) (Zs : n0 ≤ h.size) (Kp : Keep h0 h []) (szr : h0.size ≤ h.size) (hS : s.Since vm0 k0) (hkW : k0 ≤ h.size) (hZ : Z.Warmed39 (s.setVm vm0).vm) (hown : (s.setVm vm0).vm.findClass "com/example/grant3/grant3/PermissionParsePinLaw" = some m.cls) (Ol : Old Z n0 h) (H1 : d1 = 0 ∨ d1 = 1) (H2 : d2 = 0 ∨ (d2 = 1 ∧ ¬ ln < 4 ∧ d1 = 0)) (H3 : d3 = 0 ∨ (d3 = 1 ∧ ¬ ln < 5 ∧ d2 = 0)) (H4 : d4 = 0 ∨ (d4 = 1 ∧ ¬ ln < 6 ∧ d3 = 0)), own_End p e below (P0 Z i0 q1 cz fm h0 n0 s) (T.setTop (mkF m 90 #[.val (.int i0), .val (.long q1), .second, .val (.int ln), .val (.int d1), .val (.int d2), .val (.int d3), .unset, .unset, .unset, .unset, .unset, .unset, .unset, .unset, .unset] [(.int d4)])) := by
    intro d1 d2 d3 d4 T locs h vm0 k0 X eT Nf Zs Kp szr hS hkW hZ hown Ol H1 H2 H3 H4
    refine own_go (fun tQ kQ => XS.istore X.here hx rfl (hb hby at_90) rfl (l' := #[.val (.int i0), .val (.long q1), .second, .val (.int ln), .val (.int d1), .val (.int d2), .val (.int d3), .val (.int d4), .unset, .unset, .unset, .unset, .unset, .unset, .unset, .unset]) rfl kQ) ?_
    show own_End p e below _ (T.setTop (mkF m 92 #[.val (.int i0), .val (.long q1), .second, .val (.int ln), .val (.int d1), .val (.int d2), .val (.int d3), .val (.int d4), .unset, .unset, .unset, .unset, .unset, .unset, .unset, .unset] []))
    refine own_go (fun tQ kQ => XS.iload X.here hx rfl (hb hby at_92) rfl kQ) ?_
    show own_End p e below _ (T.setTop (mkF m 94 #[.val (.int i0), .val (.long q1), .second, .val (.int ln), .val (.int d1), .val (.int d2), .val (.int d3), .val (.int d4), .unset, .unset, .unset, .unset, .unset, .unset, .unset, .unset] [(.int d1)]))
    by_cases hc94 : d1 = (0 : Int32)
    ·
      refine own_go (fun tQ kQ => XS.ifNo X.here hx rfl (hb hby at_94) rfl ((if0 _ _).trans (teq hc94).2) kQ) ?_
      show own_End p e below _ (T.setTop (mkF m 97 #[.val (.int i0), .val (.long q1), .second, .val (.int ln), .val (.int d1), .val (.int d2), .val (.int d3), .val (.int d4), .unset, .unset, .unset, .unset, .unset, .unset, .unset, .unset] []))
      refine own_go (fun tQ kQ => XS.iload X.here hx rfl (hb hby at_97) rfl kQ) ?_
      show own_End p e below _ (T.setTop (mkF m 99 #[.val (.int i0), .val (.long q1), .second, .val (.int ln), .val (.int d1), .val (.int d2), .val (.int d3), .val (.int d4), .unset, .unset, .unset, .unset, .unset, .unset, .unset, .unset] [(.int d2)]))
      by_cases hc99 : d2 = (0 : Int32)
      ·
        refine own_go (fun tQ kQ => XS.ifNo X.here hx rfl (hb hby at_99) rfl ((if0 _ _).trans (teq hc99).2) kQ) ?_
        show own_End p e below _ (T.setTop (mkF m 102 #[.val (.int i0), .val (.long q1), .second, .val (.int ln), .val (.int d1), .val (.int d2), .val (.int d3), .val (.int d4), .unset, .unset, .unset, .unset, .unset, .unset, .unset, .unset] []))
        refine own_go (fun tQ kQ => XS.iload X.here hx rfl (hb hby at_102) rfl kQ) ?_
        show own_End p e below _ (T.setTop (mkF m 104 #[.val (.int i0), .val (.long q1), .second, .val (.int ln), .val (.int d1), .val (.int d2), .val (.int d3), .val (.int d4), .unset, .unset, .unset, .unset, .unset, .unset, .unset, .unset] [(.int d3)]))
        by_cases hc104 : d3 = (0 : Int32)
        ·
          refine own_go (fun tQ kQ => XS.ifNo X.here hx rfl (hb hby at_104) rfl ((if0 _ _).trans (teq hc104).2) kQ) ?_
          show own_End p e below _ (T.setTop (mkF m 107 #[.val (.int i0), .val (.long q1), .second, .val (.int ln), .val (.int d1), .val (.int d2), .val (.int d3), .val (.int d4), .unset, .unset, .unset, .unset, .unset, .unset, .unset, .unset] []))
          refine own_go (fun tQ kQ => XS.iload X.here hx rfl (hb hby at_107) rfl kQ) ?_
          show own_End p e below _ (T.setTop (mkF m 109 #[.val (.int i0), .val (.long q1), .second, .val (.int ln), .val (.int d1), .val (.int d2), .val (.int d3), .val (.int d4), .unset, .unset, .unset, .unset, .unset, .unset, .unset, .unset] [(.int d4)]))
          by_cases hc109 : d4 = (0 : Int32)
          ·
            refine own_go (fun tQ kQ => XS.ifNo X.here hx rfl (hb hby at_109) rfl ((if0 _ _).trans (teq hc109).2) kQ) ?_
            show own_End p e below _ (T.setTop (mkF m 112 #[.val (.int i0), .val (.long q1), .second, .val (.int ln), .val (.int d1), .val (.int d2), .val (.int d3), .val (.int d4), .unset, .unset, .unset, .unset, .unset, .unset, .unset, .unset] []))
            refine own_go (fun tQ kQ => XS.iconst X.here hx rfl (hb hby at_112) kQ) ?_
            show own_End p e below _ (T.setTop (mkF m 113 #[.val (.int i0), .val (.long q1), .second, .val (.int ln), .val (.int d1), .val (.int d2), .val (.int d3), .val (.int d4), .unset, .unset, .unset, .unset, .unset, .unset, .unset, .unset] [(.int (1 : Int32))]))
            refine own_go (fun tQ kQ => XS.istore X.here hx rfl (hb hby at_113) rfl (l' := #[.val (.int i0), .val (.long q1), .second, .val (.int ln), .val (.int (1 : Int32)), .val (.int d2), .val (.int d3), .val (.int d4), .unset, .unset, .unset, .unset, .unset, .unset, .unset, .unset]) rfl kQ) ?_
            show own_End p e below _ (T.setTop (mkF m 115 #[.val (.int i0), .val (.long q1), .second, .val (.int ln), .val (.int (1 : Int32)), .val (.int d2), .val (.int d3), .val (.int d4), .unset, .unset, .unset, .unset, .unset, .unset, .unset, .unset] []))
            exact J115 (1 : Int32) d2 d3 d4 T _ h _ _ X eT Nf Zs Kp szr hS hkW hZ hown Ol (Or.inr rfl) (Or.inl hc99) H3 H4 (Or.inl rfl)
          ·
            refine own_go (fun tQ kQ => XS.ifYes X.here hx rfl (pc0 := 109) (pc' := 115) rfl (hb hby at_109) rfl ((if0 _ _).trans (feq hc109).2) (by decide) (by decide) kQ) ?_
            show own_End p e below _ (T.setTop (mkF m 115 #[.val (.int i0), .val (.long q1), .second, .val (.int ln), .val (.int d1), .val (.int d2), .val (.int d3), .val (.int d4), .unset, .unset, .unset, .unset, .unset, .unset, .unset, .unset] []))
            exact J115 d1 d2 d3 d4 T _ h _ _ X eT Nf Zs Kp szr hS hkW hZ hown Ol H1 H2 H3 H4 (Or.inr (Or.inr (Or.inr (own_one H4 hc109))))
        ·
          refine own_go (fun tQ kQ => XS.ifYes X.here hx rfl (pc0 := 104) (pc' := 115) rfl (hb hby at_104) rfl ((if0 _ _).trans (feq hc104).2) (by decide) (by decide) kQ) ?_
          show own_End p e below _ (T.setTop (mkF m 115 #[.val (.int i0), .val (.long q1), .second, .val (.int ln), .val (.int d1), .val (.int d2), .val (.int d3), .val (.int d4), .unset, .unset, .unset, .unset, .unset, .unset, .unset, .unset] []))
          exact J115 d1 d2 d3 d4 T _ h _ _ X eT Nf Zs Kp szr hS hkW hZ hown Ol H1 H2 H3 H4 (Or.inr (Or.inr (Or.inl (own_one H3 hc104))))
      ·
        refine own_go (fun tQ kQ => XS.ifYes X.here hx rfl (pc0 := 99) (pc' := 115) rfl (hb hby at_99) rfl ((if0 _ _).trans (feq hc99).2) (by decide) (by decide) kQ) ?_
        show own_End p e below _ (T.setTop (mkF m 115 #[.val (.int i0), .val (.long q1), .second, .val (.int ln), .val (.int d1), .val (.int d2), .val (.int d3), .val (.int d4), .unset, .unset, .unset, .unset, .unset, .unset, .unset, .unset] []))
        exact J115 d1 d2 d3 d4 T _ h _ _ X eT Nf Zs Kp szr hS hkW hZ hown Ol H1 H2 H3 H4 (Or.inr (Or.inl (own_one H2 hc99)))
    ·
      refine own_go (fun tQ kQ => XS.ifYes X.here hx rfl (pc0 := 94) (pc' := 115) rfl (hb hby at_94) rfl ((if0 _ _).trans (feq hc94).2) (by decide) (by decide) kQ) ?_
      show own_End p e below _ (T.setTop (mkF m 115 #[.val (.int i0), .val (.long q1), .second, .val (.int ln), .val (.int d1), .val (.int d2), .val (.int d3), .val (.int d4), .unset, .unset, .unset, .unset, .unset, .unset, .unset, .unset] []))
      exact J115 d1 d2 d3 d4 T _ h _ _ X eT Nf Zs Kp szr hS hkW hZ hown Ol H1 H2 H3 H4 (Or.inl (own_one1 H1 hc94))
  have J65 : ∀ (d1 : Int32) (d2 : Int32) (d3 : Int32) (T : State) (locs : List Loc) (h : Heap) (vm0 : Vm) (k0 : Nat) (X : Stand p l e room_1 (s.setVm vm0) m #[(.int i0), (.long q1)] below meth c T locs 0 0) (eT : T.heap = h) (Nf : Fr n0 locs) (Zs : n0 ≤ h.size) (Kp : Keep h0 h []) (szr : h0.size ≤ h.size) (hS : s.Since vm0 k0) (hkW : k0 ≤ h.size) (hZ : Z.Warmed39 (s.setVm vm0).vm) (hown : (s.setVm vm0).vm.findClass "com/example/grant3/grant3/PermissionParsePinLaw" = some m.cls) (Ol : Old Z n0 h) (H1 : d1 = 0 ∨ d1 = 1) (H2 : d2 = 0 ∨ (d2 = 1 ∧ ¬ ln < 4 ∧ d1 = 0)) (H3 : d3 = 0 ∨ (d3 = 1 ∧ ¬ ln < 5 ∧ d2 = 0)), own_End p e below (P0 Z i0 q1 cz fm h0 n0 s) (T.setTop (mkF m 65 #[.val (.int i0), .val (.long q1), .second, .val (.int ln), .val (.int d1), .val (.int d2), .unset, .unset, .unset, .unset, .unset, .unset, .unset, .unset, .unset, .unset] [(.int d3)])) := by
    intro d1 d2 d3 T locs h vm0 k0 X eT Nf Zs Kp szr hS hkW hZ hown Ol H1 H2 H3
    refine own_go (fun tQ kQ => XS.istore X.here hx rfl (hb hby at_65) rfl (l' := #[.val (.int i0), .val (.long q1), .second, .val (.int ln), .val (.int d1), .val (.int d2), .val (.int d3), .unset, .unset, .unset, .unset, .unset, .unset, .unset, .unset, .unset]) rfl kQ) ?_
    show own_End p e below _ (T.setTop (mkF m 67 #[.val (.int i0), .val (.long q1), .second, .val (.int ln), .val (.int d1), .val (.int d2), .val (.int d3), .unset, .unset, .unset, .unset, .unset, .unset, .unset, .unset, .unset] []))
    refine own_go (fun tQ kQ => XS.iloadN X.here hx rfl (hb hby at_67) rfl kQ) ?_
    show own_End p e below _ (T.setTop (mkF m 68 #[.val (.int i0), .val (.long q1), .second, .val (.int ln), .val (.int d1), .val (.int d2), .val (.int d3), .unset, .unset, .unset, .unset, .unset, .unset, .unset, .unset, .unset] [(.int ln)]))
    refine own_go (fun tQ kQ => XS.bipush X.here hx rfl (hb hby at_68) kQ) ?_
    show own_End p e below _ (T.setTop (mkF m 70 #[.val (.int i0), .val (.long q1), .second, .val (.int ln), .val (.int d1), .val (.int d2), .val (.int d3), .unset, .unset, .unset, .unset, .unset, .unset, .unset, .unset, .unset] [(.int (6 : Int32)), (.int ln)]))
    by_cases hc70 : ln < (6 : Int32)
    ·
      refine own_go (fun tQ kQ => XS.icmpYes X.here hx rfl (pc0 := 70) (pc' := 89) rfl (hb hby at_70) rfl (tlt hc70).1 (by decide) (by decide) kQ) ?_
      show own_End p e below _ (T.setTop (mkF m 89 #[.val (.int i0), .val (.long q1), .second, .val (.int ln), .val (.int d1), .val (.int d2), .val (.int d3), .unset, .unset, .unset, .unset, .unset, .unset, .unset, .unset, .unset] []))
      refine own_go (fun tQ kQ => XS.iconst X.here hx rfl (hb hby at_89) kQ) ?_
      show own_End p e below _ (T.setTop (mkF m 90 #[.val (.int i0), .val (.long q1), .second, .val (.int ln), .val (.int d1), .val (.int d2), .val (.int d3), .unset, .unset, .unset, .unset, .unset, .unset, .unset, .unset, .unset] [(.int (0 : Int32))]))
      exact J90 d1 d2 d3 (0 : Int32) T _ h _ _ X eT Nf Zs Kp szr hS hkW hZ hown Ol H1 H2 H3 (Or.inl rfl)
    ·
      refine own_go (fun tQ kQ => XS.icmpNo X.here hx rfl (hb hby at_70) rfl (flt hc70).1 kQ) ?_
      show own_End p e below _ (T.setTop (mkF m 73 #[.val (.int i0), .val (.long q1), .second, .val (.int ln), .val (.int d1), .val (.int d2), .val (.int d3), .unset, .unset, .unset, .unset, .unset, .unset, .unset, .unset, .unset] []))
      refine own_go (fun tQ kQ => XS.iloadN X.here hx rfl (hb hby at_73) rfl kQ) ?_
      show own_End p e below _ (T.setTop (mkF m 74 #[.val (.int i0), .val (.long q1), .second, .val (.int ln), .val (.int d1), .val (.int d2), .val (.int d3), .unset, .unset, .unset, .unset, .unset, .unset, .unset, .unset, .unset] [(.int i0)]))
      refine own_go (fun tQ kQ => XS.bipush X.here hx rfl (hb hby at_74) kQ) ?_
      show own_End p e below _ (T.setTop (mkF m 76 #[.val (.int i0), .val (.long q1), .second, .val (.int ln), .val (.int d1), .val (.int d2), .val (.int d3), .unset, .unset, .unset, .unset, .unset, .unset, .unset, .unset, .unset] [(.int (32 : Int32)), (.int i0)]))
      refine own_go (fun tQ kQ => XS.iand X.here hx rfl (hb hby at_76) rfl kQ) ?_
      show own_End p e below _ (T.setTop (mkF m 77 #[.val (.int i0), .val (.long q1), .second, .val (.int ln), .val (.int d1), .val (.int d2), .val (.int d3), .unset, .unset, .unset, .unset, .unset, .unset, .unset, .unset, .unset] [(.int (i0 &&& (32 : Int32)))]))
      by_cases hc77 : (i0 &&& (32 : Int32)) = (0 : Int32)
      ·
        refine own_go (fun tQ kQ => XS.ifYes X.here hx rfl (pc0 := 77) (pc' := 89) rfl (hb hby at_77) rfl ((if0 _ _).trans (teq hc77).1) (by decide) (by decide) kQ) ?_
        show own_End p e below _ (T.setTop (mkF m 89 #[.val (.int i0), .val (.long q1), .second, .val (.int ln), .val (.int d1), .val (.int d2), .val (.int d3), .unset, .unset, .unset, .unset, .unset, .unset, .unset, .unset, .unset] []))
        refine own_go (fun tQ kQ => XS.iconst X.here hx rfl (hb hby at_89) kQ) ?_
        show own_End p e below _ (T.setTop (mkF m 90 #[.val (.int i0), .val (.long q1), .second, .val (.int ln), .val (.int d1), .val (.int d2), .val (.int d3), .unset, .unset, .unset, .unset, .unset, .unset, .unset, .unset, .unset] [(.int (0 : Int32))]))
        exact J90 d1 d2 d3 (0 : Int32) T _ h _ _ X eT Nf Zs Kp szr hS hkW hZ hown Ol H1 H2 H3 (Or.inl rfl)
      ·
        refine own_go (fun tQ kQ => XS.ifNo X.here hx rfl (hb hby at_77) rfl ((if0 _ _).trans (feq hc77).1) kQ) ?_
        show own_End p e below _ (T.setTop (mkF m 80 #[.val (.int i0), .val (.long q1), .second, .val (.int ln), .val (.int d1), .val (.int d2), .val (.int d3), .unset, .unset, .unset, .unset, .unset, .unset, .unset, .unset, .unset] []))
        refine own_go (fun tQ kQ => XS.iload X.here hx rfl (hb hby at_80) rfl kQ) ?_
        show own_End p e below _ (T.setTop (mkF m 82 #[.val (.int i0), .val (.long q1), .second, .val (.int ln), .val (.int d1), .val (.int d2), .val (.int d3), .unset, .unset, .unset, .unset, .unset, .unset, .unset, .unset, .unset] [(.int d3)]))
        by_cases hc82 : d3 = (0 : Int32)
        ·
          refine own_go (fun tQ kQ => XS.ifNo X.here hx rfl (hb hby at_82) rfl ((if0 _ _).trans (teq hc82).2) kQ) ?_
          show own_End p e below _ (T.setTop (mkF m 85 #[.val (.int i0), .val (.long q1), .second, .val (.int ln), .val (.int d1), .val (.int d2), .val (.int d3), .unset, .unset, .unset, .unset, .unset, .unset, .unset, .unset, .unset] []))
          refine own_go (fun tQ kQ => XS.iconst X.here hx rfl (hb hby at_85) kQ) ?_
          show own_End p e below _ (T.setTop (mkF m 86 #[.val (.int i0), .val (.long q1), .second, .val (.int ln), .val (.int d1), .val (.int d2), .val (.int d3), .unset, .unset, .unset, .unset, .unset, .unset, .unset, .unset, .unset] [(.int (1 : Int32))]))
          refine own_go (fun tQ kQ => XS.goto X.here hx rfl (pc0 := 86) (pc' := 90) rfl (hb hby at_86) (by decide) (by decide) kQ) ?_
          show own_End p e below _ (T.setTop (mkF m 90 #[.val (.int i0), .val (.long q1), .second, .val (.int ln), .val (.int d1), .val (.int d2), .val (.int d3), .unset, .unset, .unset, .unset, .unset, .unset, .unset, .unset, .unset] [(.int (1 : Int32))]))
          exact J90 d1 d2 d3 (1 : Int32) T _ h _ _ X eT Nf Zs Kp szr hS hkW hZ hown Ol H1 H2 H3 (Or.inr ⟨rfl, hc70, hc82⟩)
        ·
          refine own_go (fun tQ kQ => XS.ifYes X.here hx rfl (pc0 := 82) (pc' := 89) rfl (hb hby at_82) rfl ((if0 _ _).trans (feq hc82).2) (by decide) (by decide) kQ) ?_
          show own_End p e below _ (T.setTop (mkF m 89 #[.val (.int i0), .val (.long q1), .second, .val (.int ln), .val (.int d1), .val (.int d2), .val (.int d3), .unset, .unset, .unset, .unset, .unset, .unset, .unset, .unset, .unset] []))
          refine own_go (fun tQ kQ => XS.iconst X.here hx rfl (hb hby at_89) kQ) ?_
          show own_End p e below _ (T.setTop (mkF m 90 #[.val (.int i0), .val (.long q1), .second, .val (.int ln), .val (.int d1), .val (.int d2), .val (.int d3), .unset, .unset, .unset, .unset, .unset, .unset, .unset, .unset, .unset] [(.int (0 : Int32))]))
          exact J90 d1 d2 d3 (0 : Int32) T _ h _ _ X eT Nf Zs Kp szr hS hkW hZ hown Ol H1 H2 H3 (Or.inl rfl)
  have J41 : ∀ (d1 : Int32) (d2 : Int32) (T : State) (locs : List Loc) (h : Heap) (vm0 : Vm) (k0 : Nat) (X : Stand p l e room_1 (s.setVm vm0) m #[(.int i0), (.long q1)] below meth c T locs 0 0) (eT : T.heap = h) (Nf : Fr n0 locs) (Zs : n0 ≤ h.size) (Kp : Keep h0 h []) (szr : h0.size ≤ h.size) (hS : s.Since vm0 k0) (hkW : k0 ≤ h.size) (hZ : Z.Warmed39 (s.setVm vm0).vm) (hown : (s.setVm vm0).vm.findClass "com/example/grant3/grant3/PermissionParsePinLaw" = some m.cls) (Ol : Old Z n0 h) (H1 : d1 = 0 ∨ d1 = 1) (H2 : d2 = 0 ∨ (d2 = 1 ∧ ¬ ln < 4 ∧ d1 = 0)), own_End p e below (P0 Z i0 q1 cz fm h0 n0 s) (T.setTop (mkF m 41 #[.val (.int i0), .val (.long q1), .second, .val (.int ln), .val (.int d1), .unset, .unset, .unset, .unset, .unset, .unset, .unset, .unset, .unset, .unset, .unset] [(.int d2)])) := by
    intro d1 d2 T locs h vm0 k0 X eT Nf Zs Kp szr hS hkW hZ hown Ol H1 H2
    refine own_go (fun tQ kQ => XS.istore X.here hx rfl (hb hby at_41) rfl (l' := #[.val (.int i0), .val (.long q1), .second, .val (.int ln), .val (.int d1), .val (.int d2), .unset, .unset, .unset, .unset, .unset, .unset, .unset, .unset, .unset, .unset]) rfl kQ) ?_
    show own_End p e below _ (T.setTop (mkF m 43 #[.val (.int i0), .val (.long q1), .second, .val (.int ln), .val (.int d1), .val (.int d2), .unset, .unset, .unset, .unset, .unset, .unset, .unset, .unset, .unset, .unset] []))
    refine own_go (fun tQ kQ => XS.iloadN X.here hx rfl (hb hby at_43) rfl kQ) ?_
    show own_End p e below _ (T.setTop (mkF m 44 #[.val (.int i0), .val (.long q1), .second, .val (.int ln), .val (.int d1), .val (.int d2), .unset, .unset, .unset, .unset, .unset, .unset, .unset, .unset, .unset, .unset] [(.int ln)]))
    refine own_go (fun tQ kQ => XS.iconst X.here hx rfl (hb hby at_44) kQ) ?_
    show own_End p e below _ (T.setTop (mkF m 45 #[.val (.int i0), .val (.long q1), .second, .val (.int ln), .val (.int d1), .val (.int d2), .unset, .unset, .unset, .unset, .unset, .unset, .unset, .unset, .unset, .unset] [(.int (5 : Int32)), (.int ln)]))
    by_cases hc45 : ln < (5 : Int32)
    ·
      refine own_go (fun tQ kQ => XS.icmpYes X.here hx rfl (pc0 := 45) (pc' := 64) rfl (hb hby at_45) rfl (tlt hc45).1 (by decide) (by decide) kQ) ?_
      show own_End p e below _ (T.setTop (mkF m 64 #[.val (.int i0), .val (.long q1), .second, .val (.int ln), .val (.int d1), .val (.int d2), .unset, .unset, .unset, .unset, .unset, .unset, .unset, .unset, .unset, .unset] []))
      refine own_go (fun tQ kQ => XS.iconst X.here hx rfl (hb hby at_64) kQ) ?_
      show own_End p e below _ (T.setTop (mkF m 65 #[.val (.int i0), .val (.long q1), .second, .val (.int ln), .val (.int d1), .val (.int d2), .unset, .unset, .unset, .unset, .unset, .unset, .unset, .unset, .unset, .unset] [(.int (0 : Int32))]))
      exact J65 d1 d2 (0 : Int32) T _ h _ _ X eT Nf Zs Kp szr hS hkW hZ hown Ol H1 H2 (Or.inl rfl)
    ·
      refine own_go (fun tQ kQ => XS.icmpNo X.here hx rfl (hb hby at_45) rfl (flt hc45).1 kQ) ?_
      show own_End p e below _ (T.setTop (mkF m 48 #[.val (.int i0), .val (.long q1), .second, .val (.int ln), .val (.int d1), .val (.int d2), .unset, .unset, .unset, .unset, .unset, .unset, .unset, .unset, .unset, .unset] []))
      refine own_go (fun tQ kQ => XS.iloadN X.here hx rfl (hb hby at_48) rfl kQ) ?_
      show own_End p e below _ (T.setTop (mkF m 49 #[.val (.int i0), .val (.long q1), .second, .val (.int ln), .val (.int d1), .val (.int d2), .unset, .unset, .unset, .unset, .unset, .unset, .unset, .unset, .unset, .unset] [(.int i0)]))
      refine own_go (fun tQ kQ => XS.bipush X.here hx rfl (hb hby at_49) kQ) ?_
      show own_End p e below _ (T.setTop (mkF m 51 #[.val (.int i0), .val (.long q1), .second, .val (.int ln), .val (.int d1), .val (.int d2), .unset, .unset, .unset, .unset, .unset, .unset, .unset, .unset, .unset, .unset] [(.int (16 : Int32)), (.int i0)]))
      refine own_go (fun tQ kQ => XS.iand X.here hx rfl (hb hby at_51) rfl kQ) ?_
      show own_End p e below _ (T.setTop (mkF m 52 #[.val (.int i0), .val (.long q1), .second, .val (.int ln), .val (.int d1), .val (.int d2), .unset, .unset, .unset, .unset, .unset, .unset, .unset, .unset, .unset, .unset] [(.int (i0 &&& (16 : Int32)))]))
      by_cases hc52 : (i0 &&& (16 : Int32)) = (0 : Int32)
      ·
        refine own_go (fun tQ kQ => XS.ifYes X.here hx rfl (pc0 := 52) (pc' := 64) rfl (hb hby at_52) rfl ((if0 _ _).trans (teq hc52).1) (by decide) (by decide) kQ) ?_
        show own_End p e below _ (T.setTop (mkF m 64 #[.val (.int i0), .val (.long q1), .second, .val (.int ln), .val (.int d1), .val (.int d2), .unset, .unset, .unset, .unset, .unset, .unset, .unset, .unset, .unset, .unset] []))
        refine own_go (fun tQ kQ => XS.iconst X.here hx rfl (hb hby at_64) kQ) ?_
        show own_End p e below _ (T.setTop (mkF m 65 #[.val (.int i0), .val (.long q1), .second, .val (.int ln), .val (.int d1), .val (.int d2), .unset, .unset, .unset, .unset, .unset, .unset, .unset, .unset, .unset, .unset] [(.int (0 : Int32))]))
        exact J65 d1 d2 (0 : Int32) T _ h _ _ X eT Nf Zs Kp szr hS hkW hZ hown Ol H1 H2 (Or.inl rfl)
      ·
        refine own_go (fun tQ kQ => XS.ifNo X.here hx rfl (hb hby at_52) rfl ((if0 _ _).trans (feq hc52).1) kQ) ?_
        show own_End p e below _ (T.setTop (mkF m 55 #[.val (.int i0), .val (.long q1), .second, .val (.int ln), .val (.int d1), .val (.int d2), .unset, .unset, .unset, .unset, .unset, .unset, .unset, .unset, .unset, .unset] []))
        refine own_go (fun tQ kQ => XS.iload X.here hx rfl (hb hby at_55) rfl kQ) ?_
        show own_End p e below _ (T.setTop (mkF m 57 #[.val (.int i0), .val (.long q1), .second, .val (.int ln), .val (.int d1), .val (.int d2), .unset, .unset, .unset, .unset, .unset, .unset, .unset, .unset, .unset, .unset] [(.int d2)]))
        by_cases hc57 : d2 = (0 : Int32)
        ·
          refine own_go (fun tQ kQ => XS.ifNo X.here hx rfl (hb hby at_57) rfl ((if0 _ _).trans (teq hc57).2) kQ) ?_
          show own_End p e below _ (T.setTop (mkF m 60 #[.val (.int i0), .val (.long q1), .second, .val (.int ln), .val (.int d1), .val (.int d2), .unset, .unset, .unset, .unset, .unset, .unset, .unset, .unset, .unset, .unset] []))
          refine own_go (fun tQ kQ => XS.iconst X.here hx rfl (hb hby at_60) kQ) ?_
          show own_End p e below _ (T.setTop (mkF m 61 #[.val (.int i0), .val (.long q1), .second, .val (.int ln), .val (.int d1), .val (.int d2), .unset, .unset, .unset, .unset, .unset, .unset, .unset, .unset, .unset, .unset] [(.int (1 : Int32))]))
          refine own_go (fun tQ kQ => XS.goto X.here hx rfl (pc0 := 61) (pc' := 65) rfl (hb hby at_61) (by decide) (by decide) kQ) ?_
          show own_End p e below _ (T.setTop (mkF m 65 #[.val (.int i0), .val (.long q1), .second, .val (.int ln), .val (.int d1), .val (.int d2), .unset, .unset, .unset, .unset, .unset, .unset, .unset, .unset, .unset, .unset] [(.int (1 : Int32))]))
          exact J65 d1 d2 (1 : Int32) T _ h _ _ X eT Nf Zs Kp szr hS hkW hZ hown Ol H1 H2 (Or.inr ⟨rfl, hc45, hc57⟩)
        ·
          refine own_go (fun tQ kQ => XS.ifYes X.here hx rfl (pc0 := 57) (pc' := 64) rfl (hb hby at_57) rfl ((if0 _ _).trans (feq hc57).2) (by decide) (by decide) kQ) ?_
          show own_End p e below _ (T.setTop (mkF m 64 #[.val (.int i0), .val (.long q1), .second, .val (.int ln), .val (.int d1), .val (.int d2), .unset, .unset, .unset, .unset, .unset, .unset, .unset, .unset, .unset, .unset] []))
          refine own_go (fun tQ kQ => XS.iconst X.here hx rfl (hb hby at_64) kQ) ?_
          show own_End p e below _ (T.setTop (mkF m 65 #[.val (.int i0), .val (.long q1), .second, .val (.int ln), .val (.int d1), .val (.int d2), .unset, .unset, .unset, .unset, .unset, .unset, .unset, .unset, .unset, .unset] [(.int (0 : Int32))]))
          exact J65 d1 d2 (0 : Int32) T _ h _ _ X eT Nf Zs Kp szr hS hkW hZ hown Ol H1 H2 (Or.inl rfl)
  have J17 : ∀ (d1 : Int32) (T : State) (locs : List Loc) (h : Heap) (vm0 : Vm) (k0 : Nat) (X : Stand p l e room_1 (s.setVm vm0) m #[(.int i0), (.long q1)] below meth c T locs 0 0) (eT : T.heap = h) (Nf : Fr n0 locs) (Zs : n0 ≤ h.size) (Kp : Keep h0 h []) (szr : h0.size ≤ h.size) (hS : s.Since vm0 k0) (hkW : k0 ≤ h.size) (hZ : Z.Warmed39 (s.setVm vm0).vm) (hown : (s.setVm vm0).vm.findClass "com/example/grant3/grant3/PermissionParsePinLaw" = some m.cls) (Ol : Old Z n0 h) (H1 : d1 = 0 ∨ d1 = 1), own_End p e below (P0 Z i0 q1 cz fm h0 n0 s) (T.setTop (mkF m 17 #[.val (.int i0), .val (.long q1), .second, .val (.int ln), .unset, .unset, .unset, .unset, .unset, .unset, .unset, .unset, .unset, .unset, .unset, .unset] [(.int d1)])) := by
    intro d1 T locs h vm0 k0 X eT Nf Zs Kp szr hS hkW hZ hown Ol H1
    refine own_go (fun tQ kQ => XS.istore X.here hx rfl (hb hby at_17) rfl (l' := #[.val (.int i0), .val (.long q1), .second, .val (.int ln), .val (.int d1), .unset, .unset, .unset, .unset, .unset, .unset, .unset, .unset, .unset, .unset, .unset]) rfl kQ) ?_
    show own_End p e below _ (T.setTop (mkF m 19 #[.val (.int i0), .val (.long q1), .second, .val (.int ln), .val (.int d1), .unset, .unset, .unset, .unset, .unset, .unset, .unset, .unset, .unset, .unset, .unset] []))
    refine own_go (fun tQ kQ => XS.iloadN X.here hx rfl (hb hby at_19) rfl kQ) ?_
    show own_End p e below _ (T.setTop (mkF m 20 #[.val (.int i0), .val (.long q1), .second, .val (.int ln), .val (.int d1), .unset, .unset, .unset, .unset, .unset, .unset, .unset, .unset, .unset, .unset, .unset] [(.int ln)]))
    refine own_go (fun tQ kQ => XS.iconst X.here hx rfl (hb hby at_20) kQ) ?_
    show own_End p e below _ (T.setTop (mkF m 21 #[.val (.int i0), .val (.long q1), .second, .val (.int ln), .val (.int d1), .unset, .unset, .unset, .unset, .unset, .unset, .unset, .unset, .unset, .unset, .unset] [(.int (4 : Int32)), (.int ln)]))
    by_cases hc21 : ln < (4 : Int32)
    ·
      refine own_go (fun tQ kQ => XS.icmpYes X.here hx rfl (pc0 := 21) (pc' := 40) rfl (hb hby at_21) rfl (tlt hc21).1 (by decide) (by decide) kQ) ?_
      show own_End p e below _ (T.setTop (mkF m 40 #[.val (.int i0), .val (.long q1), .second, .val (.int ln), .val (.int d1), .unset, .unset, .unset, .unset, .unset, .unset, .unset, .unset, .unset, .unset, .unset] []))
      refine own_go (fun tQ kQ => XS.iconst X.here hx rfl (hb hby at_40) kQ) ?_
      show own_End p e below _ (T.setTop (mkF m 41 #[.val (.int i0), .val (.long q1), .second, .val (.int ln), .val (.int d1), .unset, .unset, .unset, .unset, .unset, .unset, .unset, .unset, .unset, .unset, .unset] [(.int (0 : Int32))]))
      exact J41 d1 (0 : Int32) T _ h _ _ X eT Nf Zs Kp szr hS hkW hZ hown Ol H1 (Or.inl rfl)
    ·
      refine own_go (fun tQ kQ => XS.icmpNo X.here hx rfl (hb hby at_21) rfl (flt hc21).1 kQ) ?_
      show own_End p e below _ (T.setTop (mkF m 24 #[.val (.int i0), .val (.long q1), .second, .val (.int ln), .val (.int d1), .unset, .unset, .unset, .unset, .unset, .unset, .unset, .unset, .unset, .unset, .unset] []))
      refine own_go (fun tQ kQ => XS.iloadN X.here hx rfl (hb hby at_24) rfl kQ) ?_
      show own_End p e below _ (T.setTop (mkF m 25 #[.val (.int i0), .val (.long q1), .second, .val (.int ln), .val (.int d1), .unset, .unset, .unset, .unset, .unset, .unset, .unset, .unset, .unset, .unset, .unset] [(.int i0)]))
      refine own_go (fun tQ kQ => XS.bipush X.here hx rfl (hb hby at_25) kQ) ?_
      show own_End p e below _ (T.setTop (mkF m 27 #[.val (.int i0), .val (.long q1), .second, .val (.int ln), .val (.int d1), .unset, .unset, .unset, .unset, .unset, .unset, .unset, .unset, .unset, .unset, .unset] [(.int (8 : Int32)), (.int i0)]))
      refine own_go (fun tQ kQ => XS.iand X.here hx rfl (hb hby at_27) rfl kQ) ?_
      show own_End p e below _ (T.setTop (mkF m 28 #[.val (.int i0), .val (.long q1), .second, .val (.int ln), .val (.int d1), .unset, .unset, .unset, .unset, .unset, .unset, .unset, .unset, .unset, .unset, .unset] [(.int (i0 &&& (8 : Int32)))]))
      by_cases hc28 : (i0 &&& (8 : Int32)) = (0 : Int32)
      ·
        refine own_go (fun tQ kQ => XS.ifYes X.here hx rfl (pc0 := 28) (pc' := 40) rfl (hb hby at_28) rfl ((if0 _ _).trans (teq hc28).1) (by decide) (by decide) kQ) ?_
        show own_End p e below _ (T.setTop (mkF m 40 #[.val (.int i0), .val (.long q1), .second, .val (.int ln), .val (.int d1), .unset, .unset, .unset, .unset, .unset, .unset, .unset, .unset, .unset, .unset, .unset] []))
        refine own_go (fun tQ kQ => XS.iconst X.here hx rfl (hb hby at_40) kQ) ?_
        show own_End p e below _ (T.setTop (mkF m 41 #[.val (.int i0), .val (.long q1), .second, .val (.int ln), .val (.int d1), .unset, .unset, .unset, .unset, .unset, .unset, .unset, .unset, .unset, .unset, .unset] [(.int (0 : Int32))]))
        exact J41 d1 (0 : Int32) T _ h _ _ X eT Nf Zs Kp szr hS hkW hZ hown Ol H1 (Or.inl rfl)
      ·
        refine own_go (fun tQ kQ => XS.ifNo X.here hx rfl (hb hby at_28) rfl ((if0 _ _).trans (feq hc28).1) kQ) ?_
        show own_End p e below _ (T.setTop (mkF m 31 #[.val (.int i0), .val (.long q1), .second, .val (.int ln), .val (.int d1), .unset, .unset, .unset, .unset, .unset, .unset, .unset, .unset, .unset, .unset, .unset] []))
        refine own_go (fun tQ kQ => XS.iload X.here hx rfl (hb hby at_31) rfl kQ) ?_
        show own_End p e below _ (T.setTop (mkF m 33 #[.val (.int i0), .val (.long q1), .second, .val (.int ln), .val (.int d1), .unset, .unset, .unset, .unset, .unset, .unset, .unset, .unset, .unset, .unset, .unset] [(.int d1)]))
        by_cases hc33 : d1 = (0 : Int32)
        ·
          refine own_go (fun tQ kQ => XS.ifNo X.here hx rfl (hb hby at_33) rfl ((if0 _ _).trans (teq hc33).2) kQ) ?_
          show own_End p e below _ (T.setTop (mkF m 36 #[.val (.int i0), .val (.long q1), .second, .val (.int ln), .val (.int d1), .unset, .unset, .unset, .unset, .unset, .unset, .unset, .unset, .unset, .unset, .unset] []))
          refine own_go (fun tQ kQ => XS.iconst X.here hx rfl (hb hby at_36) kQ) ?_
          show own_End p e below _ (T.setTop (mkF m 37 #[.val (.int i0), .val (.long q1), .second, .val (.int ln), .val (.int d1), .unset, .unset, .unset, .unset, .unset, .unset, .unset, .unset, .unset, .unset, .unset] [(.int (1 : Int32))]))
          refine own_go (fun tQ kQ => XS.goto X.here hx rfl (pc0 := 37) (pc' := 41) rfl (hb hby at_37) (by decide) (by decide) kQ) ?_
          show own_End p e below _ (T.setTop (mkF m 41 #[.val (.int i0), .val (.long q1), .second, .val (.int ln), .val (.int d1), .unset, .unset, .unset, .unset, .unset, .unset, .unset, .unset, .unset, .unset, .unset] [(.int (1 : Int32))]))
          exact J41 d1 (1 : Int32) T _ h _ _ X eT Nf Zs Kp szr hS hkW hZ hown Ol H1 (Or.inr ⟨rfl, hc21, hc33⟩)
        ·
          refine own_go (fun tQ kQ => XS.ifYes X.here hx rfl (pc0 := 33) (pc' := 40) rfl (hb hby at_33) rfl ((if0 _ _).trans (feq hc33).2) (by decide) (by decide) kQ) ?_
          show own_End p e below _ (T.setTop (mkF m 40 #[.val (.int i0), .val (.long q1), .second, .val (.int ln), .val (.int d1), .unset, .unset, .unset, .unset, .unset, .unset, .unset, .unset, .unset, .unset, .unset] []))
          refine own_go (fun tQ kQ => XS.iconst X.here hx rfl (hb hby at_40) kQ) ?_
          show own_End p e below _ (T.setTop (mkF m 41 #[.val (.int i0), .val (.long q1), .second, .val (.int ln), .val (.int d1), .unset, .unset, .unset, .unset, .unset, .unset, .unset, .unset, .unset, .unset, .unset] [(.int (0 : Int32))]))
          exact J41 d1 (0 : Int32) T _ h _ _ X eT Nf Zs Kp szr hS hkW hZ hown Ol H1 (Or.inl rfl)
  refine own_go (fun tQ kQ => XS.iloadN X0.here hx rfl (hb hby at_6) rfl kQ) ?_
  show own_End p e below _ (s₁.setTop (mkF m 7 #[.val (.int i0), .val (.long q1), .second, .val (.int ln), .unset, .unset, .unset, .unset, .unset, .unset, .unset, .unset, .unset, .unset, .unset, .unset] [(.int i0)]))
  refine own_go (fun tQ kQ => XS.iconst X0.here hx rfl (hb hby at_7) kQ) ?_
  show own_End p e below _ (s₁.setTop (mkF m 8 #[.val (.int i0), .val (.long q1), .second, .val (.int ln), .unset, .unset, .unset, .unset, .unset, .unset, .unset, .unset, .unset, .unset, .unset, .unset] [(.int (4 : Int32)), (.int i0)]))
  refine own_go (fun tQ kQ => XS.iand X0.here hx rfl (hb hby at_8) rfl kQ) ?_
  show own_End p e below _ (s₁.setTop (mkF m 9 #[.val (.int i0), .val (.long q1), .second, .val (.int ln), .unset, .unset, .unset, .unset, .unset, .unset, .unset, .unset, .unset, .unset, .unset, .unset] [(.int (i0 &&& (4 : Int32)))]))
  by_cases hc9 : (i0 &&& (4 : Int32)) = (0 : Int32)
  ·
    refine own_go (fun tQ kQ => XS.ifYes X0.here hx rfl (pc0 := 9) (pc' := 16) rfl (hb hby at_9) rfl ((if0 _ _).trans (teq hc9).1) (by decide) (by decide) kQ) ?_
    show own_End p e below _ (s₁.setTop (mkF m 16 #[.val (.int i0), .val (.long q1), .second, .val (.int ln), .unset, .unset, .unset, .unset, .unset, .unset, .unset, .unset, .unset, .unset, .unset, .unset] []))
    refine own_go (fun tQ kQ => XS.iconst X0.here hx rfl (hb hby at_16) kQ) ?_
    show own_End p e below _ (s₁.setTop (mkF m 17 #[.val (.int i0), .val (.long q1), .second, .val (.int ln), .unset, .unset, .unset, .unset, .unset, .unset, .unset, .unset, .unset, .unset, .unset, .unset] [(.int (0 : Int32))]))
    exact J17 (0 : Int32) s₁ _ h0 _ _ X0 e0 Nf Zs Kp szr hS hkW hZ hown Ol (Or.inl rfl)
  ·
    refine own_go (fun tQ kQ => XS.ifNo X0.here hx rfl (hb hby at_9) rfl ((if0 _ _).trans (feq hc9).1) kQ) ?_
    show own_End p e below _ (s₁.setTop (mkF m 12 #[.val (.int i0), .val (.long q1), .second, .val (.int ln), .unset, .unset, .unset, .unset, .unset, .unset, .unset, .unset, .unset, .unset, .unset, .unset] []))
    refine own_go (fun tQ kQ => XS.iconst X0.here hx rfl (hb hby at_12) kQ) ?_
    show own_End p e below _ (s₁.setTop (mkF m 13 #[.val (.int i0), .val (.long q1), .second, .val (.int ln), .unset, .unset, .unset, .unset, .unset, .unset, .unset, .unset, .unset, .unset, .unset, .unset] [(.int (1 : Int32))]))
    refine own_go (fun tQ kQ => XS.goto X0.here hx rfl (pc0 := 13) (pc' := 17) rfl (hb hby at_13) (by decide) (by decide) kQ) ?_
    show own_End p e below _ (s₁.setTop (mkF m 17 #[.val (.int i0), .val (.long q1), .second, .val (.int ln), .unset, .unset, .unset, .unset, .unset, .unset, .unset, .unset, .unset, .unset, .unset, .unset] [(.int (1 : Int32))]))
    exact J17 (1 : Int32) s₁ _ h0 _ _ X0 e0 Nf Zs Kp szr hS hkW hZ hown Ol (Or.inr rfl)
set_option maxRecDepth 65536 in
set_option maxHeartbeats 40000000 in
theorem comes_1 {Post : Tables → Env → Array Value → State → Outcome → State → Prop} (hpost : ∀ tb e args s v u, (limb_1_1.after args s (.returned v) u = true ∧ limb_1_2.after args s (.returned v) u = true ∧ True) → ReturnedEndW s (.returned v) u (Jvm.fieldLocs frame_1_writes args s ++ Jvm.arrayLocs frame_1_arrays args s ++ Jvm.staticLocs frame_1_statics s) 24 1152 → Post tb e args s (.returned v) u) :
    ArmFor flags0 classFile x code maxLocals ret World_1 tables_1 room_1 Calls_1 rest_1 Pre_1 Post := by
  intro l hfl _ _ p e ha hc hk s m args below hf hA hF happ hP
  obtain ⟨hcalls, hrest, hpre⟩ := hP
  obtain ⟨-, -, -, hnamed, -, -, -, hat⟩ := (Spec.applies_iff hf).mp happ
  obtain ⟨hg, hn⟩ := and_e (Cond.before_iff.mp (show (Jvm.Cond.and given_1 narrow_1).before args s = true from hpre))
  obtain ⟨h1, g0⟩ := and_e hg
  obtain ⟨k0, g1⟩ := and_e g0
  obtain ⟨w0, w1, rfl⟩ : ∃ w0 w1 : Value, args = #[w0, w1] := by
    have hs : args.size = 2 := by simpa [Cond.value, given_1] using h1
    obtain ⟨L⟩ := args
    match L, hs with
    | [w0, w1], _ => exact ⟨w0, w1, rfl⟩
  have hw := fun d (hd : d ∈ tables_1) => atoms_spec (ws := Jvm.Cond.code x code maxLocals ret :: tables_1) hat d (List.mem_cons_of_mem _ hd)
  have hfit : Fit s := fun {y c} hc i hi => by
    obtain ⟨ha, rfl⟩ := Array.getElem?_eq_some_iff.mp hc
    have q := List.all_eq_true.mp ((Array.all_eq_true_iff_forall_mem.mp hF) _ (Array.getElem_mem ha)) i (List.mem_range.mpr hi)
    simpa [Array.getElem?_eq_getElem hi] using q
  obtain ⟨v0, e0⟩ := is_v k0
  obtain rfl : w0 = (.int v0) := Option.some.inj e0
  obtain ⟨v1, e1⟩ := isL_v g1
  obtain rfl : w1 = (.long v1) := Option.some.inj e1
  obtain ⟨hsets, hown0⟩ := atoms_of _ (rest_1_c_eq ▸ (show rest_1_c.before _ s = true from hrest))
  have n5 := not_v (Cond.before_iff.mp (hsets _ (List.mem_of_getElem? (i := 2) rfl)))
  obtain ⟨cz, ecz⟩ := is_v (Cond.before_iff.mp (hsets _ (List.mem_of_getElem? (i := 1) rfl)))
  have S_cs : Sta s s.heap "java/lang/String" "COMPACT_STRINGS" "Z" (.int cz) := Sta.start ecz (Or.inl (hsets _ (List.mem_of_getElem? (i := 0) rfl)))
  obtain ⟨fm, efm, rfm⟩ := isR_v (Cond.before_iff.mp (hsets _ (List.mem_of_getElem? (i := 8) rfl)))
  have S_fm : Sta s s.heap "jdk/internal/util/Preconditions" "SIOOBE_FORMATTER" "Ljava/util/function/BiFunction;" fm := Sta.start efm (Or.inl (hsets _ (List.mem_of_getElem? (i := 7) rfl)))
  have hcz : ¬ (cz = (0 : Int32)) := gotF (Cond.eq_ints ecz (Term.int_eval (0))) n5
  obtain ⟨n, o, h1, h2, h3, _, L, rfl, ⟨rfl, N⟩, hq⟩ := rm0 l s _ hw tables_1 v0 v1 cz fm s.heap s.heap.size (Nat.le_refl _) (Old.start s) S_cs hcz S_fm rfm p e ha hc hk s m _ below hf ((Spec.applies_iff_loose hf).mp happ).1 ⟨rfl, State.Warmed39.refl s, rfl⟩ trivial
  refine ⟨n, _, h1, h2, h3, hpost _ _ _ _ _ _ ⟨Cond.after_iff.mpr rfl, Cond.after_iff.mpr (eq_i res_at (Term.int_eval (1)) rfl), trivial⟩ ⟨hq.1, hq.2.1, hq.2.2.1, (hq.2.2.2.sift fun y hy => Or.inr (N y hy)).mono (by decide) (by decide)⟩⟩
theorem main_1_1 : Claimed_1_1 := comes_1 fun _ _ _ _ _ _ h hF => ⟨h.1, hF⟩
theorem main_1_2 : Claimed_1_2 := comes_1 fun _ _ _ _ _ _ h hF => ⟨h.2.1, hF⟩
end Jvm.Pilot.@@N@@
namespace Jvm.Pilot.@@N@@
open Jvm Jvm.ClassFile Sem Op Lib Jvm.Free Jvm.Stand Jvm.Pilot.@@N@@.Jvm.D
/-! MADE BY PROGRAM (witnessworld.py) out of the Statement's table words and the real class files: 21 classes; the members and pool entries that the words name. The judged class is class 1, her method 3. -/
namespace start1
open Jvm.ClassFile
def u (s : String) : CpInfo := .utf8 (stringToUtf16 s)
/-- a pool by its gaps: so many unusable entries, then the entry; so many at the end -/
def gap : Nat → List CpInfo → List CpInfo
  | 0, r => r
  | n + 1, r => .unusable :: gap n r
def poolList (es : List (Nat × CpInfo)) (last : Nat) : List CpInfo := es.foldr (fun e r => gap e.1 (e.2 :: r)) (gap last [])
def pool (es : List (Nat × CpInfo)) (last : Nat) : Array CpInfo := ⟨poolList es last⟩
def fileOf (pool : Array CpInfo) (this : Nat) (attrs : Array Attribute := #[]) (ms : Array MethodInfo := #[]) (fl : Nat := 33) (sup : Nat := 0) (ifs : Array Nat := #[]) (fds : Array FieldInfo := #[]) : ClassFile where
  minorVersion := 0
  majorVersion := 65
  constantPool := pool
  accessFlags := fl
  thisClass := this
  superClass := sup
  interfaces := ifs
  fields := fds
  methods := ms
  attributes := attrs
def plain (name : String) (sup : Option ClassId) : Class where
  name := name
  kind := .ordinary
  loader := none
  accessFlags := 33
  super := sup
  interfaces := #[]
  cf := none
  fields := #[]
  methods := #[]
  instanceTypes := #[]
  staticTypes := #[]
  resolved := #[]
  callSites := []
  init := .initialized
  statics := none
  mirror := none

def pool0 : Array CpInfo := pool [(5, u "<init>"), (0, u "()V"), (1, .class_ 10), (1, u "java/lang/Object")] 113

def k0c0 : Code := { maxStack := 0, maxLocals := 1, code := object_method_1_code, exceptionTable := #[], attributes := #[] }
def k0m0 : Method := { name := "<init>", desc := "()V", sig := { parameters := [], returnType := none }, accessFlags := 1, code := some k0c0 }
/-- java/lang/Object -/
def k0 : Class := { plain "java/lang/Object" none with
  accessFlags := 33
  interfaces := #[]
  cf := some (fileOf pool0 8 #[] #[{ accessFlags := 1, nameIndex := 5, descriptorIndex := 6, attributes := #[] }] 33 0 #[] #[])
  fields := #[]
  methods := #[k0m0]
  instanceTypes := #[]
  staticTypes := #[]
  resolved := Array.replicate 124 none
  statics := none }

def pool1 : Array CpInfo := pool [(2, .class_ 4), (1, u "java/lang/Object"), (0, u "<init>"), (0, u "()V"), (0, .long 255), (1, .methodref 10 11), (0, .class_ 12), (0, .nameAndType 13 14), (0, u "com/example/grant3/grant3/PermissionParsePinLaw"), (0, u "segChar"), (0, u "(I)C"), (0, .methodref 10 16), (0, .nameAndType 17 18), (0, u "at"), (0, u "(JI)C"), (0, .class_ 20), (0, u "java/lang/String"), (0, .methodref 19 22), (0, .nameAndType 5 23), (0, u "([C)V"), (0, .methodref 25 26), (0, .class_ 27), (0, .nameAndType 28 29), (0, u "com/example/grant3/grant3/Permission"), (0, u "parse"), (0, u "(Ljava/lang/String;)Lcom/example/grant3/grant3/Permission;"), (0, .methodref 25 31), (0, .nameAndType 32 33), (0, u "toString"), (0, u "()Ljava/lang/String;"), (0, .methodref 19 35), (0, .nameAndType 36 37), (0, u "equals"), (0, u "(Ljava/lang/Object;)Z"), (3, u "law"), (0, u "(IJ)Z")] 2

def k1m0 : Method := { name := "<init>", desc := "()V", sig := { parameters := [], returnType := none }, accessFlags := 1, code := none }
def k1c1 : Code := { maxStack := 3, maxLocals := 2, code := method_2_code, exceptionTable := #[], attributes := #[] }
def k1m1 : Method := { name := "segChar", desc := "(I)C", sig := { parameters := [.int], returnType := some .char }, accessFlags := 10, code := some k1c1 }
def k1c2 : Code := { maxStack := 4, maxLocals := 3, code := method_3_code, exceptionTable := #[], attributes := #[] }
def k1m2 : Method := { name := "at", desc := "(JI)C", sig := { parameters := [.long, .int], returnType := some .char }, accessFlags := 10, code := some k1c2 }
def k1c3 : Code := { maxStack := 6, maxLocals := 16, code := code, exceptionTable := #[], attributes := #[] }
def k1m3 : Method := { name := "law", desc := "(IJ)Z", sig := { parameters := [.int, .long], returnType := some .boolean }, accessFlags := 9, code := some k1c3 }
/-- com/example/grant3/grant3/PermissionParsePinLaw -/
def k1 : Class := { plain "com/example/grant3/grant3/PermissionParsePinLaw" (some 0) with
  accessFlags := 49
  interfaces := #[]
  cf := some (fileOf pool1 10 #[] #[{ accessFlags := 1, nameIndex := 5, descriptorIndex := 6, attributes := #[] }, { accessFlags := 10, nameIndex := 13, descriptorIndex := 14, attributes := #[] }, { accessFlags := 10, nameIndex := 17, descriptorIndex := 18, attributes := #[] }, { accessFlags := 9, nameIndex := 41, descriptorIndex := 42, attributes := #[] }] 49 2 #[] #[])
  fields := #[]
  methods := #[k1m0, k1m1, k1m2, k1m3]
  instanceTypes := #[]
  staticTypes := #[]
  resolved := Array.replicate 45 none
  statics := none }

def pool2 : Array CpInfo := pool [(1, .class_ 2), (0, u "java/io/Serializable"), (0, .class_ 4), (0, u "java/lang/Object")] 2

/-- java/io/Serializable -/
def k2 : Class := { plain "java/io/Serializable" (some 0) with
  accessFlags := 1537
  interfaces := #[]
  cf := some (fileOf pool2 1 #[] #[] 1537 3 #[] #[])
  fields := #[]
  methods := #[]
  instanceTypes := #[]
  staticTypes := #[]
  resolved := Array.replicate 7 none
  statics := none }

def pool3 : Array CpInfo := pool [(1, .class_ 2), (0, u "java/lang/Comparable"), (0, .class_ 4), (0, u "java/lang/Object")] 7

/-- java/lang/Comparable -/
def k3 : Class := { plain "java/lang/Comparable" (some 0) with
  accessFlags := 1537
  interfaces := #[]
  cf := some (fileOf pool3 1 #[] #[] 1537 3 #[] #[])
  fields := #[]
  methods := #[]
  instanceTypes := #[]
  staticTypes := #[]
  resolved := Array.replicate 12 none
  statics := none }

def pool4 : Array CpInfo := pool [(2, .class_ 4), (1, u "java/lang/CharSequence"), (42, .class_ 48), (0, u "java/lang/CharSequence$1CodePointIterator"), (10, .class_ 60), (0, u "java/lang/CharSequence$1CharIterator"), (5, .class_ 67), (0, u "java/lang/Object")] 63

/-- java/lang/CharSequence -/
def k4 : Class := { plain "java/lang/CharSequence" (some 0) with
  accessFlags := 1537
  interfaces := #[]
  cf := some (fileOf pool4 2 #[.nestMembers #[47, 59]] #[] 1537 66 #[] #[])
  fields := #[]
  methods := #[]
  instanceTypes := #[]
  staticTypes := #[]
  resolved := Array.replicate 131 none
  statics := none }

def pool5 : Array CpInfo := pool [(1, .class_ 2), (0, u "java/lang/constant/Constable"), (0, .class_ 4), (0, u "java/lang/Object")] 6

/-- java/lang/constant/Constable -/
def k5 : Class := { plain "java/lang/constant/Constable" (some 0) with
  accessFlags := 1537
  interfaces := #[]
  cf := some (fileOf pool5 1 #[] #[] 1537 3 #[] #[])
  fields := #[]
  methods := #[]
  instanceTypes := #[]
  staticTypes := #[]
  resolved := Array.replicate 11 none
  statics := none }

def pool6 : Array CpInfo := pool [(1, .class_ 2), (0, u "java/lang/constant/ConstantDesc"), (0, .class_ 4), (0, u "java/lang/Object")] 32

/-- java/lang/constant/ConstantDesc -/
def k6 : Class := { plain "java/lang/constant/ConstantDesc" (some 0) with
  accessFlags := 1537
  interfaces := #[]
  cf := some (fileOf pool6 1 #[] #[] 1537 3 #[] #[])
  fields := #[]
  methods := #[]
  instanceTypes := #[]
  staticTypes := #[]
  resolved := Array.replicate 37 none
  statics := none }

def pool7 : Array CpInfo := pool [(1, .methodref 2 3), (0, .class_ 4), (0, .nameAndType 5 6), (0, u "java/lang/Object"), (0, u "<init>"), (0, u "()V"), (2, .fieldref 10 11), (0, .class_ 12), (0, .nameAndType 13 14), (0, u "java/lang/String"), (0, u "value"), (0, u "[B"), (0, .fieldref 10 16), (0, .nameAndType 17 18), (0, u "coder"), (0, u "B"), (2, u "hash"), (0, u "I"), (2, u "hashIsZero"), (0, u "Z"), (0, .methodref 10 28), (0, .nameAndType 5 29), (0, u "([CIILjava/lang/Void;)V"), (8, .fieldref 10 39), (0, .nameAndType 40 26), (0, u "COMPACT_STRINGS"), (1, .class_ 44), (1, u "java/lang/StringUTF16"), (0, u "compress"), (1, .methodref 42 48), (0, .nameAndType 49 50), (0, u "coderFromArrayLen"), (0, u "([BI)B"), (56, .class_ 109), (1, u "java/lang/StringLatin1"), (32, u "()Z"), (34, .methodref 42 178), (0, .nameAndType 45 179), (0, u "([CII)[B"), (154, u "()I"), (0, .methodref 10 336), (0, .nameAndType 17 337), (0, u "()B"), (25, u "([BI)C"), (27, u "(II)V"), (35, u "(I)C"), (64, .methodref 10 493), (0, .nameAndType 494 142), (0, u "isLatin1"), (0, .methodref 107 496), (0, .nameAndType 497 363), (0, u "charAt"), (3, u "checkIndex"), (5, u "length"), (35, u "equals"), (29, u "(Ljava/lang/Object;)Z"), (1, .class_ 576), (0, u "java/lang/CharSequence"), (22, u "CASE_INSENSITIVE_ORDER"), (0, u "Ljava/util/Comparator;"), (409, u "([C)V"), (42, .fieldref 1054 1055), (0, .class_ 1056), (0, .nameAndType 1057 1058), (0, u "jdk/internal/util/Preconditions"), (0, u "SIOOBE_FORMATTER"), (0, u "Ljava/util/function/BiFunction;"), (0, .methodref 1054 1060), (0, .nameAndType 501 1061), (0, u "(IILjava/util/function/BiFunction;)I"), (39, u "serialPersistentFields"), (0, u "[Ljava/io/ObjectStreamField;"), (0, .class_ 1104), (0, u "java/lang/String$CaseInsensitiveComparator"), (1, .class_ 1107), (0, u "java/io/Serializable"), (0, .class_ 1109), (0, u "java/lang/Comparable"), (0, .class_ 1111), (0, u "java/lang/constant/Constable"), (0, .class_ 1113), (0, u "java/lang/constant/ConstantDesc"), (2, u "serialVersionUID"), (0, u "J"), (3, u "REPL"), (0, u "C"), (2, u "LATIN1"), (1, u "UTF16")] 323

def k7m0 : Method := { name := "<init>", desc := "()V", sig := { parameters := [], returnType := none }, accessFlags := 1, code := none }
def k7c1 : Code := { maxStack := 5, maxLocals := 2, code := jdk_42_method_3_code, exceptionTable := #[], attributes := #[] }
def k7m1 : Method := { name := "<init>", desc := "([C)V", sig := { parameters := [(.array .char)], returnType := none }, accessFlags := 1, code := some k7c1 }
def k7c2 : Code := { maxStack := 2, maxLocals := 1, code := jdk_42_method_54_code, exceptionTable := #[], attributes := #[] }
def k7m2 : Method := { name := "length", desc := "()I", sig := { parameters := [], returnType := some .int }, accessFlags := 1, code := some k7c2 }
def k7c3 : Code := { maxStack := 2, maxLocals := 2, code := jdk_42_method_56_code, exceptionTable := #[], attributes := #[] }
def k7m3 : Method := { name := "charAt", desc := "(I)C", sig := { parameters := [.int], returnType := some .char }, accessFlags := 1, code := some k7c3 }
def k7c4 : Code := { maxStack := 2, maxLocals := 3, code := jdk_42_method_66_code, exceptionTable := #[], attributes := #[] }
def k7m4 : Method := { name := "equals", desc := "(Ljava/lang/Object;)Z", sig := { parameters := [(.object "java/lang/Object")], returnType := some .boolean }, accessFlags := 1, code := some k7c4 }
def k7c5 : Code := { maxStack := 4, maxLocals := 6, code := jdk_42_method_149_code, exceptionTable := #[], attributes := #[] }
def k7m5 : Method := { name := "<init>", desc := "([CIILjava/lang/Void;)V", sig := { parameters := [(.array .char), .int, .int, (.object "java/lang/Void")], returnType := none }, accessFlags := 2, code := some k7c5 }
def k7c6 : Code := { maxStack := 1, maxLocals := 1, code := jdk_42_method_152_code, exceptionTable := #[], attributes := #[] }
def k7m6 : Method := { name := "coder", desc := "()B", sig := { parameters := [], returnType := some .byte }, accessFlags := 0, code := some k7c6 }
def k7c7 : Code := { maxStack := 1, maxLocals := 1, code := jdk_42_method_154_code, exceptionTable := #[], attributes := #[] }
def k7m7 : Method := { name := "isLatin1", desc := "()Z", sig := { parameters := [], returnType := some .boolean }, accessFlags := 0, code := some k7c7 }
def k7c8 : Code := { maxStack := 3, maxLocals := 2, code := jdk_42_method_155_code, exceptionTable := #[], attributes := #[] }
def k7m8 : Method := { name := "checkIndex", desc := "(II)V", sig := { parameters := [.int, .int], returnType := none }, accessFlags := 8, code := some k7c8 }
/-- java/lang/String -/
def k7 : Class := { plain "java/lang/String" (some 0) with
  accessFlags := 49
  interfaces := #[2, 3, 4, 5, 6]
  cf := some (fileOf pool7 10 #[.nestMembers #[1103]] #[{ accessFlags := 1, nameIndex := 5, descriptorIndex := 6, attributes := #[] }, { accessFlags := 1, nameIndex := 5, descriptorIndex := 1010, attributes := #[] }, { accessFlags := 1, nameIndex := 507, descriptorIndex := 334, attributes := #[] }, { accessFlags := 1, nameIndex := 497, descriptorIndex := 427, attributes := #[] }, { accessFlags := 1, nameIndex := 543, descriptorIndex := 573, attributes := #[] }, { accessFlags := 2, nameIndex := 5, descriptorIndex := 29, attributes := #[] }, { accessFlags := 0, nameIndex := 17, descriptorIndex := 337, attributes := #[] }, { accessFlags := 0, nameIndex := 494, descriptorIndex := 142, attributes := #[] }, { accessFlags := 8, nameIndex := 501, descriptorIndex := 391, attributes := #[] }] 49 2 #[1106, 1108, 575, 1110, 1112] #[{ accessFlags := 18, nameIndex := 13, descriptorIndex := 14, attributes := #[] }, { accessFlags := 18, nameIndex := 17, descriptorIndex := 18, attributes := #[] }, { accessFlags := 2, nameIndex := 21, descriptorIndex := 22, attributes := #[] }, { accessFlags := 2, nameIndex := 25, descriptorIndex := 26, attributes := #[] }, { accessFlags := 26, nameIndex := 1116, descriptorIndex := 1117, attributes := #[] }, { accessFlags := 24, nameIndex := 40, descriptorIndex := 26, attributes := #[] }, { accessFlags := 26, nameIndex := 1101, descriptorIndex := 1102, attributes := #[] }, { accessFlags := 26, nameIndex := 1121, descriptorIndex := 1122, attributes := #[] }, { accessFlags := 25, nameIndex := 599, descriptorIndex := 600, attributes := #[] }, { accessFlags := 24, nameIndex := 1125, descriptorIndex := 18, attributes := #[] }, { accessFlags := 24, nameIndex := 1127, descriptorIndex := 18, attributes := #[] }])
  fields := #[{ name := "value", type := (.array .byte), accessFlags := 18, slot := 0, constantValue := 0 }, { name := "coder", type := .byte, accessFlags := 18, slot := 1, constantValue := 0 }, { name := "hash", type := .int, accessFlags := 2, slot := 2, constantValue := 0 }, { name := "hashIsZero", type := .boolean, accessFlags := 2, slot := 3, constantValue := 0 }, { name := "serialVersionUID", type := .long, accessFlags := 26, slot := 0, constantValue := 0 }, { name := "COMPACT_STRINGS", type := .boolean, accessFlags := 24, slot := 1, constantValue := 0 }, { name := "serialPersistentFields", type := (.array (.object "java/io/ObjectStreamField")), accessFlags := 26, slot := 2, constantValue := 0 }, { name := "REPL", type := .char, accessFlags := 26, slot := 3, constantValue := 0 }, { name := "CASE_INSENSITIVE_ORDER", type := (.object "java/util/Comparator"), accessFlags := 25, slot := 4, constantValue := 0 }, { name := "LATIN1", type := .byte, accessFlags := 24, slot := 5, constantValue := 0 }, { name := "UTF16", type := .byte, accessFlags := 24, slot := 6, constantValue := 0 }]
  methods := #[k7m0, k7m1, k7m2, k7m3, k7m4, k7m5, k7m6, k7m7, k7m8]
  instanceTypes := #[(.array .byte), .byte, .int, .boolean]
  staticTypes := #[.long, .boolean, (.array (.object "java/io/ObjectStreamField")), .char, (.object "java/util/Comparator"), .byte, .byte]
  resolved := Array.replicate 1451 none
  statics := some 0 }

def pool8 : Array CpInfo := pool [(6, .class_ 8), (1, u "java/lang/Object"), (0, u "<init>"), (0, u "()V"), (1, .class_ 14), (1, u "java/lang/StringUTF16"), (31, u "$assertionsDisabled"), (0, u "Z"), (13, u "HI_BYTE_SHIFT"), (0, u "I"), (2, u "LO_BYTE_SHIFT"), (49, .methodref 12 116), (0, .nameAndType 117 118), (0, u "compress"), (0, u "([CI[BII)I"), (3, u "([CII)[B"), (138, u "coderFromArrayLen"), (0, u "([BI)B"), (106, .class_ 371), (1, u "java/lang/StringUTF16$LinesSpliterator"), (58, u "MAX_LENGTH"), (196, .class_ 628), (0, u "java/lang/StringUTF16$CodePointsSpliterator"), (0, .class_ 630), (0, u "java/lang/StringUTF16$CharsSpliterator")] 4

def k8m0 : Method := { name := "<init>", desc := "()V", sig := { parameters := [], returnType := none }, accessFlags := 0, code := none }
def k8c1 : Code := { maxStack := 2, maxLocals := 2, code := jdk_52_method_15_code, exceptionTable := #[], attributes := #[] }
def k8m1 : Method := { name := "coderFromArrayLen", desc := "([BI)B", sig := { parameters := [(.array .byte), .int], returnType := some .byte }, accessFlags := 8, code := some k8c1 }
def k8c2 : Code := { maxStack := 5, maxLocals := 6, code := jdk_52_method_16_code, exceptionTable := #[], attributes := #[] }
def k8m2 : Method := { name := "compress", desc := "([CII)[B", sig := { parameters := [(.array .char), .int, .int], returnType := some (.array .byte) }, accessFlags := 9, code := some k8c2 }
def k8c3 : Code := { maxStack := 3, maxLocals := 7, code := jdk_52_method_21_code, exceptionTable := #[], attributes := #[] }
def k8m3 : Method := { name := "compress", desc := "([CI[BII)I", sig := { parameters := [(.array .char), .int, (.array .byte), .int, .int], returnType := some .int }, accessFlags := 9, code := some k8c3 }
/-- java/lang/StringUTF16 -/
def k8 : Class := { plain "java/lang/StringUTF16" (some 0) with
  accessFlags := 48
  interfaces := #[]
  cf := some (fileOf pool8 12 #[.nestMembers #[627, 629, 369]] #[{ accessFlags := 0, nameIndex := 9, descriptorIndex := 10, attributes := #[] }, { accessFlags := 8, nameIndex := 261, descriptorIndex := 262, attributes := #[] }, { accessFlags := 9, nameIndex := 117, descriptorIndex := 122, attributes := #[] }, { accessFlags := 9, nameIndex := 117, descriptorIndex := 118, attributes := #[] }] 48 6 #[] #[{ accessFlags := 26, nameIndex := 61, descriptorIndex := 62, attributes := #[] }, { accessFlags := 26, nameIndex := 65, descriptorIndex := 62, attributes := #[] }, { accessFlags := 24, nameIndex := 430, descriptorIndex := 62, attributes := #[] }, { accessFlags := 4120, nameIndex := 46, descriptorIndex := 47, attributes := #[] }])
  fields := #[{ name := "HI_BYTE_SHIFT", type := .int, accessFlags := 26, slot := 0, constantValue := 0 }, { name := "LO_BYTE_SHIFT", type := .int, accessFlags := 26, slot := 1, constantValue := 0 }, { name := "MAX_LENGTH", type := .int, accessFlags := 24, slot := 2, constantValue := 0 }, { name := "$assertionsDisabled", type := .boolean, accessFlags := 4120, slot := 3, constantValue := 0 }]
  methods := #[k8m0, k8m1, k8m2, k8m3]
  instanceTypes := #[]
  staticTypes := #[.int, .int, .int, .boolean]
  resolved := Array.replicate 635 none
  statics := none }

def pool9 : Array CpInfo := pool [(1, .methodref 2 3), (0, .class_ 4), (0, .nameAndType 5 6), (0, u "java/lang/Object"), (0, u "<init>"), (0, u "()V"), (0, .fieldref 8 9), (0, .class_ 10), (0, .nameAndType 11 12), (0, u "com/example/grant3/grant3/Permission"), (0, u "code"), (0, u "Ljava/lang/String;"), (0, .string 14), (0, u "Null permission code"), (0, .methodref 16 17), (0, .class_ 18), (0, .nameAndType 19 20), (0, u "java/util/Objects"), (0, u "requireNonNull"), (0, u "(Ljava/lang/Object;Ljava/lang/String;)Ljava/lang/Object;"), (0, .methodref 22 23), (0, .class_ 24), (0, .nameAndType 25 26), (0, u "java/lang/String"), (0, u "length"), (0, u "()I"), (8, .methodref 22 36), (0, .nameAndType 37 38), (0, u "charAt"), (0, u "(I)C"), (2, .methodref 8 42), (0, .nameAndType 43 44), (0, u "isSegmentCharacter"), (0, u "(C)Z"), (8, u "toString"), (5, .methodref 8 60), (0, .nameAndType 5 61), (0, u "(Ljava/lang/String;)V"), (20, .class_ 83), (0, u "java/lang/Comparable"), (0, u "MAX_LENGTH"), (0, u "I"), (4, u "parse"), (0, u "(Ljava/lang/String;)Lcom/example/grant3/grant3/Permission;"), (1, u "()Ljava/lang/String;")] 25

def k9c0 : Code := { maxStack := 2, maxLocals := 2, code := prog_6_method_1_code, exceptionTable := #[], attributes := #[] }
def k9m0 : Method := { name := "<init>", desc := "(Ljava/lang/String;)V", sig := { parameters := [(.object "java/lang/String")], returnType := none }, accessFlags := 2, code := some k9c0 }
def k9c1 : Code := { maxStack := 3, maxLocals := 5, code := prog_6_method_2_code, exceptionTable := #[], attributes := #[] }
def k9m1 : Method := { name := "parse", desc := "(Ljava/lang/String;)Lcom/example/grant3/grant3/Permission;", sig := { parameters := [(.object "java/lang/String")], returnType := some (.object "com/example/grant3/grant3/Permission") }, accessFlags := 9, code := some k9c1 }
def k9c2 : Code := { maxStack := 2, maxLocals := 1, code := prog_6_method_3_code, exceptionTable := #[], attributes := #[] }
def k9m2 : Method := { name := "isSegmentCharacter", desc := "(C)Z", sig := { parameters := [.char], returnType := some .boolean }, accessFlags := 10, code := some k9c2 }
def k9c3 : Code := { maxStack := 1, maxLocals := 1, code := prog_6_method_8_code, exceptionTable := #[], attributes := #[] }
def k9m3 : Method := { name := "toString", desc := "()Ljava/lang/String;", sig := { parameters := [], returnType := some (.object "java/lang/String") }, accessFlags := 1, code := some k9c3 }
/-- com/example/grant3/grant3/Permission -/
def k9 : Class := { plain "com/example/grant3/grant3/Permission" (some 0) with
  accessFlags := 49
  interfaces := #[3]
  cf := some (fileOf pool9 8 #[] #[{ accessFlags := 2, nameIndex := 5, descriptorIndex := 61, attributes := #[] }, { accessFlags := 9, nameIndex := 90, descriptorIndex := 91, attributes := #[] }, { accessFlags := 10, nameIndex := 43, descriptorIndex := 44, attributes := #[] }, { accessFlags := 1, nameIndex := 53, descriptorIndex := 93, attributes := #[] }] 49 2 #[82] #[{ accessFlags := 25, nameIndex := 84, descriptorIndex := 85, attributes := #[] }, { accessFlags := 18, nameIndex := 11, descriptorIndex := 12, attributes := #[] }])
  fields := #[{ name := "MAX_LENGTH", type := .int, accessFlags := 25, slot := 0, constantValue := 0 }, { name := "code", type := (.object "java/lang/String"), accessFlags := 18, slot := 0, constantValue := 0 }]
  methods := #[k9m0, k9m1, k9m2, k9m3]
  instanceTypes := #[(.object "java/lang/String")]
  staticTypes := #[.int]
  resolved := Array.replicate 119 none
  statics := none }

def pool10 : Array CpInfo := pool [(2, .class_ 4), (1, u "java/lang/Object"), (0, u "<init>"), (0, u "()V"), (35, .class_ 44), (1, u "java/util/Objects"), (0, u "requireNonNull"), (48, u "(Ljava/lang/Object;Ljava/lang/String;)Ljava/lang/Object;")] 89

def k10m0 : Method := { name := "<init>", desc := "()V", sig := { parameters := [], returnType := none }, accessFlags := 2, code := none }
def k10c1 : Code := { maxStack := 3, maxLocals := 2, code := jdk_31_method_11_code, exceptionTable := #[], attributes := #[] }
def k10m1 : Method := { name := "requireNonNull", desc := "(Ljava/lang/Object;Ljava/lang/String;)Ljava/lang/Object;", sig := { parameters := [(.object "java/lang/Object"), (.object "java/lang/String")], returnType := some (.object "java/lang/Object") }, accessFlags := 9, code := some k10c1 }
/-- java/util/Objects -/
def k10 : Class := { plain "java/util/Objects" (some 0) with
  accessFlags := 49
  interfaces := #[]
  cf := some (fileOf pool10 42 #[] #[{ accessFlags := 2, nameIndex := 5, descriptorIndex := 6, attributes := #[] }, { accessFlags := 9, nameIndex := 45, descriptorIndex := 94, attributes := #[] }] 49 2 #[] #[])
  fields := #[]
  methods := #[k10m0, k10m1]
  instanceTypes := #[]
  staticTypes := #[]
  resolved := Array.replicate 184 none
  statics := none }

def pool11 : Array CpInfo := pool [(1, .class_ 2), (0, u "java/lang/String"), (1, .class_ 6), (1, u "java/lang/Object"), (0, u "<init>"), (0, u "()V"), (0, .methodref 1 10), (0, .nameAndType 11 12), (0, u "checkIndex"), (0, u "(II)V"), (1, .class_ 16), (1, u "java/lang/StringLatin1"), (36, u "([BI)C"), (67, u "$assertionsDisabled"), (0, u "Z"), (98, .class_ 223), (1, u "java/lang/StringLatin1$LinesSpliterator"), (28, u "charAt"), (137, .class_ 391), (0, u "java/lang/StringLatin1$CharsSpliterator")] 3

def k11m0 : Method := { name := "<init>", desc := "()V", sig := { parameters := [], returnType := none }, accessFlags := 0, code := none }
def k11c1 : Code := { maxStack := 2, maxLocals := 2, code := jdk_43_method_2_code, exceptionTable := #[], attributes := #[] }
def k11m1 : Method := { name := "charAt", desc := "([BI)C", sig := { parameters := [(.array .byte), .int], returnType := some .char }, accessFlags := 9, code := some k11c1 }
/-- java/lang/StringLatin1 -/
def k11 : Class := { plain "java/lang/StringLatin1" (some 0) with
  accessFlags := 48
  interfaces := #[]
  cf := some (fileOf pool11 14 #[.nestMembers #[390, 221]] #[{ accessFlags := 0, nameIndex := 7, descriptorIndex := 8, attributes := #[] }, { accessFlags := 9, nameIndex := 252, descriptorIndex := 53, attributes := #[] }] 48 4 #[] #[{ accessFlags := 4120, nameIndex := 121, descriptorIndex := 122, attributes := #[] }])
  fields := #[{ name := "$assertionsDisabled", type := .boolean, accessFlags := 4120, slot := 0, constantValue := 0 }]
  methods := #[k11m0, k11m1]
  instanceTypes := #[]
  staticTypes := #[.boolean]
  resolved := Array.replicate 395 none
  statics := none }

def pool12 : Array CpInfo := pool [(2, .class_ 4), (1, u "java/lang/Object"), (0, u "<init>"), (0, u "()V"), (17, .class_ 26), (1, u "jdk/internal/util/Preconditions"), (6, u "checkIndex"), (21, .class_ 56), (0, u "jdk/internal/util/Preconditions$4"), (57, .class_ 115), (0, u "jdk/internal/util/Preconditions$1"), (7, u "SIOOBE_FORMATTER"), (0, u "Ljava/util/function/BiFunction;"), (0, .class_ 126), (0, u "jdk/internal/util/Preconditions$2"), (3, u "AIOOBE_FORMATTER"), (0, .class_ 132), (0, u "jdk/internal/util/Preconditions$3"), (3, u "IOOBE_FORMATTER"), (41, u "(IILjava/util/function/BiFunction;)I")] 15

def k12m0 : Method := { name := "<init>", desc := "()V", sig := { parameters := [], returnType := none }, accessFlags := 1, code := none }
def k12c1 : Code := { maxStack := 3, maxLocals := 3, code := jdk_41_method_11_code, exceptionTable := #[], attributes := #[] }
def k12m1 : Method := { name := "checkIndex", desc := "(IILjava/util/function/BiFunction;)I", sig := { parameters := [.int, .int, (.object "java/util/function/BiFunction")], returnType := some .int }, accessFlags := 9, code := some k12c1 }
/-- jdk/internal/util/Preconditions -/
def k12 : Class := { plain "jdk/internal/util/Preconditions" (some 0) with
  accessFlags := 33
  interfaces := #[]
  cf := some (fileOf pool12 24 #[.nestMembers #[55, 131, 125, 114]] #[{ accessFlags := 1, nameIndex := 5, descriptorIndex := 6, attributes := #[] }, { accessFlags := 9, nameIndex := 33, descriptorIndex := 178, attributes := #[] }] 33 2 #[] #[{ accessFlags := 25, nameIndex := 123, descriptorIndex := 124, attributes := #[] }, { accessFlags := 25, nameIndex := 130, descriptorIndex := 124, attributes := #[] }, { accessFlags := 25, nameIndex := 136, descriptorIndex := 124, attributes := #[] }])
  fields := #[{ name := "SIOOBE_FORMATTER", type := (.object "java/util/function/BiFunction"), accessFlags := 25, slot := 0, constantValue := 0 }, { name := "AIOOBE_FORMATTER", type := (.object "java/util/function/BiFunction"), accessFlags := 25, slot := 1, constantValue := 0 }, { name := "IOOBE_FORMATTER", type := (.object "java/util/function/BiFunction"), accessFlags := 25, slot := 2, constantValue := 0 }]
  methods := #[k12m0, k12m1]
  instanceTypes := #[]
  staticTypes := #[(.object "java/util/function/BiFunction"), (.object "java/util/function/BiFunction"), (.object "java/util/function/BiFunction")]
  resolved := Array.replicate 194 none
  statics := some 1 }

def pool13 : Array CpInfo := pool [(9, u "<init>"), (6, .class_ 18), (1, u "java/lang/Object"), (0, u "()V"), (1, .class_ 23), (1, u "jdk/internal/util/ArraysSupport"), (0, u "LOG2_ARRAY_LONG_INDEX_SCALE"), (0, u "I"), (2, u "U"), (0, u "Ljdk/internal/misc/Unsafe;"), (8, u "BIG_ENDIAN"), (0, u "Z"), (8, u "LOG2_BYTE_BIT_SIZE"), (4, u "LOG2_ARRAY_INT_INDEX_SCALE"), (54, u "JLA"), (0, u "Ljdk/internal/access/JavaLangAccess;"), (11, u "LOG2_ARRAY_BOOLEAN_INDEX_SCALE"), (9, u "LOG2_ARRAY_BYTE_INDEX_SCALE"), (5, u "LOG2_ARRAY_CHAR_INDEX_SCALE"), (5, u "LOG2_ARRAY_SHORT_INDEX_SCALE"), (18, u "LOG2_ARRAY_FLOAT_INDEX_SCALE"), (24, u "LOG2_ARRAY_DOUBLE_INDEX_SCALE"), (89, u "T_BOOLEAN"), (2, u "T_CHAR"), (1, u "T_FLOAT"), (1, u "T_DOUBLE"), (1, u "T_BYTE"), (1, u "T_SHORT"), (1, u "T_INT"), (1, u "T_LONG"), (1, u "SOFT_MAX_ARRAY_LENGTH")] 83

def k13m0 : Method := { name := "<init>", desc := "()V", sig := { parameters := [], returnType := none }, accessFlags := 2, code := none }
/-- jdk/internal/util/ArraysSupport -/
def k13 : Class := { plain "jdk/internal/util/ArraysSupport" (some 0) with
  accessFlags := 33
  interfaces := #[]
  cf := some (fileOf pool13 21 #[] #[{ accessFlags := 2, nameIndex := 9, descriptorIndex := 19, attributes := #[] }] 33 16 #[] #[{ accessFlags := 24, nameIndex := 28, descriptorIndex := 29, attributes := #[] }, { accessFlags := 26, nameIndex := 38, descriptorIndex := 39, attributes := #[] }, { accessFlags := 25, nameIndex := 121, descriptorIndex := 25, attributes := #[] }, { accessFlags := 25, nameIndex := 131, descriptorIndex := 25, attributes := #[] }, { accessFlags := 25, nameIndex := 137, descriptorIndex := 25, attributes := #[] }, { accessFlags := 25, nameIndex := 143, descriptorIndex := 25, attributes := #[] }, { accessFlags := 25, nameIndex := 53, descriptorIndex := 25, attributes := #[] }, { accessFlags := 25, nameIndex := 24, descriptorIndex := 25, attributes := #[] }, { accessFlags := 25, nameIndex := 162, descriptorIndex := 25, attributes := #[] }, { accessFlags := 25, nameIndex := 187, descriptorIndex := 25, attributes := #[] }, { accessFlags := 26, nameIndex := 48, descriptorIndex := 25, attributes := #[] }, { accessFlags := 25, nameIndex := 277, descriptorIndex := 25, attributes := #[] }, { accessFlags := 25, nameIndex := 280, descriptorIndex := 25, attributes := #[] }, { accessFlags := 25, nameIndex := 282, descriptorIndex := 25, attributes := #[] }, { accessFlags := 25, nameIndex := 284, descriptorIndex := 25, attributes := #[] }, { accessFlags := 25, nameIndex := 286, descriptorIndex := 25, attributes := #[] }, { accessFlags := 25, nameIndex := 288, descriptorIndex := 25, attributes := #[] }, { accessFlags := 25, nameIndex := 290, descriptorIndex := 25, attributes := #[] }, { accessFlags := 25, nameIndex := 292, descriptorIndex := 25, attributes := #[] }, { accessFlags := 26, nameIndex := 108, descriptorIndex := 109, attributes := #[] }, { accessFlags := 25, nameIndex := 294, descriptorIndex := 25, attributes := #[] }])
  fields := #[{ name := "U", type := (.object "jdk/internal/misc/Unsafe"), accessFlags := 24, slot := 0, constantValue := 0 }, { name := "BIG_ENDIAN", type := .boolean, accessFlags := 26, slot := 1, constantValue := 0 }, { name := "LOG2_ARRAY_BOOLEAN_INDEX_SCALE", type := .int, accessFlags := 25, slot := 2, constantValue := 0 }, { name := "LOG2_ARRAY_BYTE_INDEX_SCALE", type := .int, accessFlags := 25, slot := 3, constantValue := 0 }, { name := "LOG2_ARRAY_CHAR_INDEX_SCALE", type := .int, accessFlags := 25, slot := 4, constantValue := 0 }, { name := "LOG2_ARRAY_SHORT_INDEX_SCALE", type := .int, accessFlags := 25, slot := 5, constantValue := 0 }, { name := "LOG2_ARRAY_INT_INDEX_SCALE", type := .int, accessFlags := 25, slot := 6, constantValue := 0 }, { name := "LOG2_ARRAY_LONG_INDEX_SCALE", type := .int, accessFlags := 25, slot := 7, constantValue := 0 }, { name := "LOG2_ARRAY_FLOAT_INDEX_SCALE", type := .int, accessFlags := 25, slot := 8, constantValue := 0 }, { name := "LOG2_ARRAY_DOUBLE_INDEX_SCALE", type := .int, accessFlags := 25, slot := 9, constantValue := 0 }, { name := "LOG2_BYTE_BIT_SIZE", type := .int, accessFlags := 26, slot := 10, constantValue := 0 }, { name := "T_BOOLEAN", type := .int, accessFlags := 25, slot := 11, constantValue := 0 }, { name := "T_CHAR", type := .int, accessFlags := 25, slot := 12, constantValue := 0 }, { name := "T_FLOAT", type := .int, accessFlags := 25, slot := 13, constantValue := 0 }, { name := "T_DOUBLE", type := .int, accessFlags := 25, slot := 14, constantValue := 0 }, { name := "T_BYTE", type := .int, accessFlags := 25, slot := 15, constantValue := 0 }, { name := "T_SHORT", type := .int, accessFlags := 25, slot := 16, constantValue := 0 }, { name := "T_INT", type := .int, accessFlags := 25, slot := 17, constantValue := 0 }, { name := "T_LONG", type := .int, accessFlags := 25, slot := 18, constantValue := 0 }, { name := "JLA", type := (.object "jdk/internal/access/JavaLangAccess"), accessFlags := 26, slot := 19, constantValue := 0 }, { name := "SOFT_MAX_ARRAY_LENGTH", type := .int, accessFlags := 25, slot := 20, constantValue := 0 }]
  methods := #[k13m0]
  instanceTypes := #[]
  staticTypes := #[(.object "jdk/internal/misc/Unsafe"), .boolean, .int, .int, .int, .int, .int, .int, .int, .int, .int, .int, .int, .int, .int, .int, .int, .int, .int, (.object "jdk/internal/access/JavaLangAccess"), .int]
  resolved := Array.replicate 378 none
  statics := none }

def pool14 : Array CpInfo := pool [(1, u "java/lang/Cloneable"), (0, .class_ 1), (0, u "java/lang/Object"), (0, .class_ 3)] 3

/-- java/lang/Cloneable -/
def k14 : Class := { plain "java/lang/Cloneable" (some 0) with
  accessFlags := 1537
  interfaces := #[]
  cf := some (fileOf pool14 2 #[] #[] 1537 4 #[] #[])
  fields := #[]
  methods := #[]
  instanceTypes := #[]
  staticTypes := #[]
  resolved := Array.replicate 8 none
  statics := none }

/-- the primitive byte -/
def k15 : Class := { plain "byte" none with kind := .primitive 'B', accessFlags := 0x411 }
/-- [B -/
def k16 : Class := { plain "[B" (some 0) with kind := .array 15 .byte, interfaces := #[14, 2], accessFlags := 1041 }

/-- the primitive char -/
def k17 : Class := { plain "char" none with kind := .primitive 'C', accessFlags := 0x411 }
/-- [C -/
def k18 : Class := { plain "[C" (some 0) with kind := .array 17 .char, interfaces := #[14, 2], accessFlags := 1041 }

/-- the primitive int -/
def k19 : Class := { plain "int" none with kind := .primitive 'I', accessFlags := 0x411 }
/-- [I -/
def k20 : Class := { plain "[I" (some 0) with kind := .array 19 .int, interfaces := #[14, 2], accessFlags := 1041 }

def heap : Heap := #[{ cls := 7, slots := #[.long 0, .int 1, .null, .int 0, .null, .int 0, .int 0], vm := .statics 7 },
  { cls := 12, slots := #[.null, .null, .null], vm := .statics 12 }]
def classes : Array Class := #[k0, k1, k2, k3, k4, k5, k6, k7, k8, k9, k10, k11, k12, k13, k14, k15, k16, k17, k18, k19, k20]
def interned : List (Array UInt16 × Addr) := []
def slotsUsed : Nat := 10
def theMethod : MethodId := ⟨1, 3⟩
def args0 : Array Value := #[.int 5, .long 5]
def aboutOver (below : List Frame) : State where
  vm := { classes := classes, interned := interned.toArray }
  heap := heap
  slotsUsed := slotsUsed
  threads := #[{ frames := .invoking theMethod args0 :: below }]
def below0 : List Frame := [.native { method := ⟨0, 0⟩, args := #[] }]
def about1 : State := aboutOver below0
def p0 : Program := .bare "" "" ""
def e0 : Env := launch0.env 0 0 0
theorem w_frames : about1.frames = Frame.invoking theMethod args0 :: below0 := rfl
set_option maxRecDepth 65536 in
theorem w_args : argsFit about1.vm theMethod args0 = true := by decide +kernel
set_option maxRecDepth 65536 in
theorem w_heap : heapFits about1 = true := by decide +kernel
set_option maxRecDepth 65536 in
theorem w_runnable : about1.curStatus? = some .runnable := by decide +kernel
set_option maxRecDepth 65536 in
theorem w_alone : about1.alone = true := by decide +kernel
set_option maxRecDepth 65536 in
theorem w_named : about1.methodNamed? x = some theMethod := by decide +kernel
set_option maxRecDepth 65536 in
theorem w_hears : about1.hears theMethod below0 = true := by decide +kernel
set_option maxRecDepth 65536 in
theorem w_ripe : about1.ripe theMethod args0 below0 = true := by decide +kernel
theorem w_running : about1.status = .running := rfl
set_option maxRecDepth 65536 in
theorem w_room : about1.hasRoom e0.platform room_1 = true :=
  launch0.hasRoom_least _ room_1 (by decide +kernel) (by decide +kernel) (by decide +kernel) (by decide +kernel) (by decide +kernel) (by decide +kernel)
theorem allAtoms_all (ts : List Jvm.Cond) (a : Array Jvm.Value) (st : Jvm.State) : (allAtoms ts).before a st = ts.all (fun c => c.before a st) := by
  induction ts with
  | nil => rfl
  | cons c t ih =>
    show (Jvm.Cond.and c (allAtoms t)).before a st = _
    rw [Jvm.Cond.before_and, ih, List.all_cons]
def words1 : List Jvm.Cond := Jvm.Cond.code x code maxLocals ret :: tables_1
/-- a 'code' word, met by the world's own term for the bytes: nothing is compared byte by byte -/
theorem code_word {y : MethodName} {bytes : ByteArray} {mx : Nat} {rt : Option FieldType} {a : Array Value} {s : State} {m : MethodId} {meth : Method} {c : Code} (h1 : s.methodNamed? y = some m) (h2 : s.vm.method? m = some meth) (h3 : meth.code = some c) (h4 : c.code = bytes)
    (h5 : (c.maxLocals == mx && c.exceptionTable.isEmpty && decide (c.maxStack ≤ mostOperands) && decide (meth.sig.returnType = rt) && !meth.locks && decide (parseMethodDescriptor y.desc = some meth.sig)) = true) : (Jvm.Cond.code y bytes mx rt).before a s = true := by
  simp only [Bool.and_eq_true, beq_iff_eq, Bool.not_eq_true', decide_eq_true_eq] at h5
  obtain ⟨⟨⟨⟨⟨g1, g2⟩, g3⟩, g4⟩, g5⟩, g6⟩ := h5
  simp [Cond.before, Cond.holds, Cond.value, h1, h2, h3, h4, g1, g2, g3, g4, g5, g6]
def isCode : Jvm.Cond → Bool
  | .code _ _ _ _ => true
  | _ => false
theorem all_split {L : List Jvm.Cond} {P : Jvm.Cond → Bool} (h1 : L.all (fun c => isCode c || P c) = true) (h2 : ∀ c ∈ L.filter isCode, P c = true) : L.all P = true := by
  refine List.all_eq_true.mpr fun c hc => ?_
  have h := List.all_eq_true.mp h1 c hc
  rcases Bool.eq_false_or_eq_true (isCode c) with hi | hi
  · exact h2 c (List.mem_filter.mpr ⟨hc, hi⟩)
  · simpa [hi] using h
set_option maxRecDepth 65536 in
theorem w_c0 : (Jvm.Cond.code x code maxLocals ret).before args0 about1 = true := code_word (m := ⟨1, 3⟩) (meth := k1m3) (c := k1c3) (by decide +kernel) rfl rfl rfl (by decide +kernel)
set_option maxRecDepth 65536 in
theorem w_c1 : (Jvm.Cond.code ({ cls := "com/example/grant3/grant3/PermissionParsePinLaw", name := "at", desc := "(JI)C" } : Jvm.MethodName) method_3_code (3 : Nat) (Option.some Jvm.ClassFile.FieldType.char)).before args0 about1 = true := code_word (m := ⟨1, 2⟩) (meth := k1m2) (c := k1c2) (by decide +kernel) rfl rfl rfl (by decide +kernel)
set_option maxRecDepth 65536 in
theorem w_c2 : (Jvm.Cond.code ({ cls := "com/example/grant3/grant3/PermissionParsePinLaw", name := "segChar", desc := "(I)C" } : Jvm.MethodName) method_2_code (2 : Nat) (Option.some Jvm.ClassFile.FieldType.char)).before args0 about1 = true := code_word (m := ⟨1, 1⟩) (meth := k1m1) (c := k1c1) (by decide +kernel) rfl rfl rfl (by decide +kernel)
set_option maxRecDepth 65536 in
theorem w_c3 : (Jvm.Cond.code ({ cls := "java/lang/String", name := "<init>", desc := "([C)V" } : Jvm.MethodName) jdk_42_method_3_code (2 : Nat) (Option.none : Option Jvm.ClassFile.FieldType)).before args0 about1 = true := code_word (m := ⟨7, 1⟩) (meth := k7m1) (c := k7c1) (by decide +kernel) rfl rfl rfl (by decide +kernel)
set_option maxRecDepth 65536 in
theorem w_c4 : (Jvm.Cond.code ({ cls := "java/lang/String", name := "<init>", desc := "([CIILjava/lang/Void;)V" } : Jvm.MethodName) jdk_42_method_149_code (6 : Nat) (Option.none : Option Jvm.ClassFile.FieldType)).before args0 about1 = true := code_word (m := ⟨7, 5⟩) (meth := k7m5) (c := k7c5) (by decide +kernel) rfl rfl rfl (by decide +kernel)
set_option maxRecDepth 65536 in
theorem w_c5 : (Jvm.Cond.code ({ cls := "java/lang/Object", name := "<init>", desc := "()V" } : Jvm.MethodName) object_method_1_code (1 : Nat) (Option.none : Option Jvm.ClassFile.FieldType)).before args0 about1 = true := code_word (m := ⟨0, 0⟩) (meth := k0m0) (c := k0c0) (by decide +kernel) rfl rfl rfl (by decide +kernel)
set_option maxRecDepth 65536 in
theorem w_c6 : (Jvm.Cond.code ({ cls := "java/lang/StringUTF16", name := "compress", desc := "([CII)[B" } : Jvm.MethodName) jdk_52_method_16_code (6 : Nat) (Option.some (Jvm.ClassFile.FieldType.array Jvm.ClassFile.FieldType.byte))).before args0 about1 = true := code_word (m := ⟨8, 2⟩) (meth := k8m2) (c := k8c2) (by decide +kernel) rfl rfl rfl (by decide +kernel)
set_option maxRecDepth 65536 in
theorem w_c7 : (Jvm.Cond.code ({ cls := "java/lang/StringUTF16", name := "compress", desc := "([CI[BII)I" } : Jvm.MethodName) jdk_52_method_21_code (7 : Nat) (Option.some Jvm.ClassFile.FieldType.int)).before args0 about1 = true := code_word (m := ⟨8, 3⟩) (meth := k8m3) (c := k8c3) (by decide +kernel) rfl rfl rfl (by decide +kernel)
set_option maxRecDepth 65536 in
theorem w_c8 : (Jvm.Cond.code ({ cls := "java/lang/StringUTF16", name := "coderFromArrayLen", desc := "([BI)B" } : Jvm.MethodName) jdk_52_method_15_code (2 : Nat) (Option.some Jvm.ClassFile.FieldType.byte)).before args0 about1 = true := code_word (m := ⟨8, 1⟩) (meth := k8m1) (c := k8c1) (by decide +kernel) rfl rfl rfl (by decide +kernel)
set_option maxRecDepth 65536 in
theorem w_c9 : (Jvm.Cond.code ({ cls := "com/example/grant3/grant3/Permission", name := "parse", desc := "(Ljava/lang/String;)Lcom/example/grant3/grant3/Permission;" } : Jvm.MethodName) prog_6_method_2_code (5 : Nat) (Option.some (Jvm.ClassFile.FieldType.object "com/example/grant3/grant3/Permission"))).before args0 about1 = true := code_word (m := ⟨9, 1⟩) (meth := k9m1) (c := k9c1) (by decide +kernel) rfl rfl rfl (by decide +kernel)
set_option maxRecDepth 65536 in
theorem w_c10 : (Jvm.Cond.code ({ cls := "java/util/Objects", name := "requireNonNull", desc := "(Ljava/lang/Object;Ljava/lang/String;)Ljava/lang/Object;" } : Jvm.MethodName) jdk_31_method_11_code (2 : Nat) (Option.some (Jvm.ClassFile.FieldType.object "java/lang/Object"))).before args0 about1 = true := code_word (m := ⟨10, 1⟩) (meth := k10m1) (c := k10c1) (by decide +kernel) rfl rfl rfl (by decide +kernel)
set_option maxRecDepth 65536 in
theorem w_c11 : (Jvm.Cond.code ({ cls := "java/lang/String", name := "length", desc := "()I" } : Jvm.MethodName) jdk_42_method_54_code (1 : Nat) (Option.some Jvm.ClassFile.FieldType.int)).before args0 about1 = true := code_word (m := ⟨7, 2⟩) (meth := k7m2) (c := k7c2) (by decide +kernel) rfl rfl rfl (by decide +kernel)
set_option maxRecDepth 65536 in
theorem w_c12 : (Jvm.Cond.code ({ cls := "java/lang/String", name := "coder", desc := "()B" } : Jvm.MethodName) jdk_42_method_152_code (1 : Nat) (Option.some Jvm.ClassFile.FieldType.byte)).before args0 about1 = true := code_word (m := ⟨7, 6⟩) (meth := k7m6) (c := k7c6) (by decide +kernel) rfl rfl rfl (by decide +kernel)
set_option maxRecDepth 65536 in
theorem w_c13 : (Jvm.Cond.code ({ cls := "java/lang/String", name := "charAt", desc := "(I)C" } : Jvm.MethodName) jdk_42_method_56_code (2 : Nat) (Option.some Jvm.ClassFile.FieldType.char)).before args0 about1 = true := code_word (m := ⟨7, 3⟩) (meth := k7m3) (c := k7c3) (by decide +kernel) rfl rfl rfl (by decide +kernel)
set_option maxRecDepth 65536 in
theorem w_c14 : (Jvm.Cond.code ({ cls := "java/lang/String", name := "isLatin1", desc := "()Z" } : Jvm.MethodName) jdk_42_method_154_code (1 : Nat) (Option.some Jvm.ClassFile.FieldType.boolean)).before args0 about1 = true := code_word (m := ⟨7, 7⟩) (meth := k7m7) (c := k7c7) (by decide +kernel) rfl rfl rfl (by decide +kernel)
set_option maxRecDepth 65536 in
theorem w_c15 : (Jvm.Cond.code ({ cls := "java/lang/StringLatin1", name := "charAt", desc := "([BI)C" } : Jvm.MethodName) jdk_43_method_2_code (2 : Nat) (Option.some Jvm.ClassFile.FieldType.char)).before args0 about1 = true := code_word (m := ⟨11, 1⟩) (meth := k11m1) (c := k11c1) (by decide +kernel) rfl rfl rfl (by decide +kernel)
set_option maxRecDepth 65536 in
theorem w_c16 : (Jvm.Cond.code ({ cls := "java/lang/String", name := "checkIndex", desc := "(II)V" } : Jvm.MethodName) jdk_42_method_155_code (2 : Nat) (Option.none : Option Jvm.ClassFile.FieldType)).before args0 about1 = true := code_word (m := ⟨7, 8⟩) (meth := k7m8) (c := k7c8) (by decide +kernel) rfl rfl rfl (by decide +kernel)
set_option maxRecDepth 65536 in
theorem w_c17 : (Jvm.Cond.code ({ cls := "jdk/internal/util/Preconditions", name := "checkIndex", desc := "(IILjava/util/function/BiFunction;)I" } : Jvm.MethodName) jdk_41_method_11_code (3 : Nat) (Option.some Jvm.ClassFile.FieldType.int)).before args0 about1 = true := code_word (m := ⟨12, 1⟩) (meth := k12m1) (c := k12c1) (by decide +kernel) rfl rfl rfl (by decide +kernel)
set_option maxRecDepth 65536 in
theorem w_c18 : (Jvm.Cond.code ({ cls := "com/example/grant3/grant3/Permission", name := "isSegmentCharacter", desc := "(C)Z" } : Jvm.MethodName) prog_6_method_3_code (1 : Nat) (Option.some Jvm.ClassFile.FieldType.boolean)).before args0 about1 = true := code_word (m := ⟨9, 2⟩) (meth := k9m2) (c := k9c2) (by decide +kernel) rfl rfl rfl (by decide +kernel)
set_option maxRecDepth 65536 in
theorem w_c19 : (Jvm.Cond.code ({ cls := "com/example/grant3/grant3/Permission", name := "<init>", desc := "(Ljava/lang/String;)V" } : Jvm.MethodName) prog_6_method_1_code (2 : Nat) (Option.none : Option Jvm.ClassFile.FieldType)).before args0 about1 = true := code_word (m := ⟨9, 0⟩) (meth := k9m0) (c := k9c0) (by decide +kernel) rfl rfl rfl (by decide +kernel)
set_option maxRecDepth 65536 in
theorem w_c20 : (Jvm.Cond.code ({ cls := "com/example/grant3/grant3/Permission", name := "toString", desc := "()Ljava/lang/String;" } : Jvm.MethodName) prog_6_method_8_code (1 : Nat) (Option.some (Jvm.ClassFile.FieldType.object "java/lang/String"))).before args0 about1 = true := code_word (m := ⟨9, 3⟩) (meth := k9m3) (c := k9c3) (by decide +kernel) rfl rfl rfl (by decide +kernel)
set_option maxRecDepth 65536 in
theorem w_c21 : (Jvm.Cond.code ({ cls := "java/lang/String", name := "equals", desc := "(Ljava/lang/Object;)Z" } : Jvm.MethodName) jdk_42_method_66_code (3 : Nat) (Option.some Jvm.ClassFile.FieldType.boolean)).before args0 about1 = true := code_word (m := ⟨7, 4⟩) (meth := k7m4) (c := k7c4) (by decide +kernel) rfl rfl rfl (by decide +kernel)
def codes1 : List Jvm.Cond := [Jvm.Cond.code x code maxLocals ret, Jvm.Cond.code ({ cls := "com/example/grant3/grant3/PermissionParsePinLaw", name := "at", desc := "(JI)C" } : Jvm.MethodName) method_3_code (3 : Nat) (Option.some Jvm.ClassFile.FieldType.char), Jvm.Cond.code ({ cls := "com/example/grant3/grant3/PermissionParsePinLaw", name := "segChar", desc := "(I)C" } : Jvm.MethodName) method_2_code (2 : Nat) (Option.some Jvm.ClassFile.FieldType.char), Jvm.Cond.code ({ cls := "java/lang/String", name := "<init>", desc := "([C)V" } : Jvm.MethodName) jdk_42_method_3_code (2 : Nat) (Option.none : Option Jvm.ClassFile.FieldType), Jvm.Cond.code ({ cls := "java/lang/String", name := "<init>", desc := "([CIILjava/lang/Void;)V" } : Jvm.MethodName) jdk_42_method_149_code (6 : Nat) (Option.none : Option Jvm.ClassFile.FieldType), Jvm.Cond.code ({ cls := "java/lang/Object", name := "<init>", desc := "()V" } : Jvm.MethodName) object_method_1_code (1 : Nat) (Option.none : Option Jvm.ClassFile.FieldType), Jvm.Cond.code ({ cls := "java/lang/StringUTF16", name := "compress", desc := "([CII)[B" } : Jvm.MethodName) jdk_52_method_16_code (6 : Nat) (Option.some (Jvm.ClassFile.FieldType.array Jvm.ClassFile.FieldType.byte)), Jvm.Cond.code ({ cls := "java/lang/StringUTF16", name := "compress", desc := "([CI[BII)I" } : Jvm.MethodName) jdk_52_method_21_code (7 : Nat) (Option.some Jvm.ClassFile.FieldType.int), Jvm.Cond.code ({ cls := "java/lang/StringUTF16", name := "coderFromArrayLen", desc := "([BI)B" } : Jvm.MethodName) jdk_52_method_15_code (2 : Nat) (Option.some Jvm.ClassFile.FieldType.byte), Jvm.Cond.code ({ cls := "com/example/grant3/grant3/Permission", name := "parse", desc := "(Ljava/lang/String;)Lcom/example/grant3/grant3/Permission;" } : Jvm.MethodName) prog_6_method_2_code (5 : Nat) (Option.some (Jvm.ClassFile.FieldType.object "com/example/grant3/grant3/Permission")), Jvm.Cond.code ({ cls := "java/util/Objects", name := "requireNonNull", desc := "(Ljava/lang/Object;Ljava/lang/String;)Ljava/lang/Object;" } : Jvm.MethodName) jdk_31_method_11_code (2 : Nat) (Option.some (Jvm.ClassFile.FieldType.object "java/lang/Object")), Jvm.Cond.code ({ cls := "java/lang/String", name := "length", desc := "()I" } : Jvm.MethodName) jdk_42_method_54_code (1 : Nat) (Option.some Jvm.ClassFile.FieldType.int), Jvm.Cond.code ({ cls := "java/lang/String", name := "coder", desc := "()B" } : Jvm.MethodName) jdk_42_method_152_code (1 : Nat) (Option.some Jvm.ClassFile.FieldType.byte), Jvm.Cond.code ({ cls := "java/lang/String", name := "charAt", desc := "(I)C" } : Jvm.MethodName) jdk_42_method_56_code (2 : Nat) (Option.some Jvm.ClassFile.FieldType.char), Jvm.Cond.code ({ cls := "java/lang/String", name := "isLatin1", desc := "()Z" } : Jvm.MethodName) jdk_42_method_154_code (1 : Nat) (Option.some Jvm.ClassFile.FieldType.boolean), Jvm.Cond.code ({ cls := "java/lang/StringLatin1", name := "charAt", desc := "([BI)C" } : Jvm.MethodName) jdk_43_method_2_code (2 : Nat) (Option.some Jvm.ClassFile.FieldType.char), Jvm.Cond.code ({ cls := "java/lang/String", name := "checkIndex", desc := "(II)V" } : Jvm.MethodName) jdk_42_method_155_code (2 : Nat) (Option.none : Option Jvm.ClassFile.FieldType), Jvm.Cond.code ({ cls := "jdk/internal/util/Preconditions", name := "checkIndex", desc := "(IILjava/util/function/BiFunction;)I" } : Jvm.MethodName) jdk_41_method_11_code (3 : Nat) (Option.some Jvm.ClassFile.FieldType.int), Jvm.Cond.code ({ cls := "com/example/grant3/grant3/Permission", name := "isSegmentCharacter", desc := "(C)Z" } : Jvm.MethodName) prog_6_method_3_code (1 : Nat) (Option.some Jvm.ClassFile.FieldType.boolean), Jvm.Cond.code ({ cls := "com/example/grant3/grant3/Permission", name := "<init>", desc := "(Ljava/lang/String;)V" } : Jvm.MethodName) prog_6_method_1_code (2 : Nat) (Option.none : Option Jvm.ClassFile.FieldType), Jvm.Cond.code ({ cls := "com/example/grant3/grant3/Permission", name := "toString", desc := "()Ljava/lang/String;" } : Jvm.MethodName) prog_6_method_8_code (1 : Nat) (Option.some (Jvm.ClassFile.FieldType.object "java/lang/String")), Jvm.Cond.code ({ cls := "java/lang/String", name := "equals", desc := "(Ljava/lang/Object;)Z" } : Jvm.MethodName) jdk_42_method_66_code (3 : Nat) (Option.some Jvm.ClassFile.FieldType.boolean)]
set_option maxRecDepth 65536 in
theorem codes_eq : words1.filter isCode = codes1 := rfl
theorem w_codes : ∀ c ∈ words1.filter isCode, c.before args0 about1 = true := by
  rw [codes_eq]
  intro c hc
  simp only [codes1, List.mem_cons, List.not_mem_nil, or_false] at hc
  rcases hc with rfl | rfl | rfl | rfl | rfl | rfl | rfl | rfl | rfl | rfl | rfl | rfl | rfl | rfl | rfl | rfl | rfl | rfl | rfl | rfl | rfl | rfl
  · exact w_c0
  · exact w_c1
  · exact w_c2
  · exact w_c3
  · exact w_c4
  · exact w_c5
  · exact w_c6
  · exact w_c7
  · exact w_c8
  · exact w_c9
  · exact w_c10
  · exact w_c11
  · exact w_c12
  · exact w_c13
  · exact w_c14
  · exact w_c15
  · exact w_c16
  · exact w_c17
  · exact w_c18
  · exact w_c19
  · exact w_c20
  · exact w_c21
set_option maxRecDepth 65536 in
theorem w_t1 : (words1.take 24).all (fun c => isCode c || c.before args0 about1) = true := by decide +kernel
set_option maxRecDepth 65536 in
theorem w_t2 : ((words1.drop 24).take 24).all (fun c => isCode c || c.before args0 about1) = true := by decide +kernel
set_option maxRecDepth 65536 in
theorem w_t3 : (((words1.drop 24).drop 24).take 24).all (fun c => isCode c || c.before args0 about1) = true := by decide +kernel
set_option maxRecDepth 65536 in
theorem w_t4 : ((((words1.drop 24).drop 24).drop 24).take 24).all (fun c => isCode c || c.before args0 about1) = true := by decide +kernel
set_option maxRecDepth 65536 in
theorem w_t5 : ((((words1.drop 24).drop 24).drop 24).drop 24).all (fun c => isCode c || c.before args0 about1) = true := by decide +kernel
theorem w_tables : (allAtoms (Jvm.Cond.code x code maxLocals ret :: tables_1)).before args0 about1 = true := by
  rw [allAtoms_all]
  show words1.all (fun c => c.before args0 about1) = true
  refine all_split ?_ w_codes
  rw [← List.take_append_drop 24 words1, List.all_append, w_t1, ← List.take_append_drop 24 (words1.drop 24), List.all_append, w_t2, ← List.take_append_drop 24 ((words1.drop 24).drop 24), List.all_append, w_t3, ← List.take_append_drop 24 (((words1.drop 24).drop 24).drop 24), List.all_append, w_t4, w_t5]
  rfl
set_option maxRecDepth 65536 in
theorem w_rest : rest_1_c.before args0 about1 = true := by decide +kernel
set_option maxRecDepth 65536 in
theorem w_case : (Jvm.Cond.and given_1 narrow_1).before args0 about1 = true := by decide +kernel
theorem w_applies : (headSpec (Jvm.Cond.code x code maxLocals ret :: tables_1) room_1).applies x e0.platform about1 = true :=
  (Spec.applies_iff w_frames).mpr ⟨w_running, w_runnable, w_alone, w_named, w_hears, w_ripe, w_room, w_tables⟩
theorem atStart : AtStart classFile x code maxLocals ret World_1 tables_1 room_1 Calls_1 rest_1 Pre_1 launch0 p0 e0 about1 theMethod args0 below0 :=
  ⟨lists_1, trivial, launch0.admits_env _ _ _, launch0.least_env, fairChoices_fair.cas, fairChoices_fair.clock, w_frames, w_args, w_heap, w_applies, trivial, w_rest, w_case⟩
end start1
theorem witness_1 : WitnessClaimed_1 := ⟨start1.p0, start1.e0, start1.about1, start1.theMethod, start1.args0, start1.below0, start1.atStart⟩
end Jvm.Pilot.@@N@@
