import JvmDerived
import JvmDerived.Pilot.@@N@@Statement
import JvmDerived.Pilot.@@N@@Code
set_option linter.unusedVariables false
set_option linter.unusedSimpArgs false
namespace Jvm.RoadKit
open Sem ClassFile Op Lib Jvm.Stand Jvm.Free Jvm.LawKit
section New
variable {p : Program} {l : Launch} {e : Env} {R : Room} {s : State} {m : MethodId} {args : Array Value} {below : List Frame} {meth : Method} {c : Code} {T : State} {locs : List Loc} {cells slots : Nat}
theorem retI (X : Stand p l e R s m args below meth c T locs cells slots) (hx : p.tables.exec = Jvm.exec) {pc : Nat} {Ls : Array Slot} {z : Int32} {rest : List Value} (hret : meth.sig.returnType = some .int) (hd : decode c.code pc = .ok (.ireturn, 1)) {fs : List Frame}
    (hl : ∀ (f : JFrame) (acts : List Action), f.method = m → f.locked = none → f.entered = [] → (doReturn e (T.setTop f) acts (some (.int z))).1 = T.setFrames fs) : Steps p.tables e below (T.setTop (mkF m pc Ls (.int z :: rest))) (T.setFrames fs) := by
  have hm' : T.vm.method? m = some meth := X.method'
  have hn : narrow .int (.int z) = .int z := rfl
  show Steps p.tables e below (T.setTop { method := m, pc := pc, locals := Ls, stack := _ :: rest, locked := none }) _
  jvm_step X.here [X.here.top, hx, hd, hm', hret, hn]
  first | (intro acts; rw [hl _ acts rfl rfl rfl]) | rw [hl _ _ rfl rfl rfl]
  exact Steps.refl _
end New
end Jvm.RoadKit
/- laws to paste: Road.backV (cut by pick.py; bodies as the Statement names them) -/
namespace Jvm.Pilot.@@N@@
namespace StrChars
open Jvm Sem ClassFile Op Lib Jvm.Stand Jvm.Free.XT Jvm.Free.ALB Jvm.Free.JM Jvm.Free
open Jvm.Lib.Cold (StaticIs)
/-- a char array whose places are chars -/
def Ch (a : Addr) (A : Cell) (U : State) : Prop := Arr .char a A U ∧ Typed .char A
theorem Ch.mv {a : Addr} {A : Cell} {U U' : State} (h : Ch a A U) (hal : U.vm.Alike U'.vm) (hh : U'.heap = U.heap) : Ch a A U' := ⟨h.1.mv hal hh, h.2⟩
theorem Ch.keep {a : Addr} {A : Cell} {U U' : State} (h : Ch a A U) (hal : U.vm.Alike U'.vm) (hk : U'.heap[a]? = some A) : Ch a A U' := ⟨h.1.keep hal hk, h.2⟩
/-- what place i of a char[]'s cell holds -/
def cv (A : Cell) (i : Nat) : Int32 := match A.slots[i]? with | some (.int x) => x | _ => 0
theorem Ch.get {a : Addr} {A : Cell} {U : State} (h : Ch a A U) {i : Nat} (hi : i < A.slots.size) : A.slots[i]? = some (.int (cv A i)) := by
  have e := Array.getElem?_eq_getElem hi
  have f := h.2 i _ e
  unfold cv; rw [e]
  generalize A.slots[i] = v at f
  cases v <;> simp [fits] at f ⊢
/-- the byte that i2b leaves of a char -/
def lo8 (x : Int32) : Int32 := x.toInt8.toInt32
theorem fits_lo8 (y : Int32) : fits .byte (.int (lo8 y)) = true := by
  have h1 := y.toInt8.le_toInt
  have h2 := y.toInt8.toInt_lt
  simp only [lo8, fits, Bool.and_eq_true, decide_eq_true_eq, Int32.le_iff_toInt_le, Int8.toInt_toInt32, show (-128 : Int32).toInt = -128 from by decide, show (127 : Int32).toInt = 127 from by decide]
  omega
/-- A' is A but that each place j of lo .. hi - 1 holds f j -/
def Laid (A A' : Cell) (lo hi : Nat) (f : Nat → Value) : Prop := A'.cls = A.cls ∧ A'.vm = A.vm ∧ A'.slots.size = A.slots.size ∧ ∀ i, A'.slots[i]? = if lo ≤ i ∧ i < hi then some (f i) else A.slots[i]?
theorem Laid.zero (A : Cell) (lo : Nat) (f : Nat → Value) : Laid A A lo (lo + 0) f := ⟨rfl, rfl, rfl, fun i => by rw [if_neg (by omega)]⟩
theorem Laid.step {A Ak : Cell} {lo k : Nat} {f : Nat → Value} {v : Value} (h : Laid A Ak lo k f) (hlo : lo ≤ k) (hk : k < Ak.slots.size) (hv : v = f k) : Laid A (Ak.setSlot k v) lo (k + 1) f := by
  refine ⟨h.1, h.2.1, by simpa [Cell.setSlot] using h.2.2.1, fun i => ?_⟩
  by_cases e : k = i
  · subst e; rw [Cell.slots_setSlot_self v hk, if_pos (by omega), hv]
  · rw [Cell.slots_setSlot_ne v e, h.2.2.2 i]
    by_cases q : lo ≤ i ∧ i < k
    · rw [if_pos q, if_pos (by omega)]
    · rw [if_neg q, if_neg (by omega)]
def U16 : String := "java/lang/StringUTF16"
namespace Cmp5
def yN : MethodName := ⟨"java/lang/StringUTF16", "compress", "([CI[BII)I"⟩
abbrev yB : ByteArray := jdk_52_method_21_code
theorem d0 : decode yB 0 = .ok (.iconst 0, 1) := by decide +kernel
theorem d1 : decode yB 1 = .ok (.istore 5, 2) := by decide +kernel
theorem d3 : decode yB 3 = .ok (.iload 5, 2) := by decide +kernel
theorem d5 : decode yB 5 = .ok (.iload 4, 2) := by decide +kernel
theorem d7 : decode yB 7 = .ok (.if_icmp (.ge) 37, 3) := by decide +kernel
theorem d10 : decode yB 10 = .ok (.aload_n 0, 1) := by decide +kernel
theorem d11 : decode yB 11 = .ok (.iload_n 1, 1) := by decide +kernel
theorem d12 : decode yB 12 = .ok (.caload, 1) := by decide +kernel
theorem d13 : decode yB 13 = .ok (.istore 6, 2) := by decide +kernel
theorem d15 : decode yB 15 = .ok (.iload 6, 2) := by decide +kernel
theorem d17 : decode yB 17 = .ok (.sipush 255, 3) := by decide +kernel
theorem d20 : decode yB 20 = .ok (.if_icmp (.le) 6, 3) := by decide +kernel
theorem d26 : decode yB 26 = .ok (.aload_n 2, 1) := by decide +kernel
theorem d27 : decode yB 27 = .ok (.iload_n 3, 1) := by decide +kernel
theorem d28 : decode yB 28 = .ok (.iload 6, 2) := by decide +kernel
theorem d30 : decode yB 30 = .ok (.i2b, 1) := by decide +kernel
theorem d31 : decode yB 31 = .ok (.bastore, 1) := by decide +kernel
theorem d32 : decode yB 32 = .ok (.iinc 1 1, 3) := by decide +kernel
theorem d35 : decode yB 35 = .ok (.iinc 3 1, 3) := by decide +kernel
theorem d38 : decode yB 38 = .ok (.iinc 5 1, 3) := by decide +kernel
theorem d41 : decode yB 41 = .ok (.goto (-38), 3) := by decide +kernel
theorem d44 : decode yB 44 = .ok (.iload 4, 2) := by decide +kernel
theorem d46 : decode yB 46 = .ok (.ireturn, 1) := by decide +kernel
def site : List Cond := []
def tab : Cond := tabOf yN yB 7 (some .int) site
def P (b : Addr) (A : Cell) (d : Addr) (B : Cell) (o q len : Nat) (args : Array Value) (s : State) : Prop := args = #[.ref b, .int (Int32.ofNat o), .ref d, .int (Int32.ofNat q), .int (Int32.ofNat len)] ∧ Ch b A s ∧ Arr .byte d B s ∧ b ≠ d ∧ o + len ≤ A.slots.size ∧ q + len ≤ B.slots.size ∧ ∀ i, i < len → ¬ 255 < cv A (o + i)
def E (b : Addr) (A : Cell) (d : Addr) (B : Cell) (o q len : Nat) (r : Option Value) (s u : State) : Prop := r = some (.int (Int32.ofNat len)) ∧ ∃ B', Put d B' s u ∧ Laid B B' q (q + len) (fun j => Value.int (lo8 (cv A (o + (j - q)))))
/-- no char of the range above 255: len; the places written hold each char's low byte -/
theorem law (l : Launch) (b : Addr) (A : Cell) (d : Addr) (B : Cell) (o q len : Nat) : Law l yN 5 5 0 0 yB 7 (some .int) site (P b A d B o q len) (E b A d B o q len) (copyLocs d q len) 0 0 := by
  refine Law.of_walk (plainFor_of_name (by decide +kernel)) (by decide +kernel) (by decide +kernel) (by decide) (fun _ _ h => by rw [h.1]; rfl) (fun _ U U' hal hh h => ⟨h.1, h.2.1.mv hal hh, h.2.2.1.mv hal hh, h.2.2.2⟩) (fun r U U' V V' h1 hal h2 h => ⟨h.1, h.2.elim fun B' q => ⟨B', q.1.mv h1 h2, q.2⟩⟩) ?_
  intro p e s m args below meth c s₁ X0 hexec hbytes hml hret hlk hnm hown hh0 W hP
  obtain ⟨rfl, hA, hB, hne, l1, l2, hp⟩ := hP
  have c1 : Steps p.tables e below (s₁.setTop (entryFrame m #[.ref b, .int (Int32.ofNat o), .ref d, .int (Int32.ofNat q), .int (Int32.ofNat len)] 7)) (s₁.setTop (mkF m 0 #[.val (.ref b), .val (.int (Int32.ofNat o)), .val (.ref d), .val (.int (Int32.ofNat q)), .val (.int (Int32.ofNat len)), .unset, .unset] [])) := entry rfl
  have hA0 := hA.1.mv X0.warmed.alike hh0
  have hB0 := hB.mv X0.warmed.alike hh0
  have a31 := hA.1.2.2.2
  have c2 : Steps p.tables e below (s₁.setTop (entryFrame m #[.ref b, .int (Int32.ofNat o), .ref d, .int (Int32.ofNat q), .int (Int32.ofNat len)] 7)) (s₁.setTop (mkF m 3 #[.val (.ref b), .val (.int (Int32.ofNat o)), .val (.ref d), .val (.int (Int32.ofNat q)), .val (.int (Int32.ofNat len)), .val (.int 0), .unset] [])) := c1.trans (by
    refine iconstV X0.here hexec rfl 0 (hb hbytes d0) (by decide) ?_
    refine XS.istore X0.here hexec rfl (hb hbytes d1) rfl rfl ?_
    exact Steps.refl _)
  have loop : ∀ (r i : Nat), i + r = len → ∀ (z : Slot), (z = .unset ∨ ∃ w, z = .val w ∧ w.category = 1) → ∀ (Tl : State) (Bk : Cell), Stand p l e { frames := 0, locals := 0, cells := 0, slots := 0 } s m #[.ref b, .int (Int32.ofNat o), .ref d, .int (Int32.ofNat q), .int (Int32.ofNat len)] below meth c Tl ([] ++ copyLocs d q i) 0 0 → Put d Bk s₁ Tl → Laid B Bk q (q + i) (fun j => Value.int (lo8 (cv A (o + (j - q))))) →
      Steps p.tables e below (s₁.setTop (entryFrame m #[.ref b, .int (Int32.ofNat o), .ref d, .int (Int32.ofNat q), .int (Int32.ofNat len)] 7)) (Tl.setTop (mkF m 3 #[.val (.ref b), .val (.int (Int32.ofNat (o + i))), .val (.ref d), .val (.int (Int32.ofNat (q + i))), .val (.int (Int32.ofNat len)), .val (.int (Int32.ofNat i)), z] [])) → ∃ (T' : State) (B' : Cell) (z' : Slot), Stand p l e { frames := 0, locals := 0, cells := 0, slots := 0 } s m #[.ref b, .int (Int32.ofNat o), .ref d, .int (Int32.ofNat q), .int (Int32.ofNat len)] below meth c T' ([] ++ copyLocs d q len) 0 0 ∧ Put d B' s₁ T' ∧ Laid B B' q (q + len) (fun j => Value.int (lo8 (cv A (o + (j - q))))) ∧
      Steps p.tables e below (s₁.setTop (entryFrame m #[.ref b, .int (Int32.ofNat o), .ref d, .int (Int32.ofNat q), .int (Int32.ofNat len)] 7)) (T'.setTop (mkF m 3 #[.val (.ref b), .val (.int (Int32.ofNat (o + len))), .val (.ref d), .val (.int (Int32.ofNat (q + len))), .val (.int (Int32.ofNat len)), .val (.int (Int32.ofNat len)), z'] [])) := by
    intro r
    induction r with
    | zero =>
      intro i hi z hz Tl Bk Xl pl fl cl
      have hil : i = len := by omega
      rw [hil] at Xl fl cl
      exact ⟨Tl, Bk, z, Xl, pl, fl, cl⟩
    | succ r ih =>
      intro i hi z hz Tl Bk Xl pl fl cl
      have all := X0.warmed.alike.symm.trans Xl.warmed.alike
      have hAl := hA0.keep all (pl.other hne hA0.1)
      have hBk := hB0.like all pl.1 fl.1 fl.2.1 fl.2.2.1
      have hlt : q + i < Bk.slots.size := by rw [fl.2.2.1]; omega
      have c3 : Steps p.tables e below (s₁.setTop (entryFrame m #[.ref b, .int (Int32.ofNat o), .ref d, .int (Int32.ofNat q), .int (Int32.ofNat len)] 7)) (Tl.setTop (mkF m 12 #[.val (.ref b), .val (.int (Int32.ofNat (o + i))), .val (.ref d), .val (.int (Int32.ofNat (q + i))), .val (.int (Int32.ofNat len)), .val (.int (Int32.ofNat i)), z] [.int (Int32.ofNat (o + i)), .ref b])) := cl.trans (by
        refine XS.iload Xl.here hexec rfl (hb hbytes d3) rfl ?_
        refine XS.iload Xl.here hexec rfl (hb hbytes d5) rfl ?_
        refine XS.icmpNo Xl.here hexec rfl (hb hbytes d7) rfl (ii_ge_f (lt32 (by omega) (by omega))) ?_
        refine XS.aloadN Xl.here hexec rfl (hb hbytes d10) rfl rfl ?_
        refine XS.iloadN Xl.here hexec rfl (hb hbytes d11) rfl ?_
        exact Steps.refl _)
      have c4 : Steps p.tables e below (s₁.setTop (entryFrame m #[.ref b, .int (Int32.ofNat o), .ref d, .int (Int32.ofNat q), .int (Int32.ofNat len)] 7)) (Tl.setTop (mkF m 13 #[.val (.ref b), .val (.int (Int32.ofNat (o + i))), .val (.ref d), .val (.int (Int32.ofNat (q + i))), .val (.int (Int32.ofNat len)), .val (.int (Int32.ofNat i)), z] [.int (cv A (o + i))])) := c3.trans (by
        refine Xl.aget hexec hAl rfl (hA.get (i := o + i) (by omega)) rfl rfl (hb hbytes d12) ?_
        exact Steps.refl _)
      have c5 : Steps p.tables e below (s₁.setTop (entryFrame m #[.ref b, .int (Int32.ofNat o), .ref d, .int (Int32.ofNat q), .int (Int32.ofNat len)] 7)) (Tl.setTop (mkF m 15 #[.val (.ref b), .val (.int (Int32.ofNat (o + i))), .val (.ref d), .val (.int (Int32.ofNat (q + i))), .val (.int (Int32.ofNat len)), .val (.int (Int32.ofNat i)), .val (.int (cv A (o + i)))] [])) := c4.trans (by
        refine XS.istoreS Xl.here hexec rfl (hb hbytes d13) rfl rfl hz ?_
        exact Steps.refl _)
      have c6 : Steps p.tables e below (s₁.setTop (entryFrame m #[.ref b, .int (Int32.ofNat o), .ref d, .int (Int32.ofNat q), .int (Int32.ofNat len)] 7)) (Tl.setTop (mkF m 31 #[.val (.ref b), .val (.int (Int32.ofNat (o + i))), .val (.ref d), .val (.int (Int32.ofNat (q + i))), .val (.int (Int32.ofNat len)), .val (.int (Int32.ofNat i)), .val (.int (cv A (o + i)))] [.int (lo8 (cv A (o + i))), .int (Int32.ofNat (q + i)), .ref d])) := c5.trans (by
        refine XS.iload Xl.here hexec rfl (hb hbytes d15) rfl ?_
        refine sipushV Xl.here hexec rfl 255 (hb hbytes d17) (by decide) ?_
        refine XS.icmpYes Xl.here hexec rfl (pc0 := 20) rfl (hb hbytes d20) rfl (ii_le_t (hp i (by omega))) (by decide) rfl ?_
        refine XS.aloadN Xl.here hexec rfl (hb hbytes d26) rfl rfl ?_
        refine XS.iloadN Xl.here hexec rfl (hb hbytes d27) rfl ?_
        refine XS.iload Xl.here hexec rfl (hb hbytes d28) rfl ?_
        refine i2b Xl.here hexec rfl (hb hbytes d30) rfl ?_
        exact Steps.refl _)
      obtain ⟨T7, X7, p7, st7⟩ := Xl.aput hexec hBk rfl hlt rfl (fits_lo8 (cv A (o + i))) (g := (mkF m 31 #[.val (.ref b), .val (.int (Int32.ofNat (o + i))), .val (.ref d), .val (.int (Int32.ofNat (q + i))), .val (.int (Int32.ofNat len)), .val (.int (Int32.ofNat i)), .val (.int (cv A (o + i)))] [.int (lo8 (cv A (o + i))), .int (Int32.ofNat (q + i)), .ref d])) rfl (rest := []) rfl (hb hbytes d31)
      have c8 : Steps p.tables e below (s₁.setTop (entryFrame m #[.ref b, .int (Int32.ofNat o), .ref d, .int (Int32.ofNat q), .int (Int32.ofNat len)] 7)) (T7.setTop (mkF m 32 #[.val (.ref b), .val (.int (Int32.ofNat (o + i))), .val (.ref d), .val (.int (Int32.ofNat (q + i))), .val (.int (Int32.ofNat len)), .val (.int (Int32.ofNat i)), .val (.int (cv A (o + i)))] [])) := c6.trans (st7 _ (Steps.refl _))
      have c9 : Steps p.tables e below (s₁.setTop (entryFrame m #[.ref b, .int (Int32.ofNat o), .ref d, .int (Int32.ofNat q), .int (Int32.ofNat len)] 7)) (T7.setTop (mkF m 3 #[.val (.ref b), .val (.int (Int32.ofNat (o + i) + 1)), .val (.ref d), .val (.int (Int32.ofNat (q + i) + 1)), .val (.int (Int32.ofNat len)), .val (.int (Int32.ofNat i + 1)), .val (.int (cv A (o + i)))] [])) := c8.trans (by
        refine iincV X7.here hexec rfl 1 (hb hbytes d32) (by decide) rfl rfl ?_
        refine iincV X7.here hexec rfl 1 (hb hbytes d35) (by decide) rfl rfl ?_
        refine iincV X7.here hexec rfl 1 (hb hbytes d38) (by decide) rfl rfl ?_
        refine XS.goto X7.here hexec rfl (pc0 := 41) rfl (hb hbytes d41) (by decide) rfl ?_
        exact Steps.refl _)
      have c10 : Steps p.tables e below (s₁.setTop (entryFrame m #[.ref b, .int (Int32.ofNat o), .ref d, .int (Int32.ofNat q), .int (Int32.ofNat len)] 7)) (T7.setTop (mkF m 3 #[.val (.ref b), .val (.int (Int32.ofNat (o + (i + 1)))), .val (.ref d), .val (.int (Int32.ofNat (q + (i + 1)))), .val (.int (Int32.ofNat len)), .val (.int (Int32.ofNat (i + 1))), .val (.int (cv A (o + i)))] [])) := by
        have := c9
        rw [succ32, succ32, succ32] at this
        exact this
      exact ih (i + 1) (by omega) _ (Or.inr ⟨_, rfl, rfl⟩) T7 _ (by rw [copyLocs_step, ← List.append_assoc]; exact X7) (pl.trans p7) (fl.step (by omega) hlt (by simp)) c10
  obtain ⟨T9, B9, z9, X9, p9, f9, g9⟩ := loop len 0 (by omega) .unset (Or.inl rfl) s₁ B (by simpa [copyLocs] using X0) ⟨hB0.1, fun _ _ => rfl, rfl⟩ (Laid.zero _ _ _) c2
  have c11 : Steps p.tables e below (s₁.setTop (entryFrame m #[.ref b, .int (Int32.ofNat o), .ref d, .int (Int32.ofNat q), .int (Int32.ofNat len)] 7)) (T9.setTop (mkF m 46 #[.val (.ref b), .val (.int (Int32.ofNat (o + len))), .val (.ref d), .val (.int (Int32.ofNat (q + len))), .val (.int (Int32.ofNat len)), .val (.int (Int32.ofNat len)), z9] [.int (Int32.ofNat len)])) := g9.trans (by
    refine XS.iload X9.here hexec rfl (hb hbytes d3) rfl ?_
    refine XS.iload X9.here hexec rfl (hb hbytes d5) rfl ?_
    refine XS.icmpYes X9.here hexec rfl (pc0 := 7) rfl (hb hbytes d7) rfl (ii_ge_t (nlt32 (by omega) (Nat.le_refl _))) (by decide) rfl ?_
    refine XS.iload X9.here hexec rfl (hb hbytes d44) rfl ?_
    exact Steps.refl _)
  exact ⟨T9, some (.int (Int32.ofNat len)), _, _, _, X9, by simp, rfl, rfl, (fun h => by cases h), ⟨rfl, B9, p9.from hh0, f9⟩, fun fs hl => c11.trans (X9.ireturnOut hexec hret rfl (Or.inl rfl) (hb hbytes d46) hl)⟩
end Cmp5
namespace Cmp3
def yN : MethodName := ⟨"java/lang/StringUTF16", "compress", "([CII)[B"⟩
abbrev yB : ByteArray := jdk_52_method_16_code
theorem d0 : decode yB 0 = .ok (.iload_n 2, 1) := by decide +kernel
theorem d1 : decode yB 1 = .ok (.newarray .byte, 2) := by decide +kernel
theorem d3 : decode yB 3 = .ok (.astore_n 3, 1) := by decide +kernel
theorem d4 : decode yB 4 = .ok (.aload_n 0, 1) := by decide +kernel
theorem d5 : decode yB 5 = .ok (.iload_n 1, 1) := by decide +kernel
theorem d6 : decode yB 6 = .ok (.aload_n 3, 1) := by decide +kernel
theorem d7 : decode yB 7 = .ok (.iconst 0, 1) := by decide +kernel
theorem d8 : decode yB 8 = .ok (.iload_n 2, 1) := by decide +kernel
theorem d9 : decode yB 9 = .ok (.invokestatic 115, 3) := by decide +kernel
theorem d12 : decode yB 12 = .ok (.istore 4, 2) := by decide +kernel
theorem d14 : decode yB 14 = .ok (.iload 4, 2) := by decide +kernel
theorem d16 : decode yB 16 = .ok (.iload_n 2, 1) := by decide +kernel
theorem d17 : decode yB 17 = .ok (.if_icmp (.eq) 40, 3) := by decide +kernel
theorem d57 : decode yB 57 = .ok (.aload_n 3, 1) := by decide +kernel
theorem d58 : decode yB 58 = .ok (.areturn, 1) := by decide +kernel
def site : List Cond := [.arrayClass .byte, Cmp5.tab] ++ staticW U16 115 Cmp5.yN
def tab : Cond := tabOf yN yB 6 (some (.array .byte)) site
def P (b : Addr) (A : Cell) (o len : Nat) (args : Array Value) (s : State) : Prop := args = #[.ref b, .int (Int32.ofNat o), .int (Int32.ofNat len)] ∧ Ch b A s ∧ o + len ≤ A.slots.size ∧ len ≤ 536870912 ∧ ∀ i, i < len → ¬ 255 < cv A (o + i)
def E (b : Addr) (A : Cell) (o len : Nat) (r : Option Value) (s u : State) : Prop := NewArr .byte "[B" len (fun j => .int (lo8 (cv A (o + j)))) r s u ∧ u.heap.size = s.heap.size + 1
/-- no char of the range above 255: a new byte[] of their low bytes -/
theorem law (l : Launch) (b : Addr) (A : Cell) (o len : Nat) : Law l yN 3 3 1 18 yB 6 (some (.array .byte)) site (P b A o len) (E b A o len) [] 1 len := by
  refine Law.of_walk (plainFor_of_name (by decide +kernel)) (by decide +kernel) (by decide +kernel) (by decide) (fun _ _ h => by rw [h.1]; rfl) (fun _ U U' hal hh h => ⟨h.1, h.2.1.mv hal hh, h.2.2⟩) (fun r U U' V V' h1 hal h2 h => ⟨NewArr.mv r U U' V V' h1 hal h2 h.1, by rw [h1, h2]; exact h.2⟩) ?_
  intro p e s m args below meth c s₁ X0 hexec hbytes hml hret hlk hnm hown hh0 W hP
  obtain ⟨rfl, hA, l1, l2, hp⟩ := hP
  have a31 := hA.1.2.2.2
  have c1 : Steps p.tables e below (s₁.setTop (entryFrame m #[.ref b, .int (Int32.ofNat o), .int (Int32.ofNat len)] 6)) (s₁.setTop (mkF m 0 #[.val (.ref b), .val (.int (Int32.ofNat o)), .val (.int (Int32.ofNat len)), .unset, .unset, .unset] [])) := entry rfl
  have c2 : Steps p.tables e below (s₁.setTop (entryFrame m #[.ref b, .int (Int32.ofNat o), .int (Int32.ofNat len)] 6)) (s₁.setTop (mkF m 1 #[.val (.ref b), .val (.int (Int32.ofNat o)), .val (.int (Int32.ofNat len)), .unset, .unset, .unset] [.int (Int32.ofNat len)])) := c1.trans (by
    refine XS.iloadN X0.here hexec rfl (hb hbytes d0) rfl ?_
    exact Steps.refl _)
  obtain ⟨T3, B3, X3, ba3, bs3, bv3, bh3, bf3, st3⟩ := X0.anew hexec (atype := .byte) (wk W (.arrayClass .byte)) rfl (by show len * 1 ≤ _; omega) (by omega) (g := (mkF m 1 #[.val (.ref b), .val (.int (Int32.ofNat o)), .val (.int (Int32.ofNat len)), .unset, .unset, .unset] [.int (Int32.ofNat len)])) rfl (hb hbytes d1) (rest := []) rfl (Nat.le_refl _) (by show 0 + len ≤ len; omega)
  rw [hh0] at ba3 st3
  have kp3 : XT.Kept s T3 := (XT.Kept.of_eq hh0).push bh3
  have hA3 := hA.keep X3.warmed.alike (kp3 _ _ hA.1.1)
  have hne : b ≠ s.heap.size := hA.1.ne
  have c4 : Steps p.tables e below (s₁.setTop (entryFrame m #[.ref b, .int (Int32.ofNat o), .int (Int32.ofNat len)] 6)) (T3.setTop (mkF m 3 #[.val (.ref b), .val (.int (Int32.ofNat o)), .val (.int (Int32.ofNat len)), .unset, .unset, .unset] [.ref s.heap.size])) := c2.trans (st3 _ (Steps.refl _))
  have c5 : Steps p.tables e below (s₁.setTop (entryFrame m #[.ref b, .int (Int32.ofNat o), .int (Int32.ofNat len)] 6)) (T3.setTop (mkF m 9 #[.val (.ref b), .val (.int (Int32.ofNat o)), .val (.int (Int32.ofNat len)), .val (.ref s.heap.size), .unset, .unset] [.int (Int32.ofNat len), .int 0, .ref s.heap.size, .int (Int32.ofNat o), .ref b])) := c4.trans (by
    refine XS.astoreN X3.here hexec rfl (hb hbytes d3) rfl rfl rfl ?_
    refine XS.aloadN X3.here hexec rfl (hb hbytes d4) rfl rfl ?_
    refine XS.iloadN X3.here hexec rfl (hb hbytes d5) rfl ?_
    refine XS.aloadN X3.here hexec rfl (hb hbytes d6) rfl rfl ?_
    refine iconstV X3.here hexec rfl 0 (hb hbytes d7) (by decide) ?_
    refine XS.iloadN X3.here hexec rfl (hb hbytes d8) rfl ?_
    exact Steps.refl _)
  obtain ⟨v6, T6, X6, E6, g6⟩ := X3.callS hexec (Cmp5.law l b A s.heap.size B3 o 0 len) hown (wks W (staticW U16 115 Cmp5.yN)) (wk W Cmp5.tab) (W := 0) (Nat.le_of_ble_eq_true rfl) (Nat.le_of_ble_eq_true rfl) (Nat.le_refl _) (by show 0 + len + 0 ≤ len; omega) (g := (mkF m 9 #[.val (.ref b), .val (.int (Int32.ofNat o)), .val (.int (Int32.ofNat len)), .val (.ref s.heap.size), .unset, .unset] [.int (Int32.ofNat len), .int (Int32.ofNat 0), .ref s.heap.size, .int (Int32.ofNat o), .ref b])) rfl (by rw [hml]; rfl) c5 (argsL := [.ref b, .int (Int32.ofNat o), .ref s.heap.size, .int (Int32.ofNat 0), .int (Int32.ofNat len)]) (rest := []) rfl rfl (by show 2 * 0 + 0 ≤ _; decide) (hb hbytes d9) (⟨rfl, hA3, ba3, hne, l1, by rw [bs3]; simp, hp⟩)
  obtain ⟨rfl, B6, p6, f6⟩ := E6
  have c7 : Steps p.tables e below (s₁.setTop (entryFrame m #[.ref b, .int (Int32.ofNat o), .int (Int32.ofNat len)] 6)) (T6.setTop (mkF m 12 #[.val (.ref b), .val (.int (Int32.ofNat o)), .val (.int (Int32.ofNat len)), .val (.ref s.heap.size), .unset, .unset] [.int (Int32.ofNat len)])) := g6
  have c8 : Steps p.tables e below (s₁.setTop (entryFrame m #[.ref b, .int (Int32.ofNat o), .int (Int32.ofNat len)] 6)) (T6.setTop (mkF m 58 #[.val (.ref b), .val (.int (Int32.ofNat o)), .val (.int (Int32.ofNat len)), .val (.ref s.heap.size), .val (.int (Int32.ofNat len)), .unset] [.ref s.heap.size])) := c7.trans (by
    refine XS.istore X6.here hexec rfl (hb hbytes d12) rfl rfl ?_
    refine XS.iload X6.here hexec rfl (hb hbytes d14) rfl ?_
    refine XS.iloadN X6.here hexec rfl (hb hbytes d16) rfl ?_
    refine XS.icmpYes X6.here hexec rfl (pc0 := 17) rfl (hb hbytes d17) rfl (ii_eq_t rfl) (by decide) rfl ?_
    refine XS.aloadN X6.here hexec rfl (hb hbytes d57) rfl rfl ?_
    exact Steps.refl _)
  have X8 := X6.wide (L' := []) (cells' := 1) (slots' := len) (fun x hx hlt => by
    simp only [List.nil_append, copyLocs, List.mem_map, List.mem_range] at hx
    obtain ⟨i, -, rfl⟩ := hx
    exact absurd hlt (Nat.lt_irrefl _)) (Nat.le_refl _) (by omega)
  exact ⟨T6, some (.ref s.heap.size), _, _, _, X8, rfl, rfl, rfl, (fun h => by cases h), ⟨⟨rfl, B6, ba3.like (X3.warmed.alike.symm.trans X6.warmed.alike) p6.1 f6.1 f6.2.1 f6.2.2.1, f6.2.1.trans bv3, by rw [X6.warmed.alike.findClass, f6.1]; exact bf3, by rw [f6.2.2.1, bs3]; simp, fun j hj => by rw [f6.2.2.2 j, if_pos (by omega)]; rfl, kp3.put p6 (Nat.le_refl _)⟩, by rw [p6.2.2, bh3, hh0]; simp⟩, fun fs hl => c8.trans (X8.areturnOut hexec rfl hret rfl (hb hbytes d58) hl)⟩
end Cmp3
namespace CodL
def yN : MethodName := ⟨"java/lang/StringUTF16", "coderFromArrayLen", "([BI)B"⟩
abbrev yB : ByteArray := jdk_52_method_15_code
theorem d0 : decode yB 0 = .ok (.iload_n 1, 1) := by decide +kernel
theorem d1 : decode yB 1 = .ok (.aload_n 0, 1) := by decide +kernel
theorem d2 : decode yB 2 = .ok (.arraylength, 1) := by decide +kernel
theorem d3 : decode yB 3 = .ok (.isub, 1) := by decide +kernel
theorem d4 : decode yB 4 = .ok (.bipush 31, 2) := by decide +kernel
theorem d6 : decode yB 6 = .ok (.iushr, 1) := by decide +kernel
theorem d7 : decode yB 7 = .ok (.i2b, 1) := by decide +kernel
theorem d8 : decode yB 8 = .ok (.ireturn, 1) := by decide +kernel
def site : List Cond := []
def tab : Cond := tabOf yN yB 2 (some .byte) site
def P (d : Addr) (B : Cell) (args : Array Value) (s : State) : Prop := args = #[.ref d, .int (Int32.ofNat B.slots.size)] ∧ Arr .byte d B s
def E (r : Option Value) (s u : State) : Prop := XT.PureE (some (.int 0)) r s u
/-- an array as long as the number of chars: LATIN1 -/
theorem law (l : Launch) (d : Addr) (B : Cell) : Law l yN 2 2 0 0 yB 2 (some .byte) site (P d B) E [] 0 0 := by
  refine Law.of_walk (plainFor_of_name (by decide +kernel)) (by decide +kernel) (by decide +kernel) (by decide) (fun _ _ h => by rw [h.1]; rfl) (fun _ U U' hal hh h => ⟨h.1, h.2.mv hal hh⟩) (fun r U U' V V' h1 hal h2 h => XT.PureE.mv r U U' V V' h1 hal h2 h) ?_
  intro p e s m args below meth c s₁ X0 hexec hbytes hml hret hlk hnm hown hh0 W hP
  obtain ⟨rfl, hB⟩ := hP
  have hB0 := hB.mv X0.warmed.alike hh0
  have c1 : Steps p.tables e below (s₁.setTop (entryFrame m #[.ref d, .int (Int32.ofNat B.slots.size)] 2)) (s₁.setTop (mkF m 0 #[.val (.ref d), .val (.int (Int32.ofNat B.slots.size))] [])) := entry rfl
  have c2 : Steps p.tables e below (s₁.setTop (entryFrame m #[.ref d, .int (Int32.ofNat B.slots.size)] 2)) (s₁.setTop (mkF m 2 #[.val (.ref d), .val (.int (Int32.ofNat B.slots.size))] [.ref d, .int (Int32.ofNat B.slots.size)])) := c1.trans (by
    refine XS.iloadN X0.here hexec rfl (hb hbytes d0) rfl ?_
    refine XS.aloadN X0.here hexec rfl (hb hbytes d1) rfl rfl ?_
    exact Steps.refl _)
  have c3 : Steps p.tables e below (s₁.setTop (entryFrame m #[.ref d, .int (Int32.ofNat B.slots.size)] 2)) (s₁.setTop (mkF m 8 #[.val (.ref d), .val (.int (Int32.ofNat B.slots.size))] [.int (lo8 (ushr (Int32.ofNat B.slots.size - Int32.ofNat B.slots.size) 31))])) := c2.trans (by
    refine X0.alen hexec hB0 rfl rfl (hb hbytes d2) ?_
    refine XS.isub X0.here hexec rfl (hb hbytes d3) rfl ?_
    refine bipushV X0.here hexec rfl 31 (hb hbytes d4) (by decide) ?_
    refine iushr X0.here hexec rfl (hb hbytes d6) rfl ?_
    refine i2b X0.here hexec rfl (hb hbytes d7) rfl ?_
    exact Steps.refl _)
  have e0 : lo8 (ushr (Int32.ofNat B.slots.size - Int32.ofNat B.slots.size) 31) = 0 := by rw [Int32.sub_self]; decide
  rw [e0] at c3
  exact ⟨s₁, some (.int 0), _, _, _, X0, rfl, rfl, rfl, (fun h => by cases h), ⟨rfl, hh0⟩, fun fs hl => c3.trans (X0.ireturnOut hexec hret rfl (Or.inr (Or.inr (Or.inl rfl))) (hb hbytes d8) hl)⟩
end CodL
/-- the String at a is Latin-1 over a new byte[] (the heap's one new cell): the low bytes of the len chars of A from o on; every cell but a is kept -/
def Got (a : Addr) (D : Cell) (fV fC : Field) (A : Cell) (o len : Nat) (r : Option Value) (s u : State) : Prop := r = none ∧ ∃ D' V : Cell, Blank "java/lang/String" a D' u ∧ Same D D' [fV.slot, fC.slot] ∧ D'.slots[fV.slot]? = some (.ref s.heap.size) ∧ D'.slots[fC.slot]? = some (.int 0) ∧ Arr .byte s.heap.size V u ∧ V.vm = .none ∧ u.vm.findClass "[B" = some V.cls ∧ V.slots.size = len ∧ (∀ j, j < len → V.slots[j]? = some (.int (lo8 (cv A (o + j))))) ∧ (∀ (y : Addr) (c : Cell), y ≠ a → s.heap[y]? = some c → u.heap[y]? = some c) ∧ u.heap.size = s.heap.size + 1
theorem Got.mv {a : Addr} {D A : Cell} {fV fC : Field} {o len : Nat} : ∀ r (U U' V V' : State), U'.heap = U.heap → V.vm.Alike V'.vm → V'.heap = V.heap → Got a D fV fC A o len r U V → Got a D fV fC A o len r U' V' :=
  fun r U U' V V' h1 hal h2 ⟨e0, D', X, a1, a2, a3, a4, a5, a6, a7, a8, a9, a10, a11⟩ => ⟨e0, D', X, a1.mv hal h2, a2, by rw [h1]; exact a3, a4, by rw [h1]; exact a5.mv hal h2, a6, by rw [hal.findClass]; exact a7, a8, a9, by rw [h1, h2]; exact a10, by rw [h1, h2]; exact a11⟩
namespace New4
def yN : MethodName := ⟨"java/lang/String", "<init>", "([CIILjava/lang/Void;)V"⟩
abbrev yB : ByteArray := jdk_42_method_149_code
theorem d0 : decode yB 0 = .ok (.aload_n 0, 1) := by decide +kernel
theorem d1 : decode yB 1 = .ok (.invokespecial 1, 3) := by decide +kernel
theorem d4 : decode yB 4 = .ok (.iload_n 3, 1) := by decide +kernel
theorem d5 : decode yB 5 = .ok (.ifCond (.ne) 22, 3) := by decide +kernel
theorem d27 : decode yB 27 = .ok (.getstatic 38, 3) := by decide +kernel
theorem d30 : decode yB 30 = .ok (.ifCond (.eq) 28, 3) := by decide +kernel
theorem d33 : decode yB 33 = .ok (.aload_n 1, 1) := by decide +kernel
theorem d34 : decode yB 34 = .ok (.iload_n 2, 1) := by decide +kernel
theorem d35 : decode yB 35 = .ok (.iload_n 3, 1) := by decide +kernel
theorem d36 : decode yB 36 = .ok (.invokestatic 177, 3) := by decide +kernel
theorem d39 : decode yB 39 = .ok (.astore 5, 2) := by decide +kernel
theorem d41 : decode yB 41 = .ok (.aload_n 0, 1) := by decide +kernel
theorem d42 : decode yB 42 = .ok (.aload 5, 2) := by decide +kernel
theorem d44 : decode yB 44 = .ok (.iload_n 3, 1) := by decide +kernel
theorem d45 : decode yB 45 = .ok (.invokestatic 47, 3) := by decide +kernel
theorem d48 : decode yB 48 = .ok (.putfield 15, 3) := by decide +kernel
theorem d51 : decode yB 51 = .ok (.aload_n 0, 1) := by decide +kernel
theorem d52 : decode yB 52 = .ok (.aload 5, 2) := by decide +kernel
theorem d54 : decode yB 54 = .ok (.putfield 9, 3) := by decide +kernel
theorem d57 : decode yB 57 = .ok (.return_, 1) := by decide +kernel
def site : List Cond := [.fieldLink "java/lang/String" 38 "java/lang/String" "COMPACT_STRINGS" "Z", Cmp3.tab, CodL.tab, .laysFinal "java/lang/String" "java/lang/String" "value" "[B", .fieldLink "java/lang/String" 9 "java/lang/String" "value" "[B", .laysFinal "java/lang/String" "java/lang/String" "coder" "B", .fieldLink "java/lang/String" 15 "java/lang/String" "coder" "B"] ++ objW "java/lang/String" 1 ++ staticW "java/lang/String" 177 Cmp3.yN ++ staticW "java/lang/String" 47 CodL.yN
def tab : Cond := tabOf yN yB 6 none site
def P (a : Addr) (D : Cell) (fV fC : Field) (b : Addr) (A : Cell) (z : Int32) (o len : Nat) (args : Array Value) (s : State) : Prop := args = #[.ref a, .ref b, .int (Int32.ofNat o), .int (Int32.ofNat len), .null] ∧ Blank "java/lang/String" a D s ∧ Found "java/lang/String" "value" "[B" fV s ∧ Found "java/lang/String" "coder" "B" fC s ∧ Ch b A s ∧ StaticIs s "java/lang/String" "COMPACT_STRINGS" "Z" (.int z) ∧ ¬ z = 0 ∧ 0 < len ∧ o + len ≤ A.slots.size ∧ len ≤ 536870912 ∧ ∀ i, i < len → ¬ 255 < cv A (o + i)
def E (a : Addr) (D : Cell) (fV fC : Field) (A : Cell) (o len : Nat) (r : Option Value) (s u : State) : Prop := Got a D fV fC A o len r s u
/-- len > 0, no char of the range above 255: a Latin-1 String of their low bytes -/
theorem law (l : Launch) (a : Addr) (D : Cell) (fV fC : Field) (b : Addr) (A : Cell) (z : Int32) (o len : Nat) : Law l yN 5 4 2 35 yB 6 none site (P a D fV fC b A z o len) (E a D fV fC A o len) [⟨a, fC.slot⟩, ⟨a, fV.slot⟩] 1 len := by
  refine Law.of_walk (plainFor_of_name (by decide +kernel)) (by decide +kernel) (by decide +kernel) (by decide) (fun _ _ h => by rw [h.1]; rfl) (fun _ U U' hal hh h => ⟨h.1, h.2.1.mv hal hh, h.2.2.1.al hal, h.2.2.2.1.al hal, h.2.2.2.2.1.mv hal hh, h.2.2.2.2.2.1.there hal hh, h.2.2.2.2.2.2⟩) (fun r U U' V V' h1 hal h2 h => Got.mv r U U' V V' h1 hal h2 h) ?_
  intro p e s m args below meth c s₁ X0 hexec hbytes hml hret hlk hnm hown hh0 W hP
  obtain ⟨rfl, hB, f1, f2, hA, s1, hz, l0, l1, l2, hp⟩ := hP
  have a31 := hA.1.2.2.2
  have c1 : Steps p.tables e below (s₁.setTop (entryFrame m #[.ref a, .ref b, .int (Int32.ofNat o), .int (Int32.ofNat len), .null] 6)) (s₁.setTop (mkF m 0 #[.val (.ref a), .val (.ref b), .val (.int (Int32.ofNat o)), .val (.int (Int32.ofNat len)), .val .null, .unset] [])) := entry rfl
  have c2 : Steps p.tables e below (s₁.setTop (entryFrame m #[.ref a, .ref b, .int (Int32.ofNat o), .int (Int32.ofNat len), .null] 6)) (s₁.setTop (mkF m 1 #[.val (.ref a), .val (.ref b), .val (.int (Int32.ofNat o)), .val (.int (Int32.ofNat len)), .val .null, .unset] [.ref a])) := c1.trans (by
    refine XS.aloadN X0.here hexec rfl (hb hbytes d0) rfl rfl ?_
    exact Steps.refl _)
  obtain ⟨T3, X3, q3, st3⟩ := X0.oinit hexec hown (wks W (objW "java/lang/String" 1)) (g := (mkF m 1 #[.val (.ref a), .val (.ref b), .val (.int (Int32.ofNat o)), .val (.int (Int32.ofNat len)), .val .null, .unset] [.ref a])) rfl (by rw [hml]; rfl) (rest := []) rfl (hb hbytes d1) (W := 0) (by show 2 * 0 + 0 ≤ _; decide) (Nat.le_of_ble_eq_true rfl) (Nat.le_of_ble_eq_true rfl)
  have hh3 := q3.trans hh0
  have c4 : Steps p.tables e below (s₁.setTop (entryFrame m #[.ref a, .ref b, .int (Int32.ofNat o), .int (Int32.ofNat len), .null] 6)) (T3.setTop (mkF m 27 #[.val (.ref a), .val (.ref b), .val (.int (Int32.ofNat o)), .val (.int (Int32.ofNat len)), .val .null, .unset] [])) := (c2.trans (st3 _ (Steps.refl _))).trans (by
    refine XS.iloadN X3.here hexec rfl (hb hbytes d4) rfl ?_
    refine XS.ifYes X3.here hexec rfl (pc0 := 5) rfl (hb hbytes d5) rfl (i0_ne_t (nz32 (by omega) l0)) (by decide) rfl ?_
    exact Steps.refl _)
  obtain ⟨T5, X5, q5, st5⟩ := X3.sget hexec hown (wk W (.fieldLink "java/lang/String" 38 "java/lang/String" "COMPACT_STRINGS" "Z")) s1 (fun _ _ h => by rw [hh3]; exact h) (g := (mkF m 27 #[.val (.ref a), .val (.ref b), .val (.int (Int32.ofNat o)), .val (.int (Int32.ofNat len)), .val .null, .unset] [])) rfl (hb hbytes d27)
  have hh5 := q5.trans hh3
  have c6 : Steps p.tables e below (s₁.setTop (entryFrame m #[.ref a, .ref b, .int (Int32.ofNat o), .int (Int32.ofNat len), .null] 6)) (T5.setTop (mkF m 30 #[.val (.ref a), .val (.ref b), .val (.int (Int32.ofNat o)), .val (.int (Int32.ofNat len)), .val .null, .unset] [.int z])) := c4.trans (st5 _ (Steps.refl _))
  have c7 : Steps p.tables e below (s₁.setTop (entryFrame m #[.ref a, .ref b, .int (Int32.ofNat o), .int (Int32.ofNat len), .null] 6)) (T5.setTop (mkF m 36 #[.val (.ref a), .val (.ref b), .val (.int (Int32.ofNat o)), .val (.int (Int32.ofNat len)), .val .null, .unset] [.int (Int32.ofNat len), .int (Int32.ofNat o), .ref b])) := c6.trans (by
    refine XS.ifNo X5.here hexec rfl (hb hbytes d30) rfl (i0_eq_f hz) ?_
    refine XS.aloadN X5.here hexec rfl (hb hbytes d33) rfl rfl ?_
    refine XS.iloadN X5.here hexec rfl (hb hbytes d34) rfl ?_
    refine XS.iloadN X5.here hexec rfl (hb hbytes d35) rfl ?_
    exact Steps.refl _)
  obtain ⟨v8, T8, X8, E8, g8⟩ := X5.callS hexec (Cmp3.law l b A o len) hown (wks W (staticW "java/lang/String" 177 Cmp3.yN)) (wk W Cmp3.tab) (W := 0) (Nat.le_of_ble_eq_true rfl) (Nat.le_of_ble_eq_true rfl) (Nat.le_refl _) (by show 0 + len ≤ len; omega) (g := (mkF m 36 #[.val (.ref a), .val (.ref b), .val (.int (Int32.ofNat o)), .val (.int (Int32.ofNat len)), .val .null, .unset] [.int (Int32.ofNat len), .int (Int32.ofNat o), .ref b])) rfl (by rw [hml]; rfl) c7 (argsL := [.ref b, .int (Int32.ofNat o), .int (Int32.ofNat len)]) (rest := []) rfl rfl (by show 2 * 0 + 0 ≤ _; decide) (hb hbytes d36) (⟨rfl, hA.mv X5.warmed.alike hh5, l1, l2, hp⟩)
  obtain ⟨e8, z8⟩ := E8
  obtain ⟨rfl, N, n1, n2, n3, n4, n5, n6⟩ := NewArr.mv _ T5 s _ _ hh5.symm (Vm.Alike.refl _) rfl e8
  rw [hh5] at z8
  have hB1 := hB.keep X8.warmed.alike (n6 _ _ hB.1)
  have hne : s.heap.size ≠ a := (Nat.ne_of_lt (Array.getElem?_eq_some_iff.mp hB.1).1).symm
  have c9 : Steps p.tables e below (s₁.setTop (entryFrame m #[.ref a, .ref b, .int (Int32.ofNat o), .int (Int32.ofNat len), .null] 6)) (T8.setTop (mkF m 39 #[.val (.ref a), .val (.ref b), .val (.int (Int32.ofNat o)), .val (.int (Int32.ofNat len)), .val .null, .unset] [.ref s.heap.size])) := g8
  have c10 : Steps p.tables e below (s₁.setTop (entryFrame m #[.ref a, .ref b, .int (Int32.ofNat o), .int (Int32.ofNat len), .null] 6)) (T8.setTop (mkF m 45 #[.val (.ref a), .val (.ref b), .val (.int (Int32.ofNat o)), .val (.int (Int32.ofNat len)), .val .null, .val (.ref s.heap.size)] [.int (Int32.ofNat N.slots.size), .ref s.heap.size, .ref a])) := by
    have hc : Steps p.tables e below (s₁.setTop (entryFrame m #[.ref a, .ref b, .int (Int32.ofNat o), .int (Int32.ofNat len), .null] 6)) (T8.setTop (mkF m 45 #[.val (.ref a), .val (.ref b), .val (.int (Int32.ofNat o)), .val (.int (Int32.ofNat len)), .val .null, .val (.ref s.heap.size)] [.int (Int32.ofNat len), .ref s.heap.size, .ref a])) := c9.trans (by
      refine XS.astore X8.here hexec rfl (hb hbytes d39) rfl rfl rfl ?_
      refine XS.aloadN X8.here hexec rfl (hb hbytes d41) rfl rfl ?_
      refine XS.aload X8.here hexec rfl (hb hbytes d42) rfl rfl ?_
      refine XS.iloadN X8.here hexec rfl (hb hbytes d44) rfl ?_
      exact Steps.refl _)
    rw [n4]; exact hc
  obtain ⟨v11, T11, X11, E11, g11⟩ := X8.callS hexec (CodL.law l s.heap.size N) hown (wks W (staticW "java/lang/String" 47 CodL.yN)) (wk W CodL.tab) (W := 1) (Nat.le_of_ble_eq_true rfl) (Nat.le_of_ble_eq_true rfl) (Nat.le_refl _) (by show 0 + len + 0 ≤ len; omega) (g := (mkF m 45 #[.val (.ref a), .val (.ref b), .val (.int (Int32.ofNat o)), .val (.int (Int32.ofNat len)), .val .null, .val (.ref s.heap.size)] [.int (Int32.ofNat N.slots.size), .ref s.heap.size, .ref a])) rfl (by rw [hml]; rfl) c10 (argsL := [.ref s.heap.size, .int (Int32.ofNat N.slots.size)]) (rest := [.ref a]) rfl rfl (by show 2 * 0 + (1 + 0) ≤ _; decide) (hb hbytes d45) (⟨rfl, n1⟩)
  obtain ⟨rfl, q11⟩ := E11
  have hB11 := hB1.mv (X8.warmed.alike.symm.trans X11.warmed.alike) q11
  have c12 : Steps p.tables e below (s₁.setTop (entryFrame m #[.ref a, .ref b, .int (Int32.ofNat o), .int (Int32.ofNat len), .null] 6)) (T11.setTop (mkF m 48 #[.val (.ref a), .val (.ref b), .val (.int (Int32.ofNat o)), .val (.int (Int32.ofNat len)), .val .null, .val (.ref s.heap.size)] [.int 0, .ref a])) := g11
  obtain ⟨T13, X13, p13, bl13, sl13, st13⟩ := X11.finit hexec hown (wk W (.fieldLink "java/lang/String" 15 "java/lang/String" "coder" "B")) (Or.inr ⟨_, (wk W (.laysFinal "java/lang/String" "java/lang/String" "coder" "B"))⟩) (Or.inl ⟨rfl, hnm⟩) f2 (Or.inl rfl) hB11 (t := .byte) (by decide +kernel) rfl (g := (mkF m 48 #[.val (.ref a), .val (.ref b), .val (.int (Int32.ofNat o)), .val (.int (Int32.ofNat len)), .val .null, .val (.ref s.heap.size)] [.int 0, .ref a])) rfl (rest := []) rfl (hb hbytes d48)
  have c14 : Steps p.tables e below (s₁.setTop (entryFrame m #[.ref a, .ref b, .int (Int32.ofNat o), .int (Int32.ofNat len), .null] 6)) (T13.setTop (mkF m 54 #[.val (.ref a), .val (.ref b), .val (.int (Int32.ofNat o)), .val (.int (Int32.ofNat len)), .val .null, .val (.ref s.heap.size)] [.ref s.heap.size, .ref a])) := (c12.trans (st13 _ (Steps.refl _))).trans (by
    refine XS.aloadN X13.here hexec rfl (hb hbytes d51) rfl rfl ?_
    refine XS.aload X13.here hexec rfl (hb hbytes d52) rfl rfl ?_
    exact Steps.refl _)
  obtain ⟨T15, X15, p15, bl15, sl15, st15⟩ := X13.finit hexec hown (wk W (.fieldLink "java/lang/String" 9 "java/lang/String" "value" "[B")) (Or.inr ⟨_, (wk W (.laysFinal "java/lang/String" "java/lang/String" "value" "[B"))⟩) (Or.inl ⟨rfl, hnm⟩) f1 (Or.inl rfl) bl13 (t := (.array .byte)) (by decide +kernel) rfl (g := (mkF m 54 #[.val (.ref a), .val (.ref b), .val (.int (Int32.ofNat o)), .val (.int (Int32.ofNat len)), .val .null, .val (.ref s.heap.size)] [.ref s.heap.size, .ref a])) rfl (rest := []) rfl (hb hbytes d54)
  have c16 : Steps p.tables e below (s₁.setTop (entryFrame m #[.ref a, .ref b, .int (Int32.ofNat o), .int (Int32.ofNat len), .null] 6)) (T15.setTop (mkF m 57 #[.val (.ref a), .val (.ref b), .val (.int (Int32.ofNat o)), .val (.int (Int32.ofNat len)), .val .null, .val (.ref s.heap.size)] [])) := c14.trans (st15 _ (Steps.refl _))
  have ap := apart (Or.inr ⟨_, (wk W (.laysFinal "java/lang/String" "java/lang/String" "value" "[B"))⟩) (Or.inr ⟨_, (wk W (.laysFinal "java/lang/String" "java/lang/String" "coder" "B"))⟩) f1 f2 (t₁ := .array .byte) (t₂ := .byte) (by decide +kernel) (by decide +kernel) (by decide)
  have al := X8.warmed.alike.symm.trans X15.warmed.alike
  have n7 : T11.heap[s.heap.size]? = some N := by rw [q11]; exact n1.1
  exact ⟨T15, none, _, _, _, X15, by simp, rfl, by omega, (fun _ => rfl), ⟨rfl, _, N, bl15, ((Same.refl D _).set _ (by simp)).set _ (by simp), sl15, (Cell.slots_setSlot_ne _ ap).trans sl13, n1.keep al (p15.other hne (p13.other hne n7)), n2, by rw [al.findClass]; exact n3, n4, n5, fun y c h1 h2 => p15.other h1 (p13.other h1 (by rw [q11]; exact n6 y c h2)), by rw [p15.2.2, p13.2.2, q11]; exact z8⟩, fun fs hl => c16.trans (X15.returnOut hexec hret (hb hbytes d57) hl)⟩
end New4
namespace New1
def yN : MethodName := ⟨"java/lang/String", "<init>", "([C)V"⟩
abbrev yB : ByteArray := jdk_42_method_3_code
theorem d0 : decode yB 0 = .ok (.aload_n 0, 1) := by decide +kernel
theorem d1 : decode yB 1 = .ok (.aload_n 1, 1) := by decide +kernel
theorem d2 : decode yB 2 = .ok (.iconst 0, 1) := by decide +kernel
theorem d3 : decode yB 3 = .ok (.aload_n 1, 1) := by decide +kernel
theorem d4 : decode yB 4 = .ok (.arraylength, 1) := by decide +kernel
theorem d5 : decode yB 5 = .ok (.aconst_null, 1) := by decide +kernel
theorem d6 : decode yB 6 = .ok (.invokespecial 27, 3) := by decide +kernel
theorem d9 : decode yB 9 = .ok (.return_, 1) := by decide +kernel
def site : List Cond := [New4.tab] ++ initW "java/lang/String" 27 New4.yN
def tab : Cond := tabOf yN yB 2 none site
def P (a : Addr) (D : Cell) (fV fC : Field) (b : Addr) (A : Cell) (z : Int32) (args : Array Value) (s : State) : Prop := args = #[.ref a, .ref b] ∧ Blank "java/lang/String" a D s ∧ Found "java/lang/String" "value" "[B" fV s ∧ Found "java/lang/String" "coder" "B" fC s ∧ Ch b A s ∧ StaticIs s "java/lang/String" "COMPACT_STRINGS" "Z" (.int z) ∧ ¬ z = 0 ∧ 0 < A.slots.size ∧ A.slots.size ≤ 536870912 ∧ ∀ i, i < A.slots.size → ¬ 255 < cv A i
def E (a : Addr) (D : Cell) (fV fC : Field) (A : Cell) (r : Option Value) (s u : State) : Prop := Got a D fV fC A 0 A.slots.size r s u
/-- new String(chars), not empty, no char above 255: a Latin-1 String of their low bytes -/
theorem law (l : Launch) (a : Addr) (D : Cell) (fV fC : Field) (b : Addr) (A : Cell) (z : Int32) : Law l yN 2 1 3 52 yB 2 none site (P a D fV fC b A z) (E a D fV fC A) [⟨a, fC.slot⟩, ⟨a, fV.slot⟩] 1 A.slots.size := by
  refine Law.of_walk (plainFor_of_name (by decide +kernel)) (by decide +kernel) (by decide +kernel) (by decide) (fun _ _ h => by rw [h.1]; rfl) (fun _ U U' hal hh h => ⟨h.1, h.2.1.mv hal hh, h.2.2.1.al hal, h.2.2.2.1.al hal, h.2.2.2.2.1.mv hal hh, h.2.2.2.2.2.1.there hal hh, h.2.2.2.2.2.2⟩) (fun r U U' V V' h1 hal h2 h => Got.mv r U U' V V' h1 hal h2 h) ?_
  intro p e s m args below meth c s₁ X0 hexec hbytes hml hret hlk hnm hown hh0 W hP
  obtain ⟨rfl, hB, f1, f2, hA, s1, hz, l0, l2, hp⟩ := hP
  have c1 : Steps p.tables e below (s₁.setTop (entryFrame m #[.ref a, .ref b] 2)) (s₁.setTop (mkF m 0 #[.val (.ref a), .val (.ref b)] [])) := entry rfl
  have c2 : Steps p.tables e below (s₁.setTop (entryFrame m #[.ref a, .ref b] 2)) (s₁.setTop (mkF m 6 #[.val (.ref a), .val (.ref b)] [.null, .int (Int32.ofNat A.slots.size), .int 0, .ref b, .ref a])) := c1.trans (by
    refine XS.aloadN X0.here hexec rfl (hb hbytes d0) rfl rfl ?_
    refine XS.aloadN X0.here hexec rfl (hb hbytes d1) rfl rfl ?_
    refine iconstV X0.here hexec rfl 0 (hb hbytes d2) (by decide) ?_
    refine XS.aloadN X0.here hexec rfl (hb hbytes d3) rfl rfl ?_
    refine X0.alen hexec (hA.1.mv X0.warmed.alike hh0) rfl rfl (hb hbytes d4) ?_
    refine XS.aconstNull X0.here hexec rfl (hb hbytes d5) ?_
    exact Steps.refl _)
  obtain ⟨v3, T3, X3, E3, g3⟩ := X0.callN hexec (New4.law l a D fV fC b A z 0 A.slots.size) rfl hown (wks W (initW "java/lang/String" 27 New4.yN)) (W New4.tab (by simp only [site, List.mem_cons, List.mem_append, true_or, or_true])) (W := 0) (Nat.le_of_ble_eq_true rfl) (Nat.le_of_ble_eq_true rfl) (Nat.le_refl _) (by show 0 + A.slots.size ≤ A.slots.size; omega) (g := (mkF m 6 #[.val (.ref a), .val (.ref b)] [.null, .int (Int32.ofNat A.slots.size), .int (Int32.ofNat 0), .ref b, .ref a])) rfl (by rw [hml]; rfl) c2 (argsL := [.ref b, .int (Int32.ofNat 0), .int (Int32.ofNat A.slots.size), .null]) (rest := []) rfl rfl (by show 2 * 0 + 0 ≤ _; decide) (hb hbytes d6) (⟨rfl, hB.mv X0.warmed.alike hh0, f1.al X0.warmed.alike, f2.al X0.warmed.alike, hA.mv X0.warmed.alike hh0, s1.there X0.warmed.alike hh0, hz, l0, by omega, l2, fun i hi => by rw [Nat.zero_add]; exact hp i hi⟩)
  have e0 := Got.mv _ s₁ s _ _ hh0.symm (Vm.Alike.refl _) rfl E3
  obtain rfl := e0.1
  have c4 : Steps p.tables e below (s₁.setTop (entryFrame m #[.ref a, .ref b] 2)) (T3.setTop (mkF m 9 #[.val (.ref a), .val (.ref b)] [])) := g3
  exact ⟨T3, none, _, _, _, X3, by simp, rfl, by omega, (fun _ => rfl), e0, fun fs hl => c4.trans (X3.returnOut hexec hret (hb hbytes d9) hl)⟩
theorem pays {l : Launch} {R : Room} {p : Program} {e : Env} {below : List Frame} {s : State} {sargs : Array Value} {len W : Nat} (a : Addr) (D : Cell) (fV fC : Field) (b : Addr) (A : Cell) (z : Int32) (htab : tab.before sargs s = true) (hfr : 4 ≤ R.frames) (hlo : W + 65 ≤ R.locals) :
    Back l R p e below s sargs yN len W (fun A₁ a₁ => A₁.cells + 1 ≤ R.cells ∧ A₁.slots + A.slots.size ≤ R.slots ∧ P a D fV fC b A z a₁ A₁.U) (fun A₁ _ v₁ B₁ => E a D fV fC A v₁ A₁.U B₁.U ∧ B₁.locs = A₁.locs ++ [⟨a, fC.slot⟩, ⟨a, fV.slot⟩] ∧ B₁.cells = A₁.cells + 1 ∧ B₁.slots = A₁.slots + A.slots.size) :=
  (law l a D fV fC b A z).pays htab hfr (by omega)
end New1
end StrChars
namespace StrChars.Road
open Jvm Sem ClassFile Op Lib Jvm.Stand Jvm.Free Jvm.Free.XT
open Jvm.Lib.Cold (StaticIs)
abbrev ST : String := "java/lang/String"
/-- every table word that New1's law asks, flat -/
abbrev words : List Jvm.Cond := [.code New1.yN New1.yB 2 none, .initialized ST, .methodLink ST 27 New4.yN, .instanceMethod New4.yN,
  .code New4.yN New4.yB 6 none, .fieldLink ST 38 ST "COMPACT_STRINGS" "Z", .laysFinal ST ST "value" "[B", .fieldLink ST 9 ST "value" "[B", .laysFinal ST ST "coder" "B", .fieldLink ST 15 ST "coder" "B",
  .methodLink ST 1 Lib.objectInit, .instanceMethod Lib.objectInit, .code Lib.objectInit ⟨#[0xb1]⟩ 1 none, .methodLink ST 177 Cmp3.yN, .static Cmp3.yN, .methodLink ST 47 CodL.yN, .static CodL.yN,
  .code Cmp3.yN Cmp3.yB 6 (some (.array .byte)), .initialized U16, .arrayClass .byte, .methodLink U16 115 Cmp5.yN, .static Cmp5.yN, .code Cmp5.yN Cmp5.yB 7 (some .int), .code CodL.yN CodL.yB 2 (some .byte)]
theorem tab_of {a : Array Value} {s : State} (h : ∀ w ∈ words, w.before a s = true) : New1.tab.before a s = true := by
  have h5 : Cmp5.tab.before a s = true := unparts (wk h (.code Cmp5.yN Cmp5.yB 7 (some .int))) (wks h (.initialized Cmp5.yN.cls :: Cmp5.site))
  have hc : CodL.tab.before a s = true := unparts (wk h (.code CodL.yN CodL.yB 2 (some .byte))) (wks h (.initialized CodL.yN.cls :: CodL.site))
  have q5 : ∀ w ∈ Cmp5.tab :: words, w.before a s = true := fun w hw => (List.mem_cons.mp hw).elim (fun e => e ▸ h5) (h w)
  have h3 : Cmp3.tab.before a s = true := unparts (wk q5 (.code Cmp3.yN Cmp3.yB 6 (some (.array .byte)))) (wks q5 (.initialized Cmp3.yN.cls :: Cmp3.site))
  have q3 : ∀ w ∈ Cmp3.tab :: CodL.tab :: words, w.before a s = true := fun w hw => (List.mem_cons.mp hw).elim (fun e => e ▸ h3) fun hw => (List.mem_cons.mp hw).elim (fun e => e ▸ hc) (h w)
  have h4 : New4.tab.before a s = true := unparts (wk q3 (.code New4.yN New4.yB 6 none)) (wks q3 (.initialized New4.yN.cls :: New4.site))
  have q4 : ∀ w ∈ New4.tab :: words, w.before a s = true := fun w hw => (List.mem_cons.mp hw).elim (fun e => e ▸ h4) (h w)
  exact unparts (wk q4 (.code New1.yN New1.yB 2 none)) (wks q4 (.initialized New1.yN.cls :: New1.site))
/-- the words ride from the start Z to the walk's own state -/
theorem moved {Z s : State} {a0 args : Array Value} (hZ : Z.Warmed39 s.vm) (hw : ∀ d ∈ words, d.before a0 Z = true) : ∀ d ∈ words, d.before args s = true := fun d hd => by
  have q := hw d hd
  have t : ∀ d ∈ words, d = .arrayClass .byte ∨ (d.onTables && d.keepsFace) = true := by decide +kernel
  rcases t d hd with rfl | t
  · exact RoadKit.mvA hZ q
  · exact RoadKit.mv hZ q t
/-- WHAT COMES BACK, over the tables of the start Z: h the heap at the call, h' behind it -/
def Q (Z : State) (x : Addr) (A : Cell) (h : Heap) (v : Option Value) (h' : Heap) (L : List Loc) : Prop := v = none ∧ (∀ y ∈ L, y.base = x) ∧ RoadKit.Keep h h' [x] ∧ h'.size = h.size + 1 ∧ RoadKit.Exa Z h' x ST ∧ RoadKit.Fld Z h' x ST "value" "[B" (.ref h.size) ∧ RoadKit.Fld Z h' x ST "coder" "B" (.int 0) ∧
  (∃ V : Cell, RoadKit.Arr Z h' h.size V .byte ∧ V.vm = .none ∧ Z.vm.findClass "[B" = some V.cls ∧ V.slots.size = A.slots.size ∧ ∀ j, j < A.slots.size → V.slots[j]? = some (.int (lo8 (cv A j)))) ∧
  ∀ (O n d : String) (w : Value), RoadKit.Fld Z h x O n d w → RoadKit.slotOf Z O n d ≠ RoadKit.slotOf Z ST "value" "[B" → RoadKit.slotOf Z O n d ≠ RoadKit.slotOf Z ST "coder" "B" → RoadKit.Fld Z h' x O n d w
/-- **new String(chars) AT A CALL, IN THE ROAD'S FORM**: for specialBack behind newO: x the fresh String, b the char[] with the cell A -/
theorem back {p : Program} {l : Launch} {e : Env} {R : Room} {s : State} {args : Array Value} {below : List Frame} {len W : Nat} {Z : State} {a0 : Array Value} {h : Heap} (hZ : Z.Warmed39 s.vm) (hw : ∀ d ∈ words, d.before a0 Z = true) {kI : Nat} (wi : (Jvm.Cond.instantiable ST kI).before a0 Z = true)
    {x b : Addr} {A : Cell} {z : Int32} {v0 c0 : Value} (E : RoadKit.Exa Z h x ST) (V : RoadKit.Fld Z h x ST "value" "[B" v0) (C : RoadKit.Fld Z h x ST "coder" "B" c0) (K : RoadKit.Arr Z h b A .char) (hty : Typed .char A) (S : RoadKit.Sta Z h ST "COMPACT_STRINGS" "Z" (.int z)) (hz : ¬ z = 0)
    (l0 : 0 < A.slots.size) (l2 : A.slots.size ≤ 536870912) (hp : ∀ i, i < A.slots.size → ¬ 255 < cv A i) (hfr : 4 ≤ R.frames) (hlo : W + 65 ≤ R.locals) :
    Back l R p e below s args New1.yN len W (fun P a => a = #[.ref x, .ref b] ∧ P.U.heap = h ∧ P.cells + 1 ≤ R.cells ∧ P.slots + A.slots.size ≤ R.slots)
      (fun P _ v B => ∃ L, Q Z x A h v B.U.heap L ∧ B.locs = P.locs ++ L ∧ B.cells = P.cells + 1 ∧ B.slots = P.slots + A.slots.size) := by
  intro m meth c P g ig mk a X hg hsize hdg hW hn hp'
  obtain ⟨rfl, rfl, r1, r2⟩ := hp'
  have al : Z.vm.Alike P.U.vm := hZ.alike.trans X.warmed.alike
  obtain ⟨D, cfV, kV, iV, fV, hD, gV, stV, knV, obV, asV, slV⟩ := id V
  obtain ⟨D', cfC, kC, iC, fC, hD', gC, stC, -, -, asC, slC⟩ := id C
  cases hD.symm.trans hD'
  obtain ⟨D2, kD, e1, e2, e3, e4, e5⟩ := id E
  cases hD.symm.trans e1
  obtain ⟨c2, k2, i1, i2, i3, -⟩ := Cond.instantiable_spec wi
  cases e2.symm.trans i1
  cases e3.symm.trans i2
  obtain ⟨kU, u1, u2⟩ := al.2.2 _ _ e3
  have hB : Blank ST x D P.U := ⟨hD, ⟨knV, fun q hq => by rw [hq] at obV; cases obV⟩, by rw [al.findClass]; exact e2, kU, u1, by rw [u2]; exact i3, by rw [u2]; exact e5 i3⟩
  have F1 : Found ST "value" "[B" fV P.U := ⟨SBG.found_only al ⟨cfV, kV, iV, gV⟩, stV⟩
  have F2 : Found ST "coder" "B" fC P.U := ⟨SBG.found_only al ⟨cfC, kC, iC, gC⟩, stC⟩
  have hA : Ch b A P.U := ⟨⟨K.1, State.isArrayOf_alike al K.2.1, K.2.2, by omega⟩, hty⟩
  have hS : StaticIs P.U ST "COMPACT_STRINGS" "Z" (.int z) := by
    obtain ⟨cfS, iS, kS, fS, st, cS, t1, t2, t3, t4, t5, t6, t7⟩ := S
    exact StaticIs.there (s := { Z with heap := P.U.heap }) ⟨cfS, iS, kS, fS, st, cS, t1, t2, t3, t4, t5, (fun q => by rw [q] at t6; cases t6), t7⟩ al rfl
  obtain ⟨v, B, X', ⟨⟨hv, E', V', q1, q2, q3, q4, q5, q6, q7, q8, q9, q10, q11⟩, hl, hc, hs⟩, st⟩ := New1.pays x D fV fC b A z (tab_of (moved hZ hw)) hfr hlo m meth c P g ig mk _ X hg hsize hdg hW hn ⟨r1, r2, rfl, hB, F1, F2, hA, hS, hz, l0, l2, hp⟩
  have al' : Z.vm.Alike B.U.vm := hZ.alike.trans X'.warmed.alike
  have hsz : E'.slots.size = D.slots.size := by
    obtain ⟨-, -, -, kB, w1, w2, w3⟩ := q1
    obtain ⟨kB', y1, y2⟩ := al'.2.2 _ _ e3
    rw [q2.2.1] at w1
    cases w1.symm.trans y1
    rw [w3, e5 i3, y2]
  refine ⟨v, B, X', ⟨_, ⟨hv, ?_, ⟨by omega, fun y cy hy hn' => q10 y cy (by simpa using hn') hy, fun y cy hy => ?_⟩, q11, ⟨E', _, q1.1, by rw [q2.2.1]; exact e2, by rw [q2.2.1]; exact e3, by rw [q2.1]; exact obV, fun _ => by rw [hsz]; exact e5 i3⟩,
    ⟨E', cfV, kV, iV, fV, q1.1, gV, stV, by rw [q2.1]; exact knV, by rw [q2.1]; exact obV, by rw [q2.2.1]; exact asV, q3⟩, ⟨E', cfC, kC, iC, fC, q1.1, gC, stC, by rw [q2.1]; exact knV, by rw [q2.1]; exact obV, by rw [q2.2.1]; exact asC, q4⟩,
    ⟨V', ⟨q5.1, State.isArrayOf_alike al'.symm q5.2.1, q5.2.2.1⟩, q6, by rw [← al'.findClass]; exact q7, q8, fun j hj => by have := q9 j hj; rwa [Nat.zero_add] at this⟩, fun O n d w F n1 n2 => ?_⟩, hl, hc, hs⟩, st⟩
  · intro y hy
    simp only [List.mem_cons, List.not_mem_nil, or_false] at hy
    rcases hy with rfl | rfl <;> rfl
  · by_cases q : y = x
    · subst q
      cases hD.symm.trans hy
      exact ⟨E', q1.1, q2.2.1, q2.1, hsz⟩
    · exact ⟨cy, q10 y cy q hy, rfl, rfl, rfl⟩
  · obtain ⟨D3, cf, k, i, f, g1, g2, g3, g4, g5, g6, g7⟩ := F
    cases hD.symm.trans g1
    simp only [RoadKit.slotOf, g2, gV, gC, Option.map_some, Option.getD_some] at n1 n2
    exact ⟨E', cf, k, i, f, q1.1, g2, g3, by rw [q2.1]; exact g4, by rw [q2.1]; exact g5, by rw [q2.2.1]; exact g6, by rw [q2.2.2 f.slot (by simp [n1, n2])]; exact g7⟩
end StrChars.Road
namespace StrChars.Road
open Jvm Sem ClassFile Op Lib Jvm.Stand Jvm.Free Jvm.Free.XT
/-- WHAT COMES BACK, the byte[] as a list of values -/
def QA (Z : State) (x : Addr) (zn : Int32) (cs : List Int32) (h : Heap) (v : Option Value) (h' : Heap) (L : List Loc) : Prop := v = none ∧ (∀ y ∈ L, y.base = x) ∧ RoadKit.Keep h h' [x] ∧ h'.size = h.size + 1 ∧ RoadKit.Exa Z h' x ST ∧ RoadKit.Fld Z h' x ST "value" "[B" (.ref h.size) ∧ RoadKit.Fld Z h' x ST "coder" "B" (.int 0) ∧
  (∃ kb, Z.vm.findClass "[B" = some kb ∧ RoadKit.Arv Z h' h.size kb .byte zn (cs.map fun c => .int (lo8 c)) (.int 0)) ∧
  ∀ (O n d : String) (w : Value), RoadKit.Fld Z h x O n d w → RoadKit.slotOf Z O n d ≠ RoadKit.slotOf Z ST "value" "[B" → RoadKit.slotOf Z O n d ≠ RoadKit.slotOf Z ST "coder" "B" → RoadKit.Fld Z h' x O n d w
/-- **new String(chars) AT A CALL, THE ARRAYS AS LISTS**: the char[] at b holds cs, not empty, no char above 255 -/
theorem backArv {p : Program} {l : Launch} {e : Env} {R : Room} {s : State} {args : Array Value} {below : List Frame} {len W : Nat} {Z : State} {a0 : Array Value} {h : Heap} (hZ : Z.Warmed39 s.vm) (hw : ∀ d ∈ words, d.before a0 Z = true) {kI : Nat} (wi : (Jvm.Cond.instantiable ST kI).before a0 Z = true)
    {x b : Addr} {k : ClassId} {zn z : Int32} {cs : List Int32} {dv v0 c0 : Value} (E : RoadKit.Exa Z h x ST) (V : RoadKit.Fld Z h x ST "value" "[B" v0) (C : RoadKit.Fld Z h x ST "coder" "B" c0) (K : RoadKit.Arv Z h b k .char zn (cs.map Value.int) dv) (S : RoadKit.Sta Z h ST "COMPACT_STRINGS" "Z" (.int z)) (hz : ¬ z = 0)
    (hlen : zn.toNatClampNeg = cs.length) (h0 : 0 < cs.length) (hbig : cs.length ≤ 536870912) (hall : ∀ c ∈ cs, ¬ 255 < c) (hfr : 4 ≤ R.frames) (hlo : W + 65 ≤ R.locals) :
    Back l R p e below s args New1.yN len W (fun P a => a = #[.ref x, .ref b] ∧ P.U.heap = h ∧ P.cells + 1 ≤ R.cells ∧ P.slots + cs.length ≤ R.slots)
      (fun P _ v B => ∃ L, QA Z x zn cs h v B.U.heap L ∧ B.locs = P.locs ++ L ∧ B.cells = P.cells + 1 ∧ B.slots = P.slots + cs.length) := by
  obtain ⟨A, K1, K2, K3, K4, K5, K6⟩ := K
  have e : A.slots.size = cs.length := K3.trans hlen
  have hat : ∀ (i : Nat) (hi : i < cs.length), A.slots[i]? = some (.int cs[i]) := fun i hi => by rw [K5 i (by omega)]; simp [List.getD_eq_getElem?_getD, hi]
  have hcv : ∀ (i : Nat) (hi : i < cs.length), cv A i = cs[i] := fun i hi => by unfold cv; rw [hat i hi]
  have hty : Typed .char A := fun i v hv => by
    have hi : i < A.slots.size := (Array.getElem?_eq_some_iff.mp hv).1
    have q := K5 i hi
    rw [hv] at q
    rw [Option.some.inj q]
    exact K6 i hi
  refine Back.mono (back hZ hw wi E V C K1 hty S hz (by omega) (by omega) (fun i hi => by rw [hcv i (by omega)]; exact hall _ (List.getElem_mem _)) hfr hlo) (fun P a hp => ⟨hp.1, hp.2.1, hp.2.2.1, by rw [e]; exact hp.2.2.2⟩) (fun P a v B hp hq => ?_)
  obtain ⟨L, ⟨q1, q2, q3, q4, q5, q6, q7, ⟨V', v1, v2, v3, v4, v5⟩, q9⟩, hl, hc, hs⟩ := hq
  refine ⟨L, ⟨q1, q2, q3, q4, q5, q6, q7, ⟨V'.cls, v3, V', v1, rfl, by rw [v4, e, hlen], K4, fun i hi => ?_, fun i hi => ?_⟩, q9⟩, hl, hc, by rw [hs, e]⟩
  · have hi' : i < cs.length := by omega
    rw [v5 i (by omega), hcv i hi']; simp [List.getD_eq_getElem?_getD, hi']
  · have hi' : i < cs.length := by omega
    simp only [List.getD_eq_getElem?_getD, List.getElem?_map, List.getElem?_eq_getElem hi', Option.map_some, Option.getD_some]
    exact fits_lo8 _
end StrChars.Road
namespace StrChars.Road
open Jvm Sem ClassFile Op Lib Jvm.Stand Jvm.Free Jvm.Free.XT
/-- WHAT COMES BACK, in the writer's own shape -/
def QV (Z : State) (x : Addr) (N : Int32) (bs : List Int32) (h : Heap) (n0 : Nat) (v : Option Value) (h' : Heap) (L : List Loc) : Prop := v = none ∧ RoadKit.Fr n0 L ∧ RoadKit.Keep h h' [x] ∧ RoadKit.Exa Z h' x ST ∧ RoadKit.Fld Z h' x ST "coder" "B" (.int 0) ∧
  ∃ (t : Addr) (kb : ClassId), n0 ≤ t ∧ h.size ≤ t ∧ ¬ t = x ∧ RoadKit.Fld Z h' x ST "value" "[B" (.ref t) ∧ RoadKit.Arv Z h' t kb .byte N (bs.map Value.int) (.int 0)
/-- **new String(chars) AT A CALL, FOR THE WRITER**: a char[] of n known ints, each 0 to 255 -/
theorem backV {p : Program} {l : Launch} {e : Env} {R : Room} {s : State} {args : Array Value} {below : List Frame} {len W : Nat} {Z : State} {a0 : Array Value} {h : Heap} (hZ : Z.Warmed39 s.vm) (hw : ∀ d ∈ words, d.before a0 Z = true) {kI : Nat} (wi : (Jvm.Cond.instantiable ST kI).before a0 Z = true)
    {x b : Addr} {kC : ClassId} {cs bs : List Int32} {d v0 c0 : Value} {z N : Int32} {n n0 : Nat} (hx0 : n0 ≤ x) (hh0 : n0 ≤ h.size) (E : RoadKit.Exa Z h x ST) (V : RoadKit.Fld Z h x ST "value" "[B" v0) (C : RoadKit.Fld Z h x ST "coder" "B" c0) (K : RoadKit.Arv Z h b kC .char N (cs.map Value.int) d) (S : RoadKit.Sta Z h ST "COMPACT_STRINGS" "Z" (.int z)) (hz : ¬ z = 0)
    (hn : cs.length = n) (hN : N = Int32.ofNat n) (l0 : 0 < n) (l2 : n ≤ 4000) (hp : ∀ c ∈ cs, ¬ c < 0 ∧ ¬ (255 : Int32) < c) (hb : bs = cs.map (fun c => c.toInt8.toInt32)) (hfr : 4 ≤ R.frames) (hlo : W + 65 ≤ R.locals) :
    Back l R p e below s args (⟨"java/lang/String", "<init>", "([C)V"⟩ : MethodName) len W (fun P a => a = #[.ref x, .ref b] ∧ P.U.heap = h ∧ P.cells + 1 ≤ R.cells ∧ P.slots + n ≤ R.slots)
      (fun P _ v B => ∃ L, QV Z x N bs h n0 v B.U.heap L ∧ B.locs = P.locs ++ L ∧ B.cells = P.cells + 1 ∧ B.slots = P.slots + n) := by
  subst hn hN hb
  refine Back.mono (backArv hZ hw wi E V C K S hz (n32 (by omega)) l0 (by omega) (fun c hc => (hp c hc).2) hfr hlo) (fun P a hp => hp) (fun P a v B hp hq => ?_)
  obtain ⟨L, ⟨q1, q2, q3, q4, q5, q6, q7, ⟨kb, v1, v2⟩, q9⟩, hl, hc, hs⟩ := hq
  exact ⟨L, ⟨q1, fun y hy => by rw [q2 y hy]; exact hx0, q3, q5, q7, h.size, kb, hh0, Nat.le_refl _, Nat.ne_of_gt E.lt, q6, by rw [List.map_map]; exact v2⟩, hl, hc, hs⟩
end StrChars.Road
end Jvm.Pilot.@@N@@
namespace Jvm.Pilot.@@N@@
open Jvm Jvm.ClassFile Sem Op Lib Jvm.Free Jvm.Stand Jvm.LawKit Jvm.RoadKit Bundle Jvm.Pilot.@@N@@.Jvm.D
/-- two slots that hold nothing, or one double or long -/
def own_Two (s t : Slot) : Prop := (s = .unset ∧ t = .unset) ∨ (∃ d, s = .val (.double d) ∧ t = .second) ∨ ∃ d, s = .val (.long d) ∧ t = .second
theorem own_pad {p : Program} {l : Launch} {e : Env} {R : Room} {s : State} {m : MethodId} {args : Array Value} {below : List Frame} {meth : Method} {c : Code} {T : State} {locs : List Loc} {k n k' n' : Nat} (X : Stand p l e R s m args below meth c T locs k n) (hk : k ≤ k') (hn : n ≤ n') : Stand p l e R s m args below meth c T locs k' n' := { X with same := X.same.mono hk hn }
/-- the walk from S on comes to an end of which Q is true -/
def own_End (p : Program) (e : Env) (below : List Frame) (Q : Outcome → State → Prop) (S : State) : Prop := ∃ s₂ o, Steps p.tables e below S s₂ ∧ s₂.status = .running ∧ Ended s₂ below o ∧ Q o s₂
theorem own_go {p : Program} {e : Env} {below : List Frame} {Q : Outcome → State → Prop} {S S' : State} (h : ∀ t, Steps p.tables e below S' t → Steps p.tables e below S t) (k : own_End p e below Q S') : own_End p e below Q S := by
  obtain ⟨s₂, o, h1, h2⟩ := k
  exact ⟨s₂, o, h s₂ h1, h2⟩
/-- an array of z places, of which the j-th holds f j -/
def own_Ar (Z : State) (h : Heap) (a : Addr) (ty : FieldType) (z : Int32) (f : Nat → Value) : Prop := ∃ cl : Cell, Arr Z h a cl ty ∧ cl.slots.size = z.toNatClampNeg ∧ ¬ z < 0 ∧ ∀ j, j < z.toNatClampNeg → cl.slots[j]? = some (f j)
section OwnAr
variable {Z : State} {h h' : Heap} {a b : Addr} {ty : FieldType} {z : Int32} {f g : Nat → Value} {ws : List Addr} {sl : Nat} {v : Value}
theorem own_Ar.lt (F : own_Ar Z h a ty z f) : a < h.size := by obtain ⟨c, A, -⟩ := F; exact A.lt
theorem own_Ar.ext (F : own_Ar Z h a ty z f) (E : Ext h h') : own_Ar Z h' a ty z f := by obtain ⟨c, A, r⟩ := F; exact ⟨c, A.ext E, r⟩
theorem own_Ar.other (F : own_Ar Z h b ty z f) (W : Wr h h' a sl v) (q : b ≠ a) : own_Ar Z h' b ty z f := by obtain ⟨c, A, r⟩ := F; exact ⟨c, A.other W q, r⟩
theorem own_Ar.keep (F : own_Ar Z h a ty z f) (K : Keep h h' ws) (q : a ∉ ws) : own_Ar Z h' a ty z f := by obtain ⟨c, A, r⟩ := F; exact ⟨c, ⟨K.2.1 a c A.1 q, A.2⟩, r⟩
theorem own_Ar.turn (F : own_Ar Z h a ty z f) (q : ∀ j, j < z.toNatClampNeg → f j = g j) : own_Ar Z h a ty z g := by obtain ⟨c, A, r1, r2, r3⟩ := F; exact ⟨c, A, r1, r2, fun j hj => by rw [r3 j hj, q j hj]⟩
theorem own_Ar.new {k : ClassId} (A : Arr Z h a (newA k ty z) ty) (q : ¬ z < 0) : own_Ar Z h a ty z (fun _ => defaultValue ty) := ⟨_, A, sz_new _ _ _, q, fun j hj => by simp [newA, hj]⟩
theorem own_Ar_set {c : Cell} (A : Arr Z h a c ty) (S : c.slots.size = z.toNatClampNeg) (M : ¬ z < 0) (H : ∀ j, j < z.toNatClampNeg → c.slots[j]? = some (f j)) (W : Wr h h' a sl v) : own_Ar Z h' a ty z (fun j => if j = sl then v else f j) := by
  refine ⟨_, A.same W, (sz_set _ _ _).trans S, M, fun j hj => ?_⟩
  show (c.setSlot sl v).slots[j]? = some (if j = sl then v else f j)
  by_cases e : j = sl
  · subst e; simp [Cell.setSlot, S, hj]
  · have e' : ¬ sl = j := fun q => e q.symm
    simp [Cell.setSlot, e, e', Array.getElem?_setIfInBounds, H j hj]
theorem own_in {c : Cell} {z j : Int32} (S : c.slots.size = z.toNatClampNeg) (q : ¬ (j < 0 ∨ c.slots.size ≤ j.toNatClampNeg)) : j.toNatClampNeg < z.toNatClampNeg := by
  rw [← S]; exact Nat.lt_of_not_le fun y => q (Or.inr y)
/-- the same of an array of references, whose class is known -/
def own_Rr (Z : State) (h : Heap) (a : Addr) (C : String) (z : Int32) (f : Nat → Value) : Prop := ∃ cl : Cell, Arr Z h a cl (.object C) ∧ cl.slots.size = z.toNatClampNeg ∧ ¬ z < 0 ∧ (∀ j, j < z.toNatClampNeg → cl.slots[j]? = some (f j)) ∧ Ovr Z cl.cls C
variable {C : String}
theorem own_Rr.lt (F : own_Rr Z h a C z f) : a < h.size := by obtain ⟨c, A, -⟩ := F; exact A.lt
theorem own_Rr.ext (F : own_Rr Z h a C z f) (E : Ext h h') : own_Rr Z h' a C z f := by obtain ⟨c, A, r⟩ := F; exact ⟨c, A.ext E, r⟩
theorem own_Rr.other (F : own_Rr Z h b C z f) (W : Wr h h' a sl v) (q : b ≠ a) : own_Rr Z h' b C z f := by obtain ⟨c, A, r⟩ := F; exact ⟨c, A.other W q, r⟩
theorem own_Rr.keep (F : own_Rr Z h a C z f) (K : Keep h h' ws) (q : a ∉ ws) : own_Rr Z h' a C z f := by obtain ⟨c, A, r⟩ := F; exact ⟨c, ⟨K.2.1 a c A.1 q, A.2⟩, r⟩
theorem own_Rr.turn (F : own_Rr Z h a C z f) (q : ∀ j, j < z.toNatClampNeg → f j = g j) : own_Rr Z h a C z g := by obtain ⟨c, A, r1, r2, r3, r4⟩ := F; exact ⟨c, A, r1, r2, fun j hj => by rw [r3 j hj, q j hj], r4⟩
theorem own_Rr.new {k : ClassId} (A : Arr Z h a (newA k (.object C) z) (.object C)) (O : Ovr Z k C) (q : ¬ z < 0) : own_Rr Z h a C z (fun _ => .null) := ⟨_, A, sz_new _ _ _, q, fun j hj => by simp [newA, hj, defaultValue], O⟩
theorem own_Rr_set {c : Cell} (A : Arr Z h a c (.object C)) (S : c.slots.size = z.toNatClampNeg) (M : ¬ z < 0) (H : ∀ j, j < z.toNatClampNeg → c.slots[j]? = some (f j)) (O : Ovr Z c.cls C) (W : Wr h h' a sl v) : own_Rr Z h' a C z (fun j => if j = sl then v else f j) := by
  refine ⟨_, A.same W, (sz_set _ _ _).trans S, M, fun j hj => ?_, O⟩
  show (c.setSlot sl v).slots[j]? = some (if j = sl then v else f j)
  by_cases e : j = sl
  · subst e; simp [Cell.setSlot, S, hj]
  · have e' : ¬ sl = j := fun q => e q.symm
    simp [Cell.setSlot, e, e', Array.getElem?_setIfInBounds, H j hj]
end OwnAr
theorem own_small {n : Nat} (h : n < 2147483648) : n.toInt32.toInt = n := Int32.toInt_ofNat_small h
theorem own_clamp {i : Int32} {n : Nat} (h : i.toInt = n) : i.toNatClampNeg = n := by rw [← Int32.toNat_toInt, h]; rfl
theorem own_num {i : Int32} {n : Nat} (h : i.toInt = n) : n.toInt32 = i := by
  rw [← Int32.toInt_inj, own_small (by have := (rng32 i).2; omega), h]
theorem own_lt_of {i z : Int32} {n N : Nat} (h : i.toInt = n) (hz : z.toInt = N) : i < z ↔ n < N := by rw [Int32.lt_iff_toInt_lt, h, hz]; omega
theorem own_eq_of {i z : Int32} {n N : Nat} (h : i.toInt = n) (hz : z.toInt = N) : i = z ↔ n = N := by rw [← Int32.toInt_inj, h, hz]; omega
theorem own_nn {i : Int32} {n : Nat} (h : i.toInt = n) : ¬ i < 0 := by
  rw [Int32.lt_iff_toInt_lt]; have : (0 : Int32).toInt = 0 := by decide
  omega
theorem own_inc {i : Int32} {n : Nat} (h : i.toInt = n) (q : n < 2147483647) : (i + 1).toInt = ((n + 1 : Nat) : Int) := by
  have a := c_iadd i 1; have b := rng32 (i + 1); have : (1 : Int32).toInt = 1 := by decide
  omega
theorem own_Ar.of_arv {Z : State} {h : Heap} {a : Addr} {k : ClassId} {ty : FieldType} {z : Int32} {vs : List Value} {d : Value} (F : Arv Z h a k ty z vs d) : own_Ar Z h a ty z (fun j => vs.getD j d) := by
  obtain ⟨c, A, q, S, M, H, G⟩ := F
  exact ⟨c, A, S, M, fun j hj => H j (by rw [S]; exact hj)⟩
theorem own_Ar.arv {Z : State} {h : Heap} {a : Addr} {ty : FieldType} {z : Int32} {f : Nat → Value} {vs : List Value} {d : Value} (F : own_Ar Z h a ty z f) (q : ∀ j, j < z.toNatClampNeg → f j = vs.getD j d) (g : ∀ j, j < z.toNatClampNeg → fits ty (vs.getD j d) = true) : ∃ k, Arv Z h a k ty z vs d := by
  obtain ⟨c, A, S, M, H⟩ := F
  exact ⟨c.cls, c, A, rfl, S, M, fun j hj => by rw [H j (by rw [← S]; exact hj), q j (by rw [← S]; exact hj)], fun j hj => g j (by rw [← S]; exact hj)⟩
theorem own_chr {c : Int32} (h0 : ¬ c < 0) (h1 : ¬ (255 : Int32) < c) : nar .char ((c.toInt8.toInt32 &&& (255 : Int32)).toUInt32.toUInt16.toUInt32.toInt32) = c := by
  have t : ∀ k : Fin 256, nar .char (((Int32.ofNat k.val).toInt8.toInt32 &&& (255 : Int32)).toUInt32.toUInt16.toUInt32.toInt32) = Int32.ofNat k.val := by decide +kernel
  rw [Int32.lt_iff_toInt_lt] at h0 h1
  have e0 : (0 : Int32).toInt = 0 := by decide
  have e1 : (255 : Int32).toInt = 255 := by decide
  have e : c = Int32.ofNat c.toInt.toNat := by
    rw [← Int32.toInt_inj, show (Int32.ofNat c.toInt.toNat).toInt = ((c.toInt.toNat : Nat) : Int) from Int32.toInt_ofNat_small (by omega)]
    omega
  rw [e]
  exact t ⟨c.toInt.toNat, by omega⟩
/-- what charAt makes of a byte -/
def own_ch (b : Int32) : Int32 := nar .char ((b &&& (255 : Int32)).toUInt32.toUInt16.toUInt32.toInt32)
theorem own_ch_of {c : Int32} (h0 : ¬ c < 0) (h1 : ¬ (255 : Int32) < c) : own_ch c.toInt8.toInt32 = c := own_chr h0 h1
theorem own_sh0 (x : Int32) : x >>> ((0 : Int32) &&& 31) = x := by
  rw [show ((0 : Int32) &&& 31) = 0 by decide]; rw [← Int32.toInt_inj, show (0 : Int32) = (0 : Int32) &&& 31 by decide, c_ishr x 0 0 (by decide)]; simp
theorem own_narch (b : Int32) : nar .char (own_ch b) = own_ch b := by
  unfold own_ch
  simp only [nar, UInt32.toUInt32_toInt32, UInt16.toUInt16_toUInt32]
def own_EL : List (String × Nat) := [("java/lang/StringLatin1", 151)]
def own_draw (x : Int32) : Int32 := if ((x >>> ((8 : Int32) &&& 31)) &&& (1 : Int32)) = 0 then nar .char ((x &&& (255 : Int32)).toUInt32.toUInt16.toUInt32.toInt32) else 47
def own_c (c : Int32) : Prop := ¬ c < 0 ∧ ¬ (255 : Int32) < c
theorem own_c_of {c : Int32} (h0 : 0 ≤ c.toInt) (h1 : c.toInt ≤ 255) : own_c c := by
  unfold own_c
  have z0 : (0 : Int32).toInt = 0 := by decide
  have z1 : (255 : Int32).toInt = 255 := by decide
  rw [Int32.lt_iff_toInt_lt, Int32.lt_iff_toInt_lt, z0, z1]; omega
theorem own_c_b {c : Int32} (h : own_c c) : 0 ≤ c.toInt ∧ c.toInt ≤ 255 := by
  unfold own_c at h
  have z0 : (0 : Int32).toInt = 0 := by decide
  have z1 : (255 : Int32).toInt = 255 := by decide
  rw [Int32.lt_iff_toInt_lt, Int32.lt_iff_toInt_lt, z0, z1] at h; omega
theorem own_fin256 {P : Int32 → Prop} (t : ∀ k : Fin 256, P (Int32.ofNat k.val)) {c : Int32} (h : own_c c) : P c := by
  have b := own_c_b h
  have e : c = Int32.ofNat c.toInt.toNat := by
    rw [← Int32.toInt_inj, show (Int32.ofNat c.toInt.toNat).toInt = ((c.toInt.toNat : Nat) : Int) from Int32.toInt_ofNat_small (by omega)]
    omega
  rw [e]
  exact t ⟨c.toInt.toNat, by omega⟩
theorem own_c_nar {c : Int32} (h : own_c c) : nar .char c = c := own_fin256 (P := fun c => nar .char c = c) (by decide +kernel) h
theorem own_draw_ok (x : Int32) : own_c (own_draw x) := by
  unfold own_draw
  split
  · have a := c_mask x (255 : Int32) 8 (by decide) (by decide)
    have q : own_c (x &&& (255 : Int32)) := own_c_of (by omega) (by omega)
    have e : nar .char ((x &&& (255 : Int32)).toUInt32.toUInt16.toUInt32.toInt32) = x &&& (255 : Int32) := by
      rw [i2c_mask]; exact own_c_nar q
    rw [e]; exact q
  · exact own_c_of (by decide) (by decide)
theorem own_fit {c : Int32} (h : own_c c) : fits .char (.int c) = true := by
  have := fits_nar_char c
  rw [own_c_nar h] at this; exact this
theorem own_slash {c : Int32} (h : own_c c) : c.toInt8.toInt32 = (47 : Int32).toInt8.toInt32 ↔ c = 47 := by
  constructor
  · intro e
    have a := own_ch_of h.1 h.2
    have b : own_ch (47 : Int32).toInt8.toInt32 = 47 := own_ch_of (by decide) (by decide)
    rw [e, b] at a; exact a.symm
  · intro e; rw [e]
def own_d4 (d0 d1 d2 d3 : Int32) (j : Nat) : Int32 := if j = 0 then d0 else if j = 1 then d1 else if j = 2 then d2 else d3
def own_cf (d0 d1 d2 d3 : Int32) (A j : Nat) : Int32 := if j = A then 47 else own_d4 d0 d1 d2 d3 j
theorem own_n (x : Int32) : ∃ (z : Int32) (N : Nat), z = (1 : Int32) + (x &&& (3 : Int32)) ∧ z.toInt = N ∧ 1 ≤ N ∧ N ≤ 4 := by
  have a := c_mask x (3 : Int32) 2 (by decide) (by decide)
  have b := c_iadd 1 (x &&& (3 : Int32)); have r := rng32 ((1 : Int32) + (x &&& (3 : Int32)))
  have t : (1 : Int32).toInt = 1 := by decide
  refine ⟨_, ((1 : Int32) + (x &&& (3 : Int32))).toInt.toNat, rfl, ?_, ?_, ?_⟩ <;> omega
theorem own_at (x z : Int32) (N : Nat) (hz : z.toInt = N) (h1 : 1 ≤ N) : ∃ A : Nat, ((x &&& (2147483647 : Int32)) % z).toInt = A ∧ A < N := by
  have a := c_and x (2147483647 : Int32) (by decide)
  have b := (c_iremV (x &&& (2147483647 : Int32)) z).1 a.1 (by omega)
  exact ⟨((x &&& (2147483647 : Int32)) % z).toInt.toNat, by omega, by omega⟩
theorem own_nz {z : Int32} {N : Nat} (hz : z.toInt = N) (h1 : 1 ≤ N) : z ≠ 0 := fun e => by
  rw [e] at hz; have t : (0 : Int32).toInt = 0 := by decide
  omega
theorem own_getm (bs : Nat → Int32) (N j : Nat) (h : j < N) : ((List.range N).map fun i => Value.int (bs i)).getD j (.int (0 : Int32)) = .int (bs j) := by
  simp [List.getD_eq_getElem?_getD, h]
theorem own_repl (K j : Nat) : (List.replicate K (Value.int (0 : Int32))).getD j (.int (0 : Int32)) = .int (0 : Int32) := by
  rw [List.getD_eq_getElem?_getD, List.getElem?_replicate]
  split <;> rfl
theorem own_min0 {z : Int32} : z - (0 : Int32) = z := by
  rw [← Int32.toInt_inj]; have a := c_isub z 0; have r := rng32 (z - 0); have q := rng32 z; have t : (0 : Int32).toInt = 0 := by decide
  omega
theorem own_add0 {z : Int32} : (0 : Int32) + z = z := by
  rw [← Int32.toInt_inj]; have a := c_iadd 0 z; have r := rng32 (0 + z); have q := rng32 z; have t : (0 : Int32).toInt = 0 := by decide
  omega
theorem dcod_0 : decode jdk_42_method_152_code 0 = .ok (.getstatic 38, 3) := by decide +kernel
theorem dcod_3 : decode jdk_42_method_152_code 3 = .ok (.ifCond .eq 10, 3) := by decide +kernel
theorem dcod_6 : decode jdk_42_method_152_code 6 = .ok (.aload_n 0, 1) := by decide +kernel
theorem dcod_7 : decode jdk_42_method_152_code 7 = .ok (.getfield 15, 3) := by decide +kernel
theorem dcod_10 : decode jdk_42_method_152_code 10 = .ok (.goto 4, 3) := by decide +kernel
theorem dcod_14 : decode jdk_42_method_152_code 14 = .ok (.ireturn, 1) := by decide +kernel
theorem pn_0 : plainName "java/lang/String" = true := by first | (simp [plainName, overriddenIn]; done) | decide +kernel
theorem ef_cod (m : MethodId) (x0 : Addr) : entryFrame m #[(.ref x0)] 1 = mkF m 0 #[.val (.ref x0)] [] := by first | (simp [entryFrame, mkF, argsToLocals, Value.category]; done) | rfl
def Qcod (Z : State) (st : Addr) (tt : Addr) (z : Int32) (bs : Nat → Int32) (cz : Int32) (h0 : Heap) (n0 : Nat) (v : Option Value) (h : Heap) (L : List Loc) : Prop := v = some (.int 0) ∧ Fr n0 L ∧ h = h0
def Pcod (Z : State) (st : Addr) (tt : Addr) (z : Int32) (bs : Nat → Int32) (cz : Int32) (h0 : Heap) (n0 : Nat) (s : State) (oQ : Outcome) (U : State) : Prop := ∃ v L, oQ = .returned v ∧ Qcod Z st tt z bs cz h0 n0 v U.heap L ∧ FrameEnd s oQ U L ({ frames := 0, cells := 0, slots := 0, locals := 0 } : Room).cells ({ frames := 0, cells := 0, slots := 0, locals := 0 } : Room).slots
set_option maxRecDepth 65536 in
set_option maxHeartbeats 40000000 in
theorem rmcod (l : Launch) (Z : State) (a0 : Array Value) (hw : ∀ d ∈ tables_1, d.before a0 Z = true) (ws : List Jvm.Cond) (st : Addr) (tt : Addr) (z : Int32) (bs : Nat → Int32) (cz : Int32) (h0 : Heap) (n0 : Nat) (Z0 : n0 ≤ h0.size) (E_st : Exa Z h0 st "java/lang/String") (F_value_st : Fld Z h0 st "java/lang/String" "value" "[B" (.ref tt)) (F_coder_st : Fld Z h0 st "java/lang/String" "coder" "B" (.int (0 : Int32))) (V_tt : own_Ar Z h0 tt .byte z (fun j => .int (bs j))) (Ol : Old Z n0 h0) (S_cs : Sta Z Z.heap "java/lang/String" "COMPACT_STRINGS" "Z" (.int cz)) (hcz : ¬ cz = 0) :
    MetFree l (⟨"java/lang/String", "coder", "()B"⟩ : MethodName) (head1 (Jvm.Cond.code (⟨"java/lang/String", "coder", "()B"⟩ : MethodName) jdk_42_method_152_code 1 (some .byte) :: ws) ({ frames := 0, cells := 0, slots := 0, locals := 0 } : Room)) (fun aQ U => aQ = #[(.ref st)] ∧ Z.Warmed39 U.vm ∧ U.heap = h0) (fun _ _ _ _ _ => True) (fun _ U oQ U' => ∃ v L, oQ = .returned v ∧ Qcod Z st tt z bs cz h0 n0 v U'.heap L ∧ FrameEnd U oQ U' L ({ frames := 0, cells := 0, slots := 0, locals := 0 } : Room).cells ({ frames := 0, cells := 0, slots := 0, locals := 0 } : Room).slots) := by
  refine MetFree.of_bodySF (plainFor_of_name pn_0) hisR ?_
  intro p e s m args below meth c s₁ Bd hml0 hP hK
  obtain ⟨rfl, hZ, hh⟩ := hP
  have hx := Bd.exec
  have hby := Bd.bytes
  have hml : c.maxLocals = 1 := hml0
  have hown : s.vm.findClass "java/lang/String" = some m.cls := findClass_of_methodNamed Bd.named
  have hnm := (name_of_methodNamed Bd.named Bd.method).1
  have X0 : Stand p l e ({ frames := 0, cells := 0, slots := 0, locals := 0 } : Room) s m #[(.ref st)] below meth c s₁ [] 0 0 := Stand.of_body Bd
  have e0 : s₁.heap = h0 := by rw [← hh, Bd.state]; rfl
  have Nf := Fr.nil n0
  have Zs : n0 ≤ h0.size := Z0
  have Kp : Keep h0 h0 [] := Keep.refl _ _
  have szr : h0.size ≤ h0.size := Nat.le_refl _
  show own_End p e below (Pcod Z st tt z bs cz h0 n0 s) (s₁.setTop (entryFrame m #[(.ref st)] 1))
  rw [ef_cod]
  obtain ⟨T1, X1, e1, st1⟩ := getS2 X0 hx hZ hown (host := "") (Or.inl (hw _ (List.mem_of_getElem? (i := 19) rfl))) Via.refl e0 (S_cs.ext Ol.2) (g := (mkF m 0 #[.val (.ref st)] [])) rfl (hb hby dcod_0)
  refine own_go (fun tQ kQ => st1 tQ kQ) ?_
  show own_End p e below _ (T1.setTop (mkF m 3 #[.val (.ref st)] [(.int cz)]))
  refine own_go (fun tQ kQ => XS.ifNo X1.here hx rfl (hb hby dcod_3) rfl ((if0 _ _).trans (feq hcz).1) kQ) ?_
  show own_End p e below _ (T1.setTop (mkF m 6 #[.val (.ref st)] []))
  refine own_go (fun tQ kQ => XS.aloadN X1.here hx rfl (hb hby dcod_6) rfl rfl kQ) ?_
  show own_End p e below _ (T1.setTop (mkF m 7 #[.val (.ref st)] [(.ref st)]))
  obtain ⟨T2, X2, e2, st2⟩ := getF X1 hx hZ hown (host := "") (Or.inl (hw _ (List.mem_of_getElem? (i := 31) rfl))) Via.refl e1 F_coder_st (g := (mkF m 7 #[.val (.ref st)] [(.ref st)])) rfl rfl (hb hby dcod_7)
  refine own_go (fun tQ kQ => st2 tQ kQ) ?_
  show own_End p e below _ (T2.setTop (mkF m 10 #[.val (.ref st)] [(.int (0 : Int32))]))
  refine own_go (fun tQ kQ => XS.goto X2.here hx rfl (pc0 := 10) (pc' := 14) rfl (hb hby dcod_10) (by decide) (by decide) kQ) ?_
  show own_End p e below _ (T2.setTop (mkF m 14 #[.val (.ref st)] [(.int (0 : Int32))]))
  obtain ⟨fs, hr, hrun, hended, hW, hsame⟩ := X2.leave (v := some (.int (0 : Int32))) (fun h => by rw [Bd.returns] at h; cases h)
  refine ⟨_, _, (retN X2 hx (t := .byte) Bd.returns (by simp) (hb hby dcod_14) hr), hrun, hended, _, _, rfl, ?_, ⟨_, rfl⟩, hW, hsame.mono (by decide) (by decide)⟩
  show Qcod Z st tt z bs cz h0 n0 _ T2.heap _
  rw [e2]
  exact ⟨rfl, Nf, rfl⟩
theorem dlat_0 : decode jdk_42_method_154_code 0 = .ok (.getstatic 38, 3) := by decide +kernel
theorem dlat_3 : decode jdk_42_method_154_code 3 = .ok (.ifCond .eq 14, 3) := by decide +kernel
theorem dlat_6 : decode jdk_42_method_154_code 6 = .ok (.aload_n 0, 1) := by decide +kernel
theorem dlat_7 : decode jdk_42_method_154_code 7 = .ok (.getfield 15, 3) := by decide +kernel
theorem dlat_10 : decode jdk_42_method_154_code 10 = .ok (.ifCond .ne 7, 3) := by decide +kernel
theorem dlat_13 : decode jdk_42_method_154_code 13 = .ok (.iconst 1, 1) := by decide +kernel
theorem dlat_14 : decode jdk_42_method_154_code 14 = .ok (.goto 4, 3) := by decide +kernel
theorem dlat_18 : decode jdk_42_method_154_code 18 = .ok (.ireturn, 1) := by decide +kernel
theorem ef_lat (m : MethodId) (x0 : Addr) : entryFrame m #[(.ref x0)] 1 = mkF m 0 #[.val (.ref x0)] [] := by first | (simp [entryFrame, mkF, argsToLocals, Value.category]; done) | rfl
def Qlat (Z : State) (st : Addr) (tt : Addr) (z : Int32) (bs : Nat → Int32) (cz : Int32) (h0 : Heap) (n0 : Nat) (v : Option Value) (h : Heap) (L : List Loc) : Prop := v = some (.int 1) ∧ Fr n0 L ∧ h = h0
def Plat (Z : State) (st : Addr) (tt : Addr) (z : Int32) (bs : Nat → Int32) (cz : Int32) (h0 : Heap) (n0 : Nat) (s : State) (oQ : Outcome) (U : State) : Prop := ∃ v L, oQ = .returned v ∧ Qlat Z st tt z bs cz h0 n0 v U.heap L ∧ FrameEnd s oQ U L ({ frames := 0, cells := 0, slots := 0, locals := 0 } : Room).cells ({ frames := 0, cells := 0, slots := 0, locals := 0 } : Room).slots
set_option maxRecDepth 65536 in
set_option maxHeartbeats 40000000 in
theorem rmlat (l : Launch) (Z : State) (a0 : Array Value) (hw : ∀ d ∈ tables_1, d.before a0 Z = true) (ws : List Jvm.Cond) (st : Addr) (tt : Addr) (z : Int32) (bs : Nat → Int32) (cz : Int32) (h0 : Heap) (n0 : Nat) (Z0 : n0 ≤ h0.size) (E_st : Exa Z h0 st "java/lang/String") (F_value_st : Fld Z h0 st "java/lang/String" "value" "[B" (.ref tt)) (F_coder_st : Fld Z h0 st "java/lang/String" "coder" "B" (.int (0 : Int32))) (V_tt : own_Ar Z h0 tt .byte z (fun j => .int (bs j))) (Ol : Old Z n0 h0) (S_cs : Sta Z Z.heap "java/lang/String" "COMPACT_STRINGS" "Z" (.int cz)) (hcz : ¬ cz = 0) :
    MetFree l (⟨"java/lang/String", "isLatin1", "()Z"⟩ : MethodName) (head1 (Jvm.Cond.code (⟨"java/lang/String", "isLatin1", "()Z"⟩ : MethodName) jdk_42_method_154_code 1 (some .boolean) :: ws) ({ frames := 0, cells := 0, slots := 0, locals := 0 } : Room)) (fun aQ U => aQ = #[(.ref st)] ∧ Z.Warmed39 U.vm ∧ U.heap = h0) (fun _ _ _ _ _ => True) (fun _ U oQ U' => ∃ v L, oQ = .returned v ∧ Qlat Z st tt z bs cz h0 n0 v U'.heap L ∧ FrameEnd U oQ U' L ({ frames := 0, cells := 0, slots := 0, locals := 0 } : Room).cells ({ frames := 0, cells := 0, slots := 0, locals := 0 } : Room).slots) := by
  refine MetFree.of_bodySF (plainFor_of_name pn_0) hisR ?_
  intro p e s m args below meth c s₁ Bd hml0 hP hK
  obtain ⟨rfl, hZ, hh⟩ := hP
  have hx := Bd.exec
  have hby := Bd.bytes
  have hml : c.maxLocals = 1 := hml0
  have hown : s.vm.findClass "java/lang/String" = some m.cls := findClass_of_methodNamed Bd.named
  have hnm := (name_of_methodNamed Bd.named Bd.method).1
  have X0 : Stand p l e ({ frames := 0, cells := 0, slots := 0, locals := 0 } : Room) s m #[(.ref st)] below meth c s₁ [] 0 0 := Stand.of_body Bd
  have e0 : s₁.heap = h0 := by rw [← hh, Bd.state]; rfl
  have Nf := Fr.nil n0
  have Zs : n0 ≤ h0.size := Z0
  have Kp : Keep h0 h0 [] := Keep.refl _ _
  have szr : h0.size ≤ h0.size := Nat.le_refl _
  show own_End p e below (Plat Z st tt z bs cz h0 n0 s) (s₁.setTop (entryFrame m #[(.ref st)] 1))
  rw [ef_lat]
  obtain ⟨T1, X1, e1, st1⟩ := getS2 X0 hx hZ hown (host := "") (Or.inl (hw _ (List.mem_of_getElem? (i := 19) rfl))) Via.refl e0 (S_cs.ext Ol.2) (g := (mkF m 0 #[.val (.ref st)] [])) rfl (hb hby dlat_0)
  refine own_go (fun tQ kQ => st1 tQ kQ) ?_
  show own_End p e below _ (T1.setTop (mkF m 3 #[.val (.ref st)] [(.int cz)]))
  refine own_go (fun tQ kQ => XS.ifNo X1.here hx rfl (hb hby dlat_3) rfl ((if0 _ _).trans (feq hcz).1) kQ) ?_
  show own_End p e below _ (T1.setTop (mkF m 6 #[.val (.ref st)] []))
  refine own_go (fun tQ kQ => XS.aloadN X1.here hx rfl (hb hby dlat_6) rfl rfl kQ) ?_
  show own_End p e below _ (T1.setTop (mkF m 7 #[.val (.ref st)] [(.ref st)]))
  obtain ⟨T2, X2, e2, st2⟩ := getF X1 hx hZ hown (host := "") (Or.inl (hw _ (List.mem_of_getElem? (i := 31) rfl))) Via.refl e1 F_coder_st (g := (mkF m 7 #[.val (.ref st)] [(.ref st)])) rfl rfl (hb hby dlat_7)
  refine own_go (fun tQ kQ => st2 tQ kQ) ?_
  show own_End p e below _ (T2.setTop (mkF m 10 #[.val (.ref st)] [(.int (0 : Int32))]))
  refine own_go (fun tQ kQ => XS.ifNo X2.here hx rfl (hb hby dlat_10) rfl ((if0 _ _).trans (teq (by decide)).2) kQ) ?_
  show own_End p e below _ (T2.setTop (mkF m 13 #[.val (.ref st)] []))
  refine own_go (fun tQ kQ => XS.iconst X2.here hx rfl (hb hby dlat_13) kQ) ?_
  show own_End p e below _ (T2.setTop (mkF m 14 #[.val (.ref st)] [(.int (1 : Int32))]))
  refine own_go (fun tQ kQ => XS.goto X2.here hx rfl (pc0 := 14) (pc' := 18) rfl (hb hby dlat_14) (by decide) (by decide) kQ) ?_
  show own_End p e below _ (T2.setTop (mkF m 18 #[.val (.ref st)] [(.int (1 : Int32))]))
  obtain ⟨fs, hr, hrun, hended, hW, hsame⟩ := X2.leave (v := some (.int (1 : Int32))) (fun h => by rw [Bd.returns] at h; cases h)
  refine ⟨_, _, (retN X2 hx (t := .boolean) Bd.returns (by simp) (hb hby dlat_18) hr), hrun, hended, _, _, rfl, ?_, ⟨_, rfl⟩, hW, hsame.mono (by decide) (by decide)⟩
  show Qlat Z st tt z bs cz h0 n0 _ T2.heap _
  rw [e2]
  exact ⟨rfl, Nf, rfl⟩
theorem pd_1 : parseMethodDescriptor "()B" = some ⟨[], some .byte⟩ := by decide +kernel
theorem dlen_0 : decode jdk_42_method_54_code 0 = .ok (.aload_n 0, 1) := by decide +kernel
theorem dlen_1 : decode jdk_42_method_54_code 1 = .ok (.getfield 9, 3) := by decide +kernel
theorem dlen_4 : decode jdk_42_method_54_code 4 = .ok (.arraylength, 1) := by decide +kernel
theorem dlen_5 : decode jdk_42_method_54_code 5 = .ok (.aload_n 0, 1) := by decide +kernel
theorem dlen_6 : decode jdk_42_method_54_code 6 = .ok (.invokevirtual 335, 3) := by decide +kernel
theorem dlen_9 : decode jdk_42_method_54_code 9 = .ok (.ishr, 1) := by decide +kernel
theorem dlen_10 : decode jdk_42_method_54_code 10 = .ok (.ireturn, 1) := by decide +kernel
theorem ef_len (m : MethodId) (x0 : Addr) : entryFrame m #[(.ref x0)] 1 = mkF m 0 #[.val (.ref x0)] [] := by first | (simp [entryFrame, mkF, argsToLocals, Value.category]; done) | rfl
def Qlen (Z : State) (st : Addr) (tt : Addr) (z : Int32) (bs : Nat → Int32) (cz : Int32) (h0 : Heap) (n0 : Nat) (v : Option Value) (h : Heap) (L : List Loc) : Prop := v = some (.int z) ∧ Fr n0 L ∧ h = h0
def Plen (Z : State) (st : Addr) (tt : Addr) (z : Int32) (bs : Nat → Int32) (cz : Int32) (h0 : Heap) (n0 : Nat) (s : State) (oQ : Outcome) (U : State) : Prop := ∃ v L, oQ = .returned v ∧ Qlen Z st tt z bs cz h0 n0 v U.heap L ∧ FrameEnd s oQ U L ({ frames := 1, cells := 0, slots := 0, locals := 13 } : Room).cells ({ frames := 1, cells := 0, slots := 0, locals := 13 } : Room).slots
set_option maxRecDepth 65536 in
set_option maxHeartbeats 40000000 in
theorem rmlen (l : Launch) (Z : State) (a0 : Array Value) (hw : ∀ d ∈ tables_1, d.before a0 Z = true) (ws : List Jvm.Cond) (st : Addr) (tt : Addr) (z : Int32) (bs : Nat → Int32) (cz : Int32) (h0 : Heap) (n0 : Nat) (Z0 : n0 ≤ h0.size) (E_st : Exa Z h0 st "java/lang/String") (F_value_st : Fld Z h0 st "java/lang/String" "value" "[B" (.ref tt)) (F_coder_st : Fld Z h0 st "java/lang/String" "coder" "B" (.int (0 : Int32))) (V_tt : own_Ar Z h0 tt .byte z (fun j => .int (bs j))) (Ol : Old Z n0 h0) (S_cs : Sta Z Z.heap "java/lang/String" "COMPACT_STRINGS" "Z" (.int cz)) (hcz : ¬ cz = 0) :
    MetFree l (⟨"java/lang/String", "length", "()I"⟩ : MethodName) (head1 (Jvm.Cond.code (⟨"java/lang/String", "length", "()I"⟩ : MethodName) jdk_42_method_54_code 1 (some .int) :: ws) ({ frames := 1, cells := 0, slots := 0, locals := 13 } : Room)) (fun aQ U => aQ = #[(.ref st)] ∧ Z.Warmed39 U.vm ∧ U.heap = h0) (fun _ _ _ _ _ => True) (fun _ U oQ U' => ∃ v L, oQ = .returned v ∧ Qlen Z st tt z bs cz h0 n0 v U'.heap L ∧ FrameEnd U oQ U' L ({ frames := 1, cells := 0, slots := 0, locals := 13 } : Room).cells ({ frames := 1, cells := 0, slots := 0, locals := 13 } : Room).slots) := by
  refine MetFree.of_bodySF (plainFor_of_name pn_0) hisR ?_
  intro p e s m args below meth c s₁ Bd hml0 hP hK
  obtain ⟨rfl, hZ, hh⟩ := hP
  have hx := Bd.exec
  have hby := Bd.bytes
  have hml : c.maxLocals = 1 := hml0
  have hown : s.vm.findClass "java/lang/String" = some m.cls := findClass_of_methodNamed Bd.named
  have hnm := (name_of_methodNamed Bd.named Bd.method).1
  have X0 : Stand p l e ({ frames := 1, cells := 0, slots := 0, locals := 13 } : Room) s m #[(.ref st)] below meth c s₁ [] 0 0 := Stand.of_body Bd
  have e0 : s₁.heap = h0 := by rw [← hh, Bd.state]; rfl
  have Nf := Fr.nil n0
  have Zs : n0 ≤ h0.size := Z0
  have Kp : Keep h0 h0 [] := Keep.refl _ _
  have szr : h0.size ≤ h0.size := Nat.le_refl _
  show own_End p e below (Plen Z st tt z bs cz h0 n0 s) (s₁.setTop (entryFrame m #[(.ref st)] 1))
  rw [ef_len]
  refine own_go (fun tQ kQ => XS.aloadN X0.here hx rfl (hb hby dlen_0) rfl rfl kQ) ?_
  show own_End p e below _ (s₁.setTop (mkF m 1 #[.val (.ref st)] [(.ref st)]))
  obtain ⟨T1, X1, e1, st1⟩ := getF X0 hx hZ hown (host := "") (Or.inl (hw _ (List.mem_of_getElem? (i := 33) rfl))) Via.refl e0 F_value_st (g := (mkF m 1 #[.val (.ref st)] [(.ref st)])) rfl rfl (hb hby dlen_1)
  refine own_go (fun tQ kQ => st1 tQ kQ) ?_
  show own_End p e below _ (T1.setTop (mkF m 4 #[.val (.ref st)] [(.ref tt)]))
  obtain ⟨cl2, Ar2, S2, M2, H2⟩ := id V_tt
  refine own_go (fun tQ kQ => X1.arraylength hx (by rw [e1]; exact Ar2.1) (State.isArrayOf_alike hZ.alike Ar2.2.1) (g := (mkF m 4 #[.val (.ref st)] [(.ref tt)])) rfl rfl (hb hby dlen_4) _ kQ) ?_
  rw [len_of S2 M2]
  show own_End p e below _ (T1.setTop (mkF m 5 #[.val (.ref st)] [(.int z)]))
  refine own_go (fun tQ kQ => XS.aloadN X1.here hx rfl (hb hby dlen_5) rfl rfl kQ) ?_
  show own_End p e below _ (T1.setTop (mkF m 6 #[.val (.ref st)] [(.ref st), (.int z)]))
  obtain ⟨cq3, kq3, q3a, q3b, q3c⟩ := isOf hZ e1 E_st
  obtain ⟨_, _, ⟨T3, L3, k3, n3⟩, -, X3, ⟨Lc3, hQ3, l3, y3, z3⟩, st3⟩ := X1.virtualBack hx (y := (⟨"java/lang/String", "coder", "()B"⟩ : MethodName)) (z := (⟨"java/lang/String", "coder", "()B"⟩ : MethodName)) hown (mvT hZ (hw _ (List.mem_of_getElem? (i := 59) rfl))) (mvT hZ (hw _ (List.mem_of_getElem? (i := 60) rfl))) (notFace_of_selects (args := #[]) (mvT hZ (hw _ (List.mem_of_getElem? (i := 62) rfl)))) (mvT hZ (hw _ (List.mem_of_getElem? (i := 62) rfl))) (mvT hZ (hw _ (List.mem_of_getElem? (i := 61) rfl))) (by decide) (backOf (W := 1) (rmcod l Z a0 hw [] st tt z bs cz h0 n0 Zs E_st F_value_st F_coder_st V_tt Ol S_cs hcz) hZ (hw _ (List.mem_of_getElem? (i := 63) rfl)) (hw _ (List.mem_of_getElem? (i := 8) rfl)) (by decide) (by decide)) q3a q3c (g := (mkF m 6 #[.val (.ref st)] [(.ref st), (.int z)])) rfl (by rw [hml]; rfl) (Steps.refl _) (argsL := []) (rest := [(.int z)]) (lenOf pd_1 rfl) rfl (by show 2 * 0 + _ ≤ _; exact Nat.le_of_eq rfl) (hb hby dlen_6) (fun _ _ => ⟨rfl, e1, (Nat.le_of_ble_eq_true rfl), (Nat.le_of_ble_eq_true rfl)⟩)
  dsimp only [Pt.U, Pt.locs, Pt.cells, Pt.slots] at X3 l3 y3 z3 st3 hQ3
  subst l3 y3 z3
  obtain ⟨rfl, N3q, e3⟩ := hQ3
  have Nf := Fr.app Nf N3q
  refine own_go (fun tQ kQ => st3.trans kQ) ?_
  show own_End p e below _ (T3.setTop (mkF m 9 #[.val (.ref st)] [(.int (0 : Int32)), (.int z)]))
  refine own_go (fun tQ kQ => XS.ishr X3.here hx rfl (hb hby dlen_9) rfl kQ) ?_
  show own_End p e below _ (T3.setTop (mkF m 10 #[.val (.ref st)] [(.int (z >>> ((0 : Int32) &&& 31)))]))
  rw [own_sh0]
  show own_End p e below _ (T3.setTop (mkF m 10 #[.val (.ref st)] [(.int z)]))
  obtain ⟨fs, hr, hrun, hended, hW, hsame⟩ := X3.leave (v := some (.int z)) (fun h => by rw [Bd.returns] at h; cases h)
  refine ⟨_, _, (retI X3 hx Bd.returns (hb hby dlen_10) hr), hrun, hended, _, _, rfl, ?_, ⟨_, rfl⟩, hW, hsame.mono (by decide) (by decide)⟩
  show Qlen Z st tt z bs cz h0 n0 _ T3.heap _
  rw [e3]
  exact ⟨rfl, Nf, rfl⟩
theorem dpci_0 : decode jdk_41_method_11_code 0 = .ok (.iload_n 0, 1) := by decide +kernel
theorem dpci_1 : decode jdk_41_method_11_code 1 = .ok (.ifCond .lt 8, 3) := by decide +kernel
theorem dpci_4 : decode jdk_41_method_11_code 4 = .ok (.iload_n 0, 1) := by decide +kernel
theorem dpci_5 : decode jdk_41_method_11_code 5 = .ok (.iload_n 1, 1) := by decide +kernel
theorem dpci_6 : decode jdk_41_method_11_code 6 = .ok (.if_icmp .lt 10, 3) := by decide +kernel
theorem dpci_16 : decode jdk_41_method_11_code 16 = .ok (.iload_n 0, 1) := by decide +kernel
theorem dpci_17 : decode jdk_41_method_11_code 17 = .ok (.ireturn, 1) := by decide +kernel
theorem pn_2 : plainName "jdk/internal/util/Preconditions" = true := by first | (simp [plainName, overriddenIn]; done) | decide +kernel
theorem ef_pci (m : MethodId) (x0 : Int32) (x1 : Int32) (x2 : Value) (hx2 : x2.isRef = true) : entryFrame m #[(.int x0), (.int x1), x2] 3 = mkF m 0 #[.val (.int x0), .val (.int x1), .val x2] [] := by
  rcases ref_cases hx2 with rfl | ⟨_, rfl⟩
  all_goals first | (simp [entryFrame, mkF, argsToLocals, Value.category]; done) | rfl
def Qpci (Z : State) (i1 : Int32) (i2 : Int32) (fm : Value) (h0 : Heap) (n0 : Nat) (v : Option Value) (h : Heap) (L : List Loc) : Prop := v = some (.int i1) ∧ Fr n0 L ∧ h = h0
def Ppci (Z : State) (i1 : Int32) (i2 : Int32) (fm : Value) (h0 : Heap) (n0 : Nat) (s : State) (oQ : Outcome) (U : State) : Prop := ∃ v L, oQ = .returned v ∧ Qpci Z i1 i2 fm h0 n0 v U.heap L ∧ FrameEnd s oQ U L ({ frames := 0, cells := 0, slots := 0, locals := 0 } : Room).cells ({ frames := 0, cells := 0, slots := 0, locals := 0 } : Room).slots
set_option maxRecDepth 65536 in
set_option maxHeartbeats 40000000 in
theorem rmpci (l : Launch) (Z : State) (a0 : Array Value) (hw : ∀ d ∈ tables_1, d.before a0 Z = true) (ws : List Jvm.Cond) (i1 : Int32) (i2 : Int32) (fm : Value) (h0 : Heap) (n0 : Nat) (Z0 : n0 ≤ h0.size) (rfm : fm.isRef = true) (hi0 : ¬ i1 < 0) (hi1 : i1 < i2) :
    MetFree l (⟨"jdk/internal/util/Preconditions", "checkIndex", "(IILjava/util/function/BiFunction;)I"⟩ : MethodName) (head1 (Jvm.Cond.code (⟨"jdk/internal/util/Preconditions", "checkIndex", "(IILjava/util/function/BiFunction;)I"⟩ : MethodName) jdk_41_method_11_code 3 (some .int) :: ws) ({ frames := 0, cells := 0, slots := 0, locals := 0 } : Room)) (fun aQ U => aQ = #[(.int i1), (.int i2), fm] ∧ Z.Warmed39 U.vm ∧ U.heap = h0) (fun _ _ _ _ _ => True) (fun _ U oQ U' => ∃ v L, oQ = .returned v ∧ Qpci Z i1 i2 fm h0 n0 v U'.heap L ∧ FrameEnd U oQ U' L ({ frames := 0, cells := 0, slots := 0, locals := 0 } : Room).cells ({ frames := 0, cells := 0, slots := 0, locals := 0 } : Room).slots) := by
  refine MetFree.of_bodySF (plainFor_of_name pn_2) hisR ?_
  intro p e s m args below meth c s₁ Bd hml0 hP hK
  obtain ⟨rfl, hZ, hh⟩ := hP
  have hx := Bd.exec
  have hby := Bd.bytes
  have hml : c.maxLocals = 3 := hml0
  have hown : s.vm.findClass "jdk/internal/util/Preconditions" = some m.cls := findClass_of_methodNamed Bd.named
  have hnm := (name_of_methodNamed Bd.named Bd.method).1
  have X0 : Stand p l e ({ frames := 0, cells := 0, slots := 0, locals := 0 } : Room) s m #[(.int i1), (.int i2), fm] below meth c s₁ [] 0 0 := Stand.of_body Bd
  have e0 : s₁.heap = h0 := by rw [← hh, Bd.state]; rfl
  have Nf := Fr.nil n0
  have Zs : n0 ≤ h0.size := Z0
  have Kp : Keep h0 h0 [] := Keep.refl _ _
  have szr : h0.size ≤ h0.size := Nat.le_refl _
  show own_End p e below (Ppci Z i1 i2 fm h0 n0 s) (s₁.setTop (entryFrame m #[(.int i1), (.int i2), fm] 3))
  rw [ef_pci m _ _ _ rfm]
  refine own_go (fun tQ kQ => XS.iloadN X0.here hx rfl (hb hby dpci_0) rfl kQ) ?_
  show own_End p e below _ (s₁.setTop (mkF m 1 #[.val (.int i1), .val (.int i2), .val fm] [(.int i1)]))
  refine own_go (fun tQ kQ => XS.ifNo X0.here hx rfl (hb hby dpci_1) rfl ((if0 _ _).trans (flt hi0).1) kQ) ?_
  show own_End p e below _ (s₁.setTop (mkF m 4 #[.val (.int i1), .val (.int i2), .val fm] []))
  refine own_go (fun tQ kQ => XS.iloadN X0.here hx rfl (hb hby dpci_4) rfl kQ) ?_
  show own_End p e below _ (s₁.setTop (mkF m 5 #[.val (.int i1), .val (.int i2), .val fm] [(.int i1)]))
  refine own_go (fun tQ kQ => XS.iloadN X0.here hx rfl (hb hby dpci_5) rfl kQ) ?_
  show own_End p e below _ (s₁.setTop (mkF m 6 #[.val (.int i1), .val (.int i2), .val fm] [(.int i2), (.int i1)]))
  refine own_go (fun tQ kQ => XS.icmpYes X0.here hx rfl (pc0 := 6) (pc' := 16) rfl (hb hby dpci_6) rfl (tlt hi1).1 (by decide) (by decide) kQ) ?_
  show own_End p e below _ (s₁.setTop (mkF m 16 #[.val (.int i1), .val (.int i2), .val fm] []))
  refine own_go (fun tQ kQ => XS.iloadN X0.here hx rfl (hb hby dpci_16) rfl kQ) ?_
  show own_End p e below _ (s₁.setTop (mkF m 17 #[.val (.int i1), .val (.int i2), .val fm] [(.int i1)]))
  obtain ⟨fs, hr, hrun, hended, hW, hsame⟩ := X0.leave (v := some (.int i1)) (fun h => by rw [Bd.returns] at h; cases h)
  refine ⟨_, _, (retI X0 hx Bd.returns (hb hby dpci_17) hr), hrun, hended, _, _, rfl, ?_, ⟨_, rfl⟩, hW, hsame.mono (by decide) (by decide)⟩
  show Qpci Z i1 i2 fm h0 n0 _ s₁.heap _
  rw [e0]
  exact ⟨rfl, Nf, rfl⟩
theorem pd_3 : parseMethodDescriptor "(IILjava/util/function/BiFunction;)I" = some ⟨[.int, .int, (.object "java/util/function/BiFunction")], some .int⟩ := by decide +kernel
theorem dsci_0 : decode jdk_42_method_155_code 0 = .ok (.iload_n 0, 1) := by decide +kernel
theorem dsci_1 : decode jdk_42_method_155_code 1 = .ok (.iload_n 1, 1) := by decide +kernel
theorem dsci_2 : decode jdk_42_method_155_code 2 = .ok (.getstatic 1053, 3) := by decide +kernel
theorem dsci_5 : decode jdk_42_method_155_code 5 = .ok (.invokestatic 1059, 3) := by decide +kernel
theorem dsci_8 : decode jdk_42_method_155_code 8 = .ok (.pop, 1) := by decide +kernel
theorem dsci_9 : decode jdk_42_method_155_code 9 = .ok (.return_, 1) := by decide +kernel
theorem ef_sci (m : MethodId) (x0 : Int32) (x1 : Int32) : entryFrame m #[(.int x0), (.int x1)] 2 = mkF m 0 #[.val (.int x0), .val (.int x1)] [] := by first | (simp [entryFrame, mkF, argsToLocals, Value.category]; done) | rfl
def Qsci (Z : State) (i1 : Int32) (i2 : Int32) (fm : Value) (h0 : Heap) (n0 : Nat) (v : Option Value) (h : Heap) (L : List Loc) : Prop := v = none ∧ Fr n0 L ∧ h = h0
def Psci (Z : State) (i1 : Int32) (i2 : Int32) (fm : Value) (h0 : Heap) (n0 : Nat) (s : State) (oQ : Outcome) (U : State) : Prop := ∃ v L, oQ = .returned v ∧ Qsci Z i1 i2 fm h0 n0 v U.heap L ∧ FrameEnd s oQ U L ({ frames := 1, cells := 0, slots := 0, locals := 14 } : Room).cells ({ frames := 1, cells := 0, slots := 0, locals := 14 } : Room).slots
set_option maxRecDepth 65536 in
set_option maxHeartbeats 40000000 in
theorem rmsci (l : Launch) (Z : State) (a0 : Array Value) (hw : ∀ d ∈ tables_1, d.before a0 Z = true) (ws : List Jvm.Cond) (i1 : Int32) (i2 : Int32) (fm : Value) (h0 : Heap) (n0 : Nat) (Z0 : n0 ≤ h0.size) (Ol : Old Z n0 h0) (S_fm : Sta Z Z.heap "jdk/internal/util/Preconditions" "SIOOBE_FORMATTER" "Ljava/util/function/BiFunction;" fm) (rfm : fm.isRef = true) (hi0 : ¬ i1 < 0) (hi1 : i1 < i2) :
    MetFree l (⟨"java/lang/String", "checkIndex", "(II)V"⟩ : MethodName) (head1 (Jvm.Cond.code (⟨"java/lang/String", "checkIndex", "(II)V"⟩ : MethodName) jdk_42_method_155_code 2 none :: ws) ({ frames := 1, cells := 0, slots := 0, locals := 14 } : Room)) (fun aQ U => aQ = #[(.int i1), (.int i2)] ∧ Z.Warmed39 U.vm ∧ U.heap = h0) (fun _ _ _ _ _ => True) (fun _ U oQ U' => ∃ v L, oQ = .returned v ∧ Qsci Z i1 i2 fm h0 n0 v U'.heap L ∧ FrameEnd U oQ U' L ({ frames := 1, cells := 0, slots := 0, locals := 14 } : Room).cells ({ frames := 1, cells := 0, slots := 0, locals := 14 } : Room).slots) := by
  refine MetFree.of_bodySF (plainFor_of_name pn_0) hisR ?_
  intro p e s m args below meth c s₁ Bd hml0 hP hK
  obtain ⟨rfl, hZ, hh⟩ := hP
  have hx := Bd.exec
  have hby := Bd.bytes
  have hml : c.maxLocals = 2 := hml0
  have hown : s.vm.findClass "java/lang/String" = some m.cls := findClass_of_methodNamed Bd.named
  have hnm := (name_of_methodNamed Bd.named Bd.method).1
  have X0 : Stand p l e ({ frames := 1, cells := 0, slots := 0, locals := 14 } : Room) s m #[(.int i1), (.int i2)] below meth c s₁ [] 0 0 := Stand.of_body Bd
  have e0 : s₁.heap = h0 := by rw [← hh, Bd.state]; rfl
  have Nf := Fr.nil n0
  have Zs : n0 ≤ h0.size := Z0
  have Kp : Keep h0 h0 [] := Keep.refl _ _
  have szr : h0.size ≤ h0.size := Nat.le_refl _
  show own_End p e below (Psci Z i1 i2 fm h0 n0 s) (s₁.setTop (entryFrame m #[(.int i1), (.int i2)] 2))
  rw [ef_sci]
  refine own_go (fun tQ kQ => XS.iloadN X0.here hx rfl (hb hby dsci_0) rfl kQ) ?_
  show own_End p e below _ (s₁.setTop (mkF m 1 #[.val (.int i1), .val (.int i2)] [(.int i1)]))
  refine own_go (fun tQ kQ => XS.iloadN X0.here hx rfl (hb hby dsci_1) rfl kQ) ?_
  show own_End p e below _ (s₁.setTop (mkF m 2 #[.val (.int i1), .val (.int i2)] [(.int i2), (.int i1)]))
  obtain ⟨T1, X1, e1, st1⟩ := getS2 X0 hx hZ hown (host := "") (Or.inl (hw _ (List.mem_of_getElem? (i := 89) rfl))) Via.refl e0 (S_fm.ext Ol.2) (g := (mkF m 2 #[.val (.int i1), .val (.int i2)] [(.int i2), (.int i1)])) rfl (hb hby dsci_2)
  refine own_go (fun tQ kQ => st1 tQ kQ) ?_
  show own_End p e below _ (T1.setTop (mkF m 5 #[.val (.int i1), .val (.int i2)] [fm, (.int i2), (.int i1)]))
  obtain ⟨_, _, ⟨T2, L2, k2, n2⟩, -, X2, ⟨Lc2, hQ2, l2, y2, z2⟩, st2⟩ := Jvm.LawKit.callS X1 hx (y := (⟨"jdk/internal/util/Preconditions", "checkIndex", "(IILjava/util/function/BiFunction;)I"⟩ : MethodName)) hown (mvT hZ (hw _ (List.mem_of_getElem? (i := 131) rfl))) (mvT hZ (hw _ (List.mem_of_getElem? (i := 132) rfl))) (mvT hZ (hw _ (List.mem_of_getElem? (i := 90) rfl))) (mvT hZ (hw _ (List.mem_of_getElem? (i := 133) rfl))) (by decide) (backOf (W := 0) (rmpci l Z a0 hw [] i1 i2 fm h0 n0 Zs rfm hi0 hi1) hZ (hw _ (List.mem_of_getElem? (i := 133) rfl)) (hw _ (List.mem_of_getElem? (i := 90) rfl)) (by decide) (by decide)) (g := (mkF m 5 #[.val (.int i1), .val (.int i2)] [fm, (.int i2), (.int i1)])) rfl (by rw [hml]; rfl) (argsL := [(.int i1), (.int i2), fm]) (rest := []) (lenOf pd_3 rfl) rfl (by show 2 * 0 + _ ≤ _; exact Nat.le_of_eq rfl) (hb hby dsci_5) (fun _ _ => ⟨rfl, e1, (Nat.le_of_ble_eq_true rfl), (Nat.le_of_ble_eq_true rfl)⟩)
  dsimp only [Pt.U, Pt.locs, Pt.cells, Pt.slots] at X2 l2 y2 z2 st2 hQ2
  subst l2 y2 z2
  obtain ⟨rfl, N2q, e2⟩ := hQ2
  have Nf := Fr.app Nf N2q
  refine own_go (fun tQ kQ => st2 tQ kQ) ?_
  show own_End p e below _ (T2.setTop (mkF m 8 #[.val (.int i1), .val (.int i2)] [(.int i1)]))
  refine own_go (fun tQ kQ => XS.pop X2.here hx rfl (hb hby dsci_8) rfl rfl kQ) ?_
  show own_End p e below _ (T2.setTop (mkF m 9 #[.val (.int i1), .val (.int i2)] []))
  obtain ⟨fs, hr, hrun, hended, hW, hsame⟩ := X2.leave (v := none) (fun _ => rfl)
  refine ⟨_, _, X2.returnOut hx Bd.returns (hb hby dsci_9) hr, hrun, hended, _, _, rfl, ?_, ⟨_, rfl⟩, hW, hsame.mono (by decide) (by decide)⟩
  show Qsci Z i1 i2 fm h0 n0 _ T2.heap _
  rw [e2]
  exact ⟨rfl, Nf, rfl⟩
theorem pd_4 : parseMethodDescriptor "(II)V" = some ⟨[.int, .int], none⟩ := by decide +kernel
theorem dlch_0 : decode jdk_43_method_2_code 0 = .ok (.iload_n 1, 1) := by decide +kernel
theorem dlch_1 : decode jdk_43_method_2_code 1 = .ok (.aload_n 0, 1) := by decide +kernel
theorem dlch_2 : decode jdk_43_method_2_code 2 = .ok (.arraylength, 1) := by decide +kernel
theorem dlch_3 : decode jdk_43_method_2_code 3 = .ok (.invokestatic 9, 3) := by decide +kernel
theorem dlch_6 : decode jdk_43_method_2_code 6 = .ok (.aload_n 0, 1) := by decide +kernel
theorem dlch_7 : decode jdk_43_method_2_code 7 = .ok (.iload_n 1, 1) := by decide +kernel
theorem dlch_8 : decode jdk_43_method_2_code 8 = .ok (.baload, 1) := by decide +kernel
theorem dlch_9 : decode jdk_43_method_2_code 9 = .ok (.sipush 255, 3) := by decide +kernel
theorem dlch_12 : decode jdk_43_method_2_code 12 = .ok (.iand, 1) := by decide +kernel
theorem dlch_13 : decode jdk_43_method_2_code 13 = .ok (.i2c, 1) := by decide +kernel
theorem dlch_14 : decode jdk_43_method_2_code 14 = .ok (.ireturn, 1) := by decide +kernel
theorem pn_5 : plainName "java/lang/StringLatin1" = true := by first | (simp [plainName, overriddenIn]; done) | decide +kernel
theorem ef_lch (m : MethodId) (x0 : Addr) (x1 : Int32) : entryFrame m #[(.ref x0), (.int x1)] 2 = mkF m 0 #[.val (.ref x0), .val (.int x1)] [] := by first | (simp [entryFrame, mkF, argsToLocals, Value.category]; done) | rfl
def Qlch (Z : State) (tt : Addr) (z : Int32) (bs : Nat → Int32) (i1 : Int32) (fm : Value) (h0 : Heap) (n0 : Nat) (v : Option Value) (h : Heap) (L : List Loc) : Prop := v = some (.int (own_ch (bs i1.toNatClampNeg))) ∧ Fr n0 L ∧ h = h0
def Plch (Z : State) (tt : Addr) (z : Int32) (bs : Nat → Int32) (i1 : Int32) (fm : Value) (h0 : Heap) (n0 : Nat) (s : State) (oQ : Outcome) (U : State) : Prop := ∃ v L, oQ = .returned v ∧ Qlch Z tt z bs i1 fm h0 n0 v U.heap L ∧ FrameEnd s oQ U L ({ frames := 2, cells := 0, slots := 0, locals := 27 } : Room).cells ({ frames := 2, cells := 0, slots := 0, locals := 27 } : Room).slots
set_option maxRecDepth 65536 in
set_option maxHeartbeats 40000000 in
theorem rmlch (l : Launch) (Z : State) (a0 : Array Value) (hw : ∀ d ∈ tables_1, d.before a0 Z = true) (ws : List Jvm.Cond) (tt : Addr) (z : Int32) (bs : Nat → Int32) (i1 : Int32) (fm : Value) (h0 : Heap) (n0 : Nat) (Z0 : n0 ≤ h0.size) (V_tt : own_Ar Z h0 tt .byte z (fun j => .int (bs j))) (Ol : Old Z n0 h0) (S_fm : Sta Z Z.heap "jdk/internal/util/Preconditions" "SIOOBE_FORMATTER" "Ljava/util/function/BiFunction;" fm) (rfm : fm.isRef = true) (hi0 : ¬ i1 < 0) (hi1 : i1 < z) :
    MetFree l (⟨"java/lang/StringLatin1", "charAt", "([BI)C"⟩ : MethodName) (head1 (Jvm.Cond.code (⟨"java/lang/StringLatin1", "charAt", "([BI)C"⟩ : MethodName) jdk_43_method_2_code 2 (some .char) :: ws) ({ frames := 2, cells := 0, slots := 0, locals := 27 } : Room)) (fun aQ U => aQ = #[(.ref tt), (.int i1)] ∧ Z.Warmed39 U.vm ∧ U.heap = h0) (fun _ _ _ _ _ => True) (fun _ U oQ U' => ∃ v L, oQ = .returned v ∧ Qlch Z tt z bs i1 fm h0 n0 v U'.heap L ∧ FrameEnd U oQ U' L ({ frames := 2, cells := 0, slots := 0, locals := 27 } : Room).cells ({ frames := 2, cells := 0, slots := 0, locals := 27 } : Room).slots) := by
  refine MetFree.of_bodySF (plainFor_of_name pn_5) hisR ?_
  intro p e s m args below meth c s₁ Bd hml0 hP hK
  obtain ⟨rfl, hZ, hh⟩ := hP
  have hx := Bd.exec
  have hby := Bd.bytes
  have hml : c.maxLocals = 2 := hml0
  have hown : s.vm.findClass "java/lang/StringLatin1" = some m.cls := findClass_of_methodNamed Bd.named
  have hnm := (name_of_methodNamed Bd.named Bd.method).1
  have X0 : Stand p l e ({ frames := 2, cells := 0, slots := 0, locals := 27 } : Room) s m #[(.ref tt), (.int i1)] below meth c s₁ [] 0 0 := Stand.of_body Bd
  have e0 : s₁.heap = h0 := by rw [← hh, Bd.state]; rfl
  have Nf := Fr.nil n0
  have Zs : n0 ≤ h0.size := Z0
  have Kp : Keep h0 h0 [] := Keep.refl _ _
  have szr : h0.size ≤ h0.size := Nat.le_refl _
  show own_End p e below (Plch Z tt z bs i1 fm h0 n0 s) (s₁.setTop (entryFrame m #[(.ref tt), (.int i1)] 2))
  rw [ef_lch]
  refine own_go (fun tQ kQ => XS.iloadN X0.here hx rfl (hb hby dlch_0) rfl kQ) ?_
  show own_End p e below _ (s₁.setTop (mkF m 1 #[.val (.ref tt), .val (.int i1)] [(.int i1)]))
  refine own_go (fun tQ kQ => XS.aloadN X0.here hx rfl (hb hby dlch_1) rfl rfl kQ) ?_
  show own_End p e below _ (s₁.setTop (mkF m 2 #[.val (.ref tt), .val (.int i1)] [(.ref tt), (.int i1)]))
  obtain ⟨cl1, Ar1, S1, M1, H1⟩ := id V_tt
  refine own_go (fun tQ kQ => X0.arraylength hx (by rw [e0]; exact Ar1.1) (State.isArrayOf_alike hZ.alike Ar1.2.1) (g := (mkF m 2 #[.val (.ref tt), .val (.int i1)] [(.ref tt), (.int i1)])) rfl rfl (hb hby dlch_2) _ kQ) ?_
  rw [len_of S1 M1]
  show own_End p e below _ (s₁.setTop (mkF m 3 #[.val (.ref tt), .val (.int i1)] [(.int z), (.int i1)]))
  obtain ⟨_, _, ⟨T2, L2, k2, n2⟩, -, X2, ⟨Lc2, hQ2, l2, y2, z2⟩, st2⟩ := Jvm.LawKit.callS X0 hx (y := (⟨"java/lang/String", "checkIndex", "(II)V"⟩ : MethodName)) hown (mvT hZ (hw _ (List.mem_of_getElem? (i := 128) rfl))) (mvT hZ (hw _ (List.mem_of_getElem? (i := 129) rfl))) (mvT hZ (hw _ (List.mem_of_getElem? (i := 8) rfl))) (mvT hZ (hw _ (List.mem_of_getElem? (i := 130) rfl))) (by decide) (backOf (W := 0) (rmsci l Z a0 hw [] i1 z fm h0 n0 Zs Ol S_fm rfm hi0 hi1) hZ (hw _ (List.mem_of_getElem? (i := 130) rfl)) (hw _ (List.mem_of_getElem? (i := 8) rfl)) (by decide) (by decide)) (g := (mkF m 3 #[.val (.ref tt), .val (.int i1)] [(.int z), (.int i1)])) rfl (by rw [hml]; rfl) (argsL := [(.int i1), (.int z)]) (rest := []) (lenOf pd_4 rfl) rfl (by show 2 * 0 + _ ≤ _; exact Nat.le_of_eq rfl) (hb hby dlch_3) (fun _ _ => ⟨rfl, e0, (Nat.le_of_ble_eq_true rfl), (Nat.le_of_ble_eq_true rfl)⟩)
  dsimp only [Pt.U, Pt.locs, Pt.cells, Pt.slots] at X2 l2 y2 z2 st2 hQ2
  subst l2 y2 z2
  obtain ⟨rfl, N2q, e2⟩ := hQ2
  have Nf := Fr.app Nf N2q
  refine own_go (fun tQ kQ => st2 tQ kQ) ?_
  show own_End p e below _ (T2.setTop (mkF m 6 #[.val (.ref tt), .val (.int i1)] []))
  refine own_go (fun tQ kQ => XS.aloadN X2.here hx rfl (hb hby dlch_6) rfl rfl kQ) ?_
  show own_End p e below _ (T2.setTop (mkF m 7 #[.val (.ref tt), .val (.int i1)] [(.ref tt)]))
  refine own_go (fun tQ kQ => XS.iloadN X2.here hx rfl (hb hby dlch_7) rfl kQ) ?_
  show own_End p e below _ (T2.setTop (mkF m 8 #[.val (.ref tt), .val (.int i1)] [(.int i1), (.ref tt)]))
  obtain ⟨cl3, Ar3, S3, M3, H3⟩ := id V_tt
  have hin3 := inb_of (j := i1) S3 ⟨hi0, hi1⟩
  refine own_go (fun tQ kQ => X2.baloadBytes hx (j := i1) (v := (.int (bs i1.toNatClampNeg))) (by rw [e2]; exact Ar3.1) (State.isArrayOf_alike hZ.alike Ar3.2.1) Ar3.2.2 hin3 (H3 _ (own_in S3 hin3)) (g := (mkF m 8 #[.val (.ref tt), .val (.int i1)] [(.int i1), (.ref tt)])) rfl rfl (hb hby dlch_8) _ kQ) ?_
  show own_End p e below _ (T2.setTop (mkF m 9 #[.val (.ref tt), .val (.int i1)] [(.int (bs i1.toNatClampNeg))]))
  refine own_go (fun tQ kQ => XS.sipush X2.here hx rfl (hb hby dlch_9) kQ) ?_
  show own_End p e below _ (T2.setTop (mkF m 12 #[.val (.ref tt), .val (.int i1)] [(.int (255 : Int32)), (.int (bs i1.toNatClampNeg))]))
  refine own_go (fun tQ kQ => XS.iand X2.here hx rfl (hb hby dlch_12) rfl kQ) ?_
  show own_End p e below _ (T2.setTop (mkF m 13 #[.val (.ref tt), .val (.int i1)] [(.int ((bs i1.toNatClampNeg) &&& (255 : Int32)))]))
  refine own_go (fun tQ kQ => XS.i2c X2.here hx rfl (hb hby dlch_13) rfl kQ) ?_
  show own_End p e below _ (T2.setTop (mkF m 14 #[.val (.ref tt), .val (.int i1)] [(.int (((bs i1.toNatClampNeg) &&& (255 : Int32)).toUInt32.toUInt16.toUInt32.toInt32))]))
  obtain ⟨fs, hr, hrun, hended, hW, hsame⟩ := X2.leave (v := some (.int (nar .char (((bs i1.toNatClampNeg) &&& (255 : Int32)).toUInt32.toUInt16.toUInt32.toInt32)))) (fun h => by rw [Bd.returns] at h; cases h)
  refine ⟨_, _, (retN X2 hx (t := .char) Bd.returns (by simp) (hb hby dlch_14) hr), hrun, hended, _, _, rfl, ?_, ⟨_, rfl⟩, hW, hsame.mono (by decide) (by decide)⟩
  show Qlch Z tt z bs i1 fm h0 n0 _ T2.heap _
  rw [e2]
  exact ⟨rfl, Nf, rfl⟩
theorem pd_6 : parseMethodDescriptor "()Z" = some ⟨[], some .boolean⟩ := by decide +kernel
theorem pd_7 : parseMethodDescriptor "([BI)C" = some ⟨[(.array .byte), .int], some .char⟩ := by decide +kernel
theorem dchA_0 : decode jdk_42_method_56_code 0 = .ok (.aload_n 0, 1) := by decide +kernel
theorem dchA_1 : decode jdk_42_method_56_code 1 = .ok (.invokevirtual 492, 3) := by decide +kernel
theorem dchA_4 : decode jdk_42_method_56_code 4 = .ok (.ifCond .eq 12, 3) := by decide +kernel
theorem dchA_7 : decode jdk_42_method_56_code 7 = .ok (.aload_n 0, 1) := by decide +kernel
theorem dchA_8 : decode jdk_42_method_56_code 8 = .ok (.getfield 9, 3) := by decide +kernel
theorem dchA_11 : decode jdk_42_method_56_code 11 = .ok (.iload_n 1, 1) := by decide +kernel
theorem dchA_12 : decode jdk_42_method_56_code 12 = .ok (.invokestatic 495, 3) := by decide +kernel
theorem dchA_15 : decode jdk_42_method_56_code 15 = .ok (.ireturn, 1) := by decide +kernel
theorem ef_chA (m : MethodId) (x0 : Addr) (x1 : Int32) : entryFrame m #[(.ref x0), (.int x1)] 2 = mkF m 0 #[.val (.ref x0), .val (.int x1)] [] := by first | (simp [entryFrame, mkF, argsToLocals, Value.category]; done) | rfl
def QchA (Z : State) (st : Addr) (tt : Addr) (z : Int32) (bs : Nat → Int32) (cz : Int32) (i1 : Int32) (fm : Value) (h0 : Heap) (n0 : Nat) (v : Option Value) (h : Heap) (L : List Loc) : Prop := v = some (.int (own_ch (bs i1.toNatClampNeg))) ∧ Fr n0 L ∧ h = h0
def PchA (Z : State) (st : Addr) (tt : Addr) (z : Int32) (bs : Nat → Int32) (cz : Int32) (i1 : Int32) (fm : Value) (h0 : Heap) (n0 : Nat) (s : State) (oQ : Outcome) (U : State) : Prop := ∃ v L, oQ = .returned v ∧ QchA Z st tt z bs cz i1 fm h0 n0 v U.heap L ∧ FrameEnd s oQ U L ({ frames := 3, cells := 0, slots := 0, locals := 40 } : Room).cells ({ frames := 3, cells := 0, slots := 0, locals := 40 } : Room).slots
set_option maxRecDepth 65536 in
set_option maxHeartbeats 40000000 in
theorem rmchA (l : Launch) (Z : State) (a0 : Array Value) (hw : ∀ d ∈ tables_1, d.before a0 Z = true) (ws : List Jvm.Cond) (st : Addr) (tt : Addr) (z : Int32) (bs : Nat → Int32) (cz : Int32) (i1 : Int32) (fm : Value) (h0 : Heap) (n0 : Nat) (Z0 : n0 ≤ h0.size) (E_st : Exa Z h0 st "java/lang/String") (F_value_st : Fld Z h0 st "java/lang/String" "value" "[B" (.ref tt)) (F_coder_st : Fld Z h0 st "java/lang/String" "coder" "B" (.int (0 : Int32))) (V_tt : own_Ar Z h0 tt .byte z (fun j => .int (bs j))) (Ol : Old Z n0 h0) (S_cs : Sta Z Z.heap "java/lang/String" "COMPACT_STRINGS" "Z" (.int cz)) (hcz : ¬ cz = 0) (S_fm : Sta Z Z.heap "jdk/internal/util/Preconditions" "SIOOBE_FORMATTER" "Ljava/util/function/BiFunction;" fm) (rfm : fm.isRef = true) (hi0 : ¬ i1 < 0) (hi1 : i1 < z) :
    MetFree l (⟨"java/lang/String", "charAt", "(I)C"⟩ : MethodName) (head1 (Jvm.Cond.code (⟨"java/lang/String", "charAt", "(I)C"⟩ : MethodName) jdk_42_method_56_code 2 (some .char) :: ws) ({ frames := 3, cells := 0, slots := 0, locals := 40 } : Room)) (fun aQ U => aQ = #[(.ref st), (.int i1)] ∧ Z.Warmed39 U.vm ∧ U.heap = h0) (fun _ _ _ _ _ => True) (fun _ U oQ U' => ∃ v L, oQ = .returned v ∧ QchA Z st tt z bs cz i1 fm h0 n0 v U'.heap L ∧ FrameEnd U oQ U' L ({ frames := 3, cells := 0, slots := 0, locals := 40 } : Room).cells ({ frames := 3, cells := 0, slots := 0, locals := 40 } : Room).slots) := by
  refine MetFree.of_bodySF (plainFor_of_name pn_0) hisR ?_
  intro p e s m args below meth c s₁ Bd hml0 hP hK
  obtain ⟨rfl, hZ, hh⟩ := hP
  have hx := Bd.exec
  have hby := Bd.bytes
  have hml : c.maxLocals = 2 := hml0
  have hown : s.vm.findClass "java/lang/String" = some m.cls := findClass_of_methodNamed Bd.named
  have hnm := (name_of_methodNamed Bd.named Bd.method).1
  have X0 : Stand p l e ({ frames := 3, cells := 0, slots := 0, locals := 40 } : Room) s m #[(.ref st), (.int i1)] below meth c s₁ [] 0 0 := Stand.of_body Bd
  have e0 : s₁.heap = h0 := by rw [← hh, Bd.state]; rfl
  have Nf := Fr.nil n0
  have Zs : n0 ≤ h0.size := Z0
  have Kp : Keep h0 h0 [] := Keep.refl _ _
  have szr : h0.size ≤ h0.size := Nat.le_refl _
  show own_End p e below (PchA Z st tt z bs cz i1 fm h0 n0 s) (s₁.setTop (entryFrame m #[(.ref st), (.int i1)] 2))
  rw [ef_chA]
  refine own_go (fun tQ kQ => XS.aloadN X0.here hx rfl (hb hby dchA_0) rfl rfl kQ) ?_
  show own_End p e below _ (s₁.setTop (mkF m 1 #[.val (.ref st), .val (.int i1)] [(.ref st)]))
  obtain ⟨cq1, kq1, q1a, q1b, q1c⟩ := isOf hZ e0 E_st
  obtain ⟨_, _, ⟨T1, L1, k1, n1⟩, -, X1, ⟨Lc1, hQ1, l1, y1, z1⟩, st1⟩ := X0.virtualBack hx (y := (⟨"java/lang/String", "isLatin1", "()Z"⟩ : MethodName)) (z := (⟨"java/lang/String", "isLatin1", "()Z"⟩ : MethodName)) hown (mvT hZ (hw _ (List.mem_of_getElem? (i := 49) rfl))) (mvT hZ (hw _ (List.mem_of_getElem? (i := 50) rfl))) (notFace_of_selects (args := #[]) (mvT hZ (hw _ (List.mem_of_getElem? (i := 52) rfl)))) (mvT hZ (hw _ (List.mem_of_getElem? (i := 52) rfl))) (mvT hZ (hw _ (List.mem_of_getElem? (i := 51) rfl))) (by decide) (backOf (W := 0) (rmlat l Z a0 hw [] st tt z bs cz h0 n0 Zs E_st F_value_st F_coder_st V_tt Ol S_cs hcz) hZ (hw _ (List.mem_of_getElem? (i := 53) rfl)) (hw _ (List.mem_of_getElem? (i := 8) rfl)) (by decide) (by decide)) q1a q1c (g := (mkF m 1 #[.val (.ref st), .val (.int i1)] [(.ref st)])) rfl (by rw [hml]; rfl) (Steps.refl _) (argsL := []) (rest := []) (lenOf pd_6 rfl) rfl (by show 2 * 0 + _ ≤ _; exact Nat.le_of_eq rfl) (hb hby dchA_1) (fun _ _ => ⟨rfl, e0, (Nat.le_of_ble_eq_true rfl), (Nat.le_of_ble_eq_true rfl)⟩)
  dsimp only [Pt.U, Pt.locs, Pt.cells, Pt.slots] at X1 l1 y1 z1 st1 hQ1
  subst l1 y1 z1
  obtain ⟨rfl, N1q, e1⟩ := hQ1
  have Nf := Fr.app Nf N1q
  refine own_go (fun tQ kQ => st1.trans kQ) ?_
  show own_End p e below _ (T1.setTop (mkF m 4 #[.val (.ref st), .val (.int i1)] [(.int (1 : Int32))]))
  refine own_go (fun tQ kQ => XS.ifNo X1.here hx rfl (hb hby dchA_4) rfl ((if0 _ _).trans (feq (by decide)).1) kQ) ?_
  show own_End p e below _ (T1.setTop (mkF m 7 #[.val (.ref st), .val (.int i1)] []))
  refine own_go (fun tQ kQ => XS.aloadN X1.here hx rfl (hb hby dchA_7) rfl rfl kQ) ?_
  show own_End p e below _ (T1.setTop (mkF m 8 #[.val (.ref st), .val (.int i1)] [(.ref st)]))
  obtain ⟨T2, X2, e2, st2⟩ := getF X1 hx hZ hown (host := "") (Or.inl (hw _ (List.mem_of_getElem? (i := 33) rfl))) Via.refl e1 F_value_st (g := (mkF m 8 #[.val (.ref st), .val (.int i1)] [(.ref st)])) rfl rfl (hb hby dchA_8)
  refine own_go (fun tQ kQ => st2 tQ kQ) ?_
  show own_End p e below _ (T2.setTop (mkF m 11 #[.val (.ref st), .val (.int i1)] [(.ref tt)]))
  refine own_go (fun tQ kQ => XS.iloadN X2.here hx rfl (hb hby dchA_11) rfl kQ) ?_
  show own_End p e below _ (T2.setTop (mkF m 12 #[.val (.ref st), .val (.int i1)] [(.int i1), (.ref tt)]))
  obtain ⟨_, _, ⟨T3, L3, k3, n3⟩, -, X3, ⟨Lc3, hQ3, l3, y3, z3⟩, st3⟩ := Jvm.LawKit.callS X2 hx (y := (⟨"java/lang/StringLatin1", "charAt", "([BI)C"⟩ : MethodName)) hown (mvT hZ (hw _ (List.mem_of_getElem? (i := 125) rfl))) (mvT hZ (hw _ (List.mem_of_getElem? (i := 126) rfl))) (mvT hZ (hw _ (List.mem_of_getElem? (i := 66) rfl))) (mvT hZ (hw _ (List.mem_of_getElem? (i := 127) rfl))) (by decide) (backOf (W := 0) (rmlch l Z a0 hw [] tt z bs i1 fm h0 n0 Zs V_tt Ol S_fm rfm hi0 hi1) hZ (hw _ (List.mem_of_getElem? (i := 127) rfl)) (hw _ (List.mem_of_getElem? (i := 66) rfl)) (by decide) (by decide)) (g := (mkF m 12 #[.val (.ref st), .val (.int i1)] [(.int i1), (.ref tt)])) rfl (by rw [hml]; rfl) (argsL := [(.ref tt), (.int i1)]) (rest := []) (lenOf pd_7 rfl) rfl (by show 2 * 0 + _ ≤ _; exact Nat.le_of_eq rfl) (hb hby dchA_12) (fun _ _ => ⟨rfl, e2, (Nat.le_of_ble_eq_true rfl), (Nat.le_of_ble_eq_true rfl)⟩)
  dsimp only [Pt.U, Pt.locs, Pt.cells, Pt.slots] at X3 l3 y3 z3 st3 hQ3
  subst l3 y3 z3
  obtain ⟨rfl, N3q, e3⟩ := hQ3
  have Nf := Fr.app Nf N3q
  refine own_go (fun tQ kQ => st3 tQ kQ) ?_
  show own_End p e below _ (T3.setTop (mkF m 15 #[.val (.ref st), .val (.int i1)] [(.int (own_ch (bs i1.toNatClampNeg)))]))
  obtain ⟨fs, hr, hrun, hended, hW, hsame⟩ := X3.leave (v := some (.int (nar .char (own_ch (bs i1.toNatClampNeg))))) (fun h => by rw [Bd.returns] at h; cases h)
  refine ⟨_, _, (retN X3 hx (t := .char) Bd.returns (by simp) (hb hby dchA_15) hr), hrun, hended, _, _, rfl, ?_, ⟨_, rfl⟩, hW, hsame.mono (by decide) (by decide)⟩
  show QchA Z st tt z bs cz i1 fm h0 n0 _ T3.heap _
  rw [e3]
  exact ⟨by rw [show nar .char (own_ch (bs i1.toNatClampNeg)) = own_ch (bs i1.toNatClampNeg) from own_narch _], Nf, rfl⟩
theorem ddr_0 : decode method_3_code 0 = .ok (.iload_n 0, 1) := by decide +kernel
theorem ddr_1 : decode method_3_code 1 = .ok (.bipush 8, 2) := by decide +kernel
theorem ddr_3 : decode method_3_code 3 = .ok (.ishr, 1) := by decide +kernel
theorem ddr_4 : decode method_3_code 4 = .ok (.iconst 1, 1) := by decide +kernel
theorem ddr_5 : decode method_3_code 5 = .ok (.iand, 1) := by decide +kernel
theorem ddr_6 : decode method_3_code 6 = .ok (.ifCond .eq 8, 3) := by decide +kernel
theorem ddr_9 : decode method_3_code 9 = .ok (.bipush 47, 2) := by decide +kernel
theorem ddr_11 : decode method_3_code 11 = .ok (.goto 9, 3) := by decide +kernel
theorem ddr_14 : decode method_3_code 14 = .ok (.iload_n 0, 1) := by decide +kernel
theorem ddr_15 : decode method_3_code 15 = .ok (.sipush 255, 3) := by decide +kernel
theorem ddr_18 : decode method_3_code 18 = .ok (.iand, 1) := by decide +kernel
theorem ddr_19 : decode method_3_code 19 = .ok (.i2c, 1) := by decide +kernel
theorem ddr_20 : decode method_3_code 20 = .ok (.ireturn, 1) := by decide +kernel
theorem pn_8 : plainName "com/example/resolvent/resolvent/identifiers/IdentifierPrefixOfPinLaw" = true := by first | (simp [plainName, overriddenIn]; done) | decide +kernel
theorem ef_dr (m : MethodId) (x0 : Int32) : entryFrame m #[(.int x0)] 1 = mkF m 0 #[.val (.int x0)] [] := by first | (simp [entryFrame, mkF, argsToLocals, Value.category]; done) | rfl
def Qdr (Z : State) (xx : Int32) (h0 : Heap) (n0 : Nat) (v : Option Value) (h : Heap) (L : List Loc) : Prop := v = some (.int (own_draw xx)) ∧ Fr n0 L ∧ h = h0
def Pdr (Z : State) (xx : Int32) (h0 : Heap) (n0 : Nat) (s : State) (oQ : Outcome) (U : State) : Prop := ∃ v L, oQ = .returned v ∧ Qdr Z xx h0 n0 v U.heap L ∧ FrameEnd s oQ U L ({ frames := 0, cells := 0, slots := 0, locals := 0 } : Room).cells ({ frames := 0, cells := 0, slots := 0, locals := 0 } : Room).slots
set_option maxRecDepth 65536 in
set_option maxHeartbeats 40000000 in
theorem rmdr (l : Launch) (Z : State) (a0 : Array Value) (hw : ∀ d ∈ tables_1, d.before a0 Z = true) (ws : List Jvm.Cond) (xx : Int32) (h0 : Heap) (n0 : Nat) (Z0 : n0 ≤ h0.size)  :
    MetFree l (⟨"com/example/resolvent/resolvent/identifiers/IdentifierPrefixOfPinLaw", "draw", "(I)C"⟩ : MethodName) (head1 (Jvm.Cond.code (⟨"com/example/resolvent/resolvent/identifiers/IdentifierPrefixOfPinLaw", "draw", "(I)C"⟩ : MethodName) method_3_code 1 (some .char) :: ws) ({ frames := 0, cells := 0, slots := 0, locals := 0 } : Room)) (fun aQ U => aQ = #[(.int xx)] ∧ Z.Warmed39 U.vm ∧ U.heap = h0) (fun _ _ _ _ _ => True) (fun _ U oQ U' => ∃ v L, oQ = .returned v ∧ Qdr Z xx h0 n0 v U'.heap L ∧ FrameEnd U oQ U' L ({ frames := 0, cells := 0, slots := 0, locals := 0 } : Room).cells ({ frames := 0, cells := 0, slots := 0, locals := 0 } : Room).slots) := by
  refine MetFree.of_bodySF (plainFor_of_name pn_8) hisR ?_
  intro p e s m args below meth c s₁ Bd hml0 hP hK
  obtain ⟨rfl, hZ, hh⟩ := hP
  have hx := Bd.exec
  have hby := Bd.bytes
  have hml : c.maxLocals = 1 := hml0
  have hown : s.vm.findClass "com/example/resolvent/resolvent/identifiers/IdentifierPrefixOfPinLaw" = some m.cls := findClass_of_methodNamed Bd.named
  have hnm := (name_of_methodNamed Bd.named Bd.method).1
  have X0 : Stand p l e ({ frames := 0, cells := 0, slots := 0, locals := 0 } : Room) s m #[(.int xx)] below meth c s₁ [] 0 0 := Stand.of_body Bd
  have e0 : s₁.heap = h0 := by rw [← hh, Bd.state]; rfl
  have Nf := Fr.nil n0
  have Zs : n0 ≤ h0.size := Z0
  have Kp : Keep h0 h0 [] := Keep.refl _ _
  have szr : h0.size ≤ h0.size := Nat.le_refl _
  show own_End p e below (Pdr Z xx h0 n0 s) (s₁.setTop (entryFrame m #[(.int xx)] 1))
  rw [ef_dr]
  refine own_go (fun tQ kQ => XS.iloadN X0.here hx rfl (hb hby ddr_0) rfl kQ) ?_
  show own_End p e below _ (s₁.setTop (mkF m 1 #[.val (.int xx)] [(.int xx)]))
  refine own_go (fun tQ kQ => XS.bipush X0.here hx rfl (hb hby ddr_1) kQ) ?_
  show own_End p e below _ (s₁.setTop (mkF m 3 #[.val (.int xx)] [(.int (8 : Int32)), (.int xx)]))
  refine own_go (fun tQ kQ => XS.ishr X0.here hx rfl (hb hby ddr_3) rfl kQ) ?_
  show own_End p e below _ (s₁.setTop (mkF m 4 #[.val (.int xx)] [(.int (xx >>> ((8 : Int32) &&& 31)))]))
  refine own_go (fun tQ kQ => XS.iconst X0.here hx rfl (hb hby ddr_4) kQ) ?_
  show own_End p e below _ (s₁.setTop (mkF m 5 #[.val (.int xx)] [(.int (1 : Int32)), (.int (xx >>> ((8 : Int32) &&& 31)))]))
  refine own_go (fun tQ kQ => XS.iand X0.here hx rfl (hb hby ddr_5) rfl kQ) ?_
  show own_End p e below _ (s₁.setTop (mkF m 6 #[.val (.int xx)] [(.int ((xx >>> ((8 : Int32) &&& 31)) &&& (1 : Int32)))]))
  by_cases hc6 : ((xx >>> ((8 : Int32) &&& 31)) &&& (1 : Int32)) = (0 : Int32)
  ·
    refine own_go (fun tQ kQ => XS.ifYes X0.here hx rfl (pc0 := 6) (pc' := 14) rfl (hb hby ddr_6) rfl ((if0 _ _).trans (teq hc6).1) (by decide) (by decide) kQ) ?_
    show own_End p e below _ (s₁.setTop (mkF m 14 #[.val (.int xx)] []))
    refine own_go (fun tQ kQ => XS.iloadN X0.here hx rfl (hb hby ddr_14) rfl kQ) ?_
    show own_End p e below _ (s₁.setTop (mkF m 15 #[.val (.int xx)] [(.int xx)]))
    refine own_go (fun tQ kQ => XS.sipush X0.here hx rfl (hb hby ddr_15) kQ) ?_
    show own_End p e below _ (s₁.setTop (mkF m 18 #[.val (.int xx)] [(.int (255 : Int32)), (.int xx)]))
    refine own_go (fun tQ kQ => XS.iand X0.here hx rfl (hb hby ddr_18) rfl kQ) ?_
    show own_End p e below _ (s₁.setTop (mkF m 19 #[.val (.int xx)] [(.int (xx &&& (255 : Int32)))]))
    refine own_go (fun tQ kQ => XS.i2c X0.here hx rfl (hb hby ddr_19) rfl kQ) ?_
    show own_End p e below _ (s₁.setTop (mkF m 20 #[.val (.int xx)] [(.int ((xx &&& (255 : Int32)).toUInt32.toUInt16.toUInt32.toInt32))]))
    obtain ⟨fs, hr, hrun, hended, hW, hsame⟩ := X0.leave (v := some (.int (nar .char ((xx &&& (255 : Int32)).toUInt32.toUInt16.toUInt32.toInt32)))) (fun h => by rw [Bd.returns] at h; cases h)
    refine ⟨_, _, (retN X0 hx (t := .char) Bd.returns (by simp) (hb hby ddr_20) hr), hrun, hended, _, _, rfl, ?_, ⟨_, rfl⟩, hW, hsame.mono (by decide) (by decide)⟩
    show Qdr Z xx h0 n0 _ s₁.heap _
    rw [e0]
    exact ⟨by simp [own_draw, hc6], Nf, rfl⟩
  ·
    refine own_go (fun tQ kQ => XS.ifNo X0.here hx rfl (hb hby ddr_6) rfl ((if0 _ _).trans (feq hc6).1) kQ) ?_
    show own_End p e below _ (s₁.setTop (mkF m 9 #[.val (.int xx)] []))
    refine own_go (fun tQ kQ => XS.bipush X0.here hx rfl (hb hby ddr_9) kQ) ?_
    show own_End p e below _ (s₁.setTop (mkF m 11 #[.val (.int xx)] [(.int (47 : Int32))]))
    refine own_go (fun tQ kQ => XS.goto X0.here hx rfl (pc0 := 11) (pc' := 20) rfl (hb hby ddr_11) (by decide) (by decide) kQ) ?_
    show own_End p e below _ (s₁.setTop (mkF m 20 #[.val (.int xx)] [(.int (47 : Int32))]))
    obtain ⟨fs, hr, hrun, hended, hW, hsame⟩ := X0.leave (v := some (.int (47 : Int32))) (fun h => by rw [Bd.returns] at h; cases h)
    refine ⟨_, _, (retN X0 hx (t := .char) Bd.returns (by simp) (hb hby ddr_20) hr), hrun, hended, _, _, rfl, ?_, ⟨_, rfl⟩, hW, hsame.mono (by decide) (by decide)⟩
    show Qdr Z xx h0 n0 _ s₁.heap _
    rw [e0]
    exact ⟨by simp [own_draw, hc6], Nf, rfl⟩
theorem dmx_0 : decode jdk_29_method_65_code 0 = .ok (.iload_n 0, 1) := by decide +kernel
theorem dmx_1 : decode jdk_29_method_65_code 1 = .ok (.iload_n 1, 1) := by decide +kernel
theorem dmx_2 : decode jdk_29_method_65_code 2 = .ok (.if_icmp .lt 7, 3) := by decide +kernel
theorem dmx_5 : decode jdk_29_method_65_code 5 = .ok (.iload_n 0, 1) := by decide +kernel
theorem dmx_6 : decode jdk_29_method_65_code 6 = .ok (.goto 4, 3) := by decide +kernel
theorem dmx_10 : decode jdk_29_method_65_code 10 = .ok (.ireturn, 1) := by decide +kernel
theorem ef_mx (m : MethodId) (x0 : Int32) (x1 : Int32) : entryFrame m #[(.int x0), (.int x1)] 2 = mkF m 0 #[.val (.int x0), .val (.int x1)] [] := by first | (simp [entryFrame, mkF, argsToLocals, Value.category]; done) | rfl
def Qmx (Z : State) (i1 : Int32) (i2 : Int32) (h0 : Heap) (n0 : Nat) (v : Option Value) (h : Heap) (L : List Loc) : Prop := v = some (.int i1) ∧ Fr n0 L ∧ h = h0
def Pmx (Z : State) (i1 : Int32) (i2 : Int32) (h0 : Heap) (n0 : Nat) (s : State) (oQ : Outcome) (U : State) : Prop := ∃ v L, oQ = .returned v ∧ Qmx Z i1 i2 h0 n0 v U.heap L ∧ FrameEnd s oQ U L ({ frames := 0, cells := 0, slots := 0, locals := 0 } : Room).cells ({ frames := 0, cells := 0, slots := 0, locals := 0 } : Room).slots
set_option maxRecDepth 65536 in
set_option maxHeartbeats 40000000 in
theorem rmmx (l : Launch) (Z : State) (a0 : Array Value) (hw : ∀ d ∈ tables_1, d.before a0 Z = true) (ws : List Jvm.Cond) (i1 : Int32) (i2 : Int32) (h0 : Heap) (n0 : Nat) (Z0 : n0 ≤ h0.size) (hm : ¬ i1 < i2) :
    MetFree l (⟨"java/lang/Math", "max", "(II)I"⟩ : MethodName) (head1 (Jvm.Cond.code (⟨"java/lang/Math", "max", "(II)I"⟩ : MethodName) jdk_29_method_65_code 2 (some .int) :: ws) ({ frames := 0, cells := 0, slots := 0, locals := 0 } : Room)) (fun aQ U => aQ = #[(.int i1), (.int i2)] ∧ Z.Warmed39 U.vm ∧ U.heap = h0) (fun _ _ _ _ _ => True) (fun _ U oQ U' => ∃ v L, oQ = .returned v ∧ Qmx Z i1 i2 h0 n0 v U'.heap L ∧ FrameEnd U oQ U' L ({ frames := 0, cells := 0, slots := 0, locals := 0 } : Room).cells ({ frames := 0, cells := 0, slots := 0, locals := 0 } : Room).slots) := by
  refine MetFree.of_bodySF (Jvm.Free.JP.mathPlain rfl (by decide +kernel)) hisR ?_
  intro p e s m args below meth c s₁ Bd hml0 hP hK
  obtain ⟨rfl, hZ, hh⟩ := hP
  have hx := Bd.exec
  have hby := Bd.bytes
  have hml : c.maxLocals = 2 := hml0
  have hown : s.vm.findClass "java/lang/Math" = some m.cls := findClass_of_methodNamed Bd.named
  have hnm := (name_of_methodNamed Bd.named Bd.method).1
  have X0 : Stand p l e ({ frames := 0, cells := 0, slots := 0, locals := 0 } : Room) s m #[(.int i1), (.int i2)] below meth c s₁ [] 0 0 := Stand.of_body Bd
  have e0 : s₁.heap = h0 := by rw [← hh, Bd.state]; rfl
  have Nf := Fr.nil n0
  have Zs : n0 ≤ h0.size := Z0
  have Kp : Keep h0 h0 [] := Keep.refl _ _
  have szr : h0.size ≤ h0.size := Nat.le_refl _
  show own_End p e below (Pmx Z i1 i2 h0 n0 s) (s₁.setTop (entryFrame m #[(.int i1), (.int i2)] 2))
  rw [ef_mx]
  refine own_go (fun tQ kQ => XS.iloadN X0.here hx rfl (hb hby dmx_0) rfl kQ) ?_
  show own_End p e below _ (s₁.setTop (mkF m 1 #[.val (.int i1), .val (.int i2)] [(.int i1)]))
  refine own_go (fun tQ kQ => XS.iloadN X0.here hx rfl (hb hby dmx_1) rfl kQ) ?_
  show own_End p e below _ (s₁.setTop (mkF m 2 #[.val (.int i1), .val (.int i2)] [(.int i2), (.int i1)]))
  refine own_go (fun tQ kQ => XS.icmpNo X0.here hx rfl (hb hby dmx_2) rfl (flt hm).1 kQ) ?_
  show own_End p e below _ (s₁.setTop (mkF m 5 #[.val (.int i1), .val (.int i2)] []))
  refine own_go (fun tQ kQ => XS.iloadN X0.here hx rfl (hb hby dmx_5) rfl kQ) ?_
  show own_End p e below _ (s₁.setTop (mkF m 6 #[.val (.int i1), .val (.int i2)] [(.int i1)]))
  refine own_go (fun tQ kQ => XS.goto X0.here hx rfl (pc0 := 6) (pc' := 10) rfl (hb hby dmx_6) (by decide) (by decide) kQ) ?_
  show own_End p e below _ (s₁.setTop (mkF m 10 #[.val (.int i1), .val (.int i2)] [(.int i1)]))
  obtain ⟨fs, hr, hrun, hended, hW, hsame⟩ := X0.leave (v := some (.int i1)) (fun h => by rw [Bd.returns] at h; cases h)
  refine ⟨_, _, (retI X0 hx Bd.returns (hb hby dmx_10) hr), hrun, hended, _, _, rfl, ?_, ⟨_, rfl⟩, hW, hsame.mono (by decide) (by decide)⟩
  show Qmx Z i1 i2 h0 n0 _ s₁.heap _
  rw [e0]
  exact ⟨rfl, Nf, rfl⟩
theorem dmn1_0 : decode jdk_29_method_69_code 0 = .ok (.iload_n 0, 1) := by decide +kernel
theorem dmn1_1 : decode jdk_29_method_69_code 1 = .ok (.iload_n 1, 1) := by decide +kernel
theorem dmn1_2 : decode jdk_29_method_69_code 2 = .ok (.if_icmp .gt 7, 3) := by decide +kernel
theorem dmn1_5 : decode jdk_29_method_69_code 5 = .ok (.iload_n 0, 1) := by decide +kernel
theorem dmn1_6 : decode jdk_29_method_69_code 6 = .ok (.goto 4, 3) := by decide +kernel
theorem dmn1_10 : decode jdk_29_method_69_code 10 = .ok (.ireturn, 1) := by decide +kernel
theorem ef_mn1 (m : MethodId) (x0 : Int32) (x1 : Int32) : entryFrame m #[(.int x0), (.int x1)] 2 = mkF m 0 #[.val (.int x0), .val (.int x1)] [] := by first | (simp [entryFrame, mkF, argsToLocals, Value.category]; done) | rfl
def Qmn1 (Z : State) (i1 : Int32) (i2 : Int32) (h0 : Heap) (n0 : Nat) (v : Option Value) (h : Heap) (L : List Loc) : Prop := v = some (.int i1) ∧ Fr n0 L ∧ h = h0
def Pmn1 (Z : State) (i1 : Int32) (i2 : Int32) (h0 : Heap) (n0 : Nat) (s : State) (oQ : Outcome) (U : State) : Prop := ∃ v L, oQ = .returned v ∧ Qmn1 Z i1 i2 h0 n0 v U.heap L ∧ FrameEnd s oQ U L ({ frames := 0, cells := 0, slots := 0, locals := 0 } : Room).cells ({ frames := 0, cells := 0, slots := 0, locals := 0 } : Room).slots
set_option maxRecDepth 65536 in
set_option maxHeartbeats 40000000 in
theorem rmmn1 (l : Launch) (Z : State) (a0 : Array Value) (hw : ∀ d ∈ tables_1, d.before a0 Z = true) (ws : List Jvm.Cond) (i1 : Int32) (i2 : Int32) (h0 : Heap) (n0 : Nat) (Z0 : n0 ≤ h0.size) (hm : ¬ i2 < i1) :
    MetFree l (⟨"java/lang/Math", "min", "(II)I"⟩ : MethodName) (head1 (Jvm.Cond.code (⟨"java/lang/Math", "min", "(II)I"⟩ : MethodName) jdk_29_method_69_code 2 (some .int) :: ws) ({ frames := 0, cells := 0, slots := 0, locals := 0 } : Room)) (fun aQ U => aQ = #[(.int i1), (.int i2)] ∧ Z.Warmed39 U.vm ∧ U.heap = h0) (fun _ _ _ _ _ => True) (fun _ U oQ U' => ∃ v L, oQ = .returned v ∧ Qmn1 Z i1 i2 h0 n0 v U'.heap L ∧ FrameEnd U oQ U' L ({ frames := 0, cells := 0, slots := 0, locals := 0 } : Room).cells ({ frames := 0, cells := 0, slots := 0, locals := 0 } : Room).slots) := by
  refine MetFree.of_bodySF (Jvm.Free.JP.mathPlain rfl (by decide +kernel)) hisR ?_
  intro p e s m args below meth c s₁ Bd hml0 hP hK
  obtain ⟨rfl, hZ, hh⟩ := hP
  have hx := Bd.exec
  have hby := Bd.bytes
  have hml : c.maxLocals = 2 := hml0
  have hown : s.vm.findClass "java/lang/Math" = some m.cls := findClass_of_methodNamed Bd.named
  have hnm := (name_of_methodNamed Bd.named Bd.method).1
  have X0 : Stand p l e ({ frames := 0, cells := 0, slots := 0, locals := 0 } : Room) s m #[(.int i1), (.int i2)] below meth c s₁ [] 0 0 := Stand.of_body Bd
  have e0 : s₁.heap = h0 := by rw [← hh, Bd.state]; rfl
  have Nf := Fr.nil n0
  have Zs : n0 ≤ h0.size := Z0
  have Kp : Keep h0 h0 [] := Keep.refl _ _
  have szr : h0.size ≤ h0.size := Nat.le_refl _
  show own_End p e below (Pmn1 Z i1 i2 h0 n0 s) (s₁.setTop (entryFrame m #[(.int i1), (.int i2)] 2))
  rw [ef_mn1]
  refine own_go (fun tQ kQ => XS.iloadN X0.here hx rfl (hb hby dmn1_0) rfl kQ) ?_
  show own_End p e below _ (s₁.setTop (mkF m 1 #[.val (.int i1), .val (.int i2)] [(.int i1)]))
  refine own_go (fun tQ kQ => XS.iloadN X0.here hx rfl (hb hby dmn1_1) rfl kQ) ?_
  show own_End p e below _ (s₁.setTop (mkF m 2 #[.val (.int i1), .val (.int i2)] [(.int i2), (.int i1)]))
  refine own_go (fun tQ kQ => XS.icmpNo X0.here hx rfl (hb hby dmn1_2) rfl (flt hm).2.2.1 kQ) ?_
  show own_End p e below _ (s₁.setTop (mkF m 5 #[.val (.int i1), .val (.int i2)] []))
  refine own_go (fun tQ kQ => XS.iloadN X0.here hx rfl (hb hby dmn1_5) rfl kQ) ?_
  show own_End p e below _ (s₁.setTop (mkF m 6 #[.val (.int i1), .val (.int i2)] [(.int i1)]))
  refine own_go (fun tQ kQ => XS.goto X0.here hx rfl (pc0 := 6) (pc' := 10) rfl (hb hby dmn1_6) (by decide) (by decide) kQ) ?_
  show own_End p e below _ (s₁.setTop (mkF m 10 #[.val (.int i1), .val (.int i2)] [(.int i1)]))
  obtain ⟨fs, hr, hrun, hended, hW, hsame⟩ := X0.leave (v := some (.int i1)) (fun h => by rw [Bd.returns] at h; cases h)
  refine ⟨_, _, (retI X0 hx Bd.returns (hb hby dmn1_10) hr), hrun, hended, _, _, rfl, ?_, ⟨_, rfl⟩, hW, hsame.mono (by decide) (by decide)⟩
  show Qmn1 Z i1 i2 h0 n0 _ s₁.heap _
  rw [e0]
  exact ⟨rfl, Nf, rfl⟩
theorem dmn2_0 : decode jdk_29_method_69_code 0 = .ok (.iload_n 0, 1) := by decide +kernel
theorem dmn2_1 : decode jdk_29_method_69_code 1 = .ok (.iload_n 1, 1) := by decide +kernel
theorem dmn2_2 : decode jdk_29_method_69_code 2 = .ok (.if_icmp .gt 7, 3) := by decide +kernel
theorem dmn2_9 : decode jdk_29_method_69_code 9 = .ok (.iload_n 1, 1) := by decide +kernel
theorem dmn2_10 : decode jdk_29_method_69_code 10 = .ok (.ireturn, 1) := by decide +kernel
theorem ef_mn2 (m : MethodId) (x0 : Int32) (x1 : Int32) : entryFrame m #[(.int x0), (.int x1)] 2 = mkF m 0 #[.val (.int x0), .val (.int x1)] [] := by first | (simp [entryFrame, mkF, argsToLocals, Value.category]; done) | rfl
def Qmn2 (Z : State) (i1 : Int32) (i2 : Int32) (h0 : Heap) (n0 : Nat) (v : Option Value) (h : Heap) (L : List Loc) : Prop := v = some (.int i2) ∧ Fr n0 L ∧ h = h0
def Pmn2 (Z : State) (i1 : Int32) (i2 : Int32) (h0 : Heap) (n0 : Nat) (s : State) (oQ : Outcome) (U : State) : Prop := ∃ v L, oQ = .returned v ∧ Qmn2 Z i1 i2 h0 n0 v U.heap L ∧ FrameEnd s oQ U L ({ frames := 0, cells := 0, slots := 0, locals := 0 } : Room).cells ({ frames := 0, cells := 0, slots := 0, locals := 0 } : Room).slots
set_option maxRecDepth 65536 in
set_option maxHeartbeats 40000000 in
theorem rmmn2 (l : Launch) (Z : State) (a0 : Array Value) (hw : ∀ d ∈ tables_1, d.before a0 Z = true) (ws : List Jvm.Cond) (i1 : Int32) (i2 : Int32) (h0 : Heap) (n0 : Nat) (Z0 : n0 ≤ h0.size) (hm : i2 < i1) :
    MetFree l (⟨"java/lang/Math", "min", "(II)I"⟩ : MethodName) (head1 (Jvm.Cond.code (⟨"java/lang/Math", "min", "(II)I"⟩ : MethodName) jdk_29_method_69_code 2 (some .int) :: ws) ({ frames := 0, cells := 0, slots := 0, locals := 0 } : Room)) (fun aQ U => aQ = #[(.int i1), (.int i2)] ∧ Z.Warmed39 U.vm ∧ U.heap = h0) (fun _ _ _ _ _ => True) (fun _ U oQ U' => ∃ v L, oQ = .returned v ∧ Qmn2 Z i1 i2 h0 n0 v U'.heap L ∧ FrameEnd U oQ U' L ({ frames := 0, cells := 0, slots := 0, locals := 0 } : Room).cells ({ frames := 0, cells := 0, slots := 0, locals := 0 } : Room).slots) := by
  refine MetFree.of_bodySF (Jvm.Free.JP.mathPlain rfl (by decide +kernel)) hisR ?_
  intro p e s m args below meth c s₁ Bd hml0 hP hK
  obtain ⟨rfl, hZ, hh⟩ := hP
  have hx := Bd.exec
  have hby := Bd.bytes
  have hml : c.maxLocals = 2 := hml0
  have hown : s.vm.findClass "java/lang/Math" = some m.cls := findClass_of_methodNamed Bd.named
  have hnm := (name_of_methodNamed Bd.named Bd.method).1
  have X0 : Stand p l e ({ frames := 0, cells := 0, slots := 0, locals := 0 } : Room) s m #[(.int i1), (.int i2)] below meth c s₁ [] 0 0 := Stand.of_body Bd
  have e0 : s₁.heap = h0 := by rw [← hh, Bd.state]; rfl
  have Nf := Fr.nil n0
  have Zs : n0 ≤ h0.size := Z0
  have Kp : Keep h0 h0 [] := Keep.refl _ _
  have szr : h0.size ≤ h0.size := Nat.le_refl _
  show own_End p e below (Pmn2 Z i1 i2 h0 n0 s) (s₁.setTop (entryFrame m #[(.int i1), (.int i2)] 2))
  rw [ef_mn2]
  refine own_go (fun tQ kQ => XS.iloadN X0.here hx rfl (hb hby dmn2_0) rfl kQ) ?_
  show own_End p e below _ (s₁.setTop (mkF m 1 #[.val (.int i1), .val (.int i2)] [(.int i1)]))
  refine own_go (fun tQ kQ => XS.iloadN X0.here hx rfl (hb hby dmn2_1) rfl kQ) ?_
  show own_End p e below _ (s₁.setTop (mkF m 2 #[.val (.int i1), .val (.int i2)] [(.int i2), (.int i1)]))
  refine own_go (fun tQ kQ => XS.icmpYes X0.here hx rfl (pc0 := 2) (pc' := 9) rfl (hb hby dmn2_2) rfl (tlt hm).2.2.1 (by decide) (by decide) kQ) ?_
  show own_End p e below _ (s₁.setTop (mkF m 9 #[.val (.int i1), .val (.int i2)] []))
  refine own_go (fun tQ kQ => XS.iloadN X0.here hx rfl (hb hby dmn2_9) rfl kQ) ?_
  show own_End p e below _ (s₁.setTop (mkF m 10 #[.val (.int i1), .val (.int i2)] [(.int i2)]))
  obtain ⟨fs, hr, hrun, hended, hW, hsame⟩ := X0.leave (v := some (.int i2)) (fun h => by rw [Bd.returns] at h; cases h)
  refine ⟨_, _, (retI X0 hx Bd.returns (hb hby dmn2_10) hr), hrun, hended, _, _, rfl, ?_, ⟨_, rfl⟩, hW, hsame.mono (by decide) (by decide)⟩
  show Qmn2 Z i1 i2 h0 n0 _ s₁.heap _
  rw [e0]
  exact ⟨rfl, Nf, rfl⟩
theorem dce_0 : decode jdk_43_method_4_code 0 = .ok (.iload_n 0, 1) := by decide +kernel
theorem dce_1 : decode jdk_43_method_4_code 1 = .ok (.ifCond .lt 14, 3) := by decide +kernel
theorem dce_4 : decode jdk_43_method_4_code 4 = .ok (.iload_n 0, 1) := by decide +kernel
theorem dce_5 : decode jdk_43_method_4_code 5 = .ok (.sipush 255, 3) := by decide +kernel
theorem dce_8 : decode jdk_43_method_4_code 8 = .ok (.if_icmp .gt 7, 3) := by decide +kernel
theorem dce_11 : decode jdk_43_method_4_code 11 = .ok (.iconst 1, 1) := by decide +kernel
theorem dce_12 : decode jdk_43_method_4_code 12 = .ok (.goto 4, 3) := by decide +kernel
theorem dce_16 : decode jdk_43_method_4_code 16 = .ok (.ireturn, 1) := by decide +kernel
theorem ef_ce (m : MethodId) (x0 : Int32) : entryFrame m #[(.int x0)] 1 = mkF m 0 #[.val (.int x0)] [] := by first | (simp [entryFrame, mkF, argsToLocals, Value.category]; done) | rfl
def Qce (Z : State)  (h0 : Heap) (n0 : Nat) (v : Option Value) (h : Heap) (L : List Loc) : Prop := v = some (.int 1) ∧ Fr n0 L ∧ h = h0
def Pce (Z : State)  (h0 : Heap) (n0 : Nat) (s : State) (oQ : Outcome) (U : State) : Prop := ∃ v L, oQ = .returned v ∧ Qce Z  h0 n0 v U.heap L ∧ FrameEnd s oQ U L ({ frames := 0, cells := 0, slots := 0, locals := 0 } : Room).cells ({ frames := 0, cells := 0, slots := 0, locals := 0 } : Room).slots
set_option maxRecDepth 65536 in
set_option maxHeartbeats 40000000 in
theorem rmce (l : Launch) (Z : State) (a0 : Array Value) (hw : ∀ d ∈ tables_1, d.before a0 Z = true) (ws : List Jvm.Cond)  (h0 : Heap) (n0 : Nat) (Z0 : n0 ≤ h0.size)  :
    MetFree l (⟨"java/lang/StringLatin1", "canEncode", "(I)Z"⟩ : MethodName) (head1 (Jvm.Cond.code (⟨"java/lang/StringLatin1", "canEncode", "(I)Z"⟩ : MethodName) jdk_43_method_4_code 1 (some .boolean) :: ws) ({ frames := 0, cells := 0, slots := 0, locals := 0 } : Room)) (fun aQ U => aQ = #[(.int (47 : Int32))] ∧ Z.Warmed39 U.vm ∧ U.heap = h0) (fun _ _ _ _ _ => True) (fun _ U oQ U' => ∃ v L, oQ = .returned v ∧ Qce Z  h0 n0 v U'.heap L ∧ FrameEnd U oQ U' L ({ frames := 0, cells := 0, slots := 0, locals := 0 } : Room).cells ({ frames := 0, cells := 0, slots := 0, locals := 0 } : Room).slots) := by
  refine MetFree.of_bodySF (plainFor_of_name pn_5) hisR ?_
  intro p e s m args below meth c s₁ Bd hml0 hP hK
  obtain ⟨rfl, hZ, hh⟩ := hP
  have hx := Bd.exec
  have hby := Bd.bytes
  have hml : c.maxLocals = 1 := hml0
  have hown : s.vm.findClass "java/lang/StringLatin1" = some m.cls := findClass_of_methodNamed Bd.named
  have hnm := (name_of_methodNamed Bd.named Bd.method).1
  have X0 : Stand p l e ({ frames := 0, cells := 0, slots := 0, locals := 0 } : Room) s m #[(.int (47 : Int32))] below meth c s₁ [] 0 0 := Stand.of_body Bd
  have e0 : s₁.heap = h0 := by rw [← hh, Bd.state]; rfl
  have Nf := Fr.nil n0
  have Zs : n0 ≤ h0.size := Z0
  have Kp : Keep h0 h0 [] := Keep.refl _ _
  have szr : h0.size ≤ h0.size := Nat.le_refl _
  show own_End p e below (Pce Z  h0 n0 s) (s₁.setTop (entryFrame m #[(.int (47 : Int32))] 1))
  rw [ef_ce]
  refine own_go (fun tQ kQ => XS.iloadN X0.here hx rfl (hb hby dce_0) rfl kQ) ?_
  show own_End p e below _ (s₁.setTop (mkF m 1 #[.val (.int (47 : Int32))] [(.int (47 : Int32))]))
  refine own_go (fun tQ kQ => XS.ifNo X0.here hx rfl (hb hby dce_1) rfl ((if0 _ _).trans (flt (by decide)).1) kQ) ?_
  show own_End p e below _ (s₁.setTop (mkF m 4 #[.val (.int (47 : Int32))] []))
  refine own_go (fun tQ kQ => XS.iloadN X0.here hx rfl (hb hby dce_4) rfl kQ) ?_
  show own_End p e below _ (s₁.setTop (mkF m 5 #[.val (.int (47 : Int32))] [(.int (47 : Int32))]))
  refine own_go (fun tQ kQ => XS.sipush X0.here hx rfl (hb hby dce_5) kQ) ?_
  show own_End p e below _ (s₁.setTop (mkF m 8 #[.val (.int (47 : Int32))] [(.int (255 : Int32)), (.int (47 : Int32))]))
  refine own_go (fun tQ kQ => XS.icmpNo X0.here hx rfl (hb hby dce_8) rfl (flt (by decide)).2.2.1 kQ) ?_
  show own_End p e below _ (s₁.setTop (mkF m 11 #[.val (.int (47 : Int32))] []))
  refine own_go (fun tQ kQ => XS.iconst X0.here hx rfl (hb hby dce_11) kQ) ?_
  show own_End p e below _ (s₁.setTop (mkF m 12 #[.val (.int (47 : Int32))] [(.int (1 : Int32))]))
  refine own_go (fun tQ kQ => XS.goto X0.here hx rfl (pc0 := 12) (pc' := 16) rfl (hb hby dce_12) (by decide) (by decide) kQ) ?_
  show own_End p e below _ (s₁.setTop (mkF m 16 #[.val (.int (47 : Int32))] [(.int (1 : Int32))]))
  obtain ⟨fs, hr, hrun, hended, hW, hsame⟩ := X0.leave (v := some (.int (1 : Int32))) (fun h => by rw [Bd.returns] at h; cases h)
  refine ⟨_, _, (retN X0 hx (t := .boolean) Bd.returns (by simp) (hb hby dce_16) hr), hrun, hended, _, _, rfl, ?_, ⟨_, rfl⟩, hW, hsame.mono (by decide) (by decide)⟩
  show Qce Z  h0 n0 _ s₁.heap _
  rw [e0]
  exact ⟨rfl, Nf, rfl⟩
theorem dic_0 : decode jdk_43_method_23_code 0 = .ok (.iload_n 1, 1) := by decide +kernel
theorem dic_1 : decode jdk_43_method_23_code 1 = .ok (.i2b, 1) := by decide +kernel
theorem dic_2 : decode jdk_43_method_23_code 2 = .ok (.istore 4, 2) := by decide +kernel
theorem dic_4 : decode jdk_43_method_23_code 4 = .ok (.iload_n 2, 1) := by decide +kernel
theorem dic_5 : decode jdk_43_method_23_code 5 = .ok (.istore 5, 2) := by decide +kernel
theorem dic_7 : decode jdk_43_method_23_code 7 = .ok (.iload 5, 2) := by decide +kernel
theorem dic_9 : decode jdk_43_method_23_code 9 = .ok (.iload_n 3, 1) := by decide +kernel
theorem dic_10 : decode jdk_43_method_23_code 10 = .ok (.if_icmp .ge 21, 3) := by decide +kernel
theorem dic_13 : decode jdk_43_method_23_code 13 = .ok (.aload_n 0, 1) := by decide +kernel
theorem dic_14 : decode jdk_43_method_23_code 14 = .ok (.iload 5, 2) := by decide +kernel
theorem dic_16 : decode jdk_43_method_23_code 16 = .ok (.baload, 1) := by decide +kernel
theorem dic_17 : decode jdk_43_method_23_code 17 = .ok (.iload 4, 2) := by decide +kernel
theorem dic_19 : decode jdk_43_method_23_code 19 = .ok (.if_icmp .ne 6, 3) := by decide +kernel
theorem dic_22 : decode jdk_43_method_23_code 22 = .ok (.iload 5, 2) := by decide +kernel
theorem dic_24 : decode jdk_43_method_23_code 24 = .ok (.ireturn, 1) := by decide +kernel
theorem dic_25 : decode jdk_43_method_23_code 25 = .ok (.iinc 5 1, 3) := by decide +kernel
theorem dic_28 : decode jdk_43_method_23_code 28 = .ok (.goto (-21), 3) := by decide +kernel
theorem ef_ic (m : MethodId) (x0 : Addr) (x1 : Int32) (x2 : Int32) (x3 : Int32) : entryFrame m #[(.ref x0), (.int x1), (.int x2), (.int x3)] 6 = mkF m 0 #[.val (.ref x0), .val (.int x1), .val (.int x2), .val (.int x3), .unset, .unset] [] := by first | (simp [entryFrame, mkF, argsToLocals, Value.category]; done) | rfl
def Qic (Z : State) (tt : Addr) (z : Int32) (bs : Nat → Int32) (N : Nat) (K : Nat) (kz : Int32) (h0 : Heap) (n0 : Nat) (v : Option Value) (h : Heap) (L : List Loc) : Prop := v = some (.int kz) ∧ Fr n0 L ∧ h = h0
def Pic (Z : State) (tt : Addr) (z : Int32) (bs : Nat → Int32) (N : Nat) (K : Nat) (kz : Int32) (h0 : Heap) (n0 : Nat) (s : State) (oQ : Outcome) (U : State) : Prop := ∃ v L, oQ = .returned v ∧ Qic Z tt z bs N K kz h0 n0 v U.heap L ∧ FrameEnd s oQ U L ({ frames := 0, cells := 0, slots := 0, locals := 0 } : Room).cells ({ frames := 0, cells := 0, slots := 0, locals := 0 } : Room).slots
set_option maxRecDepth 65536 in
set_option maxHeartbeats 40000000 in
theorem rmic (l : Launch) (Z : State) (a0 : Array Value) (hw : ∀ d ∈ tables_1, d.before a0 Z = true) (ws : List Jvm.Cond) (tt : Addr) (z : Int32) (bs : Nat → Int32) (N : Nat) (K : Nat) (kz : Int32) (h0 : Heap) (n0 : Nat) (Z0 : n0 ≤ h0.size) (V_tt : own_Ar Z h0 tt .byte z (fun j => .int (bs j))) (hz : z.toInt = N) (hkz : kz.toInt = K) (hKN : K < N) (hbk : bs K = ((47 : Int32).toInt8.toInt32)) (hlt : ∀ j, j < K → ¬ bs j = ((47 : Int32).toInt8.toInt32)) :
    MetFree l (⟨"java/lang/StringLatin1", "indexOfChar", "([BIII)I"⟩ : MethodName) (head1 (Jvm.Cond.code (⟨"java/lang/StringLatin1", "indexOfChar", "([BIII)I"⟩ : MethodName) jdk_43_method_23_code 6 (some .int) :: ws) ({ frames := 0, cells := 0, slots := 0, locals := 0 } : Room)) (fun aQ U => aQ = #[(.ref tt), (.int (47 : Int32)), (.int (0 : Int32)), (.int z)] ∧ Z.Warmed39 U.vm ∧ U.heap = h0) (fun _ _ _ _ _ => True) (fun _ U oQ U' => ∃ v L, oQ = .returned v ∧ Qic Z tt z bs N K kz h0 n0 v U'.heap L ∧ FrameEnd U oQ U' L ({ frames := 0, cells := 0, slots := 0, locals := 0 } : Room).cells ({ frames := 0, cells := 0, slots := 0, locals := 0 } : Room).slots) := by
  refine MetFree.of_bodySF (plainFor_of_name pn_5) hisR ?_
  intro p e s m args below meth c s₁ Bd hml0 hP hK
  obtain ⟨rfl, hZ, hh⟩ := hP
  have hx := Bd.exec
  have hby := Bd.bytes
  have hml : c.maxLocals = 6 := hml0
  have hown : s.vm.findClass "java/lang/StringLatin1" = some m.cls := findClass_of_methodNamed Bd.named
  have hnm := (name_of_methodNamed Bd.named Bd.method).1
  have X0 : Stand p l e ({ frames := 0, cells := 0, slots := 0, locals := 0 } : Room) s m #[(.ref tt), (.int (47 : Int32)), (.int (0 : Int32)), (.int z)] below meth c s₁ [] 0 0 := Stand.of_body Bd
  have e0 : s₁.heap = h0 := by rw [← hh, Bd.state]; rfl
  have Nf := Fr.nil n0
  have Zs : n0 ≤ h0.size := Z0
  have Kp : Keep h0 h0 [] := Keep.refl _ _
  have szr : h0.size ≤ h0.size := Nat.le_refl _
  show own_End p e below (Pic Z tt z bs N K kz h0 n0 s) (s₁.setTop (entryFrame m #[(.ref tt), (.int (47 : Int32)), (.int (0 : Int32)), (.int z)] 6))
  rw [ef_ic]
  have lp : ∀ (k : Nat) (i : Int32) (n : Nat) (T : State) (locs : List Loc) (h : Heap) (X : Stand p l e ({ frames := 0, cells := 0, slots := 0, locals := 0 } : Room) s m #[(.ref tt), (.int (47 : Int32)), (.int (0 : Int32)), (.int z)] below meth c T locs 0 0) (eT : T.heap = h) (Nf : Fr n0 locs) (Zs : n0 ≤ h.size) (Kp : Keep h0 h []) (szr : h0.size ≤ h.size) (V_tt : own_Ar Z h tt .byte z (fun j => .int (bs j))) (he : h = h0) (hi : i.toInt = n) (hk : n + k = K), own_End p e below (Pic Z tt z bs N K kz h0 n0 s) (T.setTop (mkF m 7 #[.val (.ref tt), .val (.int (47 : Int32)), .val (.int (0 : Int32)), .val (.int z), .val (.int ((47 : Int32).toInt8.toInt32)), .val (.int i)] [])) := by
    intro k
    induction k with
    | zero =>
      intro i n T locs h X eT Nf Zs Kp szr V_tt he hi hk
      have hnK : n = K := by omega
      refine own_go (fun tQ kQ => XS.iload X.here hx rfl (hb hby dic_7) rfl kQ) ?_
      show own_End p e below _ (T.setTop (mkF m 9 #[.val (.ref tt), .val (.int (47 : Int32)), .val (.int (0 : Int32)), .val (.int z), .val (.int ((47 : Int32).toInt8.toInt32)), .val (.int i)] [(.int i)]))
      refine own_go (fun tQ kQ => XS.iloadN X.here hx rfl (hb hby dic_9) rfl kQ) ?_
      show own_End p e below _ (T.setTop (mkF m 10 #[.val (.ref tt), .val (.int (47 : Int32)), .val (.int (0 : Int32)), .val (.int z), .val (.int ((47 : Int32).toInt8.toInt32)), .val (.int i)] [(.int z), (.int i)]))
      refine own_go (fun tQ kQ => XS.icmpNo X.here hx rfl (hb hby dic_10) rfl (tlt ((own_lt_of hi hz).mpr (by omega))).2.1 kQ) ?_
      show own_End p e below _ (T.setTop (mkF m 13 #[.val (.ref tt), .val (.int (47 : Int32)), .val (.int (0 : Int32)), .val (.int z), .val (.int ((47 : Int32).toInt8.toInt32)), .val (.int i)] []))
      refine own_go (fun tQ kQ => XS.aloadN X.here hx rfl (hb hby dic_13) rfl rfl kQ) ?_
      show own_End p e below _ (T.setTop (mkF m 14 #[.val (.ref tt), .val (.int (47 : Int32)), .val (.int (0 : Int32)), .val (.int z), .val (.int ((47 : Int32).toInt8.toInt32)), .val (.int i)] [(.ref tt)]))
      refine own_go (fun tQ kQ => XS.iload X.here hx rfl (hb hby dic_14) rfl kQ) ?_
      show own_End p e below _ (T.setTop (mkF m 16 #[.val (.ref tt), .val (.int (47 : Int32)), .val (.int (0 : Int32)), .val (.int z), .val (.int ((47 : Int32).toInt8.toInt32)), .val (.int i)] [(.int i), (.ref tt)]))
      obtain ⟨cl1, Ar1, S1, M1, H1⟩ := id V_tt
      have hin1 := inb_of (j := i) S1 ⟨own_nn hi, (own_lt_of hi hz).mpr (by omega)⟩
      refine own_go (fun tQ kQ => X.baloadBytes hx (j := i) (v := (.int (bs i.toNatClampNeg))) (by rw [eT]; exact Ar1.1) (State.isArrayOf_alike hZ.alike Ar1.2.1) Ar1.2.2 hin1 (H1 _ (own_in S1 hin1)) (g := (mkF m 16 #[.val (.ref tt), .val (.int (47 : Int32)), .val (.int (0 : Int32)), .val (.int z), .val (.int ((47 : Int32).toInt8.toInt32)), .val (.int i)] [(.int i), (.ref tt)])) rfl rfl (hb hby dic_16) _ kQ) ?_
      show own_End p e below _ (T.setTop (mkF m 17 #[.val (.ref tt), .val (.int (47 : Int32)), .val (.int (0 : Int32)), .val (.int z), .val (.int ((47 : Int32).toInt8.toInt32)), .val (.int i)] [(.int (bs i.toNatClampNeg))]))
      rw [own_clamp hi]
      show own_End p e below _ (T.setTop (mkF m 17 #[.val (.ref tt), .val (.int (47 : Int32)), .val (.int (0 : Int32)), .val (.int z), .val (.int ((47 : Int32).toInt8.toInt32)), .val (.int i)] [(.int (bs n))]))
      refine own_go (fun tQ kQ => XS.iload X.here hx rfl (hb hby dic_17) rfl kQ) ?_
      show own_End p e below _ (T.setTop (mkF m 19 #[.val (.ref tt), .val (.int (47 : Int32)), .val (.int (0 : Int32)), .val (.int z), .val (.int ((47 : Int32).toInt8.toInt32)), .val (.int i)] [(.int ((47 : Int32).toInt8.toInt32)), (.int (bs n))]))
      refine own_go (fun tQ kQ => XS.icmpNo X.here hx rfl (hb hby dic_19) rfl (teq (by rw [hnK]; exact hbk)).2 kQ) ?_
      show own_End p e below _ (T.setTop (mkF m 22 #[.val (.ref tt), .val (.int (47 : Int32)), .val (.int (0 : Int32)), .val (.int z), .val (.int ((47 : Int32).toInt8.toInt32)), .val (.int i)] []))
      refine own_go (fun tQ kQ => XS.iload X.here hx rfl (hb hby dic_22) rfl kQ) ?_
      show own_End p e below _ (T.setTop (mkF m 24 #[.val (.ref tt), .val (.int (47 : Int32)), .val (.int (0 : Int32)), .val (.int z), .val (.int ((47 : Int32).toInt8.toInt32)), .val (.int i)] [(.int i)]))
      obtain ⟨fs, hr, hrun, hended, hW, hsame⟩ := X.leave (v := some (.int i)) (fun h => by rw [Bd.returns] at h; cases h)
      refine ⟨_, _, (retI X hx Bd.returns (hb hby dic_24) hr), hrun, hended, _, _, rfl, ?_, ⟨_, rfl⟩, hW, hsame.mono (by decide) (by decide)⟩
      show Qic Z tt z bs N K kz h0 n0 _ T.heap _
      rw [eT]
      exact ⟨by rw [show i = kz from Int32.toInt_inj.mp (by omega)], Nf, he⟩
    | succ k ih =>
      intro i n T locs h X eT Nf Zs Kp szr V_tt he hi hk
      refine own_go (fun tQ kQ => XS.iload X.here hx rfl (hb hby dic_7) rfl kQ) ?_
      show own_End p e below _ (T.setTop (mkF m 9 #[.val (.ref tt), .val (.int (47 : Int32)), .val (.int (0 : Int32)), .val (.int z), .val (.int ((47 : Int32).toInt8.toInt32)), .val (.int i)] [(.int i)]))
      refine own_go (fun tQ kQ => XS.iloadN X.here hx rfl (hb hby dic_9) rfl kQ) ?_
      show own_End p e below _ (T.setTop (mkF m 10 #[.val (.ref tt), .val (.int (47 : Int32)), .val (.int (0 : Int32)), .val (.int z), .val (.int ((47 : Int32).toInt8.toInt32)), .val (.int i)] [(.int z), (.int i)]))
      refine own_go (fun tQ kQ => XS.icmpNo X.here hx rfl (hb hby dic_10) rfl (tlt ((own_lt_of hi hz).mpr (by omega))).2.1 kQ) ?_
      show own_End p e below _ (T.setTop (mkF m 13 #[.val (.ref tt), .val (.int (47 : Int32)), .val (.int (0 : Int32)), .val (.int z), .val (.int ((47 : Int32).toInt8.toInt32)), .val (.int i)] []))
      refine own_go (fun tQ kQ => XS.aloadN X.here hx rfl (hb hby dic_13) rfl rfl kQ) ?_
      show own_End p e below _ (T.setTop (mkF m 14 #[.val (.ref tt), .val (.int (47 : Int32)), .val (.int (0 : Int32)), .val (.int z), .val (.int ((47 : Int32).toInt8.toInt32)), .val (.int i)] [(.ref tt)]))
      refine own_go (fun tQ kQ => XS.iload X.here hx rfl (hb hby dic_14) rfl kQ) ?_
      show own_End p e below _ (T.setTop (mkF m 16 #[.val (.ref tt), .val (.int (47 : Int32)), .val (.int (0 : Int32)), .val (.int z), .val (.int ((47 : Int32).toInt8.toInt32)), .val (.int i)] [(.int i), (.ref tt)]))
      obtain ⟨cl2, Ar2, S2, M2, H2⟩ := id V_tt
      have hin2 := inb_of (j := i) S2 ⟨own_nn hi, (own_lt_of hi hz).mpr (by omega)⟩
      refine own_go (fun tQ kQ => X.baloadBytes hx (j := i) (v := (.int (bs i.toNatClampNeg))) (by rw [eT]; exact Ar2.1) (State.isArrayOf_alike hZ.alike Ar2.2.1) Ar2.2.2 hin2 (H2 _ (own_in S2 hin2)) (g := (mkF m 16 #[.val (.ref tt), .val (.int (47 : Int32)), .val (.int (0 : Int32)), .val (.int z), .val (.int ((47 : Int32).toInt8.toInt32)), .val (.int i)] [(.int i), (.ref tt)])) rfl rfl (hb hby dic_16) _ kQ) ?_
      show own_End p e below _ (T.setTop (mkF m 17 #[.val (.ref tt), .val (.int (47 : Int32)), .val (.int (0 : Int32)), .val (.int z), .val (.int ((47 : Int32).toInt8.toInt32)), .val (.int i)] [(.int (bs i.toNatClampNeg))]))
      rw [own_clamp hi]
      show own_End p e below _ (T.setTop (mkF m 17 #[.val (.ref tt), .val (.int (47 : Int32)), .val (.int (0 : Int32)), .val (.int z), .val (.int ((47 : Int32).toInt8.toInt32)), .val (.int i)] [(.int (bs n))]))
      refine own_go (fun tQ kQ => XS.iload X.here hx rfl (hb hby dic_17) rfl kQ) ?_
      show own_End p e below _ (T.setTop (mkF m 19 #[.val (.ref tt), .val (.int (47 : Int32)), .val (.int (0 : Int32)), .val (.int z), .val (.int ((47 : Int32).toInt8.toInt32)), .val (.int i)] [(.int ((47 : Int32).toInt8.toInt32)), (.int (bs n))]))
      refine own_go (fun tQ kQ => XS.icmpYes X.here hx rfl (pc0 := 19) (pc' := 25) rfl (hb hby dic_19) rfl (feq (hlt n (by omega))).2 (by decide) (by decide) kQ) ?_
      show own_End p e below _ (T.setTop (mkF m 25 #[.val (.ref tt), .val (.int (47 : Int32)), .val (.int (0 : Int32)), .val (.int z), .val (.int ((47 : Int32).toInt8.toInt32)), .val (.int i)] []))
      refine own_go (fun tQ kQ => XS.iinc X.here hx rfl (hb hby dic_25) rfl (l' := #[.val (.ref tt), .val (.int (47 : Int32)), .val (.int (0 : Int32)), .val (.int z), .val (.int ((47 : Int32).toInt8.toInt32)), .val (.int (i + (1 : Int32)))]) rfl kQ) ?_
      show own_End p e below _ (T.setTop (mkF m 28 #[.val (.ref tt), .val (.int (47 : Int32)), .val (.int (0 : Int32)), .val (.int z), .val (.int ((47 : Int32).toInt8.toInt32)), .val (.int (i + (1 : Int32)))] []))
      refine own_go (fun tQ kQ => XS.goto X.here hx rfl (pc0 := 28) (pc' := 7) rfl (hb hby dic_28) (by decide) (by decide) kQ) ?_
      show own_End p e below _ (T.setTop (mkF m 7 #[.val (.ref tt), .val (.int (47 : Int32)), .val (.int (0 : Int32)), .val (.int z), .val (.int ((47 : Int32).toInt8.toInt32)), .val (.int (i + (1 : Int32)))] []))
      exact ih (i + (1 : Int32)) (n + 1) T _ h X eT Nf Zs Kp szr V_tt he (own_inc hi (by have := (rng32 z).2; omega)) (by omega)
  refine own_go (fun tQ kQ => XS.iloadN X0.here hx rfl (hb hby dic_0) rfl kQ) ?_
  show own_End p e below _ (s₁.setTop (mkF m 1 #[.val (.ref tt), .val (.int (47 : Int32)), .val (.int (0 : Int32)), .val (.int z), .unset, .unset] [(.int (47 : Int32))]))
  refine own_go (fun tQ kQ => XS.i2b X0.here hx rfl (hb hby dic_1) rfl kQ) ?_
  show own_End p e below _ (s₁.setTop (mkF m 2 #[.val (.ref tt), .val (.int (47 : Int32)), .val (.int (0 : Int32)), .val (.int z), .unset, .unset] [(.int ((47 : Int32).toInt8.toInt32))]))
  refine own_go (fun tQ kQ => XS.istore X0.here hx rfl (hb hby dic_2) rfl (l' := #[.val (.ref tt), .val (.int (47 : Int32)), .val (.int (0 : Int32)), .val (.int z), .val (.int ((47 : Int32).toInt8.toInt32)), .unset]) rfl kQ) ?_
  show own_End p e below _ (s₁.setTop (mkF m 4 #[.val (.ref tt), .val (.int (47 : Int32)), .val (.int (0 : Int32)), .val (.int z), .val (.int ((47 : Int32).toInt8.toInt32)), .unset] []))
  refine own_go (fun tQ kQ => XS.iloadN X0.here hx rfl (hb hby dic_4) rfl kQ) ?_
  show own_End p e below _ (s₁.setTop (mkF m 5 #[.val (.ref tt), .val (.int (47 : Int32)), .val (.int (0 : Int32)), .val (.int z), .val (.int ((47 : Int32).toInt8.toInt32)), .unset] [(.int (0 : Int32))]))
  refine own_go (fun tQ kQ => XS.istore X0.here hx rfl (hb hby dic_5) rfl (l' := #[.val (.ref tt), .val (.int (47 : Int32)), .val (.int (0 : Int32)), .val (.int z), .val (.int ((47 : Int32).toInt8.toInt32)), .val (.int (0 : Int32))]) rfl kQ) ?_
  show own_End p e below _ (s₁.setTop (mkF m 7 #[.val (.ref tt), .val (.int (47 : Int32)), .val (.int (0 : Int32)), .val (.int z), .val (.int ((47 : Int32).toInt8.toInt32)), .val (.int (0 : Int32))] []))
  exact lp K (0 : Int32) 0 s₁ _ h0 X0 e0 Nf Zs Kp szr V_tt rfl (by decide) (by omega)
theorem pd_9 : parseMethodDescriptor "(I)Z" = some ⟨[.int], some .boolean⟩ := by decide +kernel
theorem pd_10 : parseMethodDescriptor "(II)I" = some ⟨[.int, .int], some .int⟩ := by decide +kernel
theorem pd_11 : parseMethodDescriptor "([BIII)I" = some ⟨[(.array .byte), .int, .int, .int], some .int⟩ := by decide +kernel
theorem dli_0 : decode jdk_43_method_22_code 0 = .ok (.iload_n 1, 1) := by decide +kernel
theorem dli_1 : decode jdk_43_method_22_code 1 = .ok (.invokestatic 88, 3) := by decide +kernel
theorem dli_4 : decode jdk_43_method_22_code 4 = .ok (.ifCond .ne 5, 3) := by decide +kernel
theorem dli_9 : decode jdk_43_method_22_code 9 = .ok (.iload_n 2, 1) := by decide +kernel
theorem dli_10 : decode jdk_43_method_22_code 10 = .ok (.iconst 0, 1) := by decide +kernel
theorem dli_11 : decode jdk_43_method_22_code 11 = .ok (.invokestatic 92, 3) := by decide +kernel
theorem dli_14 : decode jdk_43_method_22_code 14 = .ok (.istore_n 2, 1) := by decide +kernel
theorem dli_15 : decode jdk_43_method_22_code 15 = .ok (.iload_n 3, 1) := by decide +kernel
theorem dli_16 : decode jdk_43_method_22_code 16 = .ok (.aload_n 0, 1) := by decide +kernel
theorem dli_17 : decode jdk_43_method_22_code 17 = .ok (.arraylength, 1) := by decide +kernel
theorem dli_18 : decode jdk_43_method_22_code 18 = .ok (.invokestatic 38, 3) := by decide +kernel
theorem dli_21 : decode jdk_43_method_22_code 21 = .ok (.istore_n 3, 1) := by decide +kernel
theorem dli_22 : decode jdk_43_method_22_code 22 = .ok (.iload_n 2, 1) := by decide +kernel
theorem dli_23 : decode jdk_43_method_22_code 23 = .ok (.iload_n 3, 1) := by decide +kernel
theorem dli_24 : decode jdk_43_method_22_code 24 = .ok (.if_icmp .lt 5, 3) := by decide +kernel
theorem dli_29 : decode jdk_43_method_22_code 29 = .ok (.aload_n 0, 1) := by decide +kernel
theorem dli_30 : decode jdk_43_method_22_code 30 = .ok (.iload_n 1, 1) := by decide +kernel
theorem dli_31 : decode jdk_43_method_22_code 31 = .ok (.iload_n 2, 1) := by decide +kernel
theorem dli_32 : decode jdk_43_method_22_code 32 = .ok (.iload_n 3, 1) := by decide +kernel
theorem dli_33 : decode jdk_43_method_22_code 33 = .ok (.invokestatic 95, 3) := by decide +kernel
theorem dli_36 : decode jdk_43_method_22_code 36 = .ok (.ireturn, 1) := by decide +kernel
theorem ef_li (m : MethodId) (x0 : Addr) (x1 : Int32) (x2 : Int32) (x3 : Int32) : entryFrame m #[(.ref x0), (.int x1), (.int x2), (.int x3)] 4 = mkF m 0 #[.val (.ref x0), .val (.int x1), .val (.int x2), .val (.int x3)] [] := by first | (simp [entryFrame, mkF, argsToLocals, Value.category]; done) | rfl
def Qli (Z : State) (tt : Addr) (z : Int32) (bs : Nat → Int32) (N : Nat) (K : Nat) (kz : Int32) (h0 : Heap) (n0 : Nat) (v : Option Value) (h : Heap) (L : List Loc) : Prop := v = some (.int kz) ∧ Fr n0 L ∧ h = h0
def Pli (Z : State) (tt : Addr) (z : Int32) (bs : Nat → Int32) (N : Nat) (K : Nat) (kz : Int32) (h0 : Heap) (n0 : Nat) (s : State) (oQ : Outcome) (U : State) : Prop := ∃ v L, oQ = .returned v ∧ Qli Z tt z bs N K kz h0 n0 v U.heap L ∧ FrameEnd s oQ U L ({ frames := 1, cells := 0, slots := 0, locals := 17 } : Room).cells ({ frames := 1, cells := 0, slots := 0, locals := 17 } : Room).slots
set_option maxRecDepth 65536 in
set_option maxHeartbeats 40000000 in
theorem rmli (l : Launch) (Z : State) (a0 : Array Value) (hw : ∀ d ∈ tables_1, d.before a0 Z = true) (ws : List Jvm.Cond) (tt : Addr) (z : Int32) (bs : Nat → Int32) (N : Nat) (K : Nat) (kz : Int32) (h0 : Heap) (n0 : Nat) (Z0 : n0 ≤ h0.size) (V_tt : own_Ar Z h0 tt .byte z (fun j => .int (bs j))) (hz : z.toInt = N) (hkz : kz.toInt = K) (hKN : K < N) (hbk : bs K = ((47 : Int32).toInt8.toInt32)) (hlt : ∀ j, j < K → ¬ bs j = ((47 : Int32).toInt8.toInt32)) :
    MetFree l (⟨"java/lang/StringLatin1", "indexOf", "([BIII)I"⟩ : MethodName) (head1 (Jvm.Cond.code (⟨"java/lang/StringLatin1", "indexOf", "([BIII)I"⟩ : MethodName) jdk_43_method_22_code 4 (some .int) :: ws) ({ frames := 1, cells := 0, slots := 0, locals := 17 } : Room)) (fun aQ U => aQ = #[(.ref tt), (.int (47 : Int32)), (.int (0 : Int32)), (.int z)] ∧ Z.Warmed39 U.vm ∧ U.heap = h0) (fun _ _ _ _ _ => True) (fun _ U oQ U' => ∃ v L, oQ = .returned v ∧ Qli Z tt z bs N K kz h0 n0 v U'.heap L ∧ FrameEnd U oQ U' L ({ frames := 1, cells := 0, slots := 0, locals := 17 } : Room).cells ({ frames := 1, cells := 0, slots := 0, locals := 17 } : Room).slots) := by
  refine MetFree.of_bodySF (plainFor_of_name pn_5) hisR ?_
  intro p e s m args below meth c s₁ Bd hml0 hP hK
  obtain ⟨rfl, hZ, hh⟩ := hP
  have hx := Bd.exec
  have hby := Bd.bytes
  have hml : c.maxLocals = 4 := hml0
  have hown : s.vm.findClass "java/lang/StringLatin1" = some m.cls := findClass_of_methodNamed Bd.named
  have hnm := (name_of_methodNamed Bd.named Bd.method).1
  have X0 : Stand p l e ({ frames := 1, cells := 0, slots := 0, locals := 17 } : Room) s m #[(.ref tt), (.int (47 : Int32)), (.int (0 : Int32)), (.int z)] below meth c s₁ [] 0 0 := Stand.of_body Bd
  have e0 : s₁.heap = h0 := by rw [← hh, Bd.state]; rfl
  have Nf := Fr.nil n0
  have Zs : n0 ≤ h0.size := Z0
  have Kp : Keep h0 h0 [] := Keep.refl _ _
  have szr : h0.size ≤ h0.size := Nat.le_refl _
  show own_End p e below (Pli Z tt z bs N K kz h0 n0 s) (s₁.setTop (entryFrame m #[(.ref tt), (.int (47 : Int32)), (.int (0 : Int32)), (.int z)] 4))
  rw [ef_li]
  refine own_go (fun tQ kQ => XS.iloadN X0.here hx rfl (hb hby dli_0) rfl kQ) ?_
  show own_End p e below _ (s₁.setTop (mkF m 1 #[.val (.ref tt), .val (.int (47 : Int32)), .val (.int (0 : Int32)), .val (.int z)] [(.int (47 : Int32))]))
  obtain ⟨_, _, ⟨T1, L1, k1, n1⟩, -, X1, ⟨Lc1, hQ1, l1, y1, z1⟩, st1⟩ := Jvm.LawKit.callS X0 hx (y := (⟨"java/lang/StringLatin1", "canEncode", "(I)Z"⟩ : MethodName)) hown (mvT hZ (hw _ (List.mem_of_getElem? (i := 68) rfl))) (mvT hZ (hw _ (List.mem_of_getElem? (i := 69) rfl))) (mvT hZ (hw _ (List.mem_of_getElem? (i := 66) rfl))) (mvT hZ (hw _ (List.mem_of_getElem? (i := 70) rfl))) (by decide) (backOf (W := 0) (rmce l Z a0 hw []  h0 n0 Zs ) hZ (hw _ (List.mem_of_getElem? (i := 70) rfl)) (hw _ (List.mem_of_getElem? (i := 66) rfl)) (by decide) (by decide)) (g := (mkF m 1 #[.val (.ref tt), .val (.int (47 : Int32)), .val (.int (0 : Int32)), .val (.int z)] [(.int (47 : Int32))])) rfl (by rw [hml]; rfl) (argsL := [(.int (47 : Int32))]) (rest := []) (lenOf pd_9 rfl) rfl (by show 2 * 0 + _ ≤ _; exact Nat.le_of_eq rfl) (hb hby dli_1) (fun _ _ => ⟨rfl, e0, (Nat.le_of_ble_eq_true rfl), (Nat.le_of_ble_eq_true rfl)⟩)
  dsimp only [Pt.U, Pt.locs, Pt.cells, Pt.slots] at X1 l1 y1 z1 st1 hQ1
  subst l1 y1 z1
  obtain ⟨rfl, N1q, e1⟩ := hQ1
  have Nf := Fr.app Nf N1q
  refine own_go (fun tQ kQ => st1 tQ kQ) ?_
  show own_End p e below _ (T1.setTop (mkF m 4 #[.val (.ref tt), .val (.int (47 : Int32)), .val (.int (0 : Int32)), .val (.int z)] [(.int (1 : Int32))]))
  refine own_go (fun tQ kQ => XS.ifYes X1.here hx rfl (pc0 := 4) (pc' := 9) rfl (hb hby dli_4) rfl ((if0 _ _).trans (feq (by decide)).2) (by decide) (by decide) kQ) ?_
  show own_End p e below _ (T1.setTop (mkF m 9 #[.val (.ref tt), .val (.int (47 : Int32)), .val (.int (0 : Int32)), .val (.int z)] []))
  refine own_go (fun tQ kQ => XS.iloadN X1.here hx rfl (hb hby dli_9) rfl kQ) ?_
  show own_End p e below _ (T1.setTop (mkF m 10 #[.val (.ref tt), .val (.int (47 : Int32)), .val (.int (0 : Int32)), .val (.int z)] [(.int (0 : Int32))]))
  refine own_go (fun tQ kQ => XS.iconst X1.here hx rfl (hb hby dli_10) kQ) ?_
  show own_End p e below _ (T1.setTop (mkF m 11 #[.val (.ref tt), .val (.int (47 : Int32)), .val (.int (0 : Int32)), .val (.int z)] [(.int (0 : Int32)), (.int (0 : Int32))]))
  obtain ⟨_, _, ⟨T2, L2, k2, n2⟩, -, X2, ⟨Lc2, hQ2, l2, y2, z2⟩, st2⟩ := Jvm.LawKit.callS X1 hx (y := (⟨"java/lang/Math", "max", "(II)I"⟩ : MethodName)) hown (mvT hZ (hw _ (List.mem_of_getElem? (i := 71) rfl))) (mvT hZ (hw _ (List.mem_of_getElem? (i := 72) rfl))) (mvT hZ (hw _ (List.mem_of_getElem? (i := 73) rfl))) (mvT hZ (hw _ (List.mem_of_getElem? (i := 74) rfl))) (by decide) (backOf (W := 0) (rmmx l Z a0 hw [] (0 : Int32) (0 : Int32) h0 n0 Zs (by decide)) hZ (hw _ (List.mem_of_getElem? (i := 74) rfl)) (hw _ (List.mem_of_getElem? (i := 73) rfl)) (by decide) (by decide)) (g := (mkF m 11 #[.val (.ref tt), .val (.int (47 : Int32)), .val (.int (0 : Int32)), .val (.int z)] [(.int (0 : Int32)), (.int (0 : Int32))])) rfl (by rw [hml]; rfl) (argsL := [(.int (0 : Int32)), (.int (0 : Int32))]) (rest := []) (lenOf pd_10 rfl) rfl (by show 2 * 0 + _ ≤ _; exact Nat.le_of_eq rfl) (hb hby dli_11) (fun _ _ => ⟨rfl, e1, (Nat.le_of_ble_eq_true rfl), (Nat.le_of_ble_eq_true rfl)⟩)
  dsimp only [Pt.U, Pt.locs, Pt.cells, Pt.slots] at X2 l2 y2 z2 st2 hQ2
  subst l2 y2 z2
  obtain ⟨rfl, N2q, e2⟩ := hQ2
  have Nf := Fr.app Nf N2q
  refine own_go (fun tQ kQ => st2 tQ kQ) ?_
  show own_End p e below _ (T2.setTop (mkF m 14 #[.val (.ref tt), .val (.int (47 : Int32)), .val (.int (0 : Int32)), .val (.int z)] [(.int (0 : Int32))]))
  refine own_go (fun tQ kQ => XS.istoreN X2.here hx rfl (hb hby dli_14) rfl (l' := #[.val (.ref tt), .val (.int (47 : Int32)), .val (.int (0 : Int32)), .val (.int z)]) rfl kQ) ?_
  show own_End p e below _ (T2.setTop (mkF m 15 #[.val (.ref tt), .val (.int (47 : Int32)), .val (.int (0 : Int32)), .val (.int z)] []))
  refine own_go (fun tQ kQ => XS.iloadN X2.here hx rfl (hb hby dli_15) rfl kQ) ?_
  show own_End p e below _ (T2.setTop (mkF m 16 #[.val (.ref tt), .val (.int (47 : Int32)), .val (.int (0 : Int32)), .val (.int z)] [(.int z)]))
  refine own_go (fun tQ kQ => XS.aloadN X2.here hx rfl (hb hby dli_16) rfl rfl kQ) ?_
  show own_End p e below _ (T2.setTop (mkF m 17 #[.val (.ref tt), .val (.int (47 : Int32)), .val (.int (0 : Int32)), .val (.int z)] [(.ref tt), (.int z)]))
  obtain ⟨cl3, Ar3, S3, M3, H3⟩ := id V_tt
  refine own_go (fun tQ kQ => X2.arraylength hx (by rw [e2]; exact Ar3.1) (State.isArrayOf_alike hZ.alike Ar3.2.1) (g := (mkF m 17 #[.val (.ref tt), .val (.int (47 : Int32)), .val (.int (0 : Int32)), .val (.int z)] [(.ref tt), (.int z)])) rfl rfl (hb hby dli_17) _ kQ) ?_
  rw [len_of S3 M3]
  show own_End p e below _ (T2.setTop (mkF m 18 #[.val (.ref tt), .val (.int (47 : Int32)), .val (.int (0 : Int32)), .val (.int z)] [(.int z), (.int z)]))
  obtain ⟨_, _, ⟨T4, L4, k4, n4⟩, -, X4, ⟨Lc4, hQ4, l4, y4, z4⟩, st4⟩ := Jvm.LawKit.callS X2 hx (y := (⟨"java/lang/Math", "min", "(II)I"⟩ : MethodName)) hown (mvT hZ (hw _ (List.mem_of_getElem? (i := 75) rfl))) (mvT hZ (hw _ (List.mem_of_getElem? (i := 76) rfl))) (mvT hZ (hw _ (List.mem_of_getElem? (i := 73) rfl))) (mvT hZ (hw _ (List.mem_of_getElem? (i := 77) rfl))) (by decide) (backOf (W := 0) (rmmn1 l Z a0 hw [] z z h0 n0 Zs (by rw [Int32.lt_iff_toInt_lt]; omega)) hZ (hw _ (List.mem_of_getElem? (i := 77) rfl)) (hw _ (List.mem_of_getElem? (i := 73) rfl)) (by decide) (by decide)) (g := (mkF m 18 #[.val (.ref tt), .val (.int (47 : Int32)), .val (.int (0 : Int32)), .val (.int z)] [(.int z), (.int z)])) rfl (by rw [hml]; rfl) (argsL := [(.int z), (.int z)]) (rest := []) (lenOf pd_10 rfl) rfl (by show 2 * 0 + _ ≤ _; exact Nat.le_of_eq rfl) (hb hby dli_18) (fun _ _ => ⟨rfl, e2, (Nat.le_of_ble_eq_true rfl), (Nat.le_of_ble_eq_true rfl)⟩)
  dsimp only [Pt.U, Pt.locs, Pt.cells, Pt.slots] at X4 l4 y4 z4 st4 hQ4
  subst l4 y4 z4
  obtain ⟨rfl, N4q, e4⟩ := hQ4
  have Nf := Fr.app Nf N4q
  refine own_go (fun tQ kQ => st4 tQ kQ) ?_
  show own_End p e below _ (T4.setTop (mkF m 21 #[.val (.ref tt), .val (.int (47 : Int32)), .val (.int (0 : Int32)), .val (.int z)] [(.int z)]))
  refine own_go (fun tQ kQ => XS.istoreN X4.here hx rfl (hb hby dli_21) rfl (l' := #[.val (.ref tt), .val (.int (47 : Int32)), .val (.int (0 : Int32)), .val (.int z)]) rfl kQ) ?_
  show own_End p e below _ (T4.setTop (mkF m 22 #[.val (.ref tt), .val (.int (47 : Int32)), .val (.int (0 : Int32)), .val (.int z)] []))
  refine own_go (fun tQ kQ => XS.iloadN X4.here hx rfl (hb hby dli_22) rfl kQ) ?_
  show own_End p e below _ (T4.setTop (mkF m 23 #[.val (.ref tt), .val (.int (47 : Int32)), .val (.int (0 : Int32)), .val (.int z)] [(.int (0 : Int32))]))
  refine own_go (fun tQ kQ => XS.iloadN X4.here hx rfl (hb hby dli_23) rfl kQ) ?_
  show own_End p e below _ (T4.setTop (mkF m 24 #[.val (.ref tt), .val (.int (47 : Int32)), .val (.int (0 : Int32)), .val (.int z)] [(.int z), (.int (0 : Int32))]))
  refine own_go (fun tQ kQ => XS.icmpYes X4.here hx rfl (pc0 := 24) (pc' := 29) rfl (hb hby dli_24) rfl (tlt ((own_lt_of (by decide : (0 : Int32).toInt = (0 : Nat)) hz).mpr (by omega))).1 (by decide) (by decide) kQ) ?_
  show own_End p e below _ (T4.setTop (mkF m 29 #[.val (.ref tt), .val (.int (47 : Int32)), .val (.int (0 : Int32)), .val (.int z)] []))
  refine own_go (fun tQ kQ => XS.aloadN X4.here hx rfl (hb hby dli_29) rfl rfl kQ) ?_
  show own_End p e below _ (T4.setTop (mkF m 30 #[.val (.ref tt), .val (.int (47 : Int32)), .val (.int (0 : Int32)), .val (.int z)] [(.ref tt)]))
  refine own_go (fun tQ kQ => XS.iloadN X4.here hx rfl (hb hby dli_30) rfl kQ) ?_
  show own_End p e below _ (T4.setTop (mkF m 31 #[.val (.ref tt), .val (.int (47 : Int32)), .val (.int (0 : Int32)), .val (.int z)] [(.int (47 : Int32)), (.ref tt)]))
  refine own_go (fun tQ kQ => XS.iloadN X4.here hx rfl (hb hby dli_31) rfl kQ) ?_
  show own_End p e below _ (T4.setTop (mkF m 32 #[.val (.ref tt), .val (.int (47 : Int32)), .val (.int (0 : Int32)), .val (.int z)] [(.int (0 : Int32)), (.int (47 : Int32)), (.ref tt)]))
  refine own_go (fun tQ kQ => XS.iloadN X4.here hx rfl (hb hby dli_32) rfl kQ) ?_
  show own_End p e below _ (T4.setTop (mkF m 33 #[.val (.ref tt), .val (.int (47 : Int32)), .val (.int (0 : Int32)), .val (.int z)] [(.int z), (.int (0 : Int32)), (.int (47 : Int32)), (.ref tt)]))
  obtain ⟨_, _, ⟨T5, L5, k5, n5⟩, -, X5, ⟨Lc5, hQ5, l5, y5, z5⟩, st5⟩ := Jvm.LawKit.callS X4 hx (y := (⟨"java/lang/StringLatin1", "indexOfChar", "([BIII)I"⟩ : MethodName)) hown (mvT hZ (hw _ (List.mem_of_getElem? (i := 78) rfl))) (mvT hZ (hw _ (List.mem_of_getElem? (i := 79) rfl))) (mvT hZ (hw _ (List.mem_of_getElem? (i := 66) rfl))) (mvT hZ (hw _ (List.mem_of_getElem? (i := 80) rfl))) (by decide) (backOf (W := 0) (rmic l Z a0 hw [] tt z bs N K kz h0 n0 Zs V_tt hz hkz hKN hbk hlt) hZ (hw _ (List.mem_of_getElem? (i := 80) rfl)) (hw _ (List.mem_of_getElem? (i := 66) rfl)) (by decide) (by decide)) (g := (mkF m 33 #[.val (.ref tt), .val (.int (47 : Int32)), .val (.int (0 : Int32)), .val (.int z)] [(.int z), (.int (0 : Int32)), (.int (47 : Int32)), (.ref tt)])) rfl (by rw [hml]; rfl) (argsL := [(.ref tt), (.int (47 : Int32)), (.int (0 : Int32)), (.int z)]) (rest := []) (lenOf pd_11 rfl) rfl (by show 2 * 0 + _ ≤ _; exact Nat.le_of_eq rfl) (hb hby dli_33) (fun _ _ => ⟨rfl, e4, (Nat.le_of_ble_eq_true rfl), (Nat.le_of_ble_eq_true rfl)⟩)
  dsimp only [Pt.U, Pt.locs, Pt.cells, Pt.slots] at X5 l5 y5 z5 st5 hQ5
  subst l5 y5 z5
  obtain ⟨rfl, N5q, e5⟩ := hQ5
  have Nf := Fr.app Nf N5q
  refine own_go (fun tQ kQ => st5 tQ kQ) ?_
  show own_End p e below _ (T5.setTop (mkF m 36 #[.val (.ref tt), .val (.int (47 : Int32)), .val (.int (0 : Int32)), .val (.int z)] [(.int kz)]))
  obtain ⟨fs, hr, hrun, hended, hW, hsame⟩ := X5.leave (v := some (.int kz)) (fun h => by rw [Bd.returns] at h; cases h)
  refine ⟨_, _, (retI X5 hx Bd.returns (hb hby dli_36) hr), hrun, hended, _, _, rfl, ?_, ⟨_, rfl⟩, hW, hsame.mono (by decide) (by decide)⟩
  show Qli Z tt z bs N K kz h0 n0 _ T5.heap _
  rw [e5]
  exact ⟨rfl, Nf, rfl⟩
theorem pd_12 : parseMethodDescriptor "()I" = some ⟨[], some .int⟩ := by decide +kernel
theorem dsi2_0 : decode jdk_42_method_80_code 0 = .ok (.aload_n 0, 1) := by decide +kernel
theorem dsi2_1 : decode jdk_42_method_80_code 1 = .ok (.invokevirtual 492, 3) := by decide +kernel
theorem dsi2_4 : decode jdk_42_method_80_code 4 = .ok (.ifCond .eq 19, 3) := by decide +kernel
theorem dsi2_7 : decode jdk_42_method_80_code 7 = .ok (.aload_n 0, 1) := by decide +kernel
theorem dsi2_8 : decode jdk_42_method_80_code 8 = .ok (.getfield 9, 3) := by decide +kernel
theorem dsi2_11 : decode jdk_42_method_80_code 11 = .ok (.iload_n 1, 1) := by decide +kernel
theorem dsi2_12 : decode jdk_42_method_80_code 12 = .ok (.iload_n 2, 1) := by decide +kernel
theorem dsi2_13 : decode jdk_42_method_80_code 13 = .ok (.aload_n 0, 1) := by decide +kernel
theorem dsi2_14 : decode jdk_42_method_80_code 14 = .ok (.invokevirtual 505, 3) := by decide +kernel
theorem dsi2_17 : decode jdk_42_method_80_code 17 = .ok (.invokestatic 637, 3) := by decide +kernel
theorem dsi2_20 : decode jdk_42_method_80_code 20 = .ok (.goto 16, 3) := by decide +kernel
theorem dsi2_36 : decode jdk_42_method_80_code 36 = .ok (.ireturn, 1) := by decide +kernel
theorem ef_si2 (m : MethodId) (x0 : Addr) (x1 : Int32) (x2 : Int32) : entryFrame m #[(.ref x0), (.int x1), (.int x2)] 3 = mkF m 0 #[.val (.ref x0), .val (.int x1), .val (.int x2)] [] := by first | (simp [entryFrame, mkF, argsToLocals, Value.category]; done) | rfl
def Qsi2 (Z : State) (st : Addr) (tt : Addr) (z : Int32) (bs : Nat → Int32) (cz : Int32) (N : Nat) (K : Nat) (kz : Int32) (h0 : Heap) (n0 : Nat) (v : Option Value) (h : Heap) (L : List Loc) : Prop := v = some (.int kz) ∧ Fr n0 L ∧ h = h0
def Psi2 (Z : State) (st : Addr) (tt : Addr) (z : Int32) (bs : Nat → Int32) (cz : Int32) (N : Nat) (K : Nat) (kz : Int32) (h0 : Heap) (n0 : Nat) (s : State) (oQ : Outcome) (U : State) : Prop := ∃ v L, oQ = .returned v ∧ Qsi2 Z st tt z bs cz N K kz h0 n0 v U.heap L ∧ FrameEnd s oQ U L ({ frames := 2, cells := 0, slots := 0, locals := 32 } : Room).cells ({ frames := 2, cells := 0, slots := 0, locals := 32 } : Room).slots
set_option maxRecDepth 65536 in
set_option maxHeartbeats 40000000 in
theorem rmsi2 (l : Launch) (Z : State) (a0 : Array Value) (hw : ∀ d ∈ tables_1, d.before a0 Z = true) (ws : List Jvm.Cond) (st : Addr) (tt : Addr) (z : Int32) (bs : Nat → Int32) (cz : Int32) (N : Nat) (K : Nat) (kz : Int32) (h0 : Heap) (n0 : Nat) (Z0 : n0 ≤ h0.size) (E_st : Exa Z h0 st "java/lang/String") (F_value_st : Fld Z h0 st "java/lang/String" "value" "[B" (.ref tt)) (F_coder_st : Fld Z h0 st "java/lang/String" "coder" "B" (.int (0 : Int32))) (V_tt : own_Ar Z h0 tt .byte z (fun j => .int (bs j))) (Ol : Old Z n0 h0) (S_cs : Sta Z Z.heap "java/lang/String" "COMPACT_STRINGS" "Z" (.int cz)) (hcz : ¬ cz = 0) (hz : z.toInt = N) (hkz : kz.toInt = K) (hKN : K < N) (hbk : bs K = ((47 : Int32).toInt8.toInt32)) (hlt : ∀ j, j < K → ¬ bs j = ((47 : Int32).toInt8.toInt32)) :
    MetFree l (⟨"java/lang/String", "indexOf", "(II)I"⟩ : MethodName) (head1 (Jvm.Cond.code (⟨"java/lang/String", "indexOf", "(II)I"⟩ : MethodName) jdk_42_method_80_code 3 (some .int) :: ws) ({ frames := 2, cells := 0, slots := 0, locals := 32 } : Room)) (fun aQ U => aQ = #[(.ref st), (.int (47 : Int32)), (.int (0 : Int32))] ∧ Z.Warmed39 U.vm ∧ U.heap = h0) (fun _ _ _ _ _ => True) (fun _ U oQ U' => ∃ v L, oQ = .returned v ∧ Qsi2 Z st tt z bs cz N K kz h0 n0 v U'.heap L ∧ FrameEnd U oQ U' L ({ frames := 2, cells := 0, slots := 0, locals := 32 } : Room).cells ({ frames := 2, cells := 0, slots := 0, locals := 32 } : Room).slots) := by
  refine MetFree.of_bodySF (plainFor_of_name pn_0) hisR ?_
  intro p e s m args below meth c s₁ Bd hml0 hP hK
  obtain ⟨rfl, hZ, hh⟩ := hP
  have hx := Bd.exec
  have hby := Bd.bytes
  have hml : c.maxLocals = 3 := hml0
  have hown : s.vm.findClass "java/lang/String" = some m.cls := findClass_of_methodNamed Bd.named
  have hnm := (name_of_methodNamed Bd.named Bd.method).1
  have X0 : Stand p l e ({ frames := 2, cells := 0, slots := 0, locals := 32 } : Room) s m #[(.ref st), (.int (47 : Int32)), (.int (0 : Int32))] below meth c s₁ [] 0 0 := Stand.of_body Bd
  have e0 : s₁.heap = h0 := by rw [← hh, Bd.state]; rfl
  have Nf := Fr.nil n0
  have Zs : n0 ≤ h0.size := Z0
  have Kp : Keep h0 h0 [] := Keep.refl _ _
  have szr : h0.size ≤ h0.size := Nat.le_refl _
  show own_End p e below (Psi2 Z st tt z bs cz N K kz h0 n0 s) (s₁.setTop (entryFrame m #[(.ref st), (.int (47 : Int32)), (.int (0 : Int32))] 3))
  rw [ef_si2]
  refine own_go (fun tQ kQ => XS.aloadN X0.here hx rfl (hb hby dsi2_0) rfl rfl kQ) ?_
  show own_End p e below _ (s₁.setTop (mkF m 1 #[.val (.ref st), .val (.int (47 : Int32)), .val (.int (0 : Int32))] [(.ref st)]))
  obtain ⟨cq1, kq1, q1a, q1b, q1c⟩ := isOf hZ e0 E_st
  obtain ⟨_, _, ⟨T1, L1, k1, n1⟩, -, X1, ⟨Lc1, hQ1, l1, y1, z1⟩, st1⟩ := X0.virtualBack hx (y := (⟨"java/lang/String", "isLatin1", "()Z"⟩ : MethodName)) (z := (⟨"java/lang/String", "isLatin1", "()Z"⟩ : MethodName)) hown (mvT hZ (hw _ (List.mem_of_getElem? (i := 49) rfl))) (mvT hZ (hw _ (List.mem_of_getElem? (i := 50) rfl))) (notFace_of_selects (args := #[]) (mvT hZ (hw _ (List.mem_of_getElem? (i := 52) rfl)))) (mvT hZ (hw _ (List.mem_of_getElem? (i := 52) rfl))) (mvT hZ (hw _ (List.mem_of_getElem? (i := 51) rfl))) (by decide) (backOf (W := 0) (rmlat l Z a0 hw [] st tt z bs cz h0 n0 Zs E_st F_value_st F_coder_st V_tt Ol S_cs hcz) hZ (hw _ (List.mem_of_getElem? (i := 53) rfl)) (hw _ (List.mem_of_getElem? (i := 8) rfl)) (by decide) (by decide)) q1a q1c (g := (mkF m 1 #[.val (.ref st), .val (.int (47 : Int32)), .val (.int (0 : Int32))] [(.ref st)])) rfl (by rw [hml]; rfl) (Steps.refl _) (argsL := []) (rest := []) (lenOf pd_6 rfl) rfl (by show 2 * 0 + _ ≤ _; exact Nat.le_of_eq rfl) (hb hby dsi2_1) (fun _ _ => ⟨rfl, e0, (Nat.le_of_ble_eq_true rfl), (Nat.le_of_ble_eq_true rfl)⟩)
  dsimp only [Pt.U, Pt.locs, Pt.cells, Pt.slots] at X1 l1 y1 z1 st1 hQ1
  subst l1 y1 z1
  obtain ⟨rfl, N1q, e1⟩ := hQ1
  have Nf := Fr.app Nf N1q
  refine own_go (fun tQ kQ => st1.trans kQ) ?_
  show own_End p e below _ (T1.setTop (mkF m 4 #[.val (.ref st), .val (.int (47 : Int32)), .val (.int (0 : Int32))] [(.int (1 : Int32))]))
  refine own_go (fun tQ kQ => XS.ifNo X1.here hx rfl (hb hby dsi2_4) rfl ((if0 _ _).trans (feq (by decide)).1) kQ) ?_
  show own_End p e below _ (T1.setTop (mkF m 7 #[.val (.ref st), .val (.int (47 : Int32)), .val (.int (0 : Int32))] []))
  refine own_go (fun tQ kQ => XS.aloadN X1.here hx rfl (hb hby dsi2_7) rfl rfl kQ) ?_
  show own_End p e below _ (T1.setTop (mkF m 8 #[.val (.ref st), .val (.int (47 : Int32)), .val (.int (0 : Int32))] [(.ref st)]))
  obtain ⟨T2, X2, e2, st2⟩ := getF X1 hx hZ hown (host := "") (Or.inl (hw _ (List.mem_of_getElem? (i := 33) rfl))) Via.refl e1 F_value_st (g := (mkF m 8 #[.val (.ref st), .val (.int (47 : Int32)), .val (.int (0 : Int32))] [(.ref st)])) rfl rfl (hb hby dsi2_8)
  refine own_go (fun tQ kQ => st2 tQ kQ) ?_
  show own_End p e below _ (T2.setTop (mkF m 11 #[.val (.ref st), .val (.int (47 : Int32)), .val (.int (0 : Int32))] [(.ref tt)]))
  refine own_go (fun tQ kQ => XS.iloadN X2.here hx rfl (hb hby dsi2_11) rfl kQ) ?_
  show own_End p e below _ (T2.setTop (mkF m 12 #[.val (.ref st), .val (.int (47 : Int32)), .val (.int (0 : Int32))] [(.int (47 : Int32)), (.ref tt)]))
  refine own_go (fun tQ kQ => XS.iloadN X2.here hx rfl (hb hby dsi2_12) rfl kQ) ?_
  show own_End p e below _ (T2.setTop (mkF m 13 #[.val (.ref st), .val (.int (47 : Int32)), .val (.int (0 : Int32))] [(.int (0 : Int32)), (.int (47 : Int32)), (.ref tt)]))
  refine own_go (fun tQ kQ => XS.aloadN X2.here hx rfl (hb hby dsi2_13) rfl rfl kQ) ?_
  show own_End p e below _ (T2.setTop (mkF m 14 #[.val (.ref st), .val (.int (47 : Int32)), .val (.int (0 : Int32))] [(.ref st), (.int (0 : Int32)), (.int (47 : Int32)), (.ref tt)]))
  obtain ⟨cq3, kq3, q3a, q3b, q3c⟩ := isOf hZ e2 E_st
  obtain ⟨_, _, ⟨T3, L3, k3, n3⟩, -, X3, ⟨Lc3, hQ3, l3, y3, z3⟩, st3⟩ := X2.virtualBack hx (y := (⟨"java/lang/String", "length", "()I"⟩ : MethodName)) (z := (⟨"java/lang/String", "length", "()I"⟩ : MethodName)) hown (mvT hZ (hw _ (List.mem_of_getElem? (i := 54) rfl))) (mvT hZ (hw _ (List.mem_of_getElem? (i := 55) rfl))) (notFace_of_selects (args := #[]) (mvT hZ (hw _ (List.mem_of_getElem? (i := 57) rfl)))) (mvT hZ (hw _ (List.mem_of_getElem? (i := 57) rfl))) (mvT hZ (hw _ (List.mem_of_getElem? (i := 56) rfl))) (by decide) (backOf (W := 3) (rmlen l Z a0 hw [] st tt z bs cz h0 n0 Zs E_st F_value_st F_coder_st V_tt Ol S_cs hcz) hZ (hw _ (List.mem_of_getElem? (i := 58) rfl)) (hw _ (List.mem_of_getElem? (i := 8) rfl)) (by decide) (by decide)) q3a q3c (g := (mkF m 14 #[.val (.ref st), .val (.int (47 : Int32)), .val (.int (0 : Int32))] [(.ref st), (.int (0 : Int32)), (.int (47 : Int32)), (.ref tt)])) rfl (by rw [hml]; rfl) (Steps.refl _) (argsL := []) (rest := [(.int (0 : Int32)), (.int (47 : Int32)), (.ref tt)]) (lenOf pd_12 rfl) rfl (by show 2 * 0 + _ ≤ _; exact Nat.le_of_eq rfl) (hb hby dsi2_14) (fun _ _ => ⟨rfl, e2, (Nat.le_of_ble_eq_true rfl), (Nat.le_of_ble_eq_true rfl)⟩)
  dsimp only [Pt.U, Pt.locs, Pt.cells, Pt.slots] at X3 l3 y3 z3 st3 hQ3
  subst l3 y3 z3
  obtain ⟨rfl, N3q, e3⟩ := hQ3
  have Nf := Fr.app Nf N3q
  refine own_go (fun tQ kQ => st3.trans kQ) ?_
  show own_End p e below _ (T3.setTop (mkF m 17 #[.val (.ref st), .val (.int (47 : Int32)), .val (.int (0 : Int32))] [(.int z), (.int (0 : Int32)), (.int (47 : Int32)), (.ref tt)]))
  obtain ⟨_, _, ⟨T4, L4, k4, n4⟩, -, X4, ⟨Lc4, hQ4, l4, y4, z4⟩, st4⟩ := Jvm.LawKit.callS X3 hx (y := (⟨"java/lang/StringLatin1", "indexOf", "([BIII)I"⟩ : MethodName)) hown (mvT hZ (hw _ (List.mem_of_getElem? (i := 64) rfl))) (mvT hZ (hw _ (List.mem_of_getElem? (i := 65) rfl))) (mvT hZ (hw _ (List.mem_of_getElem? (i := 66) rfl))) (mvT hZ (hw _ (List.mem_of_getElem? (i := 67) rfl))) (by decide) (backOf (W := 0) (rmli l Z a0 hw [] tt z bs N K kz h0 n0 Zs V_tt hz hkz hKN hbk hlt) hZ (hw _ (List.mem_of_getElem? (i := 67) rfl)) (hw _ (List.mem_of_getElem? (i := 66) rfl)) (by decide) (by decide)) (g := (mkF m 17 #[.val (.ref st), .val (.int (47 : Int32)), .val (.int (0 : Int32))] [(.int z), (.int (0 : Int32)), (.int (47 : Int32)), (.ref tt)])) rfl (by rw [hml]; rfl) (argsL := [(.ref tt), (.int (47 : Int32)), (.int (0 : Int32)), (.int z)]) (rest := []) (lenOf pd_11 rfl) rfl (by show 2 * 0 + _ ≤ _; exact Nat.le_of_eq rfl) (hb hby dsi2_17) (fun _ _ => ⟨rfl, e3, (Nat.le_of_ble_eq_true rfl), (Nat.le_of_ble_eq_true rfl)⟩)
  dsimp only [Pt.U, Pt.locs, Pt.cells, Pt.slots] at X4 l4 y4 z4 st4 hQ4
  subst l4 y4 z4
  obtain ⟨rfl, N4q, e4⟩ := hQ4
  have Nf := Fr.app Nf N4q
  refine own_go (fun tQ kQ => st4 tQ kQ) ?_
  show own_End p e below _ (T4.setTop (mkF m 20 #[.val (.ref st), .val (.int (47 : Int32)), .val (.int (0 : Int32))] [(.int kz)]))
  refine own_go (fun tQ kQ => XS.goto X4.here hx rfl (pc0 := 20) (pc' := 36) rfl (hb hby dsi2_20) (by decide) (by decide) kQ) ?_
  show own_End p e below _ (T4.setTop (mkF m 36 #[.val (.ref st), .val (.int (47 : Int32)), .val (.int (0 : Int32))] [(.int kz)]))
  obtain ⟨fs, hr, hrun, hended, hW, hsame⟩ := X4.leave (v := some (.int kz)) (fun h => by rw [Bd.returns] at h; cases h)
  refine ⟨_, _, (retI X4 hx Bd.returns (hb hby dsi2_36) hr), hrun, hended, _, _, rfl, ?_, ⟨_, rfl⟩, hW, hsame.mono (by decide) (by decide)⟩
  show Qsi2 Z st tt z bs cz N K kz h0 n0 _ T4.heap _
  rw [e4]
  exact ⟨rfl, Nf, rfl⟩
theorem dsi1_0 : decode jdk_42_method_79_code 0 = .ok (.aload_n 0, 1) := by decide +kernel
theorem dsi1_1 : decode jdk_42_method_79_code 1 = .ok (.iload_n 1, 1) := by decide +kernel
theorem dsi1_2 : decode jdk_42_method_79_code 2 = .ok (.iconst 0, 1) := by decide +kernel
theorem dsi1_3 : decode jdk_42_method_79_code 3 = .ok (.invokevirtual 633, 3) := by decide +kernel
theorem dsi1_6 : decode jdk_42_method_79_code 6 = .ok (.ireturn, 1) := by decide +kernel
theorem ef_si1 (m : MethodId) (x0 : Addr) (x1 : Int32) : entryFrame m #[(.ref x0), (.int x1)] 2 = mkF m 0 #[.val (.ref x0), .val (.int x1)] [] := by first | (simp [entryFrame, mkF, argsToLocals, Value.category]; done) | rfl
def Qsi1 (Z : State) (st : Addr) (tt : Addr) (z : Int32) (bs : Nat → Int32) (cz : Int32) (N : Nat) (K : Nat) (kz : Int32) (h0 : Heap) (n0 : Nat) (v : Option Value) (h : Heap) (L : List Loc) : Prop := v = some (.int kz) ∧ Fr n0 L ∧ h = h0
def Psi1 (Z : State) (st : Addr) (tt : Addr) (z : Int32) (bs : Nat → Int32) (cz : Int32) (N : Nat) (K : Nat) (kz : Int32) (h0 : Heap) (n0 : Nat) (s : State) (oQ : Outcome) (U : State) : Prop := ∃ v L, oQ = .returned v ∧ Qsi1 Z st tt z bs cz N K kz h0 n0 v U.heap L ∧ FrameEnd s oQ U L ({ frames := 3, cells := 0, slots := 0, locals := 46 } : Room).cells ({ frames := 3, cells := 0, slots := 0, locals := 46 } : Room).slots
set_option maxRecDepth 65536 in
set_option maxHeartbeats 40000000 in
theorem rmsi1 (l : Launch) (Z : State) (a0 : Array Value) (hw : ∀ d ∈ tables_1, d.before a0 Z = true) (ws : List Jvm.Cond) (st : Addr) (tt : Addr) (z : Int32) (bs : Nat → Int32) (cz : Int32) (N : Nat) (K : Nat) (kz : Int32) (h0 : Heap) (n0 : Nat) (Z0 : n0 ≤ h0.size) (E_st : Exa Z h0 st "java/lang/String") (F_value_st : Fld Z h0 st "java/lang/String" "value" "[B" (.ref tt)) (F_coder_st : Fld Z h0 st "java/lang/String" "coder" "B" (.int (0 : Int32))) (V_tt : own_Ar Z h0 tt .byte z (fun j => .int (bs j))) (Ol : Old Z n0 h0) (S_cs : Sta Z Z.heap "java/lang/String" "COMPACT_STRINGS" "Z" (.int cz)) (hcz : ¬ cz = 0) (hz : z.toInt = N) (hkz : kz.toInt = K) (hKN : K < N) (hbk : bs K = ((47 : Int32).toInt8.toInt32)) (hlt : ∀ j, j < K → ¬ bs j = ((47 : Int32).toInt8.toInt32)) :
    MetFree l (⟨"java/lang/String", "indexOf", "(I)I"⟩ : MethodName) (head1 (Jvm.Cond.code (⟨"java/lang/String", "indexOf", "(I)I"⟩ : MethodName) jdk_42_method_79_code 2 (some .int) :: ws) ({ frames := 3, cells := 0, slots := 0, locals := 46 } : Room)) (fun aQ U => aQ = #[(.ref st), (.int (47 : Int32))] ∧ Z.Warmed39 U.vm ∧ U.heap = h0) (fun _ _ _ _ _ => True) (fun _ U oQ U' => ∃ v L, oQ = .returned v ∧ Qsi1 Z st tt z bs cz N K kz h0 n0 v U'.heap L ∧ FrameEnd U oQ U' L ({ frames := 3, cells := 0, slots := 0, locals := 46 } : Room).cells ({ frames := 3, cells := 0, slots := 0, locals := 46 } : Room).slots) := by
  refine MetFree.of_bodySF (plainFor_of_name pn_0) hisR ?_
  intro p e s m args below meth c s₁ Bd hml0 hP hK
  obtain ⟨rfl, hZ, hh⟩ := hP
  have hx := Bd.exec
  have hby := Bd.bytes
  have hml : c.maxLocals = 2 := hml0
  have hown : s.vm.findClass "java/lang/String" = some m.cls := findClass_of_methodNamed Bd.named
  have hnm := (name_of_methodNamed Bd.named Bd.method).1
  have X0 : Stand p l e ({ frames := 3, cells := 0, slots := 0, locals := 46 } : Room) s m #[(.ref st), (.int (47 : Int32))] below meth c s₁ [] 0 0 := Stand.of_body Bd
  have e0 : s₁.heap = h0 := by rw [← hh, Bd.state]; rfl
  have Nf := Fr.nil n0
  have Zs : n0 ≤ h0.size := Z0
  have Kp : Keep h0 h0 [] := Keep.refl _ _
  have szr : h0.size ≤ h0.size := Nat.le_refl _
  show own_End p e below (Psi1 Z st tt z bs cz N K kz h0 n0 s) (s₁.setTop (entryFrame m #[(.ref st), (.int (47 : Int32))] 2))
  rw [ef_si1]
  refine own_go (fun tQ kQ => XS.aloadN X0.here hx rfl (hb hby dsi1_0) rfl rfl kQ) ?_
  show own_End p e below _ (s₁.setTop (mkF m 1 #[.val (.ref st), .val (.int (47 : Int32))] [(.ref st)]))
  refine own_go (fun tQ kQ => XS.iloadN X0.here hx rfl (hb hby dsi1_1) rfl kQ) ?_
  show own_End p e below _ (s₁.setTop (mkF m 2 #[.val (.ref st), .val (.int (47 : Int32))] [(.int (47 : Int32)), (.ref st)]))
  refine own_go (fun tQ kQ => XS.iconst X0.here hx rfl (hb hby dsi1_2) kQ) ?_
  show own_End p e below _ (s₁.setTop (mkF m 3 #[.val (.ref st), .val (.int (47 : Int32))] [(.int (0 : Int32)), (.int (47 : Int32)), (.ref st)]))
  obtain ⟨cq1, kq1, q1a, q1b, q1c⟩ := isOf hZ e0 E_st
  obtain ⟨_, _, ⟨T1, L1, k1, n1⟩, -, X1, ⟨Lc1, hQ1, l1, y1, z1⟩, st1⟩ := X0.virtualBack hx (y := (⟨"java/lang/String", "indexOf", "(II)I"⟩ : MethodName)) (z := (⟨"java/lang/String", "indexOf", "(II)I"⟩ : MethodName)) hown (mvT hZ (hw _ (List.mem_of_getElem? (i := 44) rfl))) (mvT hZ (hw _ (List.mem_of_getElem? (i := 45) rfl))) (notFace_of_selects (args := #[]) (mvT hZ (hw _ (List.mem_of_getElem? (i := 47) rfl)))) (mvT hZ (hw _ (List.mem_of_getElem? (i := 47) rfl))) (mvT hZ (hw _ (List.mem_of_getElem? (i := 46) rfl))) (by decide) (backOf (W := 0) (rmsi2 l Z a0 hw [] st tt z bs cz N K kz h0 n0 Zs E_st F_value_st F_coder_st V_tt Ol S_cs hcz hz hkz hKN hbk hlt) hZ (hw _ (List.mem_of_getElem? (i := 48) rfl)) (hw _ (List.mem_of_getElem? (i := 8) rfl)) (by decide) (by decide)) q1a q1c (g := (mkF m 3 #[.val (.ref st), .val (.int (47 : Int32))] [(.int (0 : Int32)), (.int (47 : Int32)), (.ref st)])) rfl (by rw [hml]; rfl) (Steps.refl _) (argsL := [(.int (47 : Int32)), (.int (0 : Int32))]) (rest := []) (lenOf pd_10 rfl) rfl (by show 2 * 0 + _ ≤ _; exact Nat.le_of_eq rfl) (hb hby dsi1_3) (fun _ _ => ⟨rfl, e0, (Nat.le_of_ble_eq_true rfl), (Nat.le_of_ble_eq_true rfl)⟩)
  dsimp only [Pt.U, Pt.locs, Pt.cells, Pt.slots] at X1 l1 y1 z1 st1 hQ1
  subst l1 y1 z1
  obtain ⟨rfl, N1q, e1⟩ := hQ1
  have Nf := Fr.app Nf N1q
  refine own_go (fun tQ kQ => st1.trans kQ) ?_
  show own_End p e below _ (T1.setTop (mkF m 6 #[.val (.ref st), .val (.int (47 : Int32))] [(.int kz)]))
  obtain ⟨fs, hr, hrun, hended, hW, hsame⟩ := X1.leave (v := some (.int kz)) (fun h => by rw [Bd.returns] at h; cases h)
  refine ⟨_, _, (retI X1 hx Bd.returns (hb hby dsi1_6) hr), hrun, hended, _, _, rfl, ?_, ⟨_, rfl⟩, hW, hsame.mono (by decide) (by decide)⟩
  show Qsi1 Z st tt z bs cz N K kz h0 n0 _ T1.heap _
  rw [e1]
  exact ⟨rfl, Nf, rfl⟩
theorem dcft_0 : decode jdk_41_method_12_code 0 = .ok (.iload_n 0, 1) := by decide +kernel
theorem dcft_1 : decode jdk_41_method_12_code 1 = .ok (.ifCond .lt 13, 3) := by decide +kernel
theorem dcft_4 : decode jdk_41_method_12_code 4 = .ok (.iload_n 0, 1) := by decide +kernel
theorem dcft_5 : decode jdk_41_method_12_code 5 = .ok (.iload_n 1, 1) := by decide +kernel
theorem dcft_6 : decode jdk_41_method_12_code 6 = .ok (.if_icmp .gt 8, 3) := by decide +kernel
theorem dcft_9 : decode jdk_41_method_12_code 9 = .ok (.iload_n 1, 1) := by decide +kernel
theorem dcft_10 : decode jdk_41_method_12_code 10 = .ok (.iload_n 2, 1) := by decide +kernel
theorem dcft_11 : decode jdk_41_method_12_code 11 = .ok (.if_icmp .le 11, 3) := by decide +kernel
theorem dcft_22 : decode jdk_41_method_12_code 22 = .ok (.iload_n 0, 1) := by decide +kernel
theorem dcft_23 : decode jdk_41_method_12_code 23 = .ok (.ireturn, 1) := by decide +kernel
theorem ef_cft (m : MethodId) (x0 : Int32) (x1 : Int32) (x2 : Int32) (x3 : Value) (hx3 : x3.isRef = true) : entryFrame m #[(.int x0), (.int x1), (.int x2), x3] 4 = mkF m 0 #[.val (.int x0), .val (.int x1), .val (.int x2), .val x3] [] := by
  rcases ref_cases hx3 with rfl | ⟨_, rfl⟩
  all_goals first | (simp [entryFrame, mkF, argsToLocals, Value.category]; done) | rfl
def Qcft (Z : State) (kz : Int32) (z : Int32) (fm : Value) (h0 : Heap) (n0 : Nat) (v : Option Value) (h : Heap) (L : List Loc) : Prop := v = some (.int 0) ∧ Fr n0 L ∧ h = h0
def Pcft (Z : State) (kz : Int32) (z : Int32) (fm : Value) (h0 : Heap) (n0 : Nat) (s : State) (oQ : Outcome) (U : State) : Prop := ∃ v L, oQ = .returned v ∧ Qcft Z kz z fm h0 n0 v U.heap L ∧ FrameEnd s oQ U L ({ frames := 0, cells := 0, slots := 0, locals := 0 } : Room).cells ({ frames := 0, cells := 0, slots := 0, locals := 0 } : Room).slots
set_option maxRecDepth 65536 in
set_option maxHeartbeats 40000000 in
theorem rmcft (l : Launch) (Z : State) (a0 : Array Value) (hw : ∀ d ∈ tables_1, d.before a0 Z = true) (ws : List Jvm.Cond) (kz : Int32) (z : Int32) (fm : Value) (h0 : Heap) (n0 : Nat) (Z0 : n0 ≤ h0.size) (rfm : fm.isRef = true) (hk0 : ¬ kz < 0) (hk1 : ¬ z < kz) :
    MetFree l (⟨"jdk/internal/util/Preconditions", "checkFromToIndex", "(IIILjava/util/function/BiFunction;)I"⟩ : MethodName) (head1 (Jvm.Cond.code (⟨"jdk/internal/util/Preconditions", "checkFromToIndex", "(IIILjava/util/function/BiFunction;)I"⟩ : MethodName) jdk_41_method_12_code 4 (some .int) :: ws) ({ frames := 0, cells := 0, slots := 0, locals := 0 } : Room)) (fun aQ U => aQ = #[(.int (0 : Int32)), (.int kz), (.int z), fm] ∧ Z.Warmed39 U.vm ∧ U.heap = h0) (fun _ _ _ _ _ => True) (fun _ U oQ U' => ∃ v L, oQ = .returned v ∧ Qcft Z kz z fm h0 n0 v U'.heap L ∧ FrameEnd U oQ U' L ({ frames := 0, cells := 0, slots := 0, locals := 0 } : Room).cells ({ frames := 0, cells := 0, slots := 0, locals := 0 } : Room).slots) := by
  refine MetFree.of_bodySF (plainFor_of_name pn_2) hisR ?_
  intro p e s m args below meth c s₁ Bd hml0 hP hK
  obtain ⟨rfl, hZ, hh⟩ := hP
  have hx := Bd.exec
  have hby := Bd.bytes
  have hml : c.maxLocals = 4 := hml0
  have hown : s.vm.findClass "jdk/internal/util/Preconditions" = some m.cls := findClass_of_methodNamed Bd.named
  have hnm := (name_of_methodNamed Bd.named Bd.method).1
  have X0 : Stand p l e ({ frames := 0, cells := 0, slots := 0, locals := 0 } : Room) s m #[(.int (0 : Int32)), (.int kz), (.int z), fm] below meth c s₁ [] 0 0 := Stand.of_body Bd
  have e0 : s₁.heap = h0 := by rw [← hh, Bd.state]; rfl
  have Nf := Fr.nil n0
  have Zs : n0 ≤ h0.size := Z0
  have Kp : Keep h0 h0 [] := Keep.refl _ _
  have szr : h0.size ≤ h0.size := Nat.le_refl _
  show own_End p e below (Pcft Z kz z fm h0 n0 s) (s₁.setTop (entryFrame m #[(.int (0 : Int32)), (.int kz), (.int z), fm] 4))
  rw [ef_cft m _ _ _ _ rfm]
  refine own_go (fun tQ kQ => XS.iloadN X0.here hx rfl (hb hby dcft_0) rfl kQ) ?_
  show own_End p e below _ (s₁.setTop (mkF m 1 #[.val (.int (0 : Int32)), .val (.int kz), .val (.int z), .val fm] [(.int (0 : Int32))]))
  refine own_go (fun tQ kQ => XS.ifNo X0.here hx rfl (hb hby dcft_1) rfl ((if0 _ _).trans (flt (by decide)).1) kQ) ?_
  show own_End p e below _ (s₁.setTop (mkF m 4 #[.val (.int (0 : Int32)), .val (.int kz), .val (.int z), .val fm] []))
  refine own_go (fun tQ kQ => XS.iloadN X0.here hx rfl (hb hby dcft_4) rfl kQ) ?_
  show own_End p e below _ (s₁.setTop (mkF m 5 #[.val (.int (0 : Int32)), .val (.int kz), .val (.int z), .val fm] [(.int (0 : Int32))]))
  refine own_go (fun tQ kQ => XS.iloadN X0.here hx rfl (hb hby dcft_5) rfl kQ) ?_
  show own_End p e below _ (s₁.setTop (mkF m 6 #[.val (.int (0 : Int32)), .val (.int kz), .val (.int z), .val fm] [(.int kz), (.int (0 : Int32))]))
  refine own_go (fun tQ kQ => XS.icmpNo X0.here hx rfl (hb hby dcft_6) rfl (flt hk0).2.2.1 kQ) ?_
  show own_End p e below _ (s₁.setTop (mkF m 9 #[.val (.int (0 : Int32)), .val (.int kz), .val (.int z), .val fm] []))
  refine own_go (fun tQ kQ => XS.iloadN X0.here hx rfl (hb hby dcft_9) rfl kQ) ?_
  show own_End p e below _ (s₁.setTop (mkF m 10 #[.val (.int (0 : Int32)), .val (.int kz), .val (.int z), .val fm] [(.int kz)]))
  refine own_go (fun tQ kQ => XS.iloadN X0.here hx rfl (hb hby dcft_10) rfl kQ) ?_
  show own_End p e below _ (s₁.setTop (mkF m 11 #[.val (.int (0 : Int32)), .val (.int kz), .val (.int z), .val fm] [(.int z), (.int kz)]))
  refine own_go (fun tQ kQ => XS.icmpYes X0.here hx rfl (pc0 := 11) (pc' := 22) rfl (hb hby dcft_11) rfl (flt hk1).2.2.2 (by decide) (by decide) kQ) ?_
  show own_End p e below _ (s₁.setTop (mkF m 22 #[.val (.int (0 : Int32)), .val (.int kz), .val (.int z), .val fm] []))
  refine own_go (fun tQ kQ => XS.iloadN X0.here hx rfl (hb hby dcft_22) rfl kQ) ?_
  show own_End p e below _ (s₁.setTop (mkF m 23 #[.val (.int (0 : Int32)), .val (.int kz), .val (.int z), .val fm] [(.int (0 : Int32))]))
  obtain ⟨fs, hr, hrun, hended, hW, hsame⟩ := X0.leave (v := some (.int (0 : Int32))) (fun h => by rw [Bd.returns] at h; cases h)
  refine ⟨_, _, (retI X0 hx Bd.returns (hb hby dcft_23) hr), hrun, hended, _, _, rfl, ?_, ⟨_, rfl⟩, hW, hsame.mono (by decide) (by decide)⟩
  show Qcft Z kz z fm h0 n0 _ s₁.heap _
  rw [e0]
  exact ⟨rfl, Nf, rfl⟩
theorem pd_13 : parseMethodDescriptor "(IIILjava/util/function/BiFunction;)I" = some ⟨[.int, .int, .int, (.object "java/util/function/BiFunction")], some .int⟩ := by decide +kernel
theorem dcbe_0 : decode jdk_42_method_158_code 0 = .ok (.iload_n 0, 1) := by decide +kernel
theorem dcbe_1 : decode jdk_42_method_158_code 1 = .ok (.iload_n 1, 1) := by decide +kernel
theorem dcbe_2 : decode jdk_42_method_158_code 2 = .ok (.iload_n 2, 1) := by decide +kernel
theorem dcbe_3 : decode jdk_42_method_158_code 3 = .ok (.getstatic 1053, 3) := by decide +kernel
theorem dcbe_6 : decode jdk_42_method_158_code 6 = .ok (.invokestatic 1062, 3) := by decide +kernel
theorem dcbe_9 : decode jdk_42_method_158_code 9 = .ok (.pop, 1) := by decide +kernel
theorem dcbe_10 : decode jdk_42_method_158_code 10 = .ok (.return_, 1) := by decide +kernel
theorem ef_cbe (m : MethodId) (x0 : Int32) (x1 : Int32) (x2 : Int32) : entryFrame m #[(.int x0), (.int x1), (.int x2)] 3 = mkF m 0 #[.val (.int x0), .val (.int x1), .val (.int x2)] [] := by first | (simp [entryFrame, mkF, argsToLocals, Value.category]; done) | rfl
def Qcbe (Z : State) (kz : Int32) (z : Int32) (fm : Value) (h0 : Heap) (n0 : Nat) (v : Option Value) (h : Heap) (L : List Loc) : Prop := v = none ∧ Fr n0 L ∧ h = h0
def Pcbe (Z : State) (kz : Int32) (z : Int32) (fm : Value) (h0 : Heap) (n0 : Nat) (s : State) (oQ : Outcome) (U : State) : Prop := ∃ v L, oQ = .returned v ∧ Qcbe Z kz z fm h0 n0 v U.heap L ∧ FrameEnd s oQ U L ({ frames := 1, cells := 0, slots := 0, locals := 15 } : Room).cells ({ frames := 1, cells := 0, slots := 0, locals := 15 } : Room).slots
set_option maxRecDepth 65536 in
set_option maxHeartbeats 40000000 in
theorem rmcbe (l : Launch) (Z : State) (a0 : Array Value) (hw : ∀ d ∈ tables_1, d.before a0 Z = true) (ws : List Jvm.Cond) (kz : Int32) (z : Int32) (fm : Value) (h0 : Heap) (n0 : Nat) (Z0 : n0 ≤ h0.size) (Ol : Old Z n0 h0) (S_fm : Sta Z Z.heap "jdk/internal/util/Preconditions" "SIOOBE_FORMATTER" "Ljava/util/function/BiFunction;" fm) (rfm : fm.isRef = true) (hk0 : ¬ kz < 0) (hk1 : ¬ z < kz) :
    MetFree l (⟨"java/lang/String", "checkBoundsBeginEnd", "(III)V"⟩ : MethodName) (head1 (Jvm.Cond.code (⟨"java/lang/String", "checkBoundsBeginEnd", "(III)V"⟩ : MethodName) jdk_42_method_158_code 3 none :: ws) ({ frames := 1, cells := 0, slots := 0, locals := 15 } : Room)) (fun aQ U => aQ = #[(.int (0 : Int32)), (.int kz), (.int z)] ∧ Z.Warmed39 U.vm ∧ U.heap = h0) (fun _ _ _ _ _ => True) (fun _ U oQ U' => ∃ v L, oQ = .returned v ∧ Qcbe Z kz z fm h0 n0 v U'.heap L ∧ FrameEnd U oQ U' L ({ frames := 1, cells := 0, slots := 0, locals := 15 } : Room).cells ({ frames := 1, cells := 0, slots := 0, locals := 15 } : Room).slots) := by
  refine MetFree.of_bodySF (plainFor_of_name pn_0) hisR ?_
  intro p e s m args below meth c s₁ Bd hml0 hP hK
  obtain ⟨rfl, hZ, hh⟩ := hP
  have hx := Bd.exec
  have hby := Bd.bytes
  have hml : c.maxLocals = 3 := hml0
  have hown : s.vm.findClass "java/lang/String" = some m.cls := findClass_of_methodNamed Bd.named
  have hnm := (name_of_methodNamed Bd.named Bd.method).1
  have X0 : Stand p l e ({ frames := 1, cells := 0, slots := 0, locals := 15 } : Room) s m #[(.int (0 : Int32)), (.int kz), (.int z)] below meth c s₁ [] 0 0 := Stand.of_body Bd
  have e0 : s₁.heap = h0 := by rw [← hh, Bd.state]; rfl
  have Nf := Fr.nil n0
  have Zs : n0 ≤ h0.size := Z0
  have Kp : Keep h0 h0 [] := Keep.refl _ _
  have szr : h0.size ≤ h0.size := Nat.le_refl _
  show own_End p e below (Pcbe Z kz z fm h0 n0 s) (s₁.setTop (entryFrame m #[(.int (0 : Int32)), (.int kz), (.int z)] 3))
  rw [ef_cbe]
  refine own_go (fun tQ kQ => XS.iloadN X0.here hx rfl (hb hby dcbe_0) rfl kQ) ?_
  show own_End p e below _ (s₁.setTop (mkF m 1 #[.val (.int (0 : Int32)), .val (.int kz), .val (.int z)] [(.int (0 : Int32))]))
  refine own_go (fun tQ kQ => XS.iloadN X0.here hx rfl (hb hby dcbe_1) rfl kQ) ?_
  show own_End p e below _ (s₁.setTop (mkF m 2 #[.val (.int (0 : Int32)), .val (.int kz), .val (.int z)] [(.int kz), (.int (0 : Int32))]))
  refine own_go (fun tQ kQ => XS.iloadN X0.here hx rfl (hb hby dcbe_2) rfl kQ) ?_
  show own_End p e below _ (s₁.setTop (mkF m 3 #[.val (.int (0 : Int32)), .val (.int kz), .val (.int z)] [(.int z), (.int kz), (.int (0 : Int32))]))
  obtain ⟨T1, X1, e1, st1⟩ := getS2 X0 hx hZ hown (host := "") (Or.inl (hw _ (List.mem_of_getElem? (i := 89) rfl))) Via.refl e0 (S_fm.ext Ol.2) (g := (mkF m 3 #[.val (.int (0 : Int32)), .val (.int kz), .val (.int z)] [(.int z), (.int kz), (.int (0 : Int32))])) rfl (hb hby dcbe_3)
  refine own_go (fun tQ kQ => st1 tQ kQ) ?_
  show own_End p e below _ (T1.setTop (mkF m 6 #[.val (.int (0 : Int32)), .val (.int kz), .val (.int z)] [fm, (.int z), (.int kz), (.int (0 : Int32))]))
  obtain ⟨_, _, ⟨T2, L2, k2, n2⟩, -, X2, ⟨Lc2, hQ2, l2, y2, z2⟩, st2⟩ := Jvm.LawKit.callS X1 hx (y := (⟨"jdk/internal/util/Preconditions", "checkFromToIndex", "(IIILjava/util/function/BiFunction;)I"⟩ : MethodName)) hown (mvT hZ (hw _ (List.mem_of_getElem? (i := 91) rfl))) (mvT hZ (hw _ (List.mem_of_getElem? (i := 92) rfl))) (mvT hZ (hw _ (List.mem_of_getElem? (i := 90) rfl))) (mvT hZ (hw _ (List.mem_of_getElem? (i := 93) rfl))) (by decide) (backOf (W := 0) (rmcft l Z a0 hw [] kz z fm h0 n0 Zs rfm hk0 hk1) hZ (hw _ (List.mem_of_getElem? (i := 93) rfl)) (hw _ (List.mem_of_getElem? (i := 90) rfl)) (by decide) (by decide)) (g := (mkF m 6 #[.val (.int (0 : Int32)), .val (.int kz), .val (.int z)] [fm, (.int z), (.int kz), (.int (0 : Int32))])) rfl (by rw [hml]; rfl) (argsL := [(.int (0 : Int32)), (.int kz), (.int z), fm]) (rest := []) (lenOf pd_13 rfl) rfl (by show 2 * 0 + _ ≤ _; exact Nat.le_of_eq rfl) (hb hby dcbe_6) (fun _ _ => ⟨rfl, e1, (Nat.le_of_ble_eq_true rfl), (Nat.le_of_ble_eq_true rfl)⟩)
  dsimp only [Pt.U, Pt.locs, Pt.cells, Pt.slots] at X2 l2 y2 z2 st2 hQ2
  subst l2 y2 z2
  obtain ⟨rfl, N2q, e2⟩ := hQ2
  have Nf := Fr.app Nf N2q
  refine own_go (fun tQ kQ => st2 tQ kQ) ?_
  show own_End p e below _ (T2.setTop (mkF m 9 #[.val (.int (0 : Int32)), .val (.int kz), .val (.int z)] [(.int (0 : Int32))]))
  refine own_go (fun tQ kQ => XS.pop X2.here hx rfl (hb hby dcbe_9) rfl rfl kQ) ?_
  show own_End p e below _ (T2.setTop (mkF m 10 #[.val (.int (0 : Int32)), .val (.int kz), .val (.int z)] []))
  obtain ⟨fs, hr, hrun, hended, hW, hsame⟩ := X2.leave (v := none) (fun _ => rfl)
  refine ⟨_, _, X2.returnOut hx Bd.returns (hb hby dcbe_10) hr, hrun, hended, _, _, rfl, ?_, ⟨_, rfl⟩, hW, hsame.mono (by decide) (by decide)⟩
  show Qcbe Z kz z fm h0 n0 _ T2.heap _
  rw [e2]
  exact ⟨rfl, Nf, rfl⟩
theorem dcl_0 : decode jdk_65_method_131_code 0 = .ok (.iload_n 1, 1) := by decide +kernel
theorem dcl_1 : decode jdk_65_method_131_code 1 = .ok (.iload_n 0, 1) := by decide +kernel
theorem dcl_2 : decode jdk_65_method_131_code 2 = .ok (.if_icmp .ge 35, 3) := by decide +kernel
theorem dcl_37 : decode jdk_65_method_131_code 37 = .ok (.return_, 1) := by decide +kernel
theorem pn_14 : plainName "java/util/Arrays" = true := by first | (simp [plainName, overriddenIn]; done) | decide +kernel
theorem ef_cl (m : MethodId) (x0 : Int32) (x1 : Int32) : entryFrame m #[(.int x0), (.int x1)] 2 = mkF m 0 #[.val (.int x0), .val (.int x1)] [] := by first | (simp [entryFrame, mkF, argsToLocals, Value.category]; done) | rfl
def Qcl (Z : State) (kz : Int32) (h0 : Heap) (n0 : Nat) (v : Option Value) (h : Heap) (L : List Loc) : Prop := v = none ∧ Fr n0 L ∧ h = h0
def Pcl (Z : State) (kz : Int32) (h0 : Heap) (n0 : Nat) (s : State) (oQ : Outcome) (U : State) : Prop := ∃ v L, oQ = .returned v ∧ Qcl Z kz h0 n0 v U.heap L ∧ FrameEnd s oQ U L ({ frames := 0, cells := 0, slots := 0, locals := 0 } : Room).cells ({ frames := 0, cells := 0, slots := 0, locals := 0 } : Room).slots
set_option maxRecDepth 65536 in
set_option maxHeartbeats 40000000 in
theorem rmcl (l : Launch) (Z : State) (a0 : Array Value) (hw : ∀ d ∈ tables_1, d.before a0 Z = true) (ws : List Jvm.Cond) (kz : Int32) (h0 : Heap) (n0 : Nat) (Z0 : n0 ≤ h0.size) (hk0 : ¬ kz < 0) :
    MetFree l (⟨"java/util/Arrays", "checkLength", "(II)V"⟩ : MethodName) (head1 (Jvm.Cond.code (⟨"java/util/Arrays", "checkLength", "(II)V"⟩ : MethodName) jdk_65_method_131_code 2 none :: ws) ({ frames := 0, cells := 0, slots := 0, locals := 0 } : Room)) (fun aQ U => aQ = #[(.int (0 : Int32)), (.int kz)] ∧ Z.Warmed39 U.vm ∧ U.heap = h0) (fun _ _ _ _ _ => True) (fun _ U oQ U' => ∃ v L, oQ = .returned v ∧ Qcl Z kz h0 n0 v U'.heap L ∧ FrameEnd U oQ U' L ({ frames := 0, cells := 0, slots := 0, locals := 0 } : Room).cells ({ frames := 0, cells := 0, slots := 0, locals := 0 } : Room).slots) := by
  refine MetFree.of_bodySF (plainFor_of_name pn_14) hisR ?_
  intro p e s m args below meth c s₁ Bd hml0 hP hK
  obtain ⟨rfl, hZ, hh⟩ := hP
  have hx := Bd.exec
  have hby := Bd.bytes
  have hml : c.maxLocals = 2 := hml0
  have hown : s.vm.findClass "java/util/Arrays" = some m.cls := findClass_of_methodNamed Bd.named
  have hnm := (name_of_methodNamed Bd.named Bd.method).1
  have X0 : Stand p l e ({ frames := 0, cells := 0, slots := 0, locals := 0 } : Room) s m #[(.int (0 : Int32)), (.int kz)] below meth c s₁ [] 0 0 := Stand.of_body Bd
  have e0 : s₁.heap = h0 := by rw [← hh, Bd.state]; rfl
  have Nf := Fr.nil n0
  have Zs : n0 ≤ h0.size := Z0
  have Kp : Keep h0 h0 [] := Keep.refl _ _
  have szr : h0.size ≤ h0.size := Nat.le_refl _
  show own_End p e below (Pcl Z kz h0 n0 s) (s₁.setTop (entryFrame m #[(.int (0 : Int32)), (.int kz)] 2))
  rw [ef_cl]
  refine own_go (fun tQ kQ => XS.iloadN X0.here hx rfl (hb hby dcl_0) rfl kQ) ?_
  show own_End p e below _ (s₁.setTop (mkF m 1 #[.val (.int (0 : Int32)), .val (.int kz)] [(.int kz)]))
  refine own_go (fun tQ kQ => XS.iloadN X0.here hx rfl (hb hby dcl_1) rfl kQ) ?_
  show own_End p e below _ (s₁.setTop (mkF m 2 #[.val (.int (0 : Int32)), .val (.int kz)] [(.int (0 : Int32)), (.int kz)]))
  refine own_go (fun tQ kQ => XS.icmpYes X0.here hx rfl (pc0 := 2) (pc' := 37) rfl (hb hby dcl_2) rfl (flt hk0).2.1 (by decide) (by decide) kQ) ?_
  show own_End p e below _ (s₁.setTop (mkF m 37 #[.val (.int (0 : Int32)), .val (.int kz)] []))
  obtain ⟨fs, hr, hrun, hended, hW, hsame⟩ := X0.leave (v := none) (fun _ => rfl)
  refine ⟨_, _, X0.returnOut hx Bd.returns (hb hby dcl_37) hr, hrun, hended, _, _, rfl, ?_, ⟨_, rfl⟩, hW, hsame.mono (by decide) (by decide)⟩
  show Qcl Z kz h0 n0 _ s₁.heap _
  rw [e0]
  exact ⟨rfl, Nf, rfl⟩
theorem dcrb_0 : decode jdk_65_method_133_code 0 = .ok (.iload_n 1, 1) := by decide +kernel
theorem dcrb_1 : decode jdk_65_method_133_code 1 = .ok (.iload_n 2, 1) := by decide +kernel
theorem dcrb_2 : decode jdk_65_method_133_code 2 = .ok (.invokestatic 343, 3) := by decide +kernel
theorem dcrb_5 : decode jdk_65_method_133_code 5 = .ok (.iload_n 2, 1) := by decide +kernel
theorem dcrb_6 : decode jdk_65_method_133_code 6 = .ok (.iload_n 1, 1) := by decide +kernel
theorem dcrb_7 : decode jdk_65_method_133_code 7 = .ok (.isub, 1) := by decide +kernel
theorem dcrb_8 : decode jdk_65_method_133_code 8 = .ok (.istore_n 3, 1) := by decide +kernel
theorem dcrb_9 : decode jdk_65_method_133_code 9 = .ok (.iload_n 3, 1) := by decide +kernel
theorem dcrb_10 : decode jdk_65_method_133_code 10 = .ok (.newarray .byte, 2) := by decide +kernel
theorem dcrb_12 : decode jdk_65_method_133_code 12 = .ok (.astore 4, 2) := by decide +kernel
theorem dcrb_14 : decode jdk_65_method_133_code 14 = .ok (.aload_n 0, 1) := by decide +kernel
theorem dcrb_15 : decode jdk_65_method_133_code 15 = .ok (.iload_n 1, 1) := by decide +kernel
theorem dcrb_16 : decode jdk_65_method_133_code 16 = .ok (.aload 4, 2) := by decide +kernel
theorem dcrb_18 : decode jdk_65_method_133_code 18 = .ok (.iconst 0, 1) := by decide +kernel
theorem dcrb_19 : decode jdk_65_method_133_code 19 = .ok (.aload_n 0, 1) := by decide +kernel
theorem dcrb_20 : decode jdk_65_method_133_code 20 = .ok (.arraylength, 1) := by decide +kernel
theorem dcrb_21 : decode jdk_65_method_133_code 21 = .ok (.iload_n 1, 1) := by decide +kernel
theorem dcrb_22 : decode jdk_65_method_133_code 22 = .ok (.isub, 1) := by decide +kernel
theorem dcrb_23 : decode jdk_65_method_133_code 23 = .ok (.iload_n 3, 1) := by decide +kernel
theorem dcrb_24 : decode jdk_65_method_133_code 24 = .ok (.invokestatic 304, 3) := by decide +kernel
theorem dcrb_27 : decode jdk_65_method_133_code 27 = .ok (.invokestatic 150, 3) := by decide +kernel
theorem dcrb_30 : decode jdk_65_method_133_code 30 = .ok (.aload 4, 2) := by decide +kernel
theorem dcrb_32 : decode jdk_65_method_133_code 32 = .ok (.areturn, 1) := by decide +kernel
theorem ef_crb (m : MethodId) (x0 : Addr) (x1 : Int32) (x2 : Int32) : entryFrame m #[(.ref x0), (.int x1), (.int x2)] 5 = mkF m 0 #[.val (.ref x0), .val (.int x1), .val (.int x2), .unset, .unset] [] := by first | (simp [entryFrame, mkF, argsToLocals, Value.category]; done) | rfl
def Qcrb (Z : State) (tt : Addr) (z : Int32) (bs : Nat → Int32) (N : Nat) (K : Nat) (kz : Int32) (h0 : Heap) (n0 : Nat) (v : Option Value) (h : Heap) (L : List Loc) : Prop := ∃ tr, v = some (.ref tr) ∧ Fr n0 L ∧ Keep h0 h [] ∧ h0.size ≤ tr ∧ own_Ar Z h tr .byte kz (fun j => .int (bs j))
def Pcrb (Z : State) (tt : Addr) (z : Int32) (bs : Nat → Int32) (N : Nat) (K : Nat) (kz : Int32) (h0 : Heap) (n0 : Nat) (s : State) (oQ : Outcome) (U : State) : Prop := ∃ v L, oQ = .returned v ∧ Qcrb Z tt z bs N K kz h0 n0 v U.heap L ∧ FrameEnd s oQ U L ({ frames := 1, cells := 1, slots := 4, locals := 60 } : Room).cells ({ frames := 1, cells := 1, slots := 4, locals := 60 } : Room).slots
set_option maxRecDepth 65536 in
set_option maxHeartbeats 40000000 in
theorem rmcrb (l : Launch) (Z : State) (a0 : Array Value) (hw : ∀ d ∈ tables_1, d.before a0 Z = true) (ws : List Jvm.Cond) (tt : Addr) (z : Int32) (bs : Nat → Int32) (N : Nat) (K : Nat) (kz : Int32) (h0 : Heap) (n0 : Nat) (Z0 : n0 ≤ h0.size) (V_tt : own_Ar Z h0 tt .byte z (fun j => .int (bs j))) (hz : z.toInt = N) (hkz : kz.toInt = K) (hKN : K < N) (hK4 : K ≤ 4) (hfb : ∀ j, fits .byte (.int (bs j)) = true) :
    MetFree l (⟨"java/util/Arrays", "copyOfRangeByte", "([BII)[B"⟩ : MethodName) (head1 (Jvm.Cond.code (⟨"java/util/Arrays", "copyOfRangeByte", "([BII)[B"⟩ : MethodName) jdk_65_method_133_code 5 (some (.array .byte)) :: ws) ({ frames := 1, cells := 1, slots := 4, locals := 60 } : Room)) (fun aQ U => aQ = #[(.ref tt), (.int (0 : Int32)), (.int kz)] ∧ Z.Warmed39 U.vm ∧ U.heap = h0) (fun _ _ _ _ _ => True) (fun _ U oQ U' => ∃ v L, oQ = .returned v ∧ Qcrb Z tt z bs N K kz h0 n0 v U'.heap L ∧ FrameEnd U oQ U' L ({ frames := 1, cells := 1, slots := 4, locals := 60 } : Room).cells ({ frames := 1, cells := 1, slots := 4, locals := 60 } : Room).slots) := by
  refine MetFree.of_bodySF (plainFor_of_name pn_14) hisR ?_
  intro p e s m args below meth c s₁ Bd hml0 hP hK
  obtain ⟨rfl, hZ, hh⟩ := hP
  have hx := Bd.exec
  have hby := Bd.bytes
  have hml : c.maxLocals = 5 := hml0
  have hown : s.vm.findClass "java/util/Arrays" = some m.cls := findClass_of_methodNamed Bd.named
  have hnm := (name_of_methodNamed Bd.named Bd.method).1
  have X0 : Stand p l e ({ frames := 1, cells := 1, slots := 4, locals := 60 } : Room) s m #[(.ref tt), (.int (0 : Int32)), (.int kz)] below meth c s₁ [] 0 0 := Stand.of_body Bd
  have e0 : s₁.heap = h0 := by rw [← hh, Bd.state]; rfl
  have Nf := Fr.nil n0
  have Zs : n0 ≤ h0.size := Z0
  have Kp : Keep h0 h0 [] := Keep.refl _ _
  have szr : h0.size ≤ h0.size := Nat.le_refl _
  show own_End p e below (Pcrb Z tt z bs N K kz h0 n0 s) (s₁.setTop (entryFrame m #[(.ref tt), (.int (0 : Int32)), (.int kz)] 5))
  rw [ef_crb]
  refine own_go (fun tQ kQ => XS.iloadN X0.here hx rfl (hb hby dcrb_0) rfl kQ) ?_
  show own_End p e below _ (s₁.setTop (mkF m 1 #[.val (.ref tt), .val (.int (0 : Int32)), .val (.int kz), .unset, .unset] [(.int (0 : Int32))]))
  refine own_go (fun tQ kQ => XS.iloadN X0.here hx rfl (hb hby dcrb_1) rfl kQ) ?_
  show own_End p e below _ (s₁.setTop (mkF m 2 #[.val (.ref tt), .val (.int (0 : Int32)), .val (.int kz), .unset, .unset] [(.int kz), (.int (0 : Int32))]))
  obtain ⟨_, _, ⟨T1, L1, k1, n1⟩, -, X1, ⟨Lc1, hQ1, l1, y1, z1⟩, st1⟩ := Jvm.LawKit.callS X0 hx (y := (⟨"java/util/Arrays", "checkLength", "(II)V"⟩ : MethodName)) hown (mvT hZ (hw _ (List.mem_of_getElem? (i := 109) rfl))) (mvT hZ (hw _ (List.mem_of_getElem? (i := 110) rfl))) (mvT hZ (hw _ (List.mem_of_getElem? (i := 104) rfl))) (mvT hZ (hw _ (List.mem_of_getElem? (i := 111) rfl))) (by decide) (backOf (W := 0) (rmcl l Z a0 hw [] kz h0 n0 Zs (own_nn hkz)) hZ (hw _ (List.mem_of_getElem? (i := 111) rfl)) (hw _ (List.mem_of_getElem? (i := 104) rfl)) (by decide) (by decide)) (g := (mkF m 2 #[.val (.ref tt), .val (.int (0 : Int32)), .val (.int kz), .unset, .unset] [(.int kz), (.int (0 : Int32))])) rfl (by rw [hml]; rfl) (argsL := [(.int (0 : Int32)), (.int kz)]) (rest := []) (lenOf pd_4 rfl) rfl (by show 2 * 0 + _ ≤ _; exact Nat.le_of_eq rfl) (hb hby dcrb_2) (fun _ _ => ⟨rfl, e0, (Nat.le_of_ble_eq_true rfl), (Nat.le_of_ble_eq_true rfl)⟩)
  dsimp only [Pt.U, Pt.locs, Pt.cells, Pt.slots] at X1 l1 y1 z1 st1 hQ1
  subst l1 y1 z1
  obtain ⟨rfl, N1q, e1⟩ := hQ1
  have Nf := Fr.app Nf N1q
  refine own_go (fun tQ kQ => st1 tQ kQ) ?_
  show own_End p e below _ (T1.setTop (mkF m 5 #[.val (.ref tt), .val (.int (0 : Int32)), .val (.int kz), .unset, .unset] []))
  refine own_go (fun tQ kQ => XS.iloadN X1.here hx rfl (hb hby dcrb_5) rfl kQ) ?_
  show own_End p e below _ (T1.setTop (mkF m 6 #[.val (.ref tt), .val (.int (0 : Int32)), .val (.int kz), .unset, .unset] [(.int kz)]))
  refine own_go (fun tQ kQ => XS.iloadN X1.here hx rfl (hb hby dcrb_6) rfl kQ) ?_
  show own_End p e below _ (T1.setTop (mkF m 7 #[.val (.ref tt), .val (.int (0 : Int32)), .val (.int kz), .unset, .unset] [(.int (0 : Int32)), (.int kz)]))
  refine own_go (fun tQ kQ => XS.isub X1.here hx rfl (hb hby dcrb_7) rfl kQ) ?_
  show own_End p e below _ (T1.setTop (mkF m 8 #[.val (.ref tt), .val (.int (0 : Int32)), .val (.int kz), .unset, .unset] [(.int (kz - (0 : Int32)))]))
  refine own_go (fun tQ kQ => XS.istoreN X1.here hx rfl (hb hby dcrb_8) rfl (l' := #[.val (.ref tt), .val (.int (0 : Int32)), .val (.int kz), .val (.int (kz - (0 : Int32))), .unset]) rfl kQ) ?_
  show own_End p e below _ (T1.setTop (mkF m 9 #[.val (.ref tt), .val (.int (0 : Int32)), .val (.int kz), .val (.int (kz - (0 : Int32))), .unset] []))
  refine own_go (fun tQ kQ => XS.iloadN X1.here hx rfl (hb hby dcrb_9) rfl kQ) ?_
  show own_End p e below _ (T1.setTop (mkF m 10 #[.val (.ref tt), .val (.int (0 : Int32)), .val (.int kz), .val (.int (kz - (0 : Int32))), .unset] [(.int (kz - (0 : Int32)))]))
  rw [own_min0]
  show own_End p e below _ (T1.setTop (mkF m 10 #[.val (.ref tt), .val (.int (0 : Int32)), .val (.int kz), .val (.int kz), .unset] [(.int kz)]))
  obtain ⟨T2, h2, k2, X2, e2, E2, A2, st2⟩ := newP X1 hx hZ (hw _ (List.mem_of_getElem? (i := 24) rfl)) e1 (g := (mkF m 10 #[.val (.ref tt), .val (.int (0 : Int32)), .val (.int kz), .val (.int kz), .unset] [(.int kz)])) rfl (hb hby dcrb_10) rfl (own_nn hkz) (cap := 4) (by rw [own_clamp hkz]; exact hK4) (by decide) (by decide) (by decide)
  obtain ⟨tr, g2⟩ : ∃ z, z = h0.size := ⟨_, rfl⟩
  rw [← g2] at A2 st2
  have ne_tt_tr : tt ≠ tr := Nat.ne_of_lt (Nat.lt_of_lt_of_le V_tt.lt (Nat.le_of_eq g2.symm))
  have g_tr : n0 ≤ tr := Nat.le_trans Zs (Nat.le_of_eq g2.symm)
  have sz_tr : h0.size ≤ tr := Nat.le_trans szr (Nat.le_of_eq g2.symm)
  have V_tt := V_tt.ext E2
  have Kp := Kp.ext E2
  have Zs := Nat.le_trans Zs E2.1
  have szr := Nat.le_trans szr E2.1
  have V_tr : own_Ar Z h2 tr .byte kz (fun _ => (.int (0 : Int32))) := own_Ar.new A2 (own_nn hkz)
  refine own_go (fun tQ kQ => st2 tQ kQ) ?_
  show own_End p e below _ (T2.setTop (mkF m 12 #[.val (.ref tt), .val (.int (0 : Int32)), .val (.int kz), .val (.int kz), .unset] [(.ref tr)]))
  refine own_go (fun tQ kQ => XS.astore X2.here hx rfl (hb hby dcrb_12) rfl rfl (l' := #[.val (.ref tt), .val (.int (0 : Int32)), .val (.int kz), .val (.int kz), .val (.ref tr)]) rfl kQ) ?_
  show own_End p e below _ (T2.setTop (mkF m 14 #[.val (.ref tt), .val (.int (0 : Int32)), .val (.int kz), .val (.int kz), .val (.ref tr)] []))
  refine own_go (fun tQ kQ => XS.aloadN X2.here hx rfl (hb hby dcrb_14) rfl rfl kQ) ?_
  show own_End p e below _ (T2.setTop (mkF m 15 #[.val (.ref tt), .val (.int (0 : Int32)), .val (.int kz), .val (.int kz), .val (.ref tr)] [(.ref tt)]))
  refine own_go (fun tQ kQ => XS.iloadN X2.here hx rfl (hb hby dcrb_15) rfl kQ) ?_
  show own_End p e below _ (T2.setTop (mkF m 16 #[.val (.ref tt), .val (.int (0 : Int32)), .val (.int kz), .val (.int kz), .val (.ref tr)] [(.int (0 : Int32)), (.ref tt)]))
  refine own_go (fun tQ kQ => XS.aload X2.here hx rfl (hb hby dcrb_16) rfl rfl kQ) ?_
  show own_End p e below _ (T2.setTop (mkF m 18 #[.val (.ref tt), .val (.int (0 : Int32)), .val (.int kz), .val (.int kz), .val (.ref tr)] [(.ref tr), (.int (0 : Int32)), (.ref tt)]))
  refine own_go (fun tQ kQ => XS.iconst X2.here hx rfl (hb hby dcrb_18) kQ) ?_
  show own_End p e below _ (T2.setTop (mkF m 19 #[.val (.ref tt), .val (.int (0 : Int32)), .val (.int kz), .val (.int kz), .val (.ref tr)] [(.int (0 : Int32)), (.ref tr), (.int (0 : Int32)), (.ref tt)]))
  refine own_go (fun tQ kQ => XS.aloadN X2.here hx rfl (hb hby dcrb_19) rfl rfl kQ) ?_
  show own_End p e below _ (T2.setTop (mkF m 20 #[.val (.ref tt), .val (.int (0 : Int32)), .val (.int kz), .val (.int kz), .val (.ref tr)] [(.ref tt), (.int (0 : Int32)), (.ref tr), (.int (0 : Int32)), (.ref tt)]))
  obtain ⟨cl3, Ar3, S3, M3, H3⟩ := id V_tt
  refine own_go (fun tQ kQ => X2.arraylength hx (by rw [e2]; exact Ar3.1) (State.isArrayOf_alike hZ.alike Ar3.2.1) (g := (mkF m 20 #[.val (.ref tt), .val (.int (0 : Int32)), .val (.int kz), .val (.int kz), .val (.ref tr)] [(.ref tt), (.int (0 : Int32)), (.ref tr), (.int (0 : Int32)), (.ref tt)])) rfl rfl (hb hby dcrb_20) _ kQ) ?_
  rw [len_of S3 M3]
  show own_End p e below _ (T2.setTop (mkF m 21 #[.val (.ref tt), .val (.int (0 : Int32)), .val (.int kz), .val (.int kz), .val (.ref tr)] [(.int z), (.int (0 : Int32)), (.ref tr), (.int (0 : Int32)), (.ref tt)]))
  refine own_go (fun tQ kQ => XS.iloadN X2.here hx rfl (hb hby dcrb_21) rfl kQ) ?_
  show own_End p e below _ (T2.setTop (mkF m 22 #[.val (.ref tt), .val (.int (0 : Int32)), .val (.int kz), .val (.int kz), .val (.ref tr)] [(.int (0 : Int32)), (.int z), (.int (0 : Int32)), (.ref tr), (.int (0 : Int32)), (.ref tt)]))
  refine own_go (fun tQ kQ => XS.isub X2.here hx rfl (hb hby dcrb_22) rfl kQ) ?_
  show own_End p e below _ (T2.setTop (mkF m 23 #[.val (.ref tt), .val (.int (0 : Int32)), .val (.int kz), .val (.int kz), .val (.ref tr)] [(.int (z - (0 : Int32))), (.int (0 : Int32)), (.ref tr), (.int (0 : Int32)), (.ref tt)]))
  refine own_go (fun tQ kQ => XS.iloadN X2.here hx rfl (hb hby dcrb_23) rfl kQ) ?_
  show own_End p e below _ (T2.setTop (mkF m 24 #[.val (.ref tt), .val (.int (0 : Int32)), .val (.int kz), .val (.int kz), .val (.ref tr)] [(.int kz), (.int (z - (0 : Int32))), (.int (0 : Int32)), (.ref tr), (.int (0 : Int32)), (.ref tt)]))
  rw [own_min0]
  show own_End p e below _ (T2.setTop (mkF m 24 #[.val (.ref tt), .val (.int (0 : Int32)), .val (.int kz), .val (.int kz), .val (.ref tr)] [(.int kz), (.int z), (.int (0 : Int32)), (.ref tr), (.int (0 : Int32)), (.ref tt)]))
  obtain ⟨_, _, ⟨T4, L4, k4, n4⟩, -, X4, ⟨Lc4, hQ4, l4, y4, z4⟩, st4⟩ := Jvm.LawKit.callS X2 hx (y := (⟨"java/lang/Math", "min", "(II)I"⟩ : MethodName)) hown (mvT hZ (hw _ (List.mem_of_getElem? (i := 112) rfl))) (mvT hZ (hw _ (List.mem_of_getElem? (i := 76) rfl))) (mvT hZ (hw _ (List.mem_of_getElem? (i := 73) rfl))) (mvT hZ (hw _ (List.mem_of_getElem? (i := 77) rfl))) (by decide) (backOf (W := 4) (rmmn2 l Z a0 hw [] z kz h2 n0 Zs ((own_lt_of hkz hz).mpr hKN)) hZ (hw _ (List.mem_of_getElem? (i := 77) rfl)) (hw _ (List.mem_of_getElem? (i := 73) rfl)) (by decide) (by decide)) (g := (mkF m 24 #[.val (.ref tt), .val (.int (0 : Int32)), .val (.int kz), .val (.int kz), .val (.ref tr)] [(.int kz), (.int z), (.int (0 : Int32)), (.ref tr), (.int (0 : Int32)), (.ref tt)])) rfl (by rw [hml]; rfl) (argsL := [(.int z), (.int kz)]) (rest := [(.int (0 : Int32)), (.ref tr), (.int (0 : Int32)), (.ref tt)]) (lenOf pd_10 rfl) rfl (by show 2 * 0 + _ ≤ _; exact Nat.le_of_eq rfl) (hb hby dcrb_24) (fun _ _ => ⟨rfl, e2, (Nat.le_of_ble_eq_true rfl), (Nat.le_of_ble_eq_true rfl)⟩)
  dsimp only [Pt.U, Pt.locs, Pt.cells, Pt.slots] at X4 l4 y4 z4 st4 hQ4
  subst l4 y4 z4
  obtain ⟨rfl, N4q, e4⟩ := hQ4
  have Nf := Fr.app Nf N4q
  refine own_go (fun tQ kQ => st4 tQ kQ) ?_
  show own_End p e below _ (T4.setTop (mkF m 27 #[.val (.ref tt), .val (.int (0 : Int32)), .val (.int kz), .val (.int kz), .val (.ref tr)] [(.int kz), (.int (0 : Int32)), (.ref tr), (.int (0 : Int32)), (.ref tt)]))
  obtain ⟨k1_, VA⟩ := V_tt.arv (vs := (List.range N).map fun i => Value.int (bs i)) (d := .int (0 : Int32)) (fun j hj => (own_getm bs N j (by rw [own_clamp hz] at hj; exact hj)).symm) (fun j hj => by rw [own_getm bs N j (by rw [own_clamp hz] at hj; exact hj)]; exact hfb j)
  obtain ⟨k2_, VB⟩ := V_tr.arv (vs := List.replicate K (.int (0 : Int32))) (d := .int (0 : Int32)) (fun j hj => (own_repl K j).symm) (fun j hj => by first | (rw [own_repl]; rfl) | (rw [own_repl]; decide))
  obtain ⟨T5, h5, L5, X5, e5, Nf, K5, VC, st5⟩ := cpA X4 hx hZ hown (hw _ (List.mem_of_getElem? (i := 113) rfl)) (hw _ (List.mem_of_getElem? (i := 116) rfl)) (hw _ (List.mem_of_getElem? (i := 114) rfl)) (hw _ (List.mem_of_getElem? (i := 115) rfl)) e4 VA VB (Or.inl ⟨rfl, rfl⟩) (sp := (0 : Int32)) (dp := (0 : Int32)) (nn := kz) (by decide) (by decide) (own_nn hkz) (by rw [own_clamp hkz, own_clamp hz]; show 0 + K ≤ N; omega) (by rw [own_clamp hkz]; show 0 + K ≤ K; omega) rfl (by rw [own_clamp hkz]; simp) Nf g_tr (g := (mkF m 27 #[.val (.ref tt), .val (.int (0 : Int32)), .val (.int kz), .val (.int kz), .val (.ref tr)] [(.int kz), (.int (0 : Int32)), (.ref tr), (.int (0 : Int32)), (.ref tt)])) rfl (by rw [hml]; rfl) rfl (hb hby dcrb_27) (by decide) (W := 0) (by show 2 * 0 + _ ≤ _; exact Nat.le_of_eq rfl) (by decide)
  have V_tr : own_Ar Z h5 tr .byte kz (fun j => .int (bs j)) := (own_Ar.of_arv VC).turn (fun j hj => by
    rw [own_clamp hkz] at hj ⊢
    have e0 : ((0 : Int32)).toNatClampNeg = 0 := by decide
    rw [e0]
    simp [List.getD_eq_getElem?_getD, hj, Nat.lt_trans hj hKN])
  have Kp := Kp.trans K5 (allS (Or.inr sz_tr) all0)
  have Zs := Nat.le_trans Zs K5.1
  refine own_go (fun tQ kQ => st5 tQ kQ) ?_
  show own_End p e below _ (T5.setTop (mkF m 30 #[.val (.ref tt), .val (.int (0 : Int32)), .val (.int kz), .val (.int kz), .val (.ref tr)] []))
  refine own_go (fun tQ kQ => XS.aload X5.here hx rfl (hb hby dcrb_30) rfl rfl kQ) ?_
  show own_End p e below _ (T5.setTop (mkF m 32 #[.val (.ref tt), .val (.int (0 : Int32)), .val (.int kz), .val (.int kz), .val (.ref tr)] [(.ref tr)]))
  obtain ⟨fs, hr, hrun, hended, hW, hsame⟩ := X5.leave (v := some (.ref tr)) (fun h => by rw [Bd.returns] at h; cases h)
  refine ⟨_, _, ?_, hrun, hended, _, _, rfl, ?_, ⟨_, rfl⟩, hW, hsame.mono (by decide) (by decide)⟩
  · exact (by
      jvm_step X5.here [X5.here.top, hx, (hb hby dcrb_32), X5.method', Bd.returns, Value.isRef, FieldType.isReference, narrow]
      first | (intro acts; rw [hr _ acts rfl rfl rfl]) | rw [hr _ _ rfl rfl rfl]
      exact Steps.refl _)
  · show Qcrb Z tt z bs N K kz h0 n0 _ T5.heap _
    rw [e5]
    exact ⟨tr, rfl, Nf, Kp, sz_tr, V_tr⟩
theorem pd_15 : parseMethodDescriptor "([BII)[B" = some ⟨[(.array .byte), .int, .int], some (.array .byte)⟩ := by decide +kernel
theorem dcr_0 : decode jdk_65_method_132_code 0 = .ok (.iload_n 1, 1) := by decide +kernel
theorem dcr_1 : decode jdk_65_method_132_code 1 = .ok (.ifCond .ne 9, 3) := by decide +kernel
theorem dcr_4 : decode jdk_65_method_132_code 4 = .ok (.iload_n 2, 1) := by decide +kernel
theorem dcr_5 : decode jdk_65_method_132_code 5 = .ok (.aload_n 0, 1) := by decide +kernel
theorem dcr_6 : decode jdk_65_method_132_code 6 = .ok (.arraylength, 1) := by decide +kernel
theorem dcr_7 : decode jdk_65_method_132_code 7 = .ok (.if_icmp .eq 10, 3) := by decide +kernel
theorem dcr_10 : decode jdk_65_method_132_code 10 = .ok (.aload_n 0, 1) := by decide +kernel
theorem dcr_11 : decode jdk_65_method_132_code 11 = .ok (.iload_n 1, 1) := by decide +kernel
theorem dcr_12 : decode jdk_65_method_132_code 12 = .ok (.iload_n 2, 1) := by decide +kernel
theorem dcr_13 : decode jdk_65_method_132_code 13 = .ok (.invokestatic 339, 3) := by decide +kernel
theorem dcr_16 : decode jdk_65_method_132_code 16 = .ok (.areturn, 1) := by decide +kernel
theorem ef_cr (m : MethodId) (x0 : Addr) (x1 : Int32) (x2 : Int32) : entryFrame m #[(.ref x0), (.int x1), (.int x2)] 3 = mkF m 0 #[.val (.ref x0), .val (.int x1), .val (.int x2)] [] := by first | (simp [entryFrame, mkF, argsToLocals, Value.category]; done) | rfl
def Qcr (Z : State) (tt : Addr) (z : Int32) (bs : Nat → Int32) (N : Nat) (K : Nat) (kz : Int32) (h0 : Heap) (n0 : Nat) (v : Option Value) (h : Heap) (L : List Loc) : Prop := ∃ tr, v = some (.ref tr) ∧ Fr n0 L ∧ Keep h0 h [] ∧ h0.size ≤ tr ∧ own_Ar Z h tr .byte kz (fun j => .int (bs j))
def Pcr (Z : State) (tt : Addr) (z : Int32) (bs : Nat → Int32) (N : Nat) (K : Nat) (kz : Int32) (h0 : Heap) (n0 : Nat) (s : State) (oQ : Outcome) (U : State) : Prop := ∃ v L, oQ = .returned v ∧ Qcr Z tt z bs N K kz h0 n0 v U.heap L ∧ FrameEnd s oQ U L ({ frames := 2, cells := 1, slots := 4, locals := 76 } : Room).cells ({ frames := 2, cells := 1, slots := 4, locals := 76 } : Room).slots
set_option maxRecDepth 65536 in
set_option maxHeartbeats 40000000 in
theorem rmcr (l : Launch) (Z : State) (a0 : Array Value) (hw : ∀ d ∈ tables_1, d.before a0 Z = true) (ws : List Jvm.Cond) (tt : Addr) (z : Int32) (bs : Nat → Int32) (N : Nat) (K : Nat) (kz : Int32) (h0 : Heap) (n0 : Nat) (Z0 : n0 ≤ h0.size) (V_tt : own_Ar Z h0 tt .byte z (fun j => .int (bs j))) (hz : z.toInt = N) (hkz : kz.toInt = K) (hKN : K < N) (hK4 : K ≤ 4) (hfb : ∀ j, fits .byte (.int (bs j)) = true) :
    MetFree l (⟨"java/util/Arrays", "copyOfRange", "([BII)[B"⟩ : MethodName) (head1 (Jvm.Cond.code (⟨"java/util/Arrays", "copyOfRange", "([BII)[B"⟩ : MethodName) jdk_65_method_132_code 3 (some (.array .byte)) :: ws) ({ frames := 2, cells := 1, slots := 4, locals := 76 } : Room)) (fun aQ U => aQ = #[(.ref tt), (.int (0 : Int32)), (.int kz)] ∧ Z.Warmed39 U.vm ∧ U.heap = h0) (fun _ _ _ _ _ => True) (fun _ U oQ U' => ∃ v L, oQ = .returned v ∧ Qcr Z tt z bs N K kz h0 n0 v U'.heap L ∧ FrameEnd U oQ U' L ({ frames := 2, cells := 1, slots := 4, locals := 76 } : Room).cells ({ frames := 2, cells := 1, slots := 4, locals := 76 } : Room).slots) := by
  refine MetFree.of_bodySF (plainFor_of_name pn_14) hisR ?_
  intro p e s m args below meth c s₁ Bd hml0 hP hK
  obtain ⟨rfl, hZ, hh⟩ := hP
  have hx := Bd.exec
  have hby := Bd.bytes
  have hml : c.maxLocals = 3 := hml0
  have hown : s.vm.findClass "java/util/Arrays" = some m.cls := findClass_of_methodNamed Bd.named
  have hnm := (name_of_methodNamed Bd.named Bd.method).1
  have X0 : Stand p l e ({ frames := 2, cells := 1, slots := 4, locals := 76 } : Room) s m #[(.ref tt), (.int (0 : Int32)), (.int kz)] below meth c s₁ [] 0 0 := Stand.of_body Bd
  have e0 : s₁.heap = h0 := by rw [← hh, Bd.state]; rfl
  have Nf := Fr.nil n0
  have Zs : n0 ≤ h0.size := Z0
  have Kp : Keep h0 h0 [] := Keep.refl _ _
  have szr : h0.size ≤ h0.size := Nat.le_refl _
  show own_End p e below (Pcr Z tt z bs N K kz h0 n0 s) (s₁.setTop (entryFrame m #[(.ref tt), (.int (0 : Int32)), (.int kz)] 3))
  rw [ef_cr]
  refine own_go (fun tQ kQ => XS.iloadN X0.here hx rfl (hb hby dcr_0) rfl kQ) ?_
  show own_End p e below _ (s₁.setTop (mkF m 1 #[.val (.ref tt), .val (.int (0 : Int32)), .val (.int kz)] [(.int (0 : Int32))]))
  refine own_go (fun tQ kQ => XS.ifNo X0.here hx rfl (hb hby dcr_1) rfl ((if0 _ _).trans (teq (by decide)).2) kQ) ?_
  show own_End p e below _ (s₁.setTop (mkF m 4 #[.val (.ref tt), .val (.int (0 : Int32)), .val (.int kz)] []))
  refine own_go (fun tQ kQ => XS.iloadN X0.here hx rfl (hb hby dcr_4) rfl kQ) ?_
  show own_End p e below _ (s₁.setTop (mkF m 5 #[.val (.ref tt), .val (.int (0 : Int32)), .val (.int kz)] [(.int kz)]))
  refine own_go (fun tQ kQ => XS.aloadN X0.here hx rfl (hb hby dcr_5) rfl rfl kQ) ?_
  show own_End p e below _ (s₁.setTop (mkF m 6 #[.val (.ref tt), .val (.int (0 : Int32)), .val (.int kz)] [(.ref tt), (.int kz)]))
  obtain ⟨cl1, Ar1, S1, M1, H1⟩ := id V_tt
  refine own_go (fun tQ kQ => X0.arraylength hx (by rw [e0]; exact Ar1.1) (State.isArrayOf_alike hZ.alike Ar1.2.1) (g := (mkF m 6 #[.val (.ref tt), .val (.int (0 : Int32)), .val (.int kz)] [(.ref tt), (.int kz)])) rfl rfl (hb hby dcr_6) _ kQ) ?_
  rw [len_of S1 M1]
  show own_End p e below _ (s₁.setTop (mkF m 7 #[.val (.ref tt), .val (.int (0 : Int32)), .val (.int kz)] [(.int z), (.int kz)]))
  refine own_go (fun tQ kQ => XS.icmpNo X0.here hx rfl (hb hby dcr_7) rfl (feq (fun q => absurd ((own_eq_of hkz hz).mp q) (by omega))).1 kQ) ?_
  show own_End p e below _ (s₁.setTop (mkF m 10 #[.val (.ref tt), .val (.int (0 : Int32)), .val (.int kz)] []))
  refine own_go (fun tQ kQ => XS.aloadN X0.here hx rfl (hb hby dcr_10) rfl rfl kQ) ?_
  show own_End p e below _ (s₁.setTop (mkF m 11 #[.val (.ref tt), .val (.int (0 : Int32)), .val (.int kz)] [(.ref tt)]))
  refine own_go (fun tQ kQ => XS.iloadN X0.here hx rfl (hb hby dcr_11) rfl kQ) ?_
  show own_End p e below _ (s₁.setTop (mkF m 12 #[.val (.ref tt), .val (.int (0 : Int32)), .val (.int kz)] [(.int (0 : Int32)), (.ref tt)]))
  refine own_go (fun tQ kQ => XS.iloadN X0.here hx rfl (hb hby dcr_12) rfl kQ) ?_
  show own_End p e below _ (s₁.setTop (mkF m 13 #[.val (.ref tt), .val (.int (0 : Int32)), .val (.int kz)] [(.int kz), (.int (0 : Int32)), (.ref tt)]))
  obtain ⟨_, _, ⟨T2, L2, k2, n2⟩, -, X2, ⟨Lc2, hQ2, l2, y2, z2⟩, st2⟩ := Jvm.LawKit.callS X0 hx (y := (⟨"java/util/Arrays", "copyOfRangeByte", "([BII)[B"⟩ : MethodName)) hown (mvT hZ (hw _ (List.mem_of_getElem? (i := 106) rfl))) (mvT hZ (hw _ (List.mem_of_getElem? (i := 107) rfl))) (mvT hZ (hw _ (List.mem_of_getElem? (i := 104) rfl))) (mvT hZ (hw _ (List.mem_of_getElem? (i := 108) rfl))) (by decide) (backOf (W := 0) (rmcrb l Z a0 hw [] tt z bs N K kz h0 n0 Zs V_tt hz hkz hKN hK4 hfb) hZ (hw _ (List.mem_of_getElem? (i := 108) rfl)) (hw _ (List.mem_of_getElem? (i := 104) rfl)) (by decide) (by decide)) (g := (mkF m 13 #[.val (.ref tt), .val (.int (0 : Int32)), .val (.int kz)] [(.int kz), (.int (0 : Int32)), (.ref tt)])) rfl (by rw [hml]; rfl) (argsL := [(.ref tt), (.int (0 : Int32)), (.int kz)]) (rest := []) (lenOf pd_15 rfl) rfl (by show 2 * 0 + _ ≤ _; exact Nat.le_of_eq rfl) (hb hby dcr_13) (fun _ _ => ⟨rfl, e0, (Nat.le_of_ble_eq_true rfl), (Nat.le_of_ble_eq_true rfl)⟩)
  dsimp only [Pt.U, Pt.locs, Pt.cells, Pt.slots] at X2 l2 y2 z2 st2 hQ2
  subst l2 y2 z2
  obtain ⟨tr, rfl, N2q, K2, hb2, V_tr⟩ := hQ2
  have Nf := Fr.app Nf N2q
  have ne_tt_tr : tt ≠ tr := Nat.ne_of_lt (Nat.lt_of_lt_of_le V_tt.lt hb2)
  have g_tr : n0 ≤ tr := Nat.le_trans Zs hb2
  have sz_tr : h0.size ≤ tr := Nat.le_trans szr hb2
  have V_tt := V_tt.keep K2 nin0
  have Kp := Kp.trans K2 all0
  have Zs := Nat.le_trans Zs K2.1
  have szr := Nat.le_trans szr K2.1
  refine own_go (fun tQ kQ => st2 tQ kQ) ?_
  show own_End p e below _ (T2.setTop (mkF m 16 #[.val (.ref tt), .val (.int (0 : Int32)), .val (.int kz)] [(.ref tr)]))
  obtain ⟨fs, hr, hrun, hended, hW, hsame⟩ := X2.leave (v := some (.ref tr)) (fun h => by rw [Bd.returns] at h; cases h)
  refine ⟨_, _, ?_, hrun, hended, _, _, rfl, ?_, ⟨_, rfl⟩, hW, hsame.mono (by decide) (by decide)⟩
  · exact (by
      jvm_step X2.here [X2.here.top, hx, (hb hby dcr_16), X2.method', Bd.returns, Value.isRef, FieldType.isReference, narrow]
      first | (intro acts; rw [hr _ acts rfl rfl rfl]) | rw [hr _ _ rfl rfl rfl]
      exact Steps.refl _)
  · show Qcr Z tt z bs N K kz h0 n0 _ T2.heap _
    exact ⟨tr, rfl, Nf, Kp, sz_tr, V_tr⟩
theorem dsbi_0 : decode jdk_42_method_151_code 0 = .ok (.aload_n 0, 1) := by decide +kernel
theorem dsbi_1 : decode jdk_42_method_151_code 1 = .ok (.invokespecial 1, 3) := by decide +kernel
theorem dsbi_4 : decode jdk_42_method_151_code 4 = .ok (.aload_n 0, 1) := by decide +kernel
theorem dsbi_5 : decode jdk_42_method_151_code 5 = .ok (.aload_n 1, 1) := by decide +kernel
theorem dsbi_6 : decode jdk_42_method_151_code 6 = .ok (.putfield 9, 3) := by decide +kernel
theorem dsbi_9 : decode jdk_42_method_151_code 9 = .ok (.aload_n 0, 1) := by decide +kernel
theorem dsbi_10 : decode jdk_42_method_151_code 10 = .ok (.iload_n 2, 1) := by decide +kernel
theorem dsbi_11 : decode jdk_42_method_151_code 11 = .ok (.putfield 15, 3) := by decide +kernel
theorem dsbi_14 : decode jdk_42_method_151_code 14 = .ok (.return_, 1) := by decide +kernel
theorem ef_sbi (m : MethodId) (x0 : Addr) (x1 : Addr) (x2 : Int32) : entryFrame m #[(.ref x0), (.ref x1), (.int x2)] 3 = mkF m 0 #[.val (.ref x0), .val (.ref x1), .val (.int x2)] [] := by first | (simp [entryFrame, mkF, argsToLocals, Value.category]; done) | rfl
def Qsbi (Z : State) (r : Addr) (tr : Addr) (h0 : Heap) (n0 : Nat) (v : Option Value) (h : Heap) (L : List Loc) : Prop := v = none ∧ Fr n0 L ∧ Keep h0 h [r] ∧ Fld Z h r "java/lang/String" "value" "[B" (.ref tr) ∧ Fld Z h r "java/lang/String" "coder" "B" (.int (0 : Int32))
def Psbi (Z : State) (r : Addr) (tr : Addr) (h0 : Heap) (n0 : Nat) (s : State) (oQ : Outcome) (U : State) : Prop := ∃ v L, oQ = .returned v ∧ Qsbi Z r tr h0 n0 v U.heap L ∧ FrameEnd s oQ U L ({ frames := 1, cells := 0, slots := 0, locals := 12 } : Room).cells ({ frames := 1, cells := 0, slots := 0, locals := 12 } : Room).slots
set_option maxRecDepth 65536 in
set_option maxHeartbeats 40000000 in
theorem rmsbi (l : Launch) (Z : State) (a0 : Array Value) (hw : ∀ d ∈ tables_1, d.before a0 Z = true) (ws : List Jvm.Cond) (r : Addr) (tr : Addr) (h0 : Heap) (n0 : Nat) (Z0 : n0 ≤ h0.size) (E_r : Exa Z h0 r "java/lang/String") (F_value_r : Fld Z h0 r "java/lang/String" "value" "[B" .null) (F_coder_r : Fld Z h0 r "java/lang/String" "coder" "B" (.int (0 : Int32))) (g_r : n0 ≤ r) :
    MetFree l (⟨"java/lang/String", "<init>", "([BB)V"⟩ : MethodName) (head1 (Jvm.Cond.code (⟨"java/lang/String", "<init>", "([BB)V"⟩ : MethodName) jdk_42_method_151_code 3 none :: ws) ({ frames := 1, cells := 0, slots := 0, locals := 12 } : Room)) (fun aQ U => aQ = #[(.ref r), (.ref tr), (.int (0 : Int32))] ∧ Z.Warmed39 U.vm ∧ U.heap = h0) (fun _ _ _ _ _ => True) (fun _ U oQ U' => ∃ v L, oQ = .returned v ∧ Qsbi Z r tr h0 n0 v U'.heap L ∧ FrameEnd U oQ U' L ({ frames := 1, cells := 0, slots := 0, locals := 12 } : Room).cells ({ frames := 1, cells := 0, slots := 0, locals := 12 } : Room).slots) := by
  refine MetFree.of_bodySF (plainFor_of_name pn_0) hisR ?_
  intro p e s m args below meth c s₁ Bd hml0 hP hK
  obtain ⟨rfl, hZ, hh⟩ := hP
  have hx := Bd.exec
  have hby := Bd.bytes
  have hml : c.maxLocals = 3 := hml0
  have hown : s.vm.findClass "java/lang/String" = some m.cls := findClass_of_methodNamed Bd.named
  have hnm := (name_of_methodNamed Bd.named Bd.method).1
  have X0 : Stand p l e ({ frames := 1, cells := 0, slots := 0, locals := 12 } : Room) s m #[(.ref r), (.ref tr), (.int (0 : Int32))] below meth c s₁ [] 0 0 := Stand.of_body Bd
  have e0 : s₁.heap = h0 := by rw [← hh, Bd.state]; rfl
  have Nf := Fr.nil n0
  have Zs : n0 ≤ h0.size := Z0
  have Kp : Keep h0 h0 [r] := Keep.refl _ _
  have szr : h0.size ≤ h0.size := Nat.le_refl _
  show own_End p e below (Psbi Z r tr h0 n0 s) (s₁.setTop (entryFrame m #[(.ref r), (.ref tr), (.int (0 : Int32))] 3))
  rw [ef_sbi]
  refine own_go (fun tQ kQ => XS.aloadN X0.here hx rfl (hb hby dsbi_0) rfl rfl kQ) ?_
  show own_End p e below _ (s₁.setTop (mkF m 1 #[.val (.ref r), .val (.ref tr), .val (.int (0 : Int32))] [(.ref r)]))
  obtain ⟨T1, X1, e1, st1⟩ := initO X0 hx hZ hown (hw _ (List.mem_of_getElem? (i := 16) rfl)) (hw _ (List.mem_of_getElem? (i := 17) rfl)) (hw _ (List.mem_of_getElem? (i := 18) rfl)) e0 (g := (mkF m 1 #[.val (.ref r), .val (.ref tr), .val (.int (0 : Int32))] [(.ref r)])) rfl (by rw [hml]; rfl) rfl (hb hby dsbi_1) (by decide) (W := 0) (by show 2 * 0 + _ ≤ _; exact Nat.le_of_eq rfl) (by decide)
  refine own_go (fun tQ kQ => st1 tQ kQ) ?_
  show own_End p e below _ (T1.setTop (mkF m 4 #[.val (.ref r), .val (.ref tr), .val (.int (0 : Int32))] []))
  refine own_go (fun tQ kQ => XS.aloadN X1.here hx rfl (hb hby dsbi_4) rfl rfl kQ) ?_
  show own_End p e below _ (T1.setTop (mkF m 5 #[.val (.ref r), .val (.ref tr), .val (.int (0 : Int32))] [(.ref r)]))
  refine own_go (fun tQ kQ => XS.aloadN X1.here hx rfl (hb hby dsbi_5) rfl rfl kQ) ?_
  show own_End p e below _ (T1.setTop (mkF m 6 #[.val (.ref r), .val (.ref tr), .val (.int (0 : Int32))] [(.ref tr), (.ref r)]))
  obtain ⟨T2, h2, X2, e2, W2, st2⟩ := putF X1 hx hZ hown (host := "") (Or.inl (hw _ (List.mem_of_getElem? (i := 33) rfl))) Via.refl e1 F_value_r E_r (Or.inr ⟨(hw _ (List.mem_of_getElem? (i := 34) rfl)), rfl, hnm⟩) (hw _ (List.mem_of_getElem? (i := 7) rfl)) (ty := (.array .byte)) (by decide) rfl rfl (g := (mkF m 6 #[.val (.ref r), .val (.ref tr), .val (.int (0 : Int32))] [(.ref tr), (.ref r)])) rfl rfl (hb hby dsbi_6)
  have F_value_r := F_value_r.same W2
  have E_r := E_r.wr W2
  have F_coder_r := F_coder_r.other W2 (Or.inr (slot_ne (Or.inr (hw _ (List.mem_of_getElem? (i := 32) rfl))) (Or.inr (hw _ (List.mem_of_getElem? (i := 34) rfl))) (by decide) (t := .byte) (t' := (.array .byte)) (by decide) (by decide)))
  have Kp := Kp.wr W2 (Or.inl (List.mem_of_getElem? (i := 0) rfl))
  have Nf := Fr.snoc X2 Nf g_r
  have Zs := Nat.le_trans Zs (Keep.of_wr W2).1
  have szr := Nat.le_trans szr (Keep.of_wr W2).1
  refine own_go (fun tQ kQ => st2 tQ kQ) ?_
  show own_End p e below _ (T2.setTop (mkF m 9 #[.val (.ref r), .val (.ref tr), .val (.int (0 : Int32))] []))
  refine own_go (fun tQ kQ => XS.aloadN X2.here hx rfl (hb hby dsbi_9) rfl rfl kQ) ?_
  show own_End p e below _ (T2.setTop (mkF m 10 #[.val (.ref r), .val (.ref tr), .val (.int (0 : Int32))] [(.ref r)]))
  refine own_go (fun tQ kQ => XS.iloadN X2.here hx rfl (hb hby dsbi_10) rfl kQ) ?_
  show own_End p e below _ (T2.setTop (mkF m 11 #[.val (.ref r), .val (.ref tr), .val (.int (0 : Int32))] [(.int (0 : Int32)), (.ref r)]))
  obtain ⟨T3, h3, X3, e3, W3, st3⟩ := putF X2 hx hZ hown (host := "") (Or.inl (hw _ (List.mem_of_getElem? (i := 31) rfl))) Via.refl e2 F_coder_r E_r (Or.inr ⟨(hw _ (List.mem_of_getElem? (i := 32) rfl)), rfl, hnm⟩) (hw _ (List.mem_of_getElem? (i := 7) rfl)) (ty := .byte) (by decide) rfl rfl (g := (mkF m 11 #[.val (.ref r), .val (.ref tr), .val (.int (0 : Int32))] [(.int (0 : Int32)), (.ref r)])) rfl rfl (hb hby dsbi_11)
  have F_coder_r := F_coder_r.same W3
  have E_r := E_r.wr W3
  have F_value_r := F_value_r.other W3 (Or.inr (slot_ne (Or.inr (hw _ (List.mem_of_getElem? (i := 34) rfl))) (Or.inr (hw _ (List.mem_of_getElem? (i := 32) rfl))) (by decide) (t := (.array .byte)) (t' := .byte) (by decide) (by decide)))
  have Kp := Kp.wr W3 (Or.inl (List.mem_of_getElem? (i := 0) rfl))
  have Nf := Fr.snoc X3 Nf g_r
  have Zs := Nat.le_trans Zs (Keep.of_wr W3).1
  have szr := Nat.le_trans szr (Keep.of_wr W3).1
  refine own_go (fun tQ kQ => st3 tQ kQ) ?_
  show own_End p e below _ (T3.setTop (mkF m 14 #[.val (.ref r), .val (.ref tr), .val (.int (0 : Int32))] []))
  obtain ⟨fs, hr, hrun, hended, hW, hsame⟩ := X3.leave (v := none) (fun _ => rfl)
  refine ⟨_, _, X3.returnOut hx Bd.returns (hb hby dsbi_14) hr, hrun, hended, _, _, rfl, ?_, ⟨_, rfl⟩, hW, hsame.mono (by decide) (by decide)⟩
  show Qsbi Z r tr h0 n0 _ T3.heap _
  rw [e3]
  exact ⟨rfl, Nf, Kp, F_value_r, F_coder_r⟩
theorem pd_16 : parseMethodDescriptor "([BB)V" = some ⟨[(.array .byte), .byte], none⟩ := by decide +kernel
theorem dns_0 : decode jdk_43_method_47_code 0 = .ok (.iload_n 2, 1) := by decide +kernel
theorem dns_1 : decode jdk_43_method_47_code 1 = .ok (.ifCond .ne 6, 3) := by decide +kernel
theorem dns_7 : decode jdk_43_method_47_code 7 = .ok (.new 1, 3) := by decide +kernel
theorem dns_10 : decode jdk_43_method_47_code 10 = .ok (.dup, 1) := by decide +kernel
theorem dns_11 : decode jdk_43_method_47_code 11 = .ok (.aload_n 0, 1) := by decide +kernel
theorem dns_12 : decode jdk_43_method_47_code 12 = .ok (.iload_n 1, 1) := by decide +kernel
theorem dns_13 : decode jdk_43_method_47_code 13 = .ok (.iload_n 1, 1) := by decide +kernel
theorem dns_14 : decode jdk_43_method_47_code 14 = .ok (.iload_n 2, 1) := by decide +kernel
theorem dns_15 : decode jdk_43_method_47_code 15 = .ok (.iadd, 1) := by decide +kernel
theorem dns_16 : decode jdk_43_method_47_code 16 = .ok (.invokestatic 232, 3) := by decide +kernel
theorem dns_19 : decode jdk_43_method_47_code 19 = .ok (.iconst 0, 1) := by decide +kernel
theorem dns_20 : decode jdk_43_method_47_code 20 = .ok (.invokespecial 112, 3) := by decide +kernel
theorem dns_23 : decode jdk_43_method_47_code 23 = .ok (.areturn, 1) := by decide +kernel
theorem ef_ns (m : MethodId) (x0 : Addr) (x1 : Int32) (x2 : Int32) : entryFrame m #[(.ref x0), (.int x1), (.int x2)] 3 = mkF m 0 #[.val (.ref x0), .val (.int x1), .val (.int x2)] [] := by first | (simp [entryFrame, mkF, argsToLocals, Value.category]; done) | rfl
def Qns (Z : State) (tt : Addr) (z : Int32) (bs : Nat → Int32) (N : Nat) (K : Nat) (kz : Int32) (h0 : Heap) (n0 : Nat) (v : Option Value) (h : Heap) (L : List Loc) : Prop := ∃ r tr, v = some (.ref r) ∧ Fr n0 L ∧ Keep h0 h [] ∧ h0.size ≤ r ∧ h0.size ≤ tr ∧ Exa Z h r "java/lang/String" ∧ Fld Z h r "java/lang/String" "value" "[B" (.ref tr) ∧ Fld Z h r "java/lang/String" "coder" "B" (.int (0 : Int32)) ∧ own_Ar Z h tr .byte kz (fun j => .int (bs j))
def Pns (Z : State) (tt : Addr) (z : Int32) (bs : Nat → Int32) (N : Nat) (K : Nat) (kz : Int32) (h0 : Heap) (n0 : Nat) (s : State) (oQ : Outcome) (U : State) : Prop := ∃ v L, oQ = .returned v ∧ Qns Z tt z bs N K kz h0 n0 v U.heap L ∧ FrameEnd s oQ U L ({ frames := 3, cells := 2, slots := 8, locals := 92 } : Room).cells ({ frames := 3, cells := 2, slots := 8, locals := 92 } : Room).slots
set_option maxRecDepth 65536 in
set_option maxHeartbeats 40000000 in
theorem rmns (l : Launch) (Z : State) (a0 : Array Value) (hw : ∀ d ∈ tables_1, d.before a0 Z = true) (ws : List Jvm.Cond) (tt : Addr) (z : Int32) (bs : Nat → Int32) (N : Nat) (K : Nat) (kz : Int32) (h0 : Heap) (n0 : Nat) (Z0 : n0 ≤ h0.size) (V_tt : own_Ar Z h0 tt .byte z (fun j => .int (bs j))) (hz : z.toInt = N) (hkz : kz.toInt = K) (hKN : K < N) (hK4 : K ≤ 4) (hfb : ∀ j, fits .byte (.int (bs j)) = true) (hK0 : 0 < K) :
    MetFree l (⟨"java/lang/StringLatin1", "newString", "([BII)Ljava/lang/String;"⟩ : MethodName) (head1 (Jvm.Cond.code (⟨"java/lang/StringLatin1", "newString", "([BII)Ljava/lang/String;"⟩ : MethodName) jdk_43_method_47_code 3 (some (.object "java/lang/String")) :: ws) ({ frames := 3, cells := 2, slots := 8, locals := 92 } : Room)) (fun aQ U => aQ = #[(.ref tt), (.int (0 : Int32)), (.int kz)] ∧ Z.Warmed39 U.vm ∧ U.heap = h0) (fun _ _ _ _ _ => True) (fun _ U oQ U' => ∃ v L, oQ = .returned v ∧ Qns Z tt z bs N K kz h0 n0 v U'.heap L ∧ FrameEnd U oQ U' L ({ frames := 3, cells := 2, slots := 8, locals := 92 } : Room).cells ({ frames := 3, cells := 2, slots := 8, locals := 92 } : Room).slots) := by
  refine MetFree.of_bodySF (plainFor_of_name pn_5) hisR ?_
  intro p e s m args below meth c s₁ Bd hml0 hP hK
  obtain ⟨rfl, hZ, hh⟩ := hP
  have hx := Bd.exec
  have hby := Bd.bytes
  have hml : c.maxLocals = 3 := hml0
  have hown : s.vm.findClass "java/lang/StringLatin1" = some m.cls := findClass_of_methodNamed Bd.named
  have hnm := (name_of_methodNamed Bd.named Bd.method).1
  have X0 : Stand p l e ({ frames := 3, cells := 2, slots := 8, locals := 92 } : Room) s m #[(.ref tt), (.int (0 : Int32)), (.int kz)] below meth c s₁ [] 0 0 := Stand.of_body Bd
  have e0 : s₁.heap = h0 := by rw [← hh, Bd.state]; rfl
  have Nf := Fr.nil n0
  have Zs : n0 ≤ h0.size := Z0
  have Kp : Keep h0 h0 [] := Keep.refl _ _
  have szr : h0.size ≤ h0.size := Nat.le_refl _
  show own_End p e below (Pns Z tt z bs N K kz h0 n0 s) (s₁.setTop (entryFrame m #[(.ref tt), (.int (0 : Int32)), (.int kz)] 3))
  rw [ef_ns]
  refine own_go (fun tQ kQ => XS.iloadN X0.here hx rfl (hb hby dns_0) rfl kQ) ?_
  show own_End p e below _ (s₁.setTop (mkF m 1 #[.val (.ref tt), .val (.int (0 : Int32)), .val (.int kz)] [(.int kz)]))
  refine own_go (fun tQ kQ => XS.ifYes X0.here hx rfl (pc0 := 1) (pc' := 7) rfl (hb hby dns_1) rfl ((if0 _ _).trans (feq (fun q => absurd ((own_eq_of hkz (by decide : (0 : Int32).toInt = (0 : Nat))).mp q) (by omega))).2) (by decide) (by decide) kQ) ?_
  show own_End p e below _ (s₁.setTop (mkF m 7 #[.val (.ref tt), .val (.int (0 : Int32)), .val (.int kz)] []))
  obtain ⟨T1, h1, X1, e1, E1, A1, D1, -, st1⟩ := newO X0 hx hZ hown (hw _ (List.mem_of_getElem? (i := 101) rfl)) (hw _ (List.mem_of_getElem? (i := 7) rfl)) (hw _ (List.mem_of_getElem? (i := 8) rfl)) e0 (g := (mkF m 7 #[.val (.ref tt), .val (.int (0 : Int32)), .val (.int kz)] [])) rfl (hb hby dns_7) (by decide) (by decide)
  obtain ⟨r, g1⟩ : ∃ z, z = h0.size := ⟨_, rfl⟩
  rw [← g1] at A1 D1 st1
  have ne_tt_r : tt ≠ r := Nat.ne_of_lt (Nat.lt_of_lt_of_le V_tt.lt (Nat.le_of_eq g1.symm))
  have g_r : n0 ≤ r := Nat.le_trans Zs (Nat.le_of_eq g1.symm)
  have sz_r : h0.size ≤ r := Nat.le_trans szr (Nat.le_of_eq g1.symm)
  have V_tt := V_tt.ext E1
  have Kp := Kp.ext E1
  have Zs := Nat.le_trans Zs E1.1
  have szr := Nat.le_trans szr E1.1
  have E_r := A1
  have F_coder_r : Fld Z h1 r "java/lang/String" "coder" "B" (.int (0 : Int32)) := D1 (Or.inr (hw _ (List.mem_of_getElem? (i := 32) rfl))) (ty := .byte) (by decide)
  have F_value_r : Fld Z h1 r "java/lang/String" "value" "[B" .null := D1 (Or.inr (hw _ (List.mem_of_getElem? (i := 34) rfl))) (ty := (.array .byte)) (by decide)
  refine own_go (fun tQ kQ => st1 tQ kQ) ?_
  show own_End p e below _ (T1.setTop (mkF m 10 #[.val (.ref tt), .val (.int (0 : Int32)), .val (.int kz)] [(.ref r)]))
  refine own_go (fun tQ kQ => XS.dup X1.here hx rfl (hb hby dns_10) rfl rfl kQ) ?_
  show own_End p e below _ (T1.setTop (mkF m 11 #[.val (.ref tt), .val (.int (0 : Int32)), .val (.int kz)] [(.ref r), (.ref r)]))
  refine own_go (fun tQ kQ => XS.aloadN X1.here hx rfl (hb hby dns_11) rfl rfl kQ) ?_
  show own_End p e below _ (T1.setTop (mkF m 12 #[.val (.ref tt), .val (.int (0 : Int32)), .val (.int kz)] [(.ref tt), (.ref r), (.ref r)]))
  refine own_go (fun tQ kQ => XS.iloadN X1.here hx rfl (hb hby dns_12) rfl kQ) ?_
  show own_End p e below _ (T1.setTop (mkF m 13 #[.val (.ref tt), .val (.int (0 : Int32)), .val (.int kz)] [(.int (0 : Int32)), (.ref tt), (.ref r), (.ref r)]))
  refine own_go (fun tQ kQ => XS.iloadN X1.here hx rfl (hb hby dns_13) rfl kQ) ?_
  show own_End p e below _ (T1.setTop (mkF m 14 #[.val (.ref tt), .val (.int (0 : Int32)), .val (.int kz)] [(.int (0 : Int32)), (.int (0 : Int32)), (.ref tt), (.ref r), (.ref r)]))
  refine own_go (fun tQ kQ => XS.iloadN X1.here hx rfl (hb hby dns_14) rfl kQ) ?_
  show own_End p e below _ (T1.setTop (mkF m 15 #[.val (.ref tt), .val (.int (0 : Int32)), .val (.int kz)] [(.int kz), (.int (0 : Int32)), (.int (0 : Int32)), (.ref tt), (.ref r), (.ref r)]))
  refine own_go (fun tQ kQ => XS.iadd X1.here hx rfl (hb hby dns_15) rfl kQ) ?_
  show own_End p e below _ (T1.setTop (mkF m 16 #[.val (.ref tt), .val (.int (0 : Int32)), .val (.int kz)] [(.int ((0 : Int32) + kz)), (.int (0 : Int32)), (.ref tt), (.ref r), (.ref r)]))
  rw [own_add0]
  show own_End p e below _ (T1.setTop (mkF m 16 #[.val (.ref tt), .val (.int (0 : Int32)), .val (.int kz)] [(.int kz), (.int (0 : Int32)), (.ref tt), (.ref r), (.ref r)]))
  obtain ⟨_, _, ⟨T2, L2, k2, n2⟩, -, X2, ⟨Lc2, hQ2, l2, y2, z2⟩, st2⟩ := Jvm.LawKit.callS X1 hx (y := (⟨"java/util/Arrays", "copyOfRange", "([BII)[B"⟩ : MethodName)) hown (mvT hZ (hw _ (List.mem_of_getElem? (i := 102) rfl))) (mvT hZ (hw _ (List.mem_of_getElem? (i := 103) rfl))) (mvT hZ (hw _ (List.mem_of_getElem? (i := 104) rfl))) (mvT hZ (hw _ (List.mem_of_getElem? (i := 105) rfl))) (by decide) (backOf (W := 2) (rmcr l Z a0 hw [] tt z bs N K kz h1 n0 Zs V_tt hz hkz hKN hK4 hfb) hZ (hw _ (List.mem_of_getElem? (i := 105) rfl)) (hw _ (List.mem_of_getElem? (i := 104) rfl)) (by decide) (by decide)) (g := (mkF m 16 #[.val (.ref tt), .val (.int (0 : Int32)), .val (.int kz)] [(.int kz), (.int (0 : Int32)), (.ref tt), (.ref r), (.ref r)])) rfl (by rw [hml]; rfl) (argsL := [(.ref tt), (.int (0 : Int32)), (.int kz)]) (rest := [(.ref r), (.ref r)]) (lenOf pd_15 rfl) rfl (by show 2 * 0 + _ ≤ _; exact Nat.le_of_eq rfl) (hb hby dns_16) (fun _ _ => ⟨rfl, e1, (Nat.le_of_ble_eq_true rfl), (Nat.le_of_ble_eq_true rfl)⟩)
  dsimp only [Pt.U, Pt.locs, Pt.cells, Pt.slots] at X2 l2 y2 z2 st2 hQ2
  subst l2 y2 z2
  obtain ⟨tr, rfl, N2q, K2, hb2, V_tr⟩ := hQ2
  have Nf := Fr.app Nf N2q
  have ne_tt_tr : tt ≠ tr := Nat.ne_of_lt (Nat.lt_of_lt_of_le V_tt.lt hb2)
  have ne_r_tr : r ≠ tr := Nat.ne_of_lt (Nat.lt_of_lt_of_le E_r.lt hb2)
  have g_tr : n0 ≤ tr := Nat.le_trans Zs hb2
  have sz_tr : h0.size ≤ tr := Nat.le_trans szr hb2
  have V_tt := V_tt.keep K2 nin0
  have E_r := E_r.keep K2
  have F_coder_r := F_coder_r.keep K2 nin0
  have F_value_r := F_value_r.keep K2 nin0
  have Kp := Kp.trans K2 all0
  have Zs := Nat.le_trans Zs K2.1
  have szr := Nat.le_trans szr K2.1
  refine own_go (fun tQ kQ => st2 tQ kQ) ?_
  show own_End p e below _ (T2.setTop (mkF m 19 #[.val (.ref tt), .val (.int (0 : Int32)), .val (.int kz)] [(.ref tr), (.ref r), (.ref r)]))
  refine own_go (fun tQ kQ => XS.iconst X2.here hx rfl (hb hby dns_19) kQ) ?_
  show own_End p e below _ (T2.setTop (mkF m 20 #[.val (.ref tt), .val (.int (0 : Int32)), .val (.int kz)] [(.int (0 : Int32)), (.ref tr), (.ref r), (.ref r)]))
  obtain ⟨_, _, ⟨T3, L3, k3, n3⟩, -, X3, ⟨Lc3, hQ3, l3, y3, z3⟩, st3⟩ := X2.specialBack hx (y := (⟨"java/lang/String", "<init>", "([BB)V"⟩ : MethodName)) rfl hown (mvT hZ (hw _ (List.mem_of_getElem? (i := 117) rfl))) (mvT hZ (hw _ (List.mem_of_getElem? (i := 118) rfl))) (mvT hZ (hw _ (List.mem_of_getElem? (i := 119) rfl))) (by decide) (backOf (W := 1) (rmsbi l Z a0 hw [] r tr T2.heap n0 Zs E_r F_value_r F_coder_r g_r) hZ (hw _ (List.mem_of_getElem? (i := 119) rfl)) (hw _ (List.mem_of_getElem? (i := 8) rfl)) (by decide) (by decide)) (g := (mkF m 20 #[.val (.ref tt), .val (.int (0 : Int32)), .val (.int kz)] [(.int (0 : Int32)), (.ref tr), (.ref r), (.ref r)])) rfl (by rw [hml]; rfl) (Steps.refl _) (a := r) (argsL := [(.ref tr), (.int (0 : Int32))]) (rest := [(.ref r)]) (lenOf pd_16 rfl) rfl (by show 2 * 0 + _ ≤ _; exact Nat.le_of_eq rfl) (hb hby dns_20) (fun _ _ => ⟨rfl, rfl, (Nat.le_of_ble_eq_true rfl), (Nat.le_of_ble_eq_true rfl)⟩)
  dsimp only [Pt.U, Pt.locs, Pt.cells, Pt.slots] at X3 l3 y3 z3 st3 hQ3
  subst l3 y3 z3
  obtain ⟨rfl, N3q, K3, F_value_r, F_coder_r⟩ := hQ3
  have Nf := Fr.app Nf N3q
  have V_tt := V_tt.keep K3 (ninS ne_tt_r nin0)
  have E_r := E_r.keep K3
  have V_tr := V_tr.keep K3 (ninS (Ne.symm ne_r_tr) nin0)
  have Kp := Kp.trans K3 (allS (Or.inr sz_r) all0)
  have Zs := Nat.le_trans Zs K3.1
  have szr := Nat.le_trans szr K3.1
  refine own_go (fun tQ kQ => st3.trans kQ) ?_
  show own_End p e below _ (T3.setTop (mkF m 23 #[.val (.ref tt), .val (.int (0 : Int32)), .val (.int kz)] [(.ref r)]))
  obtain ⟨fs, hr, hrun, hended, hW, hsame⟩ := X3.leave (v := some (.ref r)) (fun h => by rw [Bd.returns] at h; cases h)
  refine ⟨_, _, ?_, hrun, hended, _, _, rfl, ?_, ⟨_, rfl⟩, hW, hsame.mono (by decide) (by decide)⟩
  · exact (by
      jvm_step X3.here [X3.here.top, hx, (hb hby dns_23), X3.method', Bd.returns, Value.isRef, FieldType.isReference, narrow]
      first | (intro acts; rw [hr _ acts rfl rfl rfl]) | rw [hr _ _ rfl rfl rfl]
      exact Steps.refl _)
  · show Qns Z tt z bs N K kz h0 n0 _ T3.heap _
    exact ⟨r, tr, rfl, Nf, Kp, sz_r, sz_tr, E_r, F_value_r, F_coder_r, V_tr⟩
theorem dns0_0 : decode jdk_43_method_47_code 0 = .ok (.iload_n 2, 1) := by decide +kernel
theorem dns0_1 : decode jdk_43_method_47_code 1 = .ok (.ifCond .ne 6, 3) := by decide +kernel
theorem dns0_4 : decode jdk_43_method_47_code 4 = .ok (.ldc 151, 2) := by decide +kernel
theorem dns0_6 : decode jdk_43_method_47_code 6 = .ok (.areturn, 1) := by decide +kernel
theorem ef_ns0 (m : MethodId) (x0 : Addr) (x1 : Int32) (x2 : Int32) : entryFrame m #[(.ref x0), (.int x1), (.int x2)] 3 = mkF m 0 #[.val (.ref x0), .val (.int x1), .val (.int x2)] [] := by first | (simp [entryFrame, mkF, argsToLocals, Value.category]; done) | rfl
def Qns0 (Z : State) (tt : Addr) (bs : Nat → Int32) (h0 : Heap) (n0 : Nat) (v : Option Value) (h : Heap) (L : List Loc) : Prop := ∃ r tr, v = some (.ref r) ∧ Fr n0 L ∧ Keep h0 h [] ∧ Exa Z h r "java/lang/String" ∧ Fld Z h r "java/lang/String" "value" "[B" (.ref tr) ∧ Fld Z h r "java/lang/String" "coder" "B" (.int (0 : Int32)) ∧ own_Ar Z h tr .byte (0 : Int32) (fun j => .int (bs j))
def Pns0 (Z : State) (tt : Addr) (bs : Nat → Int32) (h0 : Heap) (n0 : Nat) (s : State) (oQ : Outcome) (U : State) : Prop := ∃ v L, oQ = .returned v ∧ Qns0 Z tt bs h0 n0 v U.heap L ∧ CHr Z own_EL s.vm s.heap U.vm U.heap ∧ ReturnedEndW s oQ U L ({ frames := 0, cells := 2, slots := 4, locals := 0 } : Room).cells ({ frames := 0, cells := 2, slots := 4, locals := 0 } : Room).slots
set_option maxRecDepth 65536 in
set_option maxHeartbeats 40000000 in
theorem rmns0 (l : Launch) (Z : State) (a0 : Array Value) (hw : ∀ d ∈ tables_1, d.before a0 Z = true) (ws : List Jvm.Cond) (tt : Addr) (bs : Nat → Int32) (h0 : Heap) (n0 : Nat) (Z0 : n0 ≤ h0.size) (hEL : EW Z a0 own_EL) :
    MetFree l (⟨"java/lang/StringLatin1", "newString", "([BII)Ljava/lang/String;"⟩ : MethodName) (head1 (Jvm.Cond.code (⟨"java/lang/StringLatin1", "newString", "([BII)Ljava/lang/String;"⟩ : MethodName) jdk_43_method_47_code 3 (some (.object "java/lang/String")) :: ws) ({ frames := 0, cells := 2, slots := 4, locals := 0 } : Room)) (fun aQ U => aQ = #[(.ref tt), (.int (0 : Int32)), (.int (0 : Int32))] ∧ Z.Warmed39 U.vm ∧ U.heap = h0 ∧ CHv Z own_EL U.vm h0) (fun _ _ _ _ _ => True) (fun _ U oQ U' => ∃ v L, oQ = .returned v ∧ Qns0 Z tt bs h0 n0 v U'.heap L ∧ CHr Z own_EL U.vm U.heap U'.vm U'.heap ∧ ReturnedEndW U oQ U' L ({ frames := 0, cells := 2, slots := 4, locals := 0 } : Room).cells ({ frames := 0, cells := 2, slots := 4, locals := 0 } : Room).slots) := by
  refine MetFree.of_bodySF (plainFor_of_name pn_5) hisR ?_
  intro p e s m args below meth c s₁ Bd hml0 hP hK
  obtain ⟨rfl, hZ, hh, H0⟩ := hP
  have hx := Bd.exec
  have hby := Bd.bytes
  have hml : c.maxLocals = 3 := hml0
  have hown : (s.setVm s.vm).vm.findClass "java/lang/StringLatin1" = some m.cls := findClass_of_methodNamed Bd.named
  have hZ : Z.Warmed39 (s.setVm s.vm).vm := hZ
  have hS : s.Since s.vm h0.size := (State.WarmedH.refl s).since _
  have hkW : h0.size ≤ h0.size := Nat.le_refl _
  have hnm := (name_of_methodNamed Bd.named Bd.method).1
  have X0 : Stand p l e ({ frames := 0, cells := 2, slots := 4, locals := 0 } : Room) (s.setVm s.vm) m #[(.ref tt), (.int (0 : Int32)), (.int (0 : Int32))] below meth c s₁ [] 0 0 := Stand.of_body Bd
  have e0 : s₁.heap = h0 := by rw [← hh, Bd.state]; rfl
  have Nf := Fr.nil n0
  have Zs : n0 ≤ h0.size := Z0
  have Kp : Keep h0 h0 [] := Keep.refl _ _
  have szr : h0.size ≤ h0.size := Nat.le_refl _
  show own_End p e below (Pns0 Z tt bs h0 n0 s) (s₁.setTop (entryFrame m #[(.ref tt), (.int (0 : Int32)), (.int (0 : Int32))] 3))
  rw [ef_ns0]
  have wS : ∀ d ∈ Bundle.stringAtoms, d.before a0 Z = true := by
    intro d hd
    simp only [Bundle.stringAtoms, List.mem_cons, List.not_mem_nil, or_false] at hd
    rcases hd with rfl | rfl | rfl | rfl | rfl | rfl | rfl
    · exact (hw _ (List.mem_of_getElem? (i := 8) rfl))
    · exact (hw _ (List.mem_of_getElem? (i := 7) rfl))
    · exact (hw _ (List.mem_of_getElem? (i := 24) rfl))
    · exact (hw _ (List.mem_of_getElem? (i := 34) rfl))
    · exact (hw _ (List.mem_of_getElem? (i := 32) rfl))
    · exact (hw _ (List.mem_of_getElem? (i := 98) rfl))
    · exact (hw _ (List.mem_of_getElem? (i := 99) rfl))
  refine own_go (fun tQ kQ => XS.iloadN X0.here hx rfl (hb hby dns0_0) rfl kQ) ?_
  show own_End p e below _ (s₁.setTop (mkF m 1 #[.val (.ref tt), .val (.int (0 : Int32)), .val (.int (0 : Int32))] [(.int (0 : Int32))]))
  refine own_go (fun tQ kQ => XS.ifNo X0.here hx rfl (hb hby dns0_1) rfl ((if0 _ _).trans (teq (by decide)).2) kQ) ?_
  show own_End p e below _ (s₁.setTop (mkF m 4 #[.val (.ref tt), .val (.int (0 : Int32)), .val (.int (0 : Int32))] []))
  have CH := CHr.ext (Z := Z) (EL := own_EL) (vm := s.vm) ⟨Kp.1, fun a c q => Kp.2.1 a c q nin0⟩ H0
  obtain ⟨r, T1, h1, k1, tr, kb1, X1, e1, E1, hS, hkW, hZ, hown, E_r, F_coder_r, F_value_r, Kv1, -, -, C1, -, Sf1, st1⟩ := ldcCH X0 hx hZ hown (hw _ (List.mem_of_getElem? (i := 97) rfl)) wS e0 hS hkW hEL (List.mem_of_getElem? (i := 0) rfl) CH.1 (vs := []) (z := (0 : Int32)) ⟨by decide, by decide⟩ (by decide) rfl (g := (mkF m 4 #[.val (.ref tt), .val (.int (0 : Int32)), .val (.int (0 : Int32))] [])) rfl (hb hby dns0_4) (n := 0) (by decide) (by decide) (by decide) (by decide)
  have CR := CH.trans C1
  have Kp := Kp.ext E1
  have Zs := Nat.le_trans Zs E1.1
  have szr := Nat.le_trans szr E1.1
  refine own_go (fun tQ kQ => st1 tQ kQ) ?_
  show own_End p e below _ (T1.setTop (mkF m 6 #[.val (.ref tt), .val (.int (0 : Int32)), .val (.int (0 : Int32))] [(.ref r)]))
  have V_tr : own_Ar Z h1 tr .byte (0 : Int32) (fun j => .int (bs j)) := (own_Ar.of_arv Kv1).turn (fun j hj => absurd hj (Nat.not_lt_zero _))
  obtain ⟨fs, hr, hrun, hended, hend⟩ := X1.leaveW hS (by rw [e1]; exact hkW) (v := some (.ref r)) (fun h => by rw [Bd.returns] at h; cases h)
  have CF : CHr Z own_EL s.vm s.heap (T1.setFrames fs).vm (T1.setFrames fs).heap := by
    rw [hh]
    have q := (CR).trans (CHv.at X1 hZ hEL (CR).1)
    show CHr Z own_EL s.vm h0 T1.vm T1.heap
    rw [e1]
    exact q
  refine ⟨_, _, ?_, hrun, hended, _, _, rfl, ?_, CF, ⟨hend.1, hend.2.1, hend.2.2.1, hend.2.2.2.mono (by decide) (by decide)⟩⟩
  · exact (by
      jvm_step X1.here [X1.here.top, hx, (hb hby dns0_6), X1.method', Bd.returns, Value.isRef, FieldType.isReference, narrow]
      first | (intro acts; rw [hr _ acts rfl rfl rfl]) | rw [hr _ _ rfl rfl rfl]
      exact Steps.refl _)
  · show Qns0 Z tt bs h0 n0 _ T1.heap _
    rw [e1]
    exact ⟨r, tr, rfl, Nf, Kp, E_r, F_value_r, F_coder_r, V_tr⟩
theorem pd_17 : parseMethodDescriptor "(III)V" = some ⟨[.int, .int, .int], none⟩ := by decide +kernel
theorem pd_18 : parseMethodDescriptor "([BII)Ljava/lang/String;" = some ⟨[(.array .byte), .int, .int], some (.object "java/lang/String")⟩ := by decide +kernel
theorem dss_0 : decode jdk_42_method_92_code 0 = .ok (.aload_n 0, 1) := by decide +kernel
theorem dss_1 : decode jdk_42_method_92_code 1 = .ok (.invokevirtual 505, 3) := by decide +kernel
theorem dss_4 : decode jdk_42_method_92_code 4 = .ok (.istore_n 3, 1) := by decide +kernel
theorem dss_5 : decode jdk_42_method_92_code 5 = .ok (.iload_n 1, 1) := by decide +kernel
theorem dss_6 : decode jdk_42_method_92_code 6 = .ok (.iload_n 2, 1) := by decide +kernel
theorem dss_7 : decode jdk_42_method_92_code 7 = .ok (.iload_n 3, 1) := by decide +kernel
theorem dss_8 : decode jdk_42_method_92_code 8 = .ok (.invokestatic 521, 3) := by decide +kernel
theorem dss_11 : decode jdk_42_method_92_code 11 = .ok (.iload_n 1, 1) := by decide +kernel
theorem dss_12 : decode jdk_42_method_92_code 12 = .ok (.ifCond .ne 10, 3) := by decide +kernel
theorem dss_15 : decode jdk_42_method_92_code 15 = .ok (.iload_n 2, 1) := by decide +kernel
theorem dss_16 : decode jdk_42_method_92_code 16 = .ok (.iload_n 3, 1) := by decide +kernel
theorem dss_17 : decode jdk_42_method_92_code 17 = .ok (.if_icmp .ne 5, 3) := by decide +kernel
theorem dss_22 : decode jdk_42_method_92_code 22 = .ok (.iload_n 2, 1) := by decide +kernel
theorem dss_23 : decode jdk_42_method_92_code 23 = .ok (.iload_n 1, 1) := by decide +kernel
theorem dss_24 : decode jdk_42_method_92_code 24 = .ok (.isub, 1) := by decide +kernel
theorem dss_25 : decode jdk_42_method_92_code 25 = .ok (.istore 4, 2) := by decide +kernel
theorem dss_27 : decode jdk_42_method_92_code 27 = .ok (.aload_n 0, 1) := by decide +kernel
theorem dss_28 : decode jdk_42_method_92_code 28 = .ok (.invokevirtual 492, 3) := by decide +kernel
theorem dss_31 : decode jdk_42_method_92_code 31 = .ok (.ifCond .eq 16, 3) := by decide +kernel
theorem dss_34 : decode jdk_42_method_92_code 34 = .ok (.aload_n 0, 1) := by decide +kernel
theorem dss_35 : decode jdk_42_method_92_code 35 = .ok (.getfield 9, 3) := by decide +kernel
theorem dss_38 : decode jdk_42_method_92_code 38 = .ok (.iload_n 1, 1) := by decide +kernel
theorem dss_39 : decode jdk_42_method_92_code 39 = .ok (.iload 4, 2) := by decide +kernel
theorem dss_41 : decode jdk_42_method_92_code 41 = .ok (.invokestatic 685, 3) := by decide +kernel
theorem dss_44 : decode jdk_42_method_92_code 44 = .ok (.goto 13, 3) := by decide +kernel
theorem dss_57 : decode jdk_42_method_92_code 57 = .ok (.areturn, 1) := by decide +kernel
theorem ef_ss (m : MethodId) (x0 : Addr) (x1 : Int32) (x2 : Int32) : entryFrame m #[(.ref x0), (.int x1), (.int x2)] 5 = mkF m 0 #[.val (.ref x0), .val (.int x1), .val (.int x2), .unset, .unset] [] := by first | (simp [entryFrame, mkF, argsToLocals, Value.category]; done) | rfl
def Qss (Z : State) (st : Addr) (tt : Addr) (z : Int32) (bs : Nat → Int32) (cz : Int32) (N : Nat) (K : Nat) (kz : Int32) (fm : Value) (h0 : Heap) (n0 : Nat) (v : Option Value) (h : Heap) (L : List Loc) : Prop := ∃ r tr, v = some (.ref r) ∧ Fr n0 L ∧ Keep h0 h [] ∧ h0.size ≤ r ∧ h0.size ≤ tr ∧ Exa Z h r "java/lang/String" ∧ Fld Z h r "java/lang/String" "value" "[B" (.ref tr) ∧ Fld Z h r "java/lang/String" "coder" "B" (.int (0 : Int32)) ∧ own_Ar Z h tr .byte kz (fun j => .int (bs j))
def Pss (Z : State) (st : Addr) (tt : Addr) (z : Int32) (bs : Nat → Int32) (cz : Int32) (N : Nat) (K : Nat) (kz : Int32) (fm : Value) (h0 : Heap) (n0 : Nat) (s : State) (oQ : Outcome) (U : State) : Prop := ∃ v L, oQ = .returned v ∧ Qss Z st tt z bs cz N K kz fm h0 n0 v U.heap L ∧ FrameEnd s oQ U L ({ frames := 4, cells := 2, slots := 8, locals := 106 } : Room).cells ({ frames := 4, cells := 2, slots := 8, locals := 106 } : Room).slots
set_option maxRecDepth 65536 in
set_option maxHeartbeats 40000000 in
theorem rmss (l : Launch) (Z : State) (a0 : Array Value) (hw : ∀ d ∈ tables_1, d.before a0 Z = true) (ws : List Jvm.Cond) (st : Addr) (tt : Addr) (z : Int32) (bs : Nat → Int32) (cz : Int32) (N : Nat) (K : Nat) (kz : Int32) (fm : Value) (h0 : Heap) (n0 : Nat) (Z0 : n0 ≤ h0.size) (E_st : Exa Z h0 st "java/lang/String") (F_value_st : Fld Z h0 st "java/lang/String" "value" "[B" (.ref tt)) (F_coder_st : Fld Z h0 st "java/lang/String" "coder" "B" (.int (0 : Int32))) (V_tt : own_Ar Z h0 tt .byte z (fun j => .int (bs j))) (Ol : Old Z n0 h0) (S_cs : Sta Z Z.heap "java/lang/String" "COMPACT_STRINGS" "Z" (.int cz)) (hcz : ¬ cz = 0) (hz : z.toInt = N) (hkz : kz.toInt = K) (hKN : K < N) (hK4 : K ≤ 4) (hfb : ∀ j, fits .byte (.int (bs j)) = true) (S_fm : Sta Z Z.heap "jdk/internal/util/Preconditions" "SIOOBE_FORMATTER" "Ljava/util/function/BiFunction;" fm) (rfm : fm.isRef = true) (hK0 : 0 < K) :
    MetFree l (⟨"java/lang/String", "substring", "(II)Ljava/lang/String;"⟩ : MethodName) (head1 (Jvm.Cond.code (⟨"java/lang/String", "substring", "(II)Ljava/lang/String;"⟩ : MethodName) jdk_42_method_92_code 5 (some (.object "java/lang/String")) :: ws) ({ frames := 4, cells := 2, slots := 8, locals := 106 } : Room)) (fun aQ U => aQ = #[(.ref st), (.int (0 : Int32)), (.int kz)] ∧ Z.Warmed39 U.vm ∧ U.heap = h0) (fun _ _ _ _ _ => True) (fun _ U oQ U' => ∃ v L, oQ = .returned v ∧ Qss Z st tt z bs cz N K kz fm h0 n0 v U'.heap L ∧ FrameEnd U oQ U' L ({ frames := 4, cells := 2, slots := 8, locals := 106 } : Room).cells ({ frames := 4, cells := 2, slots := 8, locals := 106 } : Room).slots) := by
  refine MetFree.of_bodySF (plainFor_of_name pn_0) hisR ?_
  intro p e s m args below meth c s₁ Bd hml0 hP hK
  obtain ⟨rfl, hZ, hh⟩ := hP
  have hx := Bd.exec
  have hby := Bd.bytes
  have hml : c.maxLocals = 5 := hml0
  have hown : s.vm.findClass "java/lang/String" = some m.cls := findClass_of_methodNamed Bd.named
  have hnm := (name_of_methodNamed Bd.named Bd.method).1
  have X0 : Stand p l e ({ frames := 4, cells := 2, slots := 8, locals := 106 } : Room) s m #[(.ref st), (.int (0 : Int32)), (.int kz)] below meth c s₁ [] 0 0 := Stand.of_body Bd
  have e0 : s₁.heap = h0 := by rw [← hh, Bd.state]; rfl
  have Nf := Fr.nil n0
  have Zs : n0 ≤ h0.size := Z0
  have Kp : Keep h0 h0 [] := Keep.refl _ _
  have szr : h0.size ≤ h0.size := Nat.le_refl _
  show own_End p e below (Pss Z st tt z bs cz N K kz fm h0 n0 s) (s₁.setTop (entryFrame m #[(.ref st), (.int (0 : Int32)), (.int kz)] 5))
  rw [ef_ss]
  refine own_go (fun tQ kQ => XS.aloadN X0.here hx rfl (hb hby dss_0) rfl rfl kQ) ?_
  show own_End p e below _ (s₁.setTop (mkF m 1 #[.val (.ref st), .val (.int (0 : Int32)), .val (.int kz), .unset, .unset] [(.ref st)]))
  obtain ⟨cq1, kq1, q1a, q1b, q1c⟩ := isOf hZ e0 E_st
  obtain ⟨_, _, ⟨T1, L1, k1, n1⟩, -, X1, ⟨Lc1, hQ1, l1, y1, z1⟩, st1⟩ := X0.virtualBack hx (y := (⟨"java/lang/String", "length", "()I"⟩ : MethodName)) (z := (⟨"java/lang/String", "length", "()I"⟩ : MethodName)) hown (mvT hZ (hw _ (List.mem_of_getElem? (i := 54) rfl))) (mvT hZ (hw _ (List.mem_of_getElem? (i := 55) rfl))) (notFace_of_selects (args := #[]) (mvT hZ (hw _ (List.mem_of_getElem? (i := 57) rfl)))) (mvT hZ (hw _ (List.mem_of_getElem? (i := 57) rfl))) (mvT hZ (hw _ (List.mem_of_getElem? (i := 56) rfl))) (by decide) (backOf (W := 0) (rmlen l Z a0 hw [] st tt z bs cz h0 n0 Zs E_st F_value_st F_coder_st V_tt Ol S_cs hcz) hZ (hw _ (List.mem_of_getElem? (i := 58) rfl)) (hw _ (List.mem_of_getElem? (i := 8) rfl)) (by decide) (by decide)) q1a q1c (g := (mkF m 1 #[.val (.ref st), .val (.int (0 : Int32)), .val (.int kz), .unset, .unset] [(.ref st)])) rfl (by rw [hml]; rfl) (Steps.refl _) (argsL := []) (rest := []) (lenOf pd_12 rfl) rfl (by show 2 * 0 + _ ≤ _; exact Nat.le_of_eq rfl) (hb hby dss_1) (fun _ _ => ⟨rfl, e0, (Nat.le_of_ble_eq_true rfl), (Nat.le_of_ble_eq_true rfl)⟩)
  dsimp only [Pt.U, Pt.locs, Pt.cells, Pt.slots] at X1 l1 y1 z1 st1 hQ1
  subst l1 y1 z1
  obtain ⟨rfl, N1q, e1⟩ := hQ1
  have Nf := Fr.app Nf N1q
  refine own_go (fun tQ kQ => st1.trans kQ) ?_
  show own_End p e below _ (T1.setTop (mkF m 4 #[.val (.ref st), .val (.int (0 : Int32)), .val (.int kz), .unset, .unset] [(.int z)]))
  refine own_go (fun tQ kQ => XS.istoreN X1.here hx rfl (hb hby dss_4) rfl (l' := #[.val (.ref st), .val (.int (0 : Int32)), .val (.int kz), .val (.int z), .unset]) rfl kQ) ?_
  show own_End p e below _ (T1.setTop (mkF m 5 #[.val (.ref st), .val (.int (0 : Int32)), .val (.int kz), .val (.int z), .unset] []))
  refine own_go (fun tQ kQ => XS.iloadN X1.here hx rfl (hb hby dss_5) rfl kQ) ?_
  show own_End p e below _ (T1.setTop (mkF m 6 #[.val (.ref st), .val (.int (0 : Int32)), .val (.int kz), .val (.int z), .unset] [(.int (0 : Int32))]))
  refine own_go (fun tQ kQ => XS.iloadN X1.here hx rfl (hb hby dss_6) rfl kQ) ?_
  show own_End p e below _ (T1.setTop (mkF m 7 #[.val (.ref st), .val (.int (0 : Int32)), .val (.int kz), .val (.int z), .unset] [(.int kz), (.int (0 : Int32))]))
  refine own_go (fun tQ kQ => XS.iloadN X1.here hx rfl (hb hby dss_7) rfl kQ) ?_
  show own_End p e below _ (T1.setTop (mkF m 8 #[.val (.ref st), .val (.int (0 : Int32)), .val (.int kz), .val (.int z), .unset] [(.int z), (.int kz), (.int (0 : Int32))]))
  obtain ⟨_, _, ⟨T2, L2, k2, n2⟩, -, X2, ⟨Lc2, hQ2, l2, y2, z2⟩, st2⟩ := Jvm.LawKit.callS X1 hx (y := (⟨"java/lang/String", "checkBoundsBeginEnd", "(III)V"⟩ : MethodName)) hown (mvT hZ (hw _ (List.mem_of_getElem? (i := 86) rfl))) (mvT hZ (hw _ (List.mem_of_getElem? (i := 87) rfl))) (mvT hZ (hw _ (List.mem_of_getElem? (i := 8) rfl))) (mvT hZ (hw _ (List.mem_of_getElem? (i := 88) rfl))) (by decide) (backOf (W := 0) (rmcbe l Z a0 hw [] kz z fm h0 n0 Zs Ol S_fm rfm (own_nn hkz) (fun q => absurd ((own_lt_of hz hkz).mp q) (by omega))) hZ (hw _ (List.mem_of_getElem? (i := 88) rfl)) (hw _ (List.mem_of_getElem? (i := 8) rfl)) (by decide) (by decide)) (g := (mkF m 8 #[.val (.ref st), .val (.int (0 : Int32)), .val (.int kz), .val (.int z), .unset] [(.int z), (.int kz), (.int (0 : Int32))])) rfl (by rw [hml]; rfl) (argsL := [(.int (0 : Int32)), (.int kz), (.int z)]) (rest := []) (lenOf pd_17 rfl) rfl (by show 2 * 0 + _ ≤ _; exact Nat.le_of_eq rfl) (hb hby dss_8) (fun _ _ => ⟨rfl, e1, (Nat.le_of_ble_eq_true rfl), (Nat.le_of_ble_eq_true rfl)⟩)
  dsimp only [Pt.U, Pt.locs, Pt.cells, Pt.slots] at X2 l2 y2 z2 st2 hQ2
  subst l2 y2 z2
  obtain ⟨rfl, N2q, e2⟩ := hQ2
  have Nf := Fr.app Nf N2q
  refine own_go (fun tQ kQ => st2 tQ kQ) ?_
  show own_End p e below _ (T2.setTop (mkF m 11 #[.val (.ref st), .val (.int (0 : Int32)), .val (.int kz), .val (.int z), .unset] []))
  refine own_go (fun tQ kQ => XS.iloadN X2.here hx rfl (hb hby dss_11) rfl kQ) ?_
  show own_End p e below _ (T2.setTop (mkF m 12 #[.val (.ref st), .val (.int (0 : Int32)), .val (.int kz), .val (.int z), .unset] [(.int (0 : Int32))]))
  refine own_go (fun tQ kQ => XS.ifNo X2.here hx rfl (hb hby dss_12) rfl ((if0 _ _).trans (teq (by decide)).2) kQ) ?_
  show own_End p e below _ (T2.setTop (mkF m 15 #[.val (.ref st), .val (.int (0 : Int32)), .val (.int kz), .val (.int z), .unset] []))
  refine own_go (fun tQ kQ => XS.iloadN X2.here hx rfl (hb hby dss_15) rfl kQ) ?_
  show own_End p e below _ (T2.setTop (mkF m 16 #[.val (.ref st), .val (.int (0 : Int32)), .val (.int kz), .val (.int z), .unset] [(.int kz)]))
  refine own_go (fun tQ kQ => XS.iloadN X2.here hx rfl (hb hby dss_16) rfl kQ) ?_
  show own_End p e below _ (T2.setTop (mkF m 17 #[.val (.ref st), .val (.int (0 : Int32)), .val (.int kz), .val (.int z), .unset] [(.int z), (.int kz)]))
  refine own_go (fun tQ kQ => XS.icmpYes X2.here hx rfl (pc0 := 17) (pc' := 22) rfl (hb hby dss_17) rfl (feq (fun q => absurd ((own_eq_of hkz hz).mp q) (by omega))).2 (by decide) (by decide) kQ) ?_
  show own_End p e below _ (T2.setTop (mkF m 22 #[.val (.ref st), .val (.int (0 : Int32)), .val (.int kz), .val (.int z), .unset] []))
  refine own_go (fun tQ kQ => XS.iloadN X2.here hx rfl (hb hby dss_22) rfl kQ) ?_
  show own_End p e below _ (T2.setTop (mkF m 23 #[.val (.ref st), .val (.int (0 : Int32)), .val (.int kz), .val (.int z), .unset] [(.int kz)]))
  refine own_go (fun tQ kQ => XS.iloadN X2.here hx rfl (hb hby dss_23) rfl kQ) ?_
  show own_End p e below _ (T2.setTop (mkF m 24 #[.val (.ref st), .val (.int (0 : Int32)), .val (.int kz), .val (.int z), .unset] [(.int (0 : Int32)), (.int kz)]))
  refine own_go (fun tQ kQ => XS.isub X2.here hx rfl (hb hby dss_24) rfl kQ) ?_
  show own_End p e below _ (T2.setTop (mkF m 25 #[.val (.ref st), .val (.int (0 : Int32)), .val (.int kz), .val (.int z), .unset] [(.int (kz - (0 : Int32)))]))
  rw [own_min0]
  show own_End p e below _ (T2.setTop (mkF m 25 #[.val (.ref st), .val (.int (0 : Int32)), .val (.int kz), .val (.int z), .unset] [(.int kz)]))
  refine own_go (fun tQ kQ => XS.istore X2.here hx rfl (hb hby dss_25) rfl (l' := #[.val (.ref st), .val (.int (0 : Int32)), .val (.int kz), .val (.int z), .val (.int kz)]) rfl kQ) ?_
  show own_End p e below _ (T2.setTop (mkF m 27 #[.val (.ref st), .val (.int (0 : Int32)), .val (.int kz), .val (.int z), .val (.int kz)] []))
  refine own_go (fun tQ kQ => XS.aloadN X2.here hx rfl (hb hby dss_27) rfl rfl kQ) ?_
  show own_End p e below _ (T2.setTop (mkF m 28 #[.val (.ref st), .val (.int (0 : Int32)), .val (.int kz), .val (.int z), .val (.int kz)] [(.ref st)]))
  obtain ⟨cq3, kq3, q3a, q3b, q3c⟩ := isOf hZ e2 E_st
  obtain ⟨_, _, ⟨T3, L3, k3, n3⟩, -, X3, ⟨Lc3, hQ3, l3, y3, z3⟩, st3⟩ := X2.virtualBack hx (y := (⟨"java/lang/String", "isLatin1", "()Z"⟩ : MethodName)) (z := (⟨"java/lang/String", "isLatin1", "()Z"⟩ : MethodName)) hown (mvT hZ (hw _ (List.mem_of_getElem? (i := 49) rfl))) (mvT hZ (hw _ (List.mem_of_getElem? (i := 50) rfl))) (notFace_of_selects (args := #[]) (mvT hZ (hw _ (List.mem_of_getElem? (i := 52) rfl)))) (mvT hZ (hw _ (List.mem_of_getElem? (i := 52) rfl))) (mvT hZ (hw _ (List.mem_of_getElem? (i := 51) rfl))) (by decide) (backOf (W := 0) (rmlat l Z a0 hw [] st tt z bs cz h0 n0 Zs E_st F_value_st F_coder_st V_tt Ol S_cs hcz) hZ (hw _ (List.mem_of_getElem? (i := 53) rfl)) (hw _ (List.mem_of_getElem? (i := 8) rfl)) (by decide) (by decide)) q3a q3c (g := (mkF m 28 #[.val (.ref st), .val (.int (0 : Int32)), .val (.int kz), .val (.int z), .val (.int kz)] [(.ref st)])) rfl (by rw [hml]; rfl) (Steps.refl _) (argsL := []) (rest := []) (lenOf pd_6 rfl) rfl (by show 2 * 0 + _ ≤ _; exact Nat.le_of_eq rfl) (hb hby dss_28) (fun _ _ => ⟨rfl, e2, (Nat.le_of_ble_eq_true rfl), (Nat.le_of_ble_eq_true rfl)⟩)
  dsimp only [Pt.U, Pt.locs, Pt.cells, Pt.slots] at X3 l3 y3 z3 st3 hQ3
  subst l3 y3 z3
  obtain ⟨rfl, N3q, e3⟩ := hQ3
  have Nf := Fr.app Nf N3q
  refine own_go (fun tQ kQ => st3.trans kQ) ?_
  show own_End p e below _ (T3.setTop (mkF m 31 #[.val (.ref st), .val (.int (0 : Int32)), .val (.int kz), .val (.int z), .val (.int kz)] [(.int (1 : Int32))]))
  refine own_go (fun tQ kQ => XS.ifNo X3.here hx rfl (hb hby dss_31) rfl ((if0 _ _).trans (feq (by decide)).1) kQ) ?_
  show own_End p e below _ (T3.setTop (mkF m 34 #[.val (.ref st), .val (.int (0 : Int32)), .val (.int kz), .val (.int z), .val (.int kz)] []))
  refine own_go (fun tQ kQ => XS.aloadN X3.here hx rfl (hb hby dss_34) rfl rfl kQ) ?_
  show own_End p e below _ (T3.setTop (mkF m 35 #[.val (.ref st), .val (.int (0 : Int32)), .val (.int kz), .val (.int z), .val (.int kz)] [(.ref st)]))
  obtain ⟨T4, X4, e4, st4⟩ := getF X3 hx hZ hown (host := "") (Or.inl (hw _ (List.mem_of_getElem? (i := 33) rfl))) Via.refl e3 F_value_st (g := (mkF m 35 #[.val (.ref st), .val (.int (0 : Int32)), .val (.int kz), .val (.int z), .val (.int kz)] [(.ref st)])) rfl rfl (hb hby dss_35)
  refine own_go (fun tQ kQ => st4 tQ kQ) ?_
  show own_End p e below _ (T4.setTop (mkF m 38 #[.val (.ref st), .val (.int (0 : Int32)), .val (.int kz), .val (.int z), .val (.int kz)] [(.ref tt)]))
  refine own_go (fun tQ kQ => XS.iloadN X4.here hx rfl (hb hby dss_38) rfl kQ) ?_
  show own_End p e below _ (T4.setTop (mkF m 39 #[.val (.ref st), .val (.int (0 : Int32)), .val (.int kz), .val (.int z), .val (.int kz)] [(.int (0 : Int32)), (.ref tt)]))
  refine own_go (fun tQ kQ => XS.iload X4.here hx rfl (hb hby dss_39) rfl kQ) ?_
  show own_End p e below _ (T4.setTop (mkF m 41 #[.val (.ref st), .val (.int (0 : Int32)), .val (.int kz), .val (.int z), .val (.int kz)] [(.int kz), (.int (0 : Int32)), (.ref tt)]))
  obtain ⟨_, _, ⟨T5, L5, k5, n5⟩, -, X5, ⟨Lc5, hQ5, l5, y5, z5⟩, st5⟩ := Jvm.LawKit.callS X4 hx (y := (⟨"java/lang/StringLatin1", "newString", "([BII)Ljava/lang/String;"⟩ : MethodName)) hown (mvT hZ (hw _ (List.mem_of_getElem? (i := 94) rfl))) (mvT hZ (hw _ (List.mem_of_getElem? (i := 95) rfl))) (mvT hZ (hw _ (List.mem_of_getElem? (i := 66) rfl))) (mvT hZ (hw _ (List.mem_of_getElem? (i := 96) rfl))) (by decide) (backOf (W := 0) (rmns l Z a0 hw [] tt z bs N K kz h0 n0 Zs V_tt hz hkz hKN hK4 hfb hK0) hZ (hw _ (List.mem_of_getElem? (i := 96) rfl)) (hw _ (List.mem_of_getElem? (i := 66) rfl)) (by decide) (by decide)) (g := (mkF m 41 #[.val (.ref st), .val (.int (0 : Int32)), .val (.int kz), .val (.int z), .val (.int kz)] [(.int kz), (.int (0 : Int32)), (.ref tt)])) rfl (by rw [hml]; rfl) (argsL := [(.ref tt), (.int (0 : Int32)), (.int kz)]) (rest := []) (lenOf pd_18 rfl) rfl (by show 2 * 0 + _ ≤ _; exact Nat.le_of_eq rfl) (hb hby dss_41) (fun _ _ => ⟨rfl, e4, (Nat.le_of_ble_eq_true rfl), (Nat.le_of_ble_eq_true rfl)⟩)
  dsimp only [Pt.U, Pt.locs, Pt.cells, Pt.slots] at X5 l5 y5 z5 st5 hQ5
  subst l5 y5 z5
  obtain ⟨r, tr, rfl, N5q, K5, hb5, hc5, E_r, F_value_r, F_coder_r, V_tr⟩ := hQ5
  have Nf := Fr.app Nf N5q
  have ne_st_r : st ≠ r := Nat.ne_of_lt (Nat.lt_of_lt_of_le E_st.lt hb5)
  have ne_tt_r : tt ≠ r := Nat.ne_of_lt (Nat.lt_of_lt_of_le V_tt.lt hb5)
  have g_r : n0 ≤ r := Nat.le_trans Zs hb5
  have sz_r : h0.size ≤ r := Nat.le_trans szr hb5
  have ne_st_tr : st ≠ tr := Nat.ne_of_lt (Nat.lt_of_lt_of_le E_st.lt hc5)
  have ne_tt_tr : tt ≠ tr := Nat.ne_of_lt (Nat.lt_of_lt_of_le V_tt.lt hc5)
  have g_tr : n0 ≤ tr := Nat.le_trans Zs hc5
  have sz_tr : h0.size ≤ tr := Nat.le_trans szr hc5
  have E_st := E_st.keep K5
  have F_value_st := F_value_st.keep K5 nin0
  have F_coder_st := F_coder_st.keep K5 nin0
  have V_tt := V_tt.keep K5 nin0
  have Ol := Ol.keep K5 all0
  have Kp := Kp.trans K5 all0
  have Zs := Nat.le_trans Zs K5.1
  have szr := Nat.le_trans szr K5.1
  refine own_go (fun tQ kQ => st5 tQ kQ) ?_
  show own_End p e below _ (T5.setTop (mkF m 44 #[.val (.ref st), .val (.int (0 : Int32)), .val (.int kz), .val (.int z), .val (.int kz)] [(.ref r)]))
  refine own_go (fun tQ kQ => XS.goto X5.here hx rfl (pc0 := 44) (pc' := 57) rfl (hb hby dss_44) (by decide) (by decide) kQ) ?_
  show own_End p e below _ (T5.setTop (mkF m 57 #[.val (.ref st), .val (.int (0 : Int32)), .val (.int kz), .val (.int z), .val (.int kz)] [(.ref r)]))
  obtain ⟨fs, hr, hrun, hended, hW, hsame⟩ := X5.leave (v := some (.ref r)) (fun h => by rw [Bd.returns] at h; cases h)
  refine ⟨_, _, ?_, hrun, hended, _, _, rfl, ?_, ⟨_, rfl⟩, hW, hsame.mono (by decide) (by decide)⟩
  · exact (by
      jvm_step X5.here [X5.here.top, hx, (hb hby dss_57), X5.method', Bd.returns, Value.isRef, FieldType.isReference, narrow]
      first | (intro acts; rw [hr _ acts rfl rfl rfl]) | rw [hr _ _ rfl rfl rfl]
      exact Steps.refl _)
  · show Qss Z st tt z bs cz N K kz fm h0 n0 _ T5.heap _
    exact ⟨r, tr, rfl, Nf, Kp, sz_r, sz_tr, E_r, F_value_r, F_coder_r, V_tr⟩
theorem dss0_0 : decode jdk_42_method_92_code 0 = .ok (.aload_n 0, 1) := by decide +kernel
theorem dss0_1 : decode jdk_42_method_92_code 1 = .ok (.invokevirtual 505, 3) := by decide +kernel
theorem dss0_4 : decode jdk_42_method_92_code 4 = .ok (.istore_n 3, 1) := by decide +kernel
theorem dss0_5 : decode jdk_42_method_92_code 5 = .ok (.iload_n 1, 1) := by decide +kernel
theorem dss0_6 : decode jdk_42_method_92_code 6 = .ok (.iload_n 2, 1) := by decide +kernel
theorem dss0_7 : decode jdk_42_method_92_code 7 = .ok (.iload_n 3, 1) := by decide +kernel
theorem dss0_8 : decode jdk_42_method_92_code 8 = .ok (.invokestatic 521, 3) := by decide +kernel
theorem dss0_11 : decode jdk_42_method_92_code 11 = .ok (.iload_n 1, 1) := by decide +kernel
theorem dss0_12 : decode jdk_42_method_92_code 12 = .ok (.ifCond .ne 10, 3) := by decide +kernel
theorem dss0_15 : decode jdk_42_method_92_code 15 = .ok (.iload_n 2, 1) := by decide +kernel
theorem dss0_16 : decode jdk_42_method_92_code 16 = .ok (.iload_n 3, 1) := by decide +kernel
theorem dss0_17 : decode jdk_42_method_92_code 17 = .ok (.if_icmp .ne 5, 3) := by decide +kernel
theorem dss0_22 : decode jdk_42_method_92_code 22 = .ok (.iload_n 2, 1) := by decide +kernel
theorem dss0_23 : decode jdk_42_method_92_code 23 = .ok (.iload_n 1, 1) := by decide +kernel
theorem dss0_24 : decode jdk_42_method_92_code 24 = .ok (.isub, 1) := by decide +kernel
theorem dss0_25 : decode jdk_42_method_92_code 25 = .ok (.istore 4, 2) := by decide +kernel
theorem dss0_27 : decode jdk_42_method_92_code 27 = .ok (.aload_n 0, 1) := by decide +kernel
theorem dss0_28 : decode jdk_42_method_92_code 28 = .ok (.invokevirtual 492, 3) := by decide +kernel
theorem dss0_31 : decode jdk_42_method_92_code 31 = .ok (.ifCond .eq 16, 3) := by decide +kernel
theorem dss0_34 : decode jdk_42_method_92_code 34 = .ok (.aload_n 0, 1) := by decide +kernel
theorem dss0_35 : decode jdk_42_method_92_code 35 = .ok (.getfield 9, 3) := by decide +kernel
theorem dss0_38 : decode jdk_42_method_92_code 38 = .ok (.iload_n 1, 1) := by decide +kernel
theorem dss0_39 : decode jdk_42_method_92_code 39 = .ok (.iload 4, 2) := by decide +kernel
theorem dss0_41 : decode jdk_42_method_92_code 41 = .ok (.invokestatic 685, 3) := by decide +kernel
theorem dss0_44 : decode jdk_42_method_92_code 44 = .ok (.goto 13, 3) := by decide +kernel
theorem dss0_57 : decode jdk_42_method_92_code 57 = .ok (.areturn, 1) := by decide +kernel
theorem ef_ss0 (m : MethodId) (x0 : Addr) (x1 : Int32) (x2 : Int32) : entryFrame m #[(.ref x0), (.int x1), (.int x2)] 5 = mkF m 0 #[.val (.ref x0), .val (.int x1), .val (.int x2), .unset, .unset] [] := by first | (simp [entryFrame, mkF, argsToLocals, Value.category]; done) | rfl
def Qss0 (Z : State) (st : Addr) (tt : Addr) (z : Int32) (bs : Nat → Int32) (cz : Int32) (N : Nat) (fm : Value) (h0 : Heap) (n0 : Nat) (v : Option Value) (h : Heap) (L : List Loc) : Prop := ∃ r tr, v = some (.ref r) ∧ Fr n0 L ∧ Keep h0 h [] ∧ Exa Z h r "java/lang/String" ∧ Fld Z h r "java/lang/String" "value" "[B" (.ref tr) ∧ Fld Z h r "java/lang/String" "coder" "B" (.int (0 : Int32)) ∧ own_Ar Z h tr .byte (0 : Int32) (fun j => .int (bs j))
def Pss0 (Z : State) (st : Addr) (tt : Addr) (z : Int32) (bs : Nat → Int32) (cz : Int32) (N : Nat) (fm : Value) (h0 : Heap) (n0 : Nat) (s : State) (oQ : Outcome) (U : State) : Prop := ∃ v L, oQ = .returned v ∧ Qss0 Z st tt z bs cz N fm h0 n0 v U.heap L ∧ CHr Z own_EL s.vm s.heap U.vm U.heap ∧ ReturnedEndW s oQ U L ({ frames := 2, cells := 2, slots := 4, locals := 29 } : Room).cells ({ frames := 2, cells := 2, slots := 4, locals := 29 } : Room).slots
set_option maxRecDepth 65536 in
set_option maxHeartbeats 40000000 in
theorem rmss0 (l : Launch) (Z : State) (a0 : Array Value) (hw : ∀ d ∈ tables_1, d.before a0 Z = true) (ws : List Jvm.Cond) (st : Addr) (tt : Addr) (z : Int32) (bs : Nat → Int32) (cz : Int32) (N : Nat) (fm : Value) (h0 : Heap) (n0 : Nat) (Z0 : n0 ≤ h0.size) (E_st : Exa Z h0 st "java/lang/String") (F_value_st : Fld Z h0 st "java/lang/String" "value" "[B" (.ref tt)) (F_coder_st : Fld Z h0 st "java/lang/String" "coder" "B" (.int (0 : Int32))) (V_tt : own_Ar Z h0 tt .byte z (fun j => .int (bs j))) (Ol : Old Z n0 h0) (S_cs : Sta Z Z.heap "java/lang/String" "COMPACT_STRINGS" "Z" (.int cz)) (hcz : ¬ cz = 0) (hz : z.toInt = N) (hN : 0 < N) (S_fm : Sta Z Z.heap "jdk/internal/util/Preconditions" "SIOOBE_FORMATTER" "Ljava/util/function/BiFunction;" fm) (rfm : fm.isRef = true) (hEL : EW Z a0 own_EL) :
    MetFree l (⟨"java/lang/String", "substring", "(II)Ljava/lang/String;"⟩ : MethodName) (head1 (Jvm.Cond.code (⟨"java/lang/String", "substring", "(II)Ljava/lang/String;"⟩ : MethodName) jdk_42_method_92_code 5 (some (.object "java/lang/String")) :: ws) ({ frames := 2, cells := 2, slots := 4, locals := 29 } : Room)) (fun aQ U => aQ = #[(.ref st), (.int (0 : Int32)), (.int (0 : Int32))] ∧ Z.Warmed39 U.vm ∧ U.heap = h0 ∧ CHv Z own_EL U.vm h0) (fun _ _ _ _ _ => True) (fun _ U oQ U' => ∃ v L, oQ = .returned v ∧ Qss0 Z st tt z bs cz N fm h0 n0 v U'.heap L ∧ CHr Z own_EL U.vm U.heap U'.vm U'.heap ∧ ReturnedEndW U oQ U' L ({ frames := 2, cells := 2, slots := 4, locals := 29 } : Room).cells ({ frames := 2, cells := 2, slots := 4, locals := 29 } : Room).slots) := by
  refine MetFree.of_bodySF (plainFor_of_name pn_0) hisR ?_
  intro p e s m args below meth c s₁ Bd hml0 hP hK
  obtain ⟨rfl, hZ, hh, H0⟩ := hP
  have hx := Bd.exec
  have hby := Bd.bytes
  have hml : c.maxLocals = 5 := hml0
  have hown : (s.setVm s.vm).vm.findClass "java/lang/String" = some m.cls := findClass_of_methodNamed Bd.named
  have hZ : Z.Warmed39 (s.setVm s.vm).vm := hZ
  have hS : s.Since s.vm h0.size := (State.WarmedH.refl s).since _
  have hkW : h0.size ≤ h0.size := Nat.le_refl _
  have hnm := (name_of_methodNamed Bd.named Bd.method).1
  have X0 : Stand p l e ({ frames := 2, cells := 2, slots := 4, locals := 29 } : Room) (s.setVm s.vm) m #[(.ref st), (.int (0 : Int32)), (.int (0 : Int32))] below meth c s₁ [] 0 0 := Stand.of_body Bd
  have e0 : s₁.heap = h0 := by rw [← hh, Bd.state]; rfl
  have Nf := Fr.nil n0
  have Zs : n0 ≤ h0.size := Z0
  have Kp : Keep h0 h0 [] := Keep.refl _ _
  have szr : h0.size ≤ h0.size := Nat.le_refl _
  show own_End p e below (Pss0 Z st tt z bs cz N fm h0 n0 s) (s₁.setTop (entryFrame m #[(.ref st), (.int (0 : Int32)), (.int (0 : Int32))] 5))
  rw [ef_ss0]
  refine own_go (fun tQ kQ => XS.aloadN X0.here hx rfl (hb hby dss0_0) rfl rfl kQ) ?_
  show own_End p e below _ (s₁.setTop (mkF m 1 #[.val (.ref st), .val (.int (0 : Int32)), .val (.int (0 : Int32)), .unset, .unset] [(.ref st)]))
  obtain ⟨cq1, kq1, q1a, q1b, q1c⟩ := isOf hZ e0 E_st
  obtain ⟨_, _, ⟨T1, L1, k1, n1⟩, -, X1, ⟨Lc1, hQ1, l1, y1, z1⟩, st1⟩ := X0.virtualBack hx (y := (⟨"java/lang/String", "length", "()I"⟩ : MethodName)) (z := (⟨"java/lang/String", "length", "()I"⟩ : MethodName)) hown (mvT hZ (hw _ (List.mem_of_getElem? (i := 54) rfl))) (mvT hZ (hw _ (List.mem_of_getElem? (i := 55) rfl))) (notFace_of_selects (args := #[]) (mvT hZ (hw _ (List.mem_of_getElem? (i := 57) rfl)))) (mvT hZ (hw _ (List.mem_of_getElem? (i := 57) rfl))) (mvT hZ (hw _ (List.mem_of_getElem? (i := 56) rfl))) (by decide) (backOf (W := 0) (rmlen l Z a0 hw [] st tt z bs cz h0 n0 Zs E_st F_value_st F_coder_st V_tt Ol S_cs hcz) hZ (hw _ (List.mem_of_getElem? (i := 58) rfl)) (hw _ (List.mem_of_getElem? (i := 8) rfl)) (by decide) (by decide)) q1a q1c (g := (mkF m 1 #[.val (.ref st), .val (.int (0 : Int32)), .val (.int (0 : Int32)), .unset, .unset] [(.ref st)])) rfl (by rw [hml]; rfl) (Steps.refl _) (argsL := []) (rest := []) (lenOf pd_12 rfl) rfl (by show 2 * 0 + _ ≤ _; exact Nat.le_of_eq rfl) (hb hby dss0_1) (fun _ _ => ⟨rfl, e0, (Nat.le_of_ble_eq_true rfl), (Nat.le_of_ble_eq_true rfl)⟩)
  dsimp only [Pt.U, Pt.locs, Pt.cells, Pt.slots] at X1 l1 y1 z1 st1 hQ1
  subst l1 y1 z1
  obtain ⟨rfl, N1q, e1⟩ := hQ1
  have Nf := Fr.app Nf N1q
  refine own_go (fun tQ kQ => st1.trans kQ) ?_
  show own_End p e below _ (T1.setTop (mkF m 4 #[.val (.ref st), .val (.int (0 : Int32)), .val (.int (0 : Int32)), .unset, .unset] [(.int z)]))
  refine own_go (fun tQ kQ => XS.istoreN X1.here hx rfl (hb hby dss0_4) rfl (l' := #[.val (.ref st), .val (.int (0 : Int32)), .val (.int (0 : Int32)), .val (.int z), .unset]) rfl kQ) ?_
  show own_End p e below _ (T1.setTop (mkF m 5 #[.val (.ref st), .val (.int (0 : Int32)), .val (.int (0 : Int32)), .val (.int z), .unset] []))
  refine own_go (fun tQ kQ => XS.iloadN X1.here hx rfl (hb hby dss0_5) rfl kQ) ?_
  show own_End p e below _ (T1.setTop (mkF m 6 #[.val (.ref st), .val (.int (0 : Int32)), .val (.int (0 : Int32)), .val (.int z), .unset] [(.int (0 : Int32))]))
  refine own_go (fun tQ kQ => XS.iloadN X1.here hx rfl (hb hby dss0_6) rfl kQ) ?_
  show own_End p e below _ (T1.setTop (mkF m 7 #[.val (.ref st), .val (.int (0 : Int32)), .val (.int (0 : Int32)), .val (.int z), .unset] [(.int (0 : Int32)), (.int (0 : Int32))]))
  refine own_go (fun tQ kQ => XS.iloadN X1.here hx rfl (hb hby dss0_7) rfl kQ) ?_
  show own_End p e below _ (T1.setTop (mkF m 8 #[.val (.ref st), .val (.int (0 : Int32)), .val (.int (0 : Int32)), .val (.int z), .unset] [(.int z), (.int (0 : Int32)), (.int (0 : Int32))]))
  obtain ⟨_, _, ⟨T2, L2, k2, n2⟩, -, X2, ⟨Lc2, hQ2, l2, y2, z2⟩, st2⟩ := Jvm.LawKit.callS X1 hx (y := (⟨"java/lang/String", "checkBoundsBeginEnd", "(III)V"⟩ : MethodName)) hown (mvT hZ (hw _ (List.mem_of_getElem? (i := 86) rfl))) (mvT hZ (hw _ (List.mem_of_getElem? (i := 87) rfl))) (mvT hZ (hw _ (List.mem_of_getElem? (i := 8) rfl))) (mvT hZ (hw _ (List.mem_of_getElem? (i := 88) rfl))) (by decide) (backOf (W := 0) (rmcbe l Z a0 hw [] (0 : Int32) z fm h0 n0 Zs Ol S_fm rfm (by decide) (fun q => absurd ((own_lt_of hz (by decide : (0 : Int32).toInt = (0 : Nat))).mp q) (by omega))) hZ (hw _ (List.mem_of_getElem? (i := 88) rfl)) (hw _ (List.mem_of_getElem? (i := 8) rfl)) (by decide) (by decide)) (g := (mkF m 8 #[.val (.ref st), .val (.int (0 : Int32)), .val (.int (0 : Int32)), .val (.int z), .unset] [(.int z), (.int (0 : Int32)), (.int (0 : Int32))])) rfl (by rw [hml]; rfl) (argsL := [(.int (0 : Int32)), (.int (0 : Int32)), (.int z)]) (rest := []) (lenOf pd_17 rfl) rfl (by show 2 * 0 + _ ≤ _; exact Nat.le_of_eq rfl) (hb hby dss0_8) (fun _ _ => ⟨rfl, e1, (Nat.le_of_ble_eq_true rfl), (Nat.le_of_ble_eq_true rfl)⟩)
  dsimp only [Pt.U, Pt.locs, Pt.cells, Pt.slots] at X2 l2 y2 z2 st2 hQ2
  subst l2 y2 z2
  obtain ⟨rfl, N2q, e2⟩ := hQ2
  have Nf := Fr.app Nf N2q
  refine own_go (fun tQ kQ => st2 tQ kQ) ?_
  show own_End p e below _ (T2.setTop (mkF m 11 #[.val (.ref st), .val (.int (0 : Int32)), .val (.int (0 : Int32)), .val (.int z), .unset] []))
  refine own_go (fun tQ kQ => XS.iloadN X2.here hx rfl (hb hby dss0_11) rfl kQ) ?_
  show own_End p e below _ (T2.setTop (mkF m 12 #[.val (.ref st), .val (.int (0 : Int32)), .val (.int (0 : Int32)), .val (.int z), .unset] [(.int (0 : Int32))]))
  refine own_go (fun tQ kQ => XS.ifNo X2.here hx rfl (hb hby dss0_12) rfl ((if0 _ _).trans (teq (by decide)).2) kQ) ?_
  show own_End p e below _ (T2.setTop (mkF m 15 #[.val (.ref st), .val (.int (0 : Int32)), .val (.int (0 : Int32)), .val (.int z), .unset] []))
  refine own_go (fun tQ kQ => XS.iloadN X2.here hx rfl (hb hby dss0_15) rfl kQ) ?_
  show own_End p e below _ (T2.setTop (mkF m 16 #[.val (.ref st), .val (.int (0 : Int32)), .val (.int (0 : Int32)), .val (.int z), .unset] [(.int (0 : Int32))]))
  refine own_go (fun tQ kQ => XS.iloadN X2.here hx rfl (hb hby dss0_16) rfl kQ) ?_
  show own_End p e below _ (T2.setTop (mkF m 17 #[.val (.ref st), .val (.int (0 : Int32)), .val (.int (0 : Int32)), .val (.int z), .unset] [(.int z), (.int (0 : Int32))]))
  refine own_go (fun tQ kQ => XS.icmpYes X2.here hx rfl (pc0 := 17) (pc' := 22) rfl (hb hby dss0_17) rfl (feq (fun q => absurd ((own_eq_of (by decide : (0 : Int32).toInt = (0 : Nat)) hz).mp q) (by omega))).2 (by decide) (by decide) kQ) ?_
  show own_End p e below _ (T2.setTop (mkF m 22 #[.val (.ref st), .val (.int (0 : Int32)), .val (.int (0 : Int32)), .val (.int z), .unset] []))
  refine own_go (fun tQ kQ => XS.iloadN X2.here hx rfl (hb hby dss0_22) rfl kQ) ?_
  show own_End p e below _ (T2.setTop (mkF m 23 #[.val (.ref st), .val (.int (0 : Int32)), .val (.int (0 : Int32)), .val (.int z), .unset] [(.int (0 : Int32))]))
  refine own_go (fun tQ kQ => XS.iloadN X2.here hx rfl (hb hby dss0_23) rfl kQ) ?_
  show own_End p e below _ (T2.setTop (mkF m 24 #[.val (.ref st), .val (.int (0 : Int32)), .val (.int (0 : Int32)), .val (.int z), .unset] [(.int (0 : Int32)), (.int (0 : Int32))]))
  refine own_go (fun tQ kQ => XS.isub X2.here hx rfl (hb hby dss0_24) rfl kQ) ?_
  show own_End p e below _ (T2.setTop (mkF m 25 #[.val (.ref st), .val (.int (0 : Int32)), .val (.int (0 : Int32)), .val (.int z), .unset] [(.int ((0 : Int32) - (0 : Int32)))]))
  rw [own_min0]
  show own_End p e below _ (T2.setTop (mkF m 25 #[.val (.ref st), .val (.int (0 : Int32)), .val (.int (0 : Int32)), .val (.int z), .unset] [(.int (0 : Int32))]))
  refine own_go (fun tQ kQ => XS.istore X2.here hx rfl (hb hby dss0_25) rfl (l' := #[.val (.ref st), .val (.int (0 : Int32)), .val (.int (0 : Int32)), .val (.int z), .val (.int (0 : Int32))]) rfl kQ) ?_
  show own_End p e below _ (T2.setTop (mkF m 27 #[.val (.ref st), .val (.int (0 : Int32)), .val (.int (0 : Int32)), .val (.int z), .val (.int (0 : Int32))] []))
  refine own_go (fun tQ kQ => XS.aloadN X2.here hx rfl (hb hby dss0_27) rfl rfl kQ) ?_
  show own_End p e below _ (T2.setTop (mkF m 28 #[.val (.ref st), .val (.int (0 : Int32)), .val (.int (0 : Int32)), .val (.int z), .val (.int (0 : Int32))] [(.ref st)]))
  obtain ⟨cq3, kq3, q3a, q3b, q3c⟩ := isOf hZ e2 E_st
  obtain ⟨_, _, ⟨T3, L3, k3, n3⟩, -, X3, ⟨Lc3, hQ3, l3, y3, z3⟩, st3⟩ := X2.virtualBack hx (y := (⟨"java/lang/String", "isLatin1", "()Z"⟩ : MethodName)) (z := (⟨"java/lang/String", "isLatin1", "()Z"⟩ : MethodName)) hown (mvT hZ (hw _ (List.mem_of_getElem? (i := 49) rfl))) (mvT hZ (hw _ (List.mem_of_getElem? (i := 50) rfl))) (notFace_of_selects (args := #[]) (mvT hZ (hw _ (List.mem_of_getElem? (i := 52) rfl)))) (mvT hZ (hw _ (List.mem_of_getElem? (i := 52) rfl))) (mvT hZ (hw _ (List.mem_of_getElem? (i := 51) rfl))) (by decide) (backOf (W := 0) (rmlat l Z a0 hw [] st tt z bs cz h0 n0 Zs E_st F_value_st F_coder_st V_tt Ol S_cs hcz) hZ (hw _ (List.mem_of_getElem? (i := 53) rfl)) (hw _ (List.mem_of_getElem? (i := 8) rfl)) (by decide) (by decide)) q3a q3c (g := (mkF m 28 #[.val (.ref st), .val (.int (0 : Int32)), .val (.int (0 : Int32)), .val (.int z), .val (.int (0 : Int32))] [(.ref st)])) rfl (by rw [hml]; rfl) (Steps.refl _) (argsL := []) (rest := []) (lenOf pd_6 rfl) rfl (by show 2 * 0 + _ ≤ _; exact Nat.le_of_eq rfl) (hb hby dss0_28) (fun _ _ => ⟨rfl, e2, (Nat.le_of_ble_eq_true rfl), (Nat.le_of_ble_eq_true rfl)⟩)
  dsimp only [Pt.U, Pt.locs, Pt.cells, Pt.slots] at X3 l3 y3 z3 st3 hQ3
  subst l3 y3 z3
  obtain ⟨rfl, N3q, e3⟩ := hQ3
  have Nf := Fr.app Nf N3q
  refine own_go (fun tQ kQ => st3.trans kQ) ?_
  show own_End p e below _ (T3.setTop (mkF m 31 #[.val (.ref st), .val (.int (0 : Int32)), .val (.int (0 : Int32)), .val (.int z), .val (.int (0 : Int32))] [(.int (1 : Int32))]))
  refine own_go (fun tQ kQ => XS.ifNo X3.here hx rfl (hb hby dss0_31) rfl ((if0 _ _).trans (feq (by decide)).1) kQ) ?_
  show own_End p e below _ (T3.setTop (mkF m 34 #[.val (.ref st), .val (.int (0 : Int32)), .val (.int (0 : Int32)), .val (.int z), .val (.int (0 : Int32))] []))
  refine own_go (fun tQ kQ => XS.aloadN X3.here hx rfl (hb hby dss0_34) rfl rfl kQ) ?_
  show own_End p e below _ (T3.setTop (mkF m 35 #[.val (.ref st), .val (.int (0 : Int32)), .val (.int (0 : Int32)), .val (.int z), .val (.int (0 : Int32))] [(.ref st)]))
  obtain ⟨T4, X4, e4, st4⟩ := getF X3 hx hZ hown (host := "") (Or.inl (hw _ (List.mem_of_getElem? (i := 33) rfl))) Via.refl e3 F_value_st (g := (mkF m 35 #[.val (.ref st), .val (.int (0 : Int32)), .val (.int (0 : Int32)), .val (.int z), .val (.int (0 : Int32))] [(.ref st)])) rfl rfl (hb hby dss0_35)
  refine own_go (fun tQ kQ => st4 tQ kQ) ?_
  show own_End p e below _ (T4.setTop (mkF m 38 #[.val (.ref st), .val (.int (0 : Int32)), .val (.int (0 : Int32)), .val (.int z), .val (.int (0 : Int32))] [(.ref tt)]))
  refine own_go (fun tQ kQ => XS.iloadN X4.here hx rfl (hb hby dss0_38) rfl kQ) ?_
  show own_End p e below _ (T4.setTop (mkF m 39 #[.val (.ref st), .val (.int (0 : Int32)), .val (.int (0 : Int32)), .val (.int z), .val (.int (0 : Int32))] [(.int (0 : Int32)), (.ref tt)]))
  refine own_go (fun tQ kQ => XS.iload X4.here hx rfl (hb hby dss0_39) rfl kQ) ?_
  show own_End p e below _ (T4.setTop (mkF m 41 #[.val (.ref st), .val (.int (0 : Int32)), .val (.int (0 : Int32)), .val (.int z), .val (.int (0 : Int32))] [(.int (0 : Int32)), (.int (0 : Int32)), (.ref tt)]))
  have CH := CHr.ext (Z := Z) (EL := own_EL) (vm := s.vm) ⟨Kp.1, fun a c q => Kp.2.1 a c q nin0⟩ H0
  obtain ⟨_, _, ⟨T5, L5, k5, n5⟩, -, X5, S5, G5, ⟨Lc5, hQ5, l5, y5, z5, C5⟩, st5⟩ := Jvm.RoadKit.callSS X4 hx (y := (⟨"java/lang/StringLatin1", "newString", "([BII)Ljava/lang/String;"⟩ : MethodName)) hown (mvT hZ (hw _ (List.mem_of_getElem? (i := 94) rfl))) (mvT hZ (hw _ (List.mem_of_getElem? (i := 95) rfl))) (mvT hZ (hw _ (List.mem_of_getElem? (i := 66) rfl))) (mvT hZ (hw _ (List.mem_of_getElem? (i := 96) rfl))) (by decide) (backOfSH (W := 0) (rmns0 l Z a0 hw [] tt bs h0 n0 Zs hEL) hZ (hw _ (List.mem_of_getElem? (i := 96) rfl)) (hw _ (List.mem_of_getElem? (i := 66) rfl)) (by decide) (by decide) hEL CH.1) (g := (mkF m 41 #[.val (.ref st), .val (.int (0 : Int32)), .val (.int (0 : Int32)), .val (.int z), .val (.int (0 : Int32))] [(.int (0 : Int32)), (.int (0 : Int32)), (.ref tt)])) rfl (by rw [hml]; rfl) (argsL := [(.ref tt), (.int (0 : Int32)), (.int (0 : Int32))]) (rest := []) (lenOf pd_18 rfl) rfl (by show 2 * 0 + _ ≤ _; exact Nat.le_of_eq rfl) (hb hby dss0_41) (fun _ _ => ⟨rfl, e4, (Nat.le_of_ble_eq_true rfl), (Nat.le_of_ble_eq_true rfl)⟩)
  dsimp only [Pt.U, Pt.locs, Pt.cells, Pt.slots] at X5 l5 y5 z5 st5 hQ5 S5 G5
  subst l5 y5 z5
  have CR := CH.trans C5
  obtain ⟨X5, hS, hZ, hown⟩ := rebS hS (by rw [e4]; exact hkW) X5 S5 G5 hZ hown
  have hkW : T5.heap.size ≤ T5.heap.size := Nat.le_refl _
  obtain ⟨r, tr, rfl, N5q, K5, E_r, F_value_r, F_coder_r, V_tr⟩ := hQ5
  have Nf := Fr.app Nf N5q
  have E_st := E_st.keep K5
  have F_value_st := F_value_st.keep K5 nin0
  have F_coder_st := F_coder_st.keep K5 nin0
  have V_tt := V_tt.keep K5 nin0
  have Ol := Ol.keep K5 all0
  have Kp := Kp.trans K5 all0
  have Zs := Nat.le_trans Zs K5.1
  have szr := Nat.le_trans szr K5.1
  refine own_go (fun tQ kQ => st5.trans kQ) ?_
  show own_End p e below _ (T5.setTop (mkF m 44 #[.val (.ref st), .val (.int (0 : Int32)), .val (.int (0 : Int32)), .val (.int z), .val (.int (0 : Int32))] [(.ref r)]))
  refine own_go (fun tQ kQ => XS.goto X5.here hx rfl (pc0 := 44) (pc' := 57) rfl (hb hby dss0_44) (by decide) (by decide) kQ) ?_
  show own_End p e below _ (T5.setTop (mkF m 57 #[.val (.ref st), .val (.int (0 : Int32)), .val (.int (0 : Int32)), .val (.int z), .val (.int (0 : Int32))] [(.ref r)]))
  obtain ⟨fs, hr, hrun, hended, hend⟩ := X5.leaveW hS hkW (v := some (.ref r)) (fun h => by rw [Bd.returns] at h; cases h)
  have CF : CHr Z own_EL s.vm s.heap (T5.setFrames fs).vm (T5.setFrames fs).heap := by
    rw [hh]
    have q := (CR).trans (CHv.at X5 hZ hEL (CR).1)
    show CHr Z own_EL s.vm h0 T5.vm T5.heap
    exact q
  refine ⟨_, _, ?_, hrun, hended, _, _, rfl, ?_, CF, ⟨hend.1, hend.2.1, hend.2.2.1, hend.2.2.2.mono (by decide) (by decide)⟩⟩
  · exact (by
      jvm_step X5.here [X5.here.top, hx, (hb hby dss0_57), X5.method', Bd.returns, Value.isRef, FieldType.isReference, narrow]
      first | (intro acts; rw [hr _ acts rfl rfl rfl]) | rw [hr _ _ rfl rfl rfl]
      exact Steps.refl _)
  · show Qss0 Z st tt z bs cz N fm h0 n0 _ T5.heap _
    exact ⟨r, tr, rfl, Nf, Kp, E_r, F_value_r, F_coder_r, V_tr⟩
theorem pd_19 : parseMethodDescriptor "(I)I" = some ⟨[.int], some .int⟩ := by decide +kernel
theorem pd_20 : parseMethodDescriptor "(II)Ljava/lang/String;" = some ⟨[.int, .int], some (.object "java/lang/String")⟩ := by decide +kernel
theorem dpo_0 : decode prog_3_method_6_code 0 = .ok (.aload_n 0, 1) := by decide +kernel
theorem dpo_1 : decode prog_3_method_6_code 1 = .ok (.iconst 0, 1) := by decide +kernel
theorem dpo_2 : decode prog_3_method_6_code 2 = .ok (.aload_n 0, 1) := by decide +kernel
theorem dpo_3 : decode prog_3_method_6_code 3 = .ok (.bipush 47, 2) := by decide +kernel
theorem dpo_5 : decode prog_3_method_6_code 5 = .ok (.invokevirtual 31, 3) := by decide +kernel
theorem dpo_8 : decode prog_3_method_6_code 8 = .ok (.invokevirtual 37, 3) := by decide +kernel
theorem dpo_11 : decode prog_3_method_6_code 11 = .ok (.areturn, 1) := by decide +kernel
theorem pn_21 : plainName "com/example/resolvent/resolvent/identifiers/Identifier" = true := by first | (simp [plainName, overriddenIn]; done) | decide +kernel
theorem ef_po (m : MethodId) (x0 : Addr) : entryFrame m #[(.ref x0)] 1 = mkF m 0 #[.val (.ref x0)] [] := by first | (simp [entryFrame, mkF, argsToLocals, Value.category]; done) | rfl
def Qpo (Z : State) (st : Addr) (tt : Addr) (z : Int32) (bs : Nat → Int32) (cz : Int32) (N : Nat) (K : Nat) (kz : Int32) (fm : Value) (h0 : Heap) (n0 : Nat) (v : Option Value) (h : Heap) (L : List Loc) : Prop := ∃ r tr, v = some (.ref r) ∧ Fr n0 L ∧ Keep h0 h [] ∧ h0.size ≤ r ∧ h0.size ≤ tr ∧ Exa Z h r "java/lang/String" ∧ Fld Z h r "java/lang/String" "value" "[B" (.ref tr) ∧ Fld Z h r "java/lang/String" "coder" "B" (.int (0 : Int32)) ∧ own_Ar Z h tr .byte kz (fun j => .int (bs j))
def Ppo (Z : State) (st : Addr) (tt : Addr) (z : Int32) (bs : Nat → Int32) (cz : Int32) (N : Nat) (K : Nat) (kz : Int32) (fm : Value) (h0 : Heap) (n0 : Nat) (s : State) (oQ : Outcome) (U : State) : Prop := ∃ v L, oQ = .returned v ∧ Qpo Z st tt z bs cz N K kz fm h0 n0 v U.heap L ∧ FrameEnd s oQ U L ({ frames := 5, cells := 2, slots := 8, locals := 122 } : Room).cells ({ frames := 5, cells := 2, slots := 8, locals := 122 } : Room).slots
set_option maxRecDepth 65536 in
set_option maxHeartbeats 40000000 in
theorem rmpo (l : Launch) (Z : State) (a0 : Array Value) (hw : ∀ d ∈ tables_1, d.before a0 Z = true) (ws : List Jvm.Cond) (st : Addr) (tt : Addr) (z : Int32) (bs : Nat → Int32) (cz : Int32) (N : Nat) (K : Nat) (kz : Int32) (fm : Value) (h0 : Heap) (n0 : Nat) (Z0 : n0 ≤ h0.size) (E_st : Exa Z h0 st "java/lang/String") (F_value_st : Fld Z h0 st "java/lang/String" "value" "[B" (.ref tt)) (F_coder_st : Fld Z h0 st "java/lang/String" "coder" "B" (.int (0 : Int32))) (V_tt : own_Ar Z h0 tt .byte z (fun j => .int (bs j))) (Ol : Old Z n0 h0) (S_cs : Sta Z Z.heap "java/lang/String" "COMPACT_STRINGS" "Z" (.int cz)) (hcz : ¬ cz = 0) (hz : z.toInt = N) (hkz : kz.toInt = K) (hKN : K < N) (hbk : bs K = ((47 : Int32).toInt8.toInt32)) (hlt : ∀ j, j < K → ¬ bs j = ((47 : Int32).toInt8.toInt32)) (hK4 : K ≤ 4) (hfb : ∀ j, fits .byte (.int (bs j)) = true) (S_fm : Sta Z Z.heap "jdk/internal/util/Preconditions" "SIOOBE_FORMATTER" "Ljava/util/function/BiFunction;" fm) (rfm : fm.isRef = true) (hK0 : 0 < K) :
    MetFree l (⟨"com/example/resolvent/resolvent/identifiers/Identifier", "prefixOf", "(Ljava/lang/String;)Ljava/lang/String;"⟩ : MethodName) (head1 (Jvm.Cond.code (⟨"com/example/resolvent/resolvent/identifiers/Identifier", "prefixOf", "(Ljava/lang/String;)Ljava/lang/String;"⟩ : MethodName) prog_3_method_6_code 1 (some (.object "java/lang/String")) :: ws) ({ frames := 5, cells := 2, slots := 8, locals := 122 } : Room)) (fun aQ U => aQ = #[(.ref st)] ∧ Z.Warmed39 U.vm ∧ U.heap = h0) (fun _ _ _ _ _ => True) (fun _ U oQ U' => ∃ v L, oQ = .returned v ∧ Qpo Z st tt z bs cz N K kz fm h0 n0 v U'.heap L ∧ FrameEnd U oQ U' L ({ frames := 5, cells := 2, slots := 8, locals := 122 } : Room).cells ({ frames := 5, cells := 2, slots := 8, locals := 122 } : Room).slots) := by
  refine MetFree.of_bodySF (plainFor_of_name pn_21) hisR ?_
  intro p e s m args below meth c s₁ Bd hml0 hP hK
  obtain ⟨rfl, hZ, hh⟩ := hP
  have hx := Bd.exec
  have hby := Bd.bytes
  have hml : c.maxLocals = 1 := hml0
  have hown : s.vm.findClass "com/example/resolvent/resolvent/identifiers/Identifier" = some m.cls := findClass_of_methodNamed Bd.named
  have hnm := (name_of_methodNamed Bd.named Bd.method).1
  have X0 : Stand p l e ({ frames := 5, cells := 2, slots := 8, locals := 122 } : Room) s m #[(.ref st)] below meth c s₁ [] 0 0 := Stand.of_body Bd
  have e0 : s₁.heap = h0 := by rw [← hh, Bd.state]; rfl
  have Nf := Fr.nil n0
  have Zs : n0 ≤ h0.size := Z0
  have Kp : Keep h0 h0 [] := Keep.refl _ _
  have szr : h0.size ≤ h0.size := Nat.le_refl _
  show own_End p e below (Ppo Z st tt z bs cz N K kz fm h0 n0 s) (s₁.setTop (entryFrame m #[(.ref st)] 1))
  rw [ef_po]
  refine own_go (fun tQ kQ => XS.aloadN X0.here hx rfl (hb hby dpo_0) rfl rfl kQ) ?_
  show own_End p e below _ (s₁.setTop (mkF m 1 #[.val (.ref st)] [(.ref st)]))
  refine own_go (fun tQ kQ => XS.iconst X0.here hx rfl (hb hby dpo_1) kQ) ?_
  show own_End p e below _ (s₁.setTop (mkF m 2 #[.val (.ref st)] [(.int (0 : Int32)), (.ref st)]))
  refine own_go (fun tQ kQ => XS.aloadN X0.here hx rfl (hb hby dpo_2) rfl rfl kQ) ?_
  show own_End p e below _ (s₁.setTop (mkF m 3 #[.val (.ref st)] [(.ref st), (.int (0 : Int32)), (.ref st)]))
  refine own_go (fun tQ kQ => XS.bipush X0.here hx rfl (hb hby dpo_3) kQ) ?_
  show own_End p e below _ (s₁.setTop (mkF m 5 #[.val (.ref st)] [(.int (47 : Int32)), (.ref st), (.int (0 : Int32)), (.ref st)]))
  obtain ⟨cq1, kq1, q1a, q1b, q1c⟩ := isOf hZ e0 E_st
  obtain ⟨_, _, ⟨T1, L1, k1, n1⟩, -, X1, ⟨Lc1, hQ1, l1, y1, z1⟩, st1⟩ := X0.virtualBack hx (y := (⟨"java/lang/String", "indexOf", "(I)I"⟩ : MethodName)) (z := (⟨"java/lang/String", "indexOf", "(I)I"⟩ : MethodName)) hown (mvT hZ (hw _ (List.mem_of_getElem? (i := 39) rfl))) (mvT hZ (hw _ (List.mem_of_getElem? (i := 40) rfl))) (notFace_of_selects (args := #[]) (mvT hZ (hw _ (List.mem_of_getElem? (i := 42) rfl)))) (mvT hZ (hw _ (List.mem_of_getElem? (i := 42) rfl))) (mvT hZ (hw _ (List.mem_of_getElem? (i := 41) rfl))) (by decide) (backOf (W := 2) (rmsi1 l Z a0 hw [] st tt z bs cz N K kz h0 n0 Zs E_st F_value_st F_coder_st V_tt Ol S_cs hcz hz hkz hKN hbk hlt) hZ (hw _ (List.mem_of_getElem? (i := 43) rfl)) (hw _ (List.mem_of_getElem? (i := 8) rfl)) (by decide) (by decide)) q1a q1c (g := (mkF m 5 #[.val (.ref st)] [(.int (47 : Int32)), (.ref st), (.int (0 : Int32)), (.ref st)])) rfl (by rw [hml]; rfl) (Steps.refl _) (argsL := [(.int (47 : Int32))]) (rest := [(.int (0 : Int32)), (.ref st)]) (lenOf pd_19 rfl) rfl (by show 2 * 0 + _ ≤ _; exact Nat.le_of_eq rfl) (hb hby dpo_5) (fun _ _ => ⟨rfl, e0, (Nat.le_of_ble_eq_true rfl), (Nat.le_of_ble_eq_true rfl)⟩)
  dsimp only [Pt.U, Pt.locs, Pt.cells, Pt.slots] at X1 l1 y1 z1 st1 hQ1
  subst l1 y1 z1
  obtain ⟨rfl, N1q, e1⟩ := hQ1
  have Nf := Fr.app Nf N1q
  refine own_go (fun tQ kQ => st1.trans kQ) ?_
  show own_End p e below _ (T1.setTop (mkF m 8 #[.val (.ref st)] [(.int kz), (.int (0 : Int32)), (.ref st)]))
  obtain ⟨cq2, kq2, q2a, q2b, q2c⟩ := isOf hZ e1 E_st
  obtain ⟨_, _, ⟨T2, L2, k2, n2⟩, -, X2, ⟨Lc2, hQ2, l2, y2, z2⟩, st2⟩ := X1.virtualBack hx (y := (⟨"java/lang/String", "substring", "(II)Ljava/lang/String;"⟩ : MethodName)) (z := (⟨"java/lang/String", "substring", "(II)Ljava/lang/String;"⟩ : MethodName)) hown (mvT hZ (hw _ (List.mem_of_getElem? (i := 81) rfl))) (mvT hZ (hw _ (List.mem_of_getElem? (i := 82) rfl))) (notFace_of_selects (args := #[]) (mvT hZ (hw _ (List.mem_of_getElem? (i := 84) rfl)))) (mvT hZ (hw _ (List.mem_of_getElem? (i := 84) rfl))) (mvT hZ (hw _ (List.mem_of_getElem? (i := 83) rfl))) (by decide) (backOf (W := 0) (rmss l Z a0 hw [] st tt z bs cz N K kz fm h0 n0 Zs E_st F_value_st F_coder_st V_tt Ol S_cs hcz hz hkz hKN hK4 hfb S_fm rfm hK0) hZ (hw _ (List.mem_of_getElem? (i := 85) rfl)) (hw _ (List.mem_of_getElem? (i := 8) rfl)) (by decide) (by decide)) q2a q2c (g := (mkF m 8 #[.val (.ref st)] [(.int kz), (.int (0 : Int32)), (.ref st)])) rfl (by rw [hml]; rfl) (Steps.refl _) (argsL := [(.int (0 : Int32)), (.int kz)]) (rest := []) (lenOf pd_20 rfl) rfl (by show 2 * 0 + _ ≤ _; exact Nat.le_of_eq rfl) (hb hby dpo_8) (fun _ _ => ⟨rfl, e1, (Nat.le_of_ble_eq_true rfl), (Nat.le_of_ble_eq_true rfl)⟩)
  dsimp only [Pt.U, Pt.locs, Pt.cells, Pt.slots] at X2 l2 y2 z2 st2 hQ2
  subst l2 y2 z2
  obtain ⟨r, tr, rfl, N2q, K2, hb2, hc2, E_r, F_value_r, F_coder_r, V_tr⟩ := hQ2
  have Nf := Fr.app Nf N2q
  have ne_st_r : st ≠ r := Nat.ne_of_lt (Nat.lt_of_lt_of_le E_st.lt hb2)
  have ne_tt_r : tt ≠ r := Nat.ne_of_lt (Nat.lt_of_lt_of_le V_tt.lt hb2)
  have g_r : n0 ≤ r := Nat.le_trans Zs hb2
  have sz_r : h0.size ≤ r := Nat.le_trans szr hb2
  have ne_st_tr : st ≠ tr := Nat.ne_of_lt (Nat.lt_of_lt_of_le E_st.lt hc2)
  have ne_tt_tr : tt ≠ tr := Nat.ne_of_lt (Nat.lt_of_lt_of_le V_tt.lt hc2)
  have g_tr : n0 ≤ tr := Nat.le_trans Zs hc2
  have sz_tr : h0.size ≤ tr := Nat.le_trans szr hc2
  have E_st := E_st.keep K2
  have F_value_st := F_value_st.keep K2 nin0
  have F_coder_st := F_coder_st.keep K2 nin0
  have V_tt := V_tt.keep K2 nin0
  have Ol := Ol.keep K2 all0
  have Kp := Kp.trans K2 all0
  have Zs := Nat.le_trans Zs K2.1
  have szr := Nat.le_trans szr K2.1
  refine own_go (fun tQ kQ => st2.trans kQ) ?_
  show own_End p e below _ (T2.setTop (mkF m 11 #[.val (.ref st)] [(.ref r)]))
  obtain ⟨fs, hr, hrun, hended, hW, hsame⟩ := X2.leave (v := some (.ref r)) (fun h => by rw [Bd.returns] at h; cases h)
  refine ⟨_, _, ?_, hrun, hended, _, _, rfl, ?_, ⟨_, rfl⟩, hW, hsame.mono (by decide) (by decide)⟩
  · exact (by
      jvm_step X2.here [X2.here.top, hx, (hb hby dpo_11), X2.method', Bd.returns, Value.isRef, FieldType.isReference, narrow]
      first | (intro acts; rw [hr _ acts rfl rfl rfl]) | rw [hr _ _ rfl rfl rfl]
      exact Steps.refl _)
  · show Qpo Z st tt z bs cz N K kz fm h0 n0 _ T2.heap _
    exact ⟨r, tr, rfl, Nf, Kp, sz_r, sz_tr, E_r, F_value_r, F_coder_r, V_tr⟩
theorem dpo0_0 : decode prog_3_method_6_code 0 = .ok (.aload_n 0, 1) := by decide +kernel
theorem dpo0_1 : decode prog_3_method_6_code 1 = .ok (.iconst 0, 1) := by decide +kernel
theorem dpo0_2 : decode prog_3_method_6_code 2 = .ok (.aload_n 0, 1) := by decide +kernel
theorem dpo0_3 : decode prog_3_method_6_code 3 = .ok (.bipush 47, 2) := by decide +kernel
theorem dpo0_5 : decode prog_3_method_6_code 5 = .ok (.invokevirtual 31, 3) := by decide +kernel
theorem dpo0_8 : decode prog_3_method_6_code 8 = .ok (.invokevirtual 37, 3) := by decide +kernel
theorem dpo0_11 : decode prog_3_method_6_code 11 = .ok (.areturn, 1) := by decide +kernel
theorem ef_po0 (m : MethodId) (x0 : Addr) : entryFrame m #[(.ref x0)] 1 = mkF m 0 #[.val (.ref x0)] [] := by first | (simp [entryFrame, mkF, argsToLocals, Value.category]; done) | rfl
def Qpo0 (Z : State) (st : Addr) (tt : Addr) (z : Int32) (bs : Nat → Int32) (cz : Int32) (N : Nat) (fm : Value) (h0 : Heap) (n0 : Nat) (v : Option Value) (h : Heap) (L : List Loc) : Prop := ∃ r tr, v = some (.ref r) ∧ Fr n0 L ∧ Keep h0 h [] ∧ Exa Z h r "java/lang/String" ∧ Fld Z h r "java/lang/String" "value" "[B" (.ref tr) ∧ Fld Z h r "java/lang/String" "coder" "B" (.int (0 : Int32)) ∧ own_Ar Z h tr .byte (0 : Int32) (fun j => .int (bs j))
def Ppo0 (Z : State) (st : Addr) (tt : Addr) (z : Int32) (bs : Nat → Int32) (cz : Int32) (N : Nat) (fm : Value) (h0 : Heap) (n0 : Nat) (s : State) (oQ : Outcome) (U : State) : Prop := ∃ v L, oQ = .returned v ∧ Qpo0 Z st tt z bs cz N fm h0 n0 v U.heap L ∧ CHr Z own_EL s.vm s.heap U.vm U.heap ∧ ReturnedEndW s oQ U L ({ frames := 4, cells := 2, slots := 4, locals := 61 } : Room).cells ({ frames := 4, cells := 2, slots := 4, locals := 61 } : Room).slots
set_option maxRecDepth 65536 in
set_option maxHeartbeats 40000000 in
theorem rmpo0 (l : Launch) (Z : State) (a0 : Array Value) (hw : ∀ d ∈ tables_1, d.before a0 Z = true) (ws : List Jvm.Cond) (st : Addr) (tt : Addr) (z : Int32) (bs : Nat → Int32) (cz : Int32) (N : Nat) (fm : Value) (h0 : Heap) (n0 : Nat) (Z0 : n0 ≤ h0.size) (E_st : Exa Z h0 st "java/lang/String") (F_value_st : Fld Z h0 st "java/lang/String" "value" "[B" (.ref tt)) (F_coder_st : Fld Z h0 st "java/lang/String" "coder" "B" (.int (0 : Int32))) (V_tt : own_Ar Z h0 tt .byte z (fun j => .int (bs j))) (Ol : Old Z n0 h0) (S_cs : Sta Z Z.heap "java/lang/String" "COMPACT_STRINGS" "Z" (.int cz)) (hcz : ¬ cz = 0) (hz : z.toInt = N) (hN : 0 < N) (S_fm : Sta Z Z.heap "jdk/internal/util/Preconditions" "SIOOBE_FORMATTER" "Ljava/util/function/BiFunction;" fm) (rfm : fm.isRef = true) (hEL : EW Z a0 own_EL) (hb0 : bs 0 = ((47 : Int32).toInt8.toInt32)) :
    MetFree l (⟨"com/example/resolvent/resolvent/identifiers/Identifier", "prefixOf", "(Ljava/lang/String;)Ljava/lang/String;"⟩ : MethodName) (head1 (Jvm.Cond.code (⟨"com/example/resolvent/resolvent/identifiers/Identifier", "prefixOf", "(Ljava/lang/String;)Ljava/lang/String;"⟩ : MethodName) prog_3_method_6_code 1 (some (.object "java/lang/String")) :: ws) ({ frames := 4, cells := 2, slots := 4, locals := 61 } : Room)) (fun aQ U => aQ = #[(.ref st)] ∧ Z.Warmed39 U.vm ∧ U.heap = h0 ∧ CHv Z own_EL U.vm h0) (fun _ _ _ _ _ => True) (fun _ U oQ U' => ∃ v L, oQ = .returned v ∧ Qpo0 Z st tt z bs cz N fm h0 n0 v U'.heap L ∧ CHr Z own_EL U.vm U.heap U'.vm U'.heap ∧ ReturnedEndW U oQ U' L ({ frames := 4, cells := 2, slots := 4, locals := 61 } : Room).cells ({ frames := 4, cells := 2, slots := 4, locals := 61 } : Room).slots) := by
  refine MetFree.of_bodySF (plainFor_of_name pn_21) hisR ?_
  intro p e s m args below meth c s₁ Bd hml0 hP hK
  obtain ⟨rfl, hZ, hh, H0⟩ := hP
  have hx := Bd.exec
  have hby := Bd.bytes
  have hml : c.maxLocals = 1 := hml0
  have hown : (s.setVm s.vm).vm.findClass "com/example/resolvent/resolvent/identifiers/Identifier" = some m.cls := findClass_of_methodNamed Bd.named
  have hZ : Z.Warmed39 (s.setVm s.vm).vm := hZ
  have hS : s.Since s.vm h0.size := (State.WarmedH.refl s).since _
  have hkW : h0.size ≤ h0.size := Nat.le_refl _
  have hnm := (name_of_methodNamed Bd.named Bd.method).1
  have X0 : Stand p l e ({ frames := 4, cells := 2, slots := 4, locals := 61 } : Room) (s.setVm s.vm) m #[(.ref st)] below meth c s₁ [] 0 0 := Stand.of_body Bd
  have e0 : s₁.heap = h0 := by rw [← hh, Bd.state]; rfl
  have Nf := Fr.nil n0
  have Zs : n0 ≤ h0.size := Z0
  have Kp : Keep h0 h0 [] := Keep.refl _ _
  have szr : h0.size ≤ h0.size := Nat.le_refl _
  show own_End p e below (Ppo0 Z st tt z bs cz N fm h0 n0 s) (s₁.setTop (entryFrame m #[(.ref st)] 1))
  rw [ef_po0]
  refine own_go (fun tQ kQ => XS.aloadN X0.here hx rfl (hb hby dpo0_0) rfl rfl kQ) ?_
  show own_End p e below _ (s₁.setTop (mkF m 1 #[.val (.ref st)] [(.ref st)]))
  refine own_go (fun tQ kQ => XS.iconst X0.here hx rfl (hb hby dpo0_1) kQ) ?_
  show own_End p e below _ (s₁.setTop (mkF m 2 #[.val (.ref st)] [(.int (0 : Int32)), (.ref st)]))
  refine own_go (fun tQ kQ => XS.aloadN X0.here hx rfl (hb hby dpo0_2) rfl rfl kQ) ?_
  show own_End p e below _ (s₁.setTop (mkF m 3 #[.val (.ref st)] [(.ref st), (.int (0 : Int32)), (.ref st)]))
  refine own_go (fun tQ kQ => XS.bipush X0.here hx rfl (hb hby dpo0_3) kQ) ?_
  show own_End p e below _ (s₁.setTop (mkF m 5 #[.val (.ref st)] [(.int (47 : Int32)), (.ref st), (.int (0 : Int32)), (.ref st)]))
  obtain ⟨cq1, kq1, q1a, q1b, q1c⟩ := isOf hZ e0 E_st
  obtain ⟨_, _, ⟨T1, L1, k1, n1⟩, -, X1, ⟨Lc1, hQ1, l1, y1, z1⟩, st1⟩ := X0.virtualBack hx (y := (⟨"java/lang/String", "indexOf", "(I)I"⟩ : MethodName)) (z := (⟨"java/lang/String", "indexOf", "(I)I"⟩ : MethodName)) hown (mvT hZ (hw _ (List.mem_of_getElem? (i := 39) rfl))) (mvT hZ (hw _ (List.mem_of_getElem? (i := 40) rfl))) (notFace_of_selects (args := #[]) (mvT hZ (hw _ (List.mem_of_getElem? (i := 42) rfl)))) (mvT hZ (hw _ (List.mem_of_getElem? (i := 42) rfl))) (mvT hZ (hw _ (List.mem_of_getElem? (i := 41) rfl))) (by decide) (backOf (W := 2) (rmsi1 l Z a0 hw [] st tt z bs cz N 0 (0 : Int32) h0 n0 Zs E_st F_value_st F_coder_st V_tt Ol S_cs hcz hz (by decide) hN hb0 (fun j hj => absurd hj (Nat.not_lt_zero _))) hZ (hw _ (List.mem_of_getElem? (i := 43) rfl)) (hw _ (List.mem_of_getElem? (i := 8) rfl)) (by decide) (by decide)) q1a q1c (g := (mkF m 5 #[.val (.ref st)] [(.int (47 : Int32)), (.ref st), (.int (0 : Int32)), (.ref st)])) rfl (by rw [hml]; rfl) (Steps.refl _) (argsL := [(.int (47 : Int32))]) (rest := [(.int (0 : Int32)), (.ref st)]) (lenOf pd_19 rfl) rfl (by show 2 * 0 + _ ≤ _; exact Nat.le_of_eq rfl) (hb hby dpo0_5) (fun _ _ => ⟨rfl, e0, (Nat.le_of_ble_eq_true rfl), (Nat.le_of_ble_eq_true rfl)⟩)
  dsimp only [Pt.U, Pt.locs, Pt.cells, Pt.slots] at X1 l1 y1 z1 st1 hQ1
  subst l1 y1 z1
  obtain ⟨rfl, N1q, e1⟩ := hQ1
  have Nf := Fr.app Nf N1q
  refine own_go (fun tQ kQ => st1.trans kQ) ?_
  show own_End p e below _ (T1.setTop (mkF m 8 #[.val (.ref st)] [(.int (0 : Int32)), (.int (0 : Int32)), (.ref st)]))
  have CH := CHr.ext (Z := Z) (EL := own_EL) (vm := s.vm) ⟨Kp.1, fun a c q => Kp.2.1 a c q nin0⟩ H0
  obtain ⟨cq2, kq2, q2a, q2b, q2c⟩ := isOf hZ e1 E_st
  obtain ⟨_, _, ⟨T2, L2, k2, n2⟩, -, X2, S2, G2, ⟨Lc2, hQ2, l2, y2, z2, C2⟩, st2⟩ := X1.virtualBackS hx (y := (⟨"java/lang/String", "substring", "(II)Ljava/lang/String;"⟩ : MethodName)) (z := (⟨"java/lang/String", "substring", "(II)Ljava/lang/String;"⟩ : MethodName)) hown (mvT hZ (hw _ (List.mem_of_getElem? (i := 81) rfl))) (mvT hZ (hw _ (List.mem_of_getElem? (i := 82) rfl))) (notFace_of_selects (args := #[]) (mvT hZ (hw _ (List.mem_of_getElem? (i := 84) rfl)))) (mvT hZ (hw _ (List.mem_of_getElem? (i := 84) rfl))) (mvT hZ (hw _ (List.mem_of_getElem? (i := 83) rfl))) (by decide) (backOfSH (W := 0) (rmss0 l Z a0 hw [] st tt z bs cz N fm h0 n0 Zs E_st F_value_st F_coder_st V_tt Ol S_cs hcz hz hN S_fm rfm hEL) hZ (hw _ (List.mem_of_getElem? (i := 85) rfl)) (hw _ (List.mem_of_getElem? (i := 8) rfl)) (by decide) (by decide) hEL CH.1) q2a q2c (g := (mkF m 8 #[.val (.ref st)] [(.int (0 : Int32)), (.int (0 : Int32)), (.ref st)])) rfl (by rw [hml]; rfl) (Steps.refl _) (argsL := [(.int (0 : Int32)), (.int (0 : Int32))]) (rest := []) (lenOf pd_20 rfl) rfl (by show 2 * 0 + _ ≤ _; exact Nat.le_of_eq rfl) (hb hby dpo0_8) (fun _ _ => ⟨rfl, e1, (Nat.le_of_ble_eq_true rfl), (Nat.le_of_ble_eq_true rfl)⟩)
  dsimp only [Pt.U, Pt.locs, Pt.cells, Pt.slots] at X2 l2 y2 z2 st2 hQ2 S2 G2
  subst l2 y2 z2
  have CR := CH.trans C2
  obtain ⟨X2, hS, hZ, hown⟩ := rebS hS (by rw [e1]; exact hkW) X2 S2 G2 hZ hown
  have hkW : T2.heap.size ≤ T2.heap.size := Nat.le_refl _
  obtain ⟨r, tr, rfl, N2q, K2, E_r, F_value_r, F_coder_r, V_tr⟩ := hQ2
  have Nf := Fr.app Nf N2q
  have E_st := E_st.keep K2
  have F_value_st := F_value_st.keep K2 nin0
  have F_coder_st := F_coder_st.keep K2 nin0
  have V_tt := V_tt.keep K2 nin0
  have Ol := Ol.keep K2 all0
  have Kp := Kp.trans K2 all0
  have Zs := Nat.le_trans Zs K2.1
  have szr := Nat.le_trans szr K2.1
  refine own_go (fun tQ kQ => st2.trans kQ) ?_
  show own_End p e below _ (T2.setTop (mkF m 11 #[.val (.ref st)] [(.ref r)]))
  obtain ⟨fs, hr, hrun, hended, hend⟩ := X2.leaveW hS hkW (v := some (.ref r)) (fun h => by rw [Bd.returns] at h; cases h)
  have CF : CHr Z own_EL s.vm s.heap (T2.setFrames fs).vm (T2.setFrames fs).heap := by
    rw [hh]
    have q := (CR).trans (CHv.at X2 hZ hEL (CR).1)
    show CHr Z own_EL s.vm h0 T2.vm T2.heap
    exact q
  refine ⟨_, _, ?_, hrun, hended, _, _, rfl, ?_, CF, ⟨hend.1, hend.2.1, hend.2.2.1, hend.2.2.2.mono (by decide) (by decide)⟩⟩
  · exact (by
      jvm_step X2.here [X2.here.top, hx, (hb hby dpo0_11), X2.method', Bd.returns, Value.isRef, FieldType.isReference, narrow]
      first | (intro acts; rw [hr _ acts rfl rfl rfl]) | rw [hr _ _ rfl rfl rfl]
      exact Steps.refl _)
  · show Qpo0 Z st tt z bs cz N fm h0 n0 _ T2.heap _
    exact ⟨r, tr, rfl, Nf, Kp, E_r, F_value_r, F_coder_r, V_tr⟩
theorem pd_22 : parseMethodDescriptor "(I)C" = some ⟨[.int], some .char⟩ := by decide +kernel
theorem pd_23 : parseMethodDescriptor "(Ljava/lang/String;)Ljava/lang/String;" = some ⟨[(.object "java/lang/String")], some (.object "java/lang/String")⟩ := by decide +kernel
theorem pd_24 : parseMethodDescriptor "([C)V" = some ⟨[(.array .char)], none⟩ := by decide +kernel
theorem ef_0 (m : MethodId) (x0 : Int32) (x1 : Int32) (x2 : Int32) (x3 : Int32) (x4 : Int32) (x5 : Int32) : entryFrame m #[(.int x0), (.int x1), (.int x2), (.int x3), (.int x4), (.int x5)] maxLocals = mkF m 0 #[.val (.int x0), .val (.int x1), .val (.int x2), .val (.int x3), .val (.int x4), .val (.int x5), .unset, .unset, .unset, .unset, .unset, .unset] [] := by first | (simp [entryFrame, mkF, argsToLocals, Value.category, maxLocals]; done) | rfl
def Q0 (Z : State) (i0 : Int32) (i1 : Int32) (i2 : Int32) (i3 : Int32) (i4 : Int32) (i5 : Int32) (cz : Int32) (fm : Value) (h0 : Heap) (n0 : Nat) (v : Option Value) (h : Heap) (L : List Loc) : Prop := v = some (.int 1) ∧ Fr n0 L
def P0 (Z : State) (i0 : Int32) (i1 : Int32) (i2 : Int32) (i3 : Int32) (i4 : Int32) (i5 : Int32) (cz : Int32) (fm : Value) (h0 : Heap) (n0 : Nat) (s : State) (oQ : Outcome) (U : State) : Prop := ∃ v L, oQ = .returned v ∧ Q0 Z i0 i1 i2 i3 i4 i5 cz fm h0 n0 v U.heap L ∧ ReturnedEndW s oQ U L 20 200
set_option maxRecDepth 65536 in
set_option maxHeartbeats 40000000 in
theorem rm0 (l : Launch) (Z : State) (a0 : Array Value) (hw : ∀ d ∈ tables_1, d.before a0 Z = true) (ws : List Jvm.Cond) (i0 : Int32) (i1 : Int32) (i2 : Int32) (i3 : Int32) (i4 : Int32) (i5 : Int32) (cz : Int32) (fm : Value) (h0 : Heap) (n0 : Nat) (Z0 : n0 ≤ h0.size) (Ol : Old Z n0 h0) (S_cs : Sta Z Z.heap "java/lang/String" "COMPACT_STRINGS" "Z" (.int cz)) (hcz : ¬ cz = 0) (S_fm : Sta Z Z.heap "jdk/internal/util/Preconditions" "SIOOBE_FORMATTER" "Ljava/util/function/BiFunction;" fm) (rfm : fm.isRef = true) (hEL : EW Z a0 own_EL) :
    MetFree l x (head1 (Jvm.Cond.code x code maxLocals ret :: ws) room_1) (fun aQ U => aQ = #[(.int i0), (.int i1), (.int i2), (.int i3), (.int i4), (.int i5)] ∧ Z.Warmed39 U.vm ∧ U.heap = h0 ∧ CHv Z own_EL U.vm h0) (fun _ _ _ _ _ => True) (fun _ U oQ U' => ∃ v L, oQ = .returned v ∧ Q0 Z i0 i1 i2 i3 i4 i5 cz fm h0 n0 v U'.heap L ∧ ReturnedEndW U oQ U' L 20 200) := by
  refine MetFree.of_bodySF (plainFor_of_name pn_8) hisR ?_
  intro p e s m args below meth c s₁ Bd hml0 hP hK
  obtain ⟨rfl, hZ, hh, H0⟩ := hP
  have hx := Bd.exec
  have hby := Bd.bytes
  have hml : c.maxLocals = 12 := hml0
  have hown : (s.setVm s.vm).vm.findClass "com/example/resolvent/resolvent/identifiers/IdentifierPrefixOfPinLaw" = some m.cls := findClass_of_methodNamed Bd.named
  have hZ : Z.Warmed39 (s.setVm s.vm).vm := hZ
  have hS : s.Since s.vm h0.size := (State.WarmedH.refl s).since _
  have hkW : h0.size ≤ h0.size := Nat.le_refl _
  have hnm := (name_of_methodNamed Bd.named Bd.method).1
  have X0 : Stand p l e room_1 (s.setVm s.vm) m #[(.int i0), (.int i1), (.int i2), (.int i3), (.int i4), (.int i5)] below meth c s₁ [] 0 0 := Stand.of_body Bd
  have e0 : s₁.heap = h0 := by rw [← hh, Bd.state]; rfl
  have Nf := Fr.nil n0
  have Zs : n0 ≤ h0.size := Z0
  have Kp : Keep h0 h0 [] := Keep.refl _ _
  have szr : h0.size ≤ h0.size := Nat.le_refl _
  show own_End p e below (P0 Z i0 i1 i2 i3 i4 i5 cz fm h0 n0 s) (s₁.setTop (entryFrame m #[(.int i0), (.int i1), (.int i2), (.int i3), (.int i4), (.int i5)] maxLocals))
  rw [ef_0]
  have hws : ∀ d ∈ StrChars.Road.words, d.before a0 Z = true := fun d hd => hw d ((by decide +kernel : ∀ d ∈ StrChars.Road.words, d ∈ tables_1) d hd)
  refine own_go (fun tQ kQ => XS.iconst X0.here hx rfl (hb hby at_0) kQ) ?_
  show own_End p e below _ (s₁.setTop (mkF m 1 #[.val (.int i0), .val (.int i1), .val (.int i2), .val (.int i3), .val (.int i4), .val (.int i5), .unset, .unset, .unset, .unset, .unset, .unset] [(.int (1 : Int32))]))
  refine own_go (fun tQ kQ => XS.iloadN X0.here hx rfl (hb hby at_1) rfl kQ) ?_
  show own_End p e below _ (s₁.setTop (mkF m 2 #[.val (.int i0), .val (.int i1), .val (.int i2), .val (.int i3), .val (.int i4), .val (.int i5), .unset, .unset, .unset, .unset, .unset, .unset] [(.int i0), (.int (1 : Int32))]))
  refine own_go (fun tQ kQ => XS.iconst X0.here hx rfl (hb hby at_2) kQ) ?_
  show own_End p e below _ (s₁.setTop (mkF m 3 #[.val (.int i0), .val (.int i1), .val (.int i2), .val (.int i3), .val (.int i4), .val (.int i5), .unset, .unset, .unset, .unset, .unset, .unset] [(.int (3 : Int32)), (.int i0), (.int (1 : Int32))]))
  refine own_go (fun tQ kQ => XS.iand X0.here hx rfl (hb hby at_3) rfl kQ) ?_
  show own_End p e below _ (s₁.setTop (mkF m 4 #[.val (.int i0), .val (.int i1), .val (.int i2), .val (.int i3), .val (.int i4), .val (.int i5), .unset, .unset, .unset, .unset, .unset, .unset] [(.int (i0 &&& (3 : Int32))), (.int (1 : Int32))]))
  refine own_go (fun tQ kQ => XS.iadd X0.here hx rfl (hb hby at_4) rfl kQ) ?_
  show own_End p e below _ (s₁.setTop (mkF m 5 #[.val (.int i0), .val (.int i1), .val (.int i2), .val (.int i3), .val (.int i4), .val (.int i5), .unset, .unset, .unset, .unset, .unset, .unset] [(.int ((1 : Int32) + (i0 &&& (3 : Int32))))]))
  refine own_go (fun tQ kQ => XS.istore X0.here hx rfl (hb hby at_5) rfl (l' := #[.val (.int i0), .val (.int i1), .val (.int i2), .val (.int i3), .val (.int i4), .val (.int i5), .val (.int ((1 : Int32) + (i0 &&& (3 : Int32)))), .unset, .unset, .unset, .unset, .unset]) rfl kQ) ?_
  show own_End p e below _ (s₁.setTop (mkF m 7 #[.val (.int i0), .val (.int i1), .val (.int i2), .val (.int i3), .val (.int i4), .val (.int i5), .val (.int ((1 : Int32) + (i0 &&& (3 : Int32)))), .unset, .unset, .unset, .unset, .unset] []))
  obtain ⟨zn, N, hzn, hz, hN1, hN4⟩ := own_n i0
  rw [← hzn]
  show own_End p e below _ (s₁.setTop (mkF m 7 #[.val (.int i0), .val (.int i1), .val (.int i2), .val (.int i3), .val (.int i4), .val (.int i5), .val (.int zn), .unset, .unset, .unset, .unset, .unset] []))
  refine own_go (fun tQ kQ => XS.iloadN X0.here hx rfl (hb hby at_7) rfl kQ) ?_
  show own_End p e below _ (s₁.setTop (mkF m 8 #[.val (.int i0), .val (.int i1), .val (.int i2), .val (.int i3), .val (.int i4), .val (.int i5), .val (.int zn), .unset, .unset, .unset, .unset, .unset] [(.int i1)]))
  refine own_go (fun tQ kQ => X0.ldcInt hx hown (mvT hZ (hw _ (List.mem_of_getElem? (i := 0) rfl))) (g := (mkF m 8 #[.val (.int i0), .val (.int i1), .val (.int i2), .val (.int i3), .val (.int i4), .val (.int i5), .val (.int zn), .unset, .unset, .unset, .unset, .unset] [(.int i1)])) rfl (hb hby at_8) _ kQ) ?_
  show own_End p e below _ (s₁.setTop (mkF m 10 #[.val (.int i0), .val (.int i1), .val (.int i2), .val (.int i3), .val (.int i4), .val (.int i5), .val (.int zn), .unset, .unset, .unset, .unset, .unset] [(.int (2147483647 : Int32)), (.int i1)]))
  refine own_go (fun tQ kQ => XS.iand X0.here hx rfl (hb hby at_10) rfl kQ) ?_
  show own_End p e below _ (s₁.setTop (mkF m 11 #[.val (.int i0), .val (.int i1), .val (.int i2), .val (.int i3), .val (.int i4), .val (.int i5), .val (.int zn), .unset, .unset, .unset, .unset, .unset] [(.int (i1 &&& (2147483647 : Int32)))]))
  refine own_go (fun tQ kQ => XS.iload X0.here hx rfl (hb hby at_11) rfl kQ) ?_
  show own_End p e below _ (s₁.setTop (mkF m 13 #[.val (.int i0), .val (.int i1), .val (.int i2), .val (.int i3), .val (.int i4), .val (.int i5), .val (.int zn), .unset, .unset, .unset, .unset, .unset] [(.int zn), (.int (i1 &&& (2147483647 : Int32)))]))
  refine own_go (fun tQ kQ => iremM (g := (mkF m 13 #[.val (.int i0), .val (.int i1), .val (.int i2), .val (.int i3), .val (.int i4), .val (.int i5), .val (.int zn), .unset, .unset, .unset, .unset, .unset] [(.int zn), (.int (i1 &&& (2147483647 : Int32)))])) X0 hx rfl (hb hby at_13) rfl (own_nz hz hN1) kQ) ?_
  show own_End p e below _ (s₁.setTop (mkF m 14 #[.val (.int i0), .val (.int i1), .val (.int i2), .val (.int i3), .val (.int i4), .val (.int i5), .val (.int zn), .unset, .unset, .unset, .unset, .unset] [(.int ((i1 &&& (2147483647 : Int32)) % zn))]))
  refine own_go (fun tQ kQ => XS.istore X0.here hx rfl (hb hby at_14) rfl (l' := #[.val (.int i0), .val (.int i1), .val (.int i2), .val (.int i3), .val (.int i4), .val (.int i5), .val (.int zn), .val (.int ((i1 &&& (2147483647 : Int32)) % zn)), .unset, .unset, .unset, .unset]) rfl kQ) ?_
  show own_End p e below _ (s₁.setTop (mkF m 16 #[.val (.int i0), .val (.int i1), .val (.int i2), .val (.int i3), .val (.int i4), .val (.int i5), .val (.int zn), .val (.int ((i1 &&& (2147483647 : Int32)) % zn)), .unset, .unset, .unset, .unset] []))
  obtain ⟨A, hA, hAN⟩ := own_at i1 zn N hz hN1
  generalize ((i1 &&& (2147483647 : Int32)) % zn) = za at hA ⊢
  show own_End p e below _ (s₁.setTop (mkF m 16 #[.val (.int i0), .val (.int i1), .val (.int i2), .val (.int i3), .val (.int i4), .val (.int i5), .val (.int zn), .val (.int za), .unset, .unset, .unset, .unset] []))
  refine own_go (fun tQ kQ => XS.iconst X0.here hx rfl (hb hby at_16) kQ) ?_
  show own_End p e below _ (s₁.setTop (mkF m 17 #[.val (.int i0), .val (.int i1), .val (.int i2), .val (.int i3), .val (.int i4), .val (.int i5), .val (.int zn), .val (.int za), .unset, .unset, .unset, .unset] [(.int (4 : Int32))]))
  obtain ⟨T1, h1, k1, X1, e1, E1, A1, st1⟩ := newP X0 hx hZ (hw _ (List.mem_of_getElem? (i := 1) rfl)) e0 (g := (mkF m 17 #[.val (.int i0), .val (.int i1), .val (.int i2), .val (.int i3), .val (.int i4), .val (.int i5), .val (.int zn), .val (.int za), .unset, .unset, .unset, .unset] [(.int (4 : Int32))])) rfl (hb hby at_17) rfl (by decide) (cap := 4) (by decide) (by decide) (by decide) (by decide)
  obtain ⟨ca, g1⟩ : ∃ z, z = h0.size := ⟨_, rfl⟩
  rw [← g1] at A1 st1
  have g_ca : n0 ≤ ca := Nat.le_trans Zs (Nat.le_of_eq g1.symm)
  have sz_ca : h0.size ≤ ca := Nat.le_trans szr (Nat.le_of_eq g1.symm)
  have Ol := Ol.ext E1
  have Kp := Kp.ext E1
  have Zs := Nat.le_trans Zs E1.1
  have szr := Nat.le_trans szr E1.1
  have hkW := Nat.le_trans hkW E1.1
  have V_ca : own_Ar Z h1 ca .char (4 : Int32) (fun _ => (.int (0 : Int32))) := own_Ar.new A1 (by decide)
  refine own_go (fun tQ kQ => st1 tQ kQ) ?_
  show own_End p e below _ (T1.setTop (mkF m 19 #[.val (.int i0), .val (.int i1), .val (.int i2), .val (.int i3), .val (.int i4), .val (.int i5), .val (.int zn), .val (.int za), .unset, .unset, .unset, .unset] [(.ref ca)]))
  refine own_go (fun tQ kQ => XS.astore X1.here hx rfl (hb hby at_19) rfl rfl (l' := #[.val (.int i0), .val (.int i1), .val (.int i2), .val (.int i3), .val (.int i4), .val (.int i5), .val (.int zn), .val (.int za), .val (.ref ca), .unset, .unset, .unset]) rfl kQ) ?_
  show own_End p e below _ (T1.setTop (mkF m 21 #[.val (.int i0), .val (.int i1), .val (.int i2), .val (.int i3), .val (.int i4), .val (.int i5), .val (.int zn), .val (.int za), .val (.ref ca), .unset, .unset, .unset] []))
  refine own_go (fun tQ kQ => XS.aload X1.here hx rfl (hb hby at_21) rfl rfl kQ) ?_
  show own_End p e below _ (T1.setTop (mkF m 23 #[.val (.int i0), .val (.int i1), .val (.int i2), .val (.int i3), .val (.int i4), .val (.int i5), .val (.int zn), .val (.int za), .val (.ref ca), .unset, .unset, .unset] [(.ref ca)]))
  refine own_go (fun tQ kQ => XS.iconst X1.here hx rfl (hb hby at_23) kQ) ?_
  show own_End p e below _ (T1.setTop (mkF m 24 #[.val (.int i0), .val (.int i1), .val (.int i2), .val (.int i3), .val (.int i4), .val (.int i5), .val (.int zn), .val (.int za), .val (.ref ca), .unset, .unset, .unset] [(.int (0 : Int32)), (.ref ca)]))
  refine own_go (fun tQ kQ => XS.iloadN X1.here hx rfl (hb hby at_24) rfl kQ) ?_
  show own_End p e below _ (T1.setTop (mkF m 25 #[.val (.int i0), .val (.int i1), .val (.int i2), .val (.int i3), .val (.int i4), .val (.int i5), .val (.int zn), .val (.int za), .val (.ref ca), .unset, .unset, .unset] [(.int i2), (.int (0 : Int32)), (.ref ca)]))
  obtain ⟨_, _, ⟨T2, L2, k2, n2⟩, -, X2, ⟨Lc2, hQ2, l2, y2, z2⟩, st2⟩ := Jvm.LawKit.callS X1 hx (y := (⟨"com/example/resolvent/resolvent/identifiers/IdentifierPrefixOfPinLaw", "draw", "(I)C"⟩ : MethodName)) hown (mvT hZ (hw _ (List.mem_of_getElem? (i := 2) rfl))) (mvT hZ (hw _ (List.mem_of_getElem? (i := 3) rfl))) (mvT hZ (hw _ (List.mem_of_getElem? (i := 4) rfl))) (mvT hZ (hw _ (List.mem_of_getElem? (i := 5) rfl))) (by decide) (backOf (W := 2) (rmdr l Z a0 hw [] i2 h1 n0 Zs ) hZ (hw _ (List.mem_of_getElem? (i := 5) rfl)) (hw _ (List.mem_of_getElem? (i := 4) rfl)) (by decide) (by decide)) (g := (mkF m 25 #[.val (.int i0), .val (.int i1), .val (.int i2), .val (.int i3), .val (.int i4), .val (.int i5), .val (.int zn), .val (.int za), .val (.ref ca), .unset, .unset, .unset] [(.int i2), (.int (0 : Int32)), (.ref ca)])) rfl (by rw [hml]; rfl) (argsL := [(.int i2)]) (rest := [(.int (0 : Int32)), (.ref ca)]) (lenOf pd_22 rfl) rfl (by show 2 * 0 + _ ≤ _; exact Nat.le_of_eq rfl) (hb hby at_25) (fun _ _ => ⟨rfl, e1, (Nat.le_of_ble_eq_true rfl), (Nat.le_of_ble_eq_true rfl)⟩)
  dsimp only [Pt.U, Pt.locs, Pt.cells, Pt.slots] at X2 l2 y2 z2 st2 hQ2
  subst l2 y2 z2
  obtain ⟨rfl, N2q, e2⟩ := hQ2
  have Nf := Fr.app Nf N2q
  refine own_go (fun tQ kQ => st2 tQ kQ) ?_
  show own_End p e below _ (T2.setTop (mkF m 28 #[.val (.int i0), .val (.int i1), .val (.int i2), .val (.int i3), .val (.int i4), .val (.int i5), .val (.int zn), .val (.int za), .val (.ref ca), .unset, .unset, .unset] [(.int (own_draw i2)), (.int (0 : Int32)), (.ref ca)]))
  obtain ⟨cl3, Ar3, S3, M3, H3⟩ := id V_ca
  have hin3 := inb_of (j := (0 : Int32)) S3 ⟨(by decide), (by decide)⟩
  obtain ⟨T4, h4, X4, e4, W4, st4⟩ := stC X2 hx hZ e2 Ar3 (j := (0 : Int32)) hin3 (g := (mkF m 28 #[.val (.int i0), .val (.int i1), .val (.int i2), .val (.int i3), .val (.int i4), .val (.int i5), .val (.int zn), .val (.int za), .val (.ref ca), .unset, .unset, .unset] [(.int (own_draw i2)), (.int (0 : Int32)), (.ref ca)])) rfl rfl (hb hby at_28)
  have V_ca := own_Ar_set Ar3 S3 M3 H3 W4
  have Ol := Ol.wr W4 g_ca
  have Kp := Kp.wr W4 (Or.inr sz_ca)
  have Nf := Fr.snoc X4 Nf g_ca
  have Zs := Nat.le_trans Zs (Keep.of_wr W4).1
  have szr := Nat.le_trans szr (Keep.of_wr W4).1
  have hkW := Nat.le_trans hkW (Keep.of_wr W4).1
  refine own_go (fun tQ kQ => st4 tQ kQ) ?_
  show own_End p e below _ (T4.setTop (mkF m 29 #[.val (.int i0), .val (.int i1), .val (.int i2), .val (.int i3), .val (.int i4), .val (.int i5), .val (.int zn), .val (.int za), .val (.ref ca), .unset, .unset, .unset] []))
  refine own_go (fun tQ kQ => XS.aload X4.here hx rfl (hb hby at_29) rfl rfl kQ) ?_
  show own_End p e below _ (T4.setTop (mkF m 31 #[.val (.int i0), .val (.int i1), .val (.int i2), .val (.int i3), .val (.int i4), .val (.int i5), .val (.int zn), .val (.int za), .val (.ref ca), .unset, .unset, .unset] [(.ref ca)]))
  refine own_go (fun tQ kQ => XS.iconst X4.here hx rfl (hb hby at_31) kQ) ?_
  show own_End p e below _ (T4.setTop (mkF m 32 #[.val (.int i0), .val (.int i1), .val (.int i2), .val (.int i3), .val (.int i4), .val (.int i5), .val (.int zn), .val (.int za), .val (.ref ca), .unset, .unset, .unset] [(.int (1 : Int32)), (.ref ca)]))
  refine own_go (fun tQ kQ => XS.iloadN X4.here hx rfl (hb hby at_32) rfl kQ) ?_
  show own_End p e below _ (T4.setTop (mkF m 33 #[.val (.int i0), .val (.int i1), .val (.int i2), .val (.int i3), .val (.int i4), .val (.int i5), .val (.int zn), .val (.int za), .val (.ref ca), .unset, .unset, .unset] [(.int i3), (.int (1 : Int32)), (.ref ca)]))
  obtain ⟨_, _, ⟨T5, L5, k5, n5⟩, -, X5, ⟨Lc5, hQ5, l5, y5, z5⟩, st5⟩ := Jvm.LawKit.callS X4 hx (y := (⟨"com/example/resolvent/resolvent/identifiers/IdentifierPrefixOfPinLaw", "draw", "(I)C"⟩ : MethodName)) hown (mvT hZ (hw _ (List.mem_of_getElem? (i := 2) rfl))) (mvT hZ (hw _ (List.mem_of_getElem? (i := 3) rfl))) (mvT hZ (hw _ (List.mem_of_getElem? (i := 4) rfl))) (mvT hZ (hw _ (List.mem_of_getElem? (i := 5) rfl))) (by decide) (backOf (W := 2) (rmdr l Z a0 hw [] i3 h4 n0 Zs ) hZ (hw _ (List.mem_of_getElem? (i := 5) rfl)) (hw _ (List.mem_of_getElem? (i := 4) rfl)) (by decide) (by decide)) (g := (mkF m 33 #[.val (.int i0), .val (.int i1), .val (.int i2), .val (.int i3), .val (.int i4), .val (.int i5), .val (.int zn), .val (.int za), .val (.ref ca), .unset, .unset, .unset] [(.int i3), (.int (1 : Int32)), (.ref ca)])) rfl (by rw [hml]; rfl) (argsL := [(.int i3)]) (rest := [(.int (1 : Int32)), (.ref ca)]) (lenOf pd_22 rfl) rfl (by show 2 * 0 + _ ≤ _; exact Nat.le_of_eq rfl) (hb hby at_33) (fun _ _ => ⟨rfl, e4, (Nat.le_of_ble_eq_true rfl), (Nat.le_of_ble_eq_true rfl)⟩)
  dsimp only [Pt.U, Pt.locs, Pt.cells, Pt.slots] at X5 l5 y5 z5 st5 hQ5
  subst l5 y5 z5
  obtain ⟨rfl, N5q, e5⟩ := hQ5
  have Nf := Fr.app Nf N5q
  refine own_go (fun tQ kQ => st5 tQ kQ) ?_
  show own_End p e below _ (T5.setTop (mkF m 36 #[.val (.int i0), .val (.int i1), .val (.int i2), .val (.int i3), .val (.int i4), .val (.int i5), .val (.int zn), .val (.int za), .val (.ref ca), .unset, .unset, .unset] [(.int (own_draw i3)), (.int (1 : Int32)), (.ref ca)]))
  obtain ⟨cl6, Ar6, S6, M6, H6⟩ := id V_ca
  have hin6 := inb_of (j := (1 : Int32)) S6 ⟨(by decide), (by decide)⟩
  obtain ⟨T7, h7, X7, e7, W7, st7⟩ := stC X5 hx hZ e5 Ar6 (j := (1 : Int32)) hin6 (g := (mkF m 36 #[.val (.int i0), .val (.int i1), .val (.int i2), .val (.int i3), .val (.int i4), .val (.int i5), .val (.int zn), .val (.int za), .val (.ref ca), .unset, .unset, .unset] [(.int (own_draw i3)), (.int (1 : Int32)), (.ref ca)])) rfl rfl (hb hby at_36)
  have V_ca := own_Ar_set Ar6 S6 M6 H6 W7
  have Ol := Ol.wr W7 g_ca
  have Kp := Kp.wr W7 (Or.inr sz_ca)
  have Nf := Fr.snoc X7 Nf g_ca
  have Zs := Nat.le_trans Zs (Keep.of_wr W7).1
  have szr := Nat.le_trans szr (Keep.of_wr W7).1
  have hkW := Nat.le_trans hkW (Keep.of_wr W7).1
  refine own_go (fun tQ kQ => st7 tQ kQ) ?_
  show own_End p e below _ (T7.setTop (mkF m 37 #[.val (.int i0), .val (.int i1), .val (.int i2), .val (.int i3), .val (.int i4), .val (.int i5), .val (.int zn), .val (.int za), .val (.ref ca), .unset, .unset, .unset] []))
  refine own_go (fun tQ kQ => XS.aload X7.here hx rfl (hb hby at_37) rfl rfl kQ) ?_
  show own_End p e below _ (T7.setTop (mkF m 39 #[.val (.int i0), .val (.int i1), .val (.int i2), .val (.int i3), .val (.int i4), .val (.int i5), .val (.int zn), .val (.int za), .val (.ref ca), .unset, .unset, .unset] [(.ref ca)]))
  refine own_go (fun tQ kQ => XS.iconst X7.here hx rfl (hb hby at_39) kQ) ?_
  show own_End p e below _ (T7.setTop (mkF m 40 #[.val (.int i0), .val (.int i1), .val (.int i2), .val (.int i3), .val (.int i4), .val (.int i5), .val (.int zn), .val (.int za), .val (.ref ca), .unset, .unset, .unset] [(.int (2 : Int32)), (.ref ca)]))
  refine own_go (fun tQ kQ => XS.iload X7.here hx rfl (hb hby at_40) rfl kQ) ?_
  show own_End p e below _ (T7.setTop (mkF m 42 #[.val (.int i0), .val (.int i1), .val (.int i2), .val (.int i3), .val (.int i4), .val (.int i5), .val (.int zn), .val (.int za), .val (.ref ca), .unset, .unset, .unset] [(.int i4), (.int (2 : Int32)), (.ref ca)]))
  obtain ⟨_, _, ⟨T8, L8, k8, n8⟩, -, X8, ⟨Lc8, hQ8, l8, y8, z8⟩, st8⟩ := Jvm.LawKit.callS X7 hx (y := (⟨"com/example/resolvent/resolvent/identifiers/IdentifierPrefixOfPinLaw", "draw", "(I)C"⟩ : MethodName)) hown (mvT hZ (hw _ (List.mem_of_getElem? (i := 2) rfl))) (mvT hZ (hw _ (List.mem_of_getElem? (i := 3) rfl))) (mvT hZ (hw _ (List.mem_of_getElem? (i := 4) rfl))) (mvT hZ (hw _ (List.mem_of_getElem? (i := 5) rfl))) (by decide) (backOf (W := 2) (rmdr l Z a0 hw [] i4 h7 n0 Zs ) hZ (hw _ (List.mem_of_getElem? (i := 5) rfl)) (hw _ (List.mem_of_getElem? (i := 4) rfl)) (by decide) (by decide)) (g := (mkF m 42 #[.val (.int i0), .val (.int i1), .val (.int i2), .val (.int i3), .val (.int i4), .val (.int i5), .val (.int zn), .val (.int za), .val (.ref ca), .unset, .unset, .unset] [(.int i4), (.int (2 : Int32)), (.ref ca)])) rfl (by rw [hml]; rfl) (argsL := [(.int i4)]) (rest := [(.int (2 : Int32)), (.ref ca)]) (lenOf pd_22 rfl) rfl (by show 2 * 0 + _ ≤ _; exact Nat.le_of_eq rfl) (hb hby at_42) (fun _ _ => ⟨rfl, e7, (Nat.le_of_ble_eq_true rfl), (Nat.le_of_ble_eq_true rfl)⟩)
  dsimp only [Pt.U, Pt.locs, Pt.cells, Pt.slots] at X8 l8 y8 z8 st8 hQ8
  subst l8 y8 z8
  obtain ⟨rfl, N8q, e8⟩ := hQ8
  have Nf := Fr.app Nf N8q
  refine own_go (fun tQ kQ => st8 tQ kQ) ?_
  show own_End p e below _ (T8.setTop (mkF m 45 #[.val (.int i0), .val (.int i1), .val (.int i2), .val (.int i3), .val (.int i4), .val (.int i5), .val (.int zn), .val (.int za), .val (.ref ca), .unset, .unset, .unset] [(.int (own_draw i4)), (.int (2 : Int32)), (.ref ca)]))
  obtain ⟨cl9, Ar9, S9, M9, H9⟩ := id V_ca
  have hin9 := inb_of (j := (2 : Int32)) S9 ⟨(by decide), (by decide)⟩
  obtain ⟨T10, h10, X10, e10, W10, st10⟩ := stC X8 hx hZ e8 Ar9 (j := (2 : Int32)) hin9 (g := (mkF m 45 #[.val (.int i0), .val (.int i1), .val (.int i2), .val (.int i3), .val (.int i4), .val (.int i5), .val (.int zn), .val (.int za), .val (.ref ca), .unset, .unset, .unset] [(.int (own_draw i4)), (.int (2 : Int32)), (.ref ca)])) rfl rfl (hb hby at_45)
  have V_ca := own_Ar_set Ar9 S9 M9 H9 W10
  have Ol := Ol.wr W10 g_ca
  have Kp := Kp.wr W10 (Or.inr sz_ca)
  have Nf := Fr.snoc X10 Nf g_ca
  have Zs := Nat.le_trans Zs (Keep.of_wr W10).1
  have szr := Nat.le_trans szr (Keep.of_wr W10).1
  have hkW := Nat.le_trans hkW (Keep.of_wr W10).1
  refine own_go (fun tQ kQ => st10 tQ kQ) ?_
  show own_End p e below _ (T10.setTop (mkF m 46 #[.val (.int i0), .val (.int i1), .val (.int i2), .val (.int i3), .val (.int i4), .val (.int i5), .val (.int zn), .val (.int za), .val (.ref ca), .unset, .unset, .unset] []))
  refine own_go (fun tQ kQ => XS.aload X10.here hx rfl (hb hby at_46) rfl rfl kQ) ?_
  show own_End p e below _ (T10.setTop (mkF m 48 #[.val (.int i0), .val (.int i1), .val (.int i2), .val (.int i3), .val (.int i4), .val (.int i5), .val (.int zn), .val (.int za), .val (.ref ca), .unset, .unset, .unset] [(.ref ca)]))
  refine own_go (fun tQ kQ => XS.iconst X10.here hx rfl (hb hby at_48) kQ) ?_
  show own_End p e below _ (T10.setTop (mkF m 49 #[.val (.int i0), .val (.int i1), .val (.int i2), .val (.int i3), .val (.int i4), .val (.int i5), .val (.int zn), .val (.int za), .val (.ref ca), .unset, .unset, .unset] [(.int (3 : Int32)), (.ref ca)]))
  refine own_go (fun tQ kQ => XS.iload X10.here hx rfl (hb hby at_49) rfl kQ) ?_
  show own_End p e below _ (T10.setTop (mkF m 51 #[.val (.int i0), .val (.int i1), .val (.int i2), .val (.int i3), .val (.int i4), .val (.int i5), .val (.int zn), .val (.int za), .val (.ref ca), .unset, .unset, .unset] [(.int i5), (.int (3 : Int32)), (.ref ca)]))
  obtain ⟨_, _, ⟨T11, L11, k11, n11⟩, -, X11, ⟨Lc11, hQ11, l11, y11, z11⟩, st11⟩ := Jvm.LawKit.callS X10 hx (y := (⟨"com/example/resolvent/resolvent/identifiers/IdentifierPrefixOfPinLaw", "draw", "(I)C"⟩ : MethodName)) hown (mvT hZ (hw _ (List.mem_of_getElem? (i := 2) rfl))) (mvT hZ (hw _ (List.mem_of_getElem? (i := 3) rfl))) (mvT hZ (hw _ (List.mem_of_getElem? (i := 4) rfl))) (mvT hZ (hw _ (List.mem_of_getElem? (i := 5) rfl))) (by decide) (backOf (W := 2) (rmdr l Z a0 hw [] i5 h10 n0 Zs ) hZ (hw _ (List.mem_of_getElem? (i := 5) rfl)) (hw _ (List.mem_of_getElem? (i := 4) rfl)) (by decide) (by decide)) (g := (mkF m 51 #[.val (.int i0), .val (.int i1), .val (.int i2), .val (.int i3), .val (.int i4), .val (.int i5), .val (.int zn), .val (.int za), .val (.ref ca), .unset, .unset, .unset] [(.int i5), (.int (3 : Int32)), (.ref ca)])) rfl (by rw [hml]; rfl) (argsL := [(.int i5)]) (rest := [(.int (3 : Int32)), (.ref ca)]) (lenOf pd_22 rfl) rfl (by show 2 * 0 + _ ≤ _; exact Nat.le_of_eq rfl) (hb hby at_51) (fun _ _ => ⟨rfl, e10, (Nat.le_of_ble_eq_true rfl), (Nat.le_of_ble_eq_true rfl)⟩)
  dsimp only [Pt.U, Pt.locs, Pt.cells, Pt.slots] at X11 l11 y11 z11 st11 hQ11
  subst l11 y11 z11
  obtain ⟨rfl, N11q, e11⟩ := hQ11
  have Nf := Fr.app Nf N11q
  refine own_go (fun tQ kQ => st11 tQ kQ) ?_
  show own_End p e below _ (T11.setTop (mkF m 54 #[.val (.int i0), .val (.int i1), .val (.int i2), .val (.int i3), .val (.int i4), .val (.int i5), .val (.int zn), .val (.int za), .val (.ref ca), .unset, .unset, .unset] [(.int (own_draw i5)), (.int (3 : Int32)), (.ref ca)]))
  obtain ⟨cl12, Ar12, S12, M12, H12⟩ := id V_ca
  have hin12 := inb_of (j := (3 : Int32)) S12 ⟨(by decide), (by decide)⟩
  obtain ⟨T13, h13, X13, e13, W13, st13⟩ := stC X11 hx hZ e11 Ar12 (j := (3 : Int32)) hin12 (g := (mkF m 54 #[.val (.int i0), .val (.int i1), .val (.int i2), .val (.int i3), .val (.int i4), .val (.int i5), .val (.int zn), .val (.int za), .val (.ref ca), .unset, .unset, .unset] [(.int (own_draw i5)), (.int (3 : Int32)), (.ref ca)])) rfl rfl (hb hby at_54)
  have V_ca := own_Ar_set Ar12 S12 M12 H12 W13
  have Ol := Ol.wr W13 g_ca
  have Kp := Kp.wr W13 (Or.inr sz_ca)
  have Nf := Fr.snoc X13 Nf g_ca
  have Zs := Nat.le_trans Zs (Keep.of_wr W13).1
  have szr := Nat.le_trans szr (Keep.of_wr W13).1
  have hkW := Nat.le_trans hkW (Keep.of_wr W13).1
  refine own_go (fun tQ kQ => st13 tQ kQ) ?_
  show own_End p e below _ (T13.setTop (mkF m 55 #[.val (.int i0), .val (.int i1), .val (.int i2), .val (.int i3), .val (.int i4), .val (.int i5), .val (.int zn), .val (.int za), .val (.ref ca), .unset, .unset, .unset] []))
  refine own_go (fun tQ kQ => XS.aload X13.here hx rfl (hb hby at_55) rfl rfl kQ) ?_
  show own_End p e below _ (T13.setTop (mkF m 57 #[.val (.int i0), .val (.int i1), .val (.int i2), .val (.int i3), .val (.int i4), .val (.int i5), .val (.int zn), .val (.int za), .val (.ref ca), .unset, .unset, .unset] [(.ref ca)]))
  refine own_go (fun tQ kQ => XS.iload X13.here hx rfl (hb hby at_57) rfl kQ) ?_
  show own_End p e below _ (T13.setTop (mkF m 59 #[.val (.int i0), .val (.int i1), .val (.int i2), .val (.int i3), .val (.int i4), .val (.int i5), .val (.int zn), .val (.int za), .val (.ref ca), .unset, .unset, .unset] [(.int za), (.ref ca)]))
  refine own_go (fun tQ kQ => XS.bipush X13.here hx rfl (hb hby at_59) kQ) ?_
  show own_End p e below _ (T13.setTop (mkF m 61 #[.val (.int i0), .val (.int i1), .val (.int i2), .val (.int i3), .val (.int i4), .val (.int i5), .val (.int zn), .val (.int za), .val (.ref ca), .unset, .unset, .unset] [(.int (47 : Int32)), (.int za), (.ref ca)]))
  obtain ⟨cl14, Ar14, S14, M14, H14⟩ := id V_ca
  have hin14 := inb_of (j := za) S14 ⟨(own_nn hA), ((own_lt_of hA (by decide : (4 : Int32).toInt = (4 : Nat))).mpr (by omega))⟩
  obtain ⟨T15, h15, X15, e15, W15, st15⟩ := stC X13 hx hZ e13 Ar14 (j := za) hin14 (g := (mkF m 61 #[.val (.int i0), .val (.int i1), .val (.int i2), .val (.int i3), .val (.int i4), .val (.int i5), .val (.int zn), .val (.int za), .val (.ref ca), .unset, .unset, .unset] [(.int (47 : Int32)), (.int za), (.ref ca)])) rfl rfl (hb hby at_61)
  have V_ca := own_Ar_set Ar14 S14 M14 H14 W15
  have Ol := Ol.wr W15 g_ca
  have Kp := Kp.wr W15 (Or.inr sz_ca)
  have Nf := Fr.snoc X15 Nf g_ca
  have Zs := Nat.le_trans Zs (Keep.of_wr W15).1
  have szr := Nat.le_trans szr (Keep.of_wr W15).1
  have hkW := Nat.le_trans hkW (Keep.of_wr W15).1
  refine own_go (fun tQ kQ => st15 tQ kQ) ?_
  show own_End p e below _ (T15.setTop (mkF m 62 #[.val (.int i0), .val (.int i1), .val (.int i2), .val (.int i3), .val (.int i4), .val (.int i5), .val (.int zn), .val (.int za), .val (.ref ca), .unset, .unset, .unset] []))
  have V_ca : own_Ar Z h15 ca .char (4 : Int32) (fun j => .int (own_cf (own_draw i2) (own_draw i3) (own_draw i4) (own_draw i5) A j)) := V_ca.turn (fun j hj => by
    have hj' : j < 4 := hj
    rw [own_clamp hA]
    unfold own_cf own_d4
    have e47 : nar .char (47 : Int32) = 47 := by decide
    rw [e47]
    by_cases q : j = A
    · rw [if_pos q, if_pos q]
    · rw [if_neg q, if_neg q]
      have hj2 : j = 0 ∨ j = 1 ∨ j = 2 ∨ j = 3 := by omega
      rcases hj2 with rfl | rfl | rfl | rfl
      · exact congrArg Value.int (own_c_nar (own_draw_ok _))
      · exact congrArg Value.int (own_c_nar (own_draw_ok _))
      · exact congrArg Value.int (own_c_nar (own_draw_ok _))
      · exact congrArg Value.int (own_c_nar (own_draw_ok _)))
  have hcA : own_cf (own_draw i2) (own_draw i3) (own_draw i4) (own_draw i5) A A = 47 := if_pos rfl
  have hcb : ∀ j, own_c (own_cf (own_draw i2) (own_draw i3) (own_draw i4) (own_draw i5) A j) := fun j => by
    unfold own_cf own_d4
    split
    · exact own_c_of (by decide) (by decide)
    · split
      · exact own_draw_ok _
      · split
        · exact own_draw_ok _
        · split <;> exact own_draw_ok _
  generalize own_cf (own_draw i2) (own_draw i3) (own_draw i4) (own_draw i5) A = cf at V_ca hcA hcb
  have hbi : ∀ j, (fun j => (cf j).toInt8.toInt32) j = (cf j).toInt8.toInt32 := fun _ => rfl
  have J207 : ∀ (st : Addr) (tt : Addr) (T : State) (locs : List Loc) (h : Heap) (vm0 : Vm) (k0 : Nat) (X : Stand p l e room_1 (s.setVm vm0) m #[(.int i0), (.int i1), (.int i2), (.int i3), (.int i4), (.int i5)] below meth c T locs 4 16) (eT : T.heap = h) (Nf : Fr n0 locs) (Zs : n0 ≤ h.size) (Kp : Keep h0 h []) (szr : h0.size ≤ h.size) (hS : s.Since vm0 k0) (hkW : k0 ≤ h.size) (hZ : Z.Warmed39 (s.setVm vm0).vm) (hown : (s.setVm vm0).vm.findClass "com/example/resolvent/resolvent/identifiers/IdentifierPrefixOfPinLaw" = some m.cls) (E_st : Exa Z h st "java/lang/String") (F_value_st : Fld Z h st "java/lang/String" "value" "[B" (.ref tt)) (F_coder_st : Fld Z h st "java/lang/String" "coder" "B" (.int (0 : Int32))) (V_tt : own_Ar Z h tt .byte zn (fun j => .int ((fun j => (cf j).toInt8.toInt32) j))) (V_ca : own_Ar Z h ca .char (4 : Int32) (fun j => .int (cf j))) (Ol : Old Z n0 h) (hvm : vm0 = s.vm), own_End p e below (P0 Z i0 i1 i2 i3 i4 i5 cz fm h0 n0 s) (T.setTop (mkF m 207 #[.val (.int i0), .val (.int i1), .val (.int i2), .val (.int i3), .val (.int i4), .val (.int i5), .val (.int zn), .val (.int za), .val (.ref ca), .val (.ref st), .unset, .unset] [])) := by
    intro st tt T locs h vm0 k0 X eT Nf Zs Kp szr hS hkW hZ hown E_st F_value_st F_coder_st V_tt V_ca Ol hvm
    have J247_0 : ∀  (T : State) (locs : List Loc) (h : Heap) (vm0 : Vm) (k0 : Nat) (X : Stand p l e room_1 (s.setVm vm0) m #[(.int i0), (.int i1), (.int i2), (.int i3), (.int i4), (.int i5)] below meth c T locs 4 16) (eT : T.heap = h) (Nf : Fr n0 locs) (Zs : n0 ≤ h.size) (Kp : Keep h0 h []) (szr : h0.size ≤ h.size) (hS : s.Since vm0 k0) (hkW : k0 ≤ h.size) (hZ : Z.Warmed39 (s.setVm vm0).vm) (hown : (s.setVm vm0).vm.findClass "com/example/resolvent/resolvent/identifiers/IdentifierPrefixOfPinLaw" = some m.cls) (E_st : Exa Z h st "java/lang/String") (F_value_st : Fld Z h st "java/lang/String" "value" "[B" (.ref tt)) (F_coder_st : Fld Z h st "java/lang/String" "coder" "B" (.int (0 : Int32))) (V_tt : own_Ar Z h tt .byte zn (fun j => .int ((fun j => (cf j).toInt8.toInt32) j))) (V_ca : own_Ar Z h ca .char (4 : Int32) (fun j => .int (cf j))) (Ol : Old Z n0 h) (hf1 : ∀ j, j < 0 → ¬ cf j = 47) (hf2 : 0 < 3 → cf 0 = 47) (hf3 : 0 ≤ 3) (hvm : vm0 = s.vm), own_End p e below (P0 Z i0 i1 i2 i3 i4 i5 cz fm h0 n0 s) (T.setTop (mkF m 247 #[.val (.int i0), .val (.int i1), .val (.int i2), .val (.int i3), .val (.int i4), .val (.int i5), .val (.int zn), .val (.int za), .val (.ref ca), .val (.ref st), .unset, .unset] [(.int (0 : Int32))])) := by
      intro  T locs h vm0 k0 X eT Nf Zs Kp szr hS hkW hZ hown E_st F_value_st F_coder_st V_tt V_ca Ol hf1 hf2 hf3 hvm
      subst hvm
      have hKA : 0 ≤ A := by
        rcases Nat.lt_or_ge A 0 with q | q
        · exact absurd hcA (hf1 A q)
        · exact q
      have hcK : cf 0 = 47 := hf2 (by decide)
      refine own_go (fun tQ kQ => XS.istore X.here hx rfl (hb hby at_247) rfl (l' := #[.val (.int i0), .val (.int i1), .val (.int i2), .val (.int i3), .val (.int i4), .val (.int i5), .val (.int zn), .val (.int za), .val (.ref ca), .val (.ref st), .val (.int (0 : Int32)), .unset]) rfl kQ) ?_
      show own_End p e below _ (T.setTop (mkF m 249 #[.val (.int i0), .val (.int i1), .val (.int i2), .val (.int i3), .val (.int i4), .val (.int i5), .val (.int zn), .val (.int za), .val (.ref ca), .val (.ref st), .val (.int (0 : Int32)), .unset] []))
      refine own_go (fun tQ kQ => XS.aload X.here hx rfl (hb hby at_249) rfl rfl kQ) ?_
      show own_End p e below _ (T.setTop (mkF m 251 #[.val (.int i0), .val (.int i1), .val (.int i2), .val (.int i3), .val (.int i4), .val (.int i5), .val (.int zn), .val (.int za), .val (.ref ca), .val (.ref st), .val (.int (0 : Int32)), .unset] [(.ref st)]))
      have CH := CHr.ext (Z := Z) (EL := own_EL) (vm := s.vm) ⟨Kp.1, fun a c q => Kp.2.1 a c q nin0⟩ H0
      obtain ⟨_, _, ⟨T16, L16, k16, n16⟩, -, X16, S16, G16, ⟨Lc16, hQ16, l16, y16, z16, C16⟩, st16⟩ := Jvm.RoadKit.callSS X hx (y := (⟨"com/example/resolvent/resolvent/identifiers/Identifier", "prefixOf", "(Ljava/lang/String;)Ljava/lang/String;"⟩ : MethodName)) hown (mvT hZ (hw _ (List.mem_of_getElem? (i := 35) rfl))) (mvT hZ (hw _ (List.mem_of_getElem? (i := 36) rfl))) (mvT hZ (hw _ (List.mem_of_getElem? (i := 37) rfl))) (mvT hZ (hw _ (List.mem_of_getElem? (i := 38) rfl))) (by decide) (backOfSH (W := 0) (rmpo0 l Z a0 hw [] st tt zn (fun j => (cf j).toInt8.toInt32) cz N fm h n0 Zs E_st F_value_st F_coder_st V_tt Ol S_cs hcz hz (by omega) S_fm rfm hEL ((own_slash (hcb 0)).mpr hcK)) hZ (hw _ (List.mem_of_getElem? (i := 38) rfl)) (hw _ (List.mem_of_getElem? (i := 37) rfl)) (by decide) (by decide) hEL CH.1) (g := (mkF m 251 #[.val (.int i0), .val (.int i1), .val (.int i2), .val (.int i3), .val (.int i4), .val (.int i5), .val (.int zn), .val (.int za), .val (.ref ca), .val (.ref st), .val (.int (0 : Int32)), .unset] [(.ref st)])) rfl (by rw [hml]; rfl) (argsL := [(.ref st)]) (rest := []) (lenOf pd_23 rfl) rfl (by show 2 * 0 + _ ≤ _; exact Nat.le_of_eq rfl) (hb hby at_251) (fun _ _ => ⟨rfl, eT, (Nat.le_of_ble_eq_true rfl), (Nat.le_of_ble_eq_true rfl)⟩)
      dsimp only [Pt.U, Pt.locs, Pt.cells, Pt.slots] at X16 l16 y16 z16 st16 hQ16 S16 G16
      subst l16 y16 z16
      have CR := CH.trans C16
      obtain ⟨X16, hS, hZ, hown⟩ := rebS hS (by rw [eT]; exact hkW) X16 S16 G16 hZ hown
      have hkW : T16.heap.size ≤ T16.heap.size := Nat.le_refl _
      obtain ⟨r, tr, rfl, N16q, K16, E_r, F_value_r, F_coder_r, V_tr⟩ := hQ16
      have Nf := Fr.app Nf N16q
      have E_st := E_st.keep K16
      have F_value_st := F_value_st.keep K16 nin0
      have F_coder_st := F_coder_st.keep K16 nin0
      have V_tt := V_tt.keep K16 nin0
      have V_ca := V_ca.keep K16 nin0
      have Ol := Ol.keep K16 all0
      have Kp := Kp.trans K16 all0
      have Zs := Nat.le_trans Zs K16.1
      have szr := Nat.le_trans szr K16.1
      refine own_go (fun tQ kQ => st16.trans kQ) ?_
      show own_End p e below _ (T16.setTop (mkF m 254 #[.val (.int i0), .val (.int i1), .val (.int i2), .val (.int i3), .val (.int i4), .val (.int i5), .val (.int zn), .val (.int za), .val (.ref ca), .val (.ref st), .val (.int (0 : Int32)), .unset] [(.ref r)]))
      refine own_go (fun tQ kQ => XS.astore X16.here hx rfl (hb hby at_254) rfl rfl (l' := #[.val (.int i0), .val (.int i1), .val (.int i2), .val (.int i3), .val (.int i4), .val (.int i5), .val (.int zn), .val (.int za), .val (.ref ca), .val (.ref st), .val (.int (0 : Int32)), .val (.ref r)]) rfl kQ) ?_
      show own_End p e below _ (T16.setTop (mkF m 256 #[.val (.int i0), .val (.int i1), .val (.int i2), .val (.int i3), .val (.int i4), .val (.int i5), .val (.int zn), .val (.int za), .val (.ref ca), .val (.ref st), .val (.int (0 : Int32)), .val (.ref r)] []))
      refine own_go (fun tQ kQ => XS.aload X16.here hx rfl (hb hby at_256) rfl rfl kQ) ?_
      show own_End p e below _ (T16.setTop (mkF m 258 #[.val (.int i0), .val (.int i1), .val (.int i2), .val (.int i3), .val (.int i4), .val (.int i5), .val (.int zn), .val (.int za), .val (.ref ca), .val (.ref st), .val (.int (0 : Int32)), .val (.ref r)] [(.ref r)]))
      obtain ⟨cq17, kq17, q17a, q17b, q17c⟩ := isOf hZ rfl E_r
      obtain ⟨_, _, ⟨T17, L17, k17, n17⟩, -, X17, ⟨Lc17, hQ17, l17, y17, z17⟩, st17⟩ := X16.virtualBack hx (y := (⟨"java/lang/String", "length", "()I"⟩ : MethodName)) (z := (⟨"java/lang/String", "length", "()I"⟩ : MethodName)) hown (mvT hZ (hw _ (List.mem_of_getElem? (i := 100) rfl))) (mvT hZ (hw _ (List.mem_of_getElem? (i := 55) rfl))) (notFace_of_selects (args := #[]) (mvT hZ (hw _ (List.mem_of_getElem? (i := 57) rfl)))) (mvT hZ (hw _ (List.mem_of_getElem? (i := 57) rfl))) (mvT hZ (hw _ (List.mem_of_getElem? (i := 56) rfl))) (by decide) (backOf (W := 0) (rmlen l Z a0 hw [] r tr (0 : Int32) (fun j => (cf j).toInt8.toInt32) cz T16.heap n0 Zs E_r F_value_r F_coder_r V_tr Ol S_cs hcz) hZ (hw _ (List.mem_of_getElem? (i := 58) rfl)) (hw _ (List.mem_of_getElem? (i := 8) rfl)) (by decide) (by decide)) q17a q17c (g := (mkF m 258 #[.val (.int i0), .val (.int i1), .val (.int i2), .val (.int i3), .val (.int i4), .val (.int i5), .val (.int zn), .val (.int za), .val (.ref ca), .val (.ref st), .val (.int (0 : Int32)), .val (.ref r)] [(.ref r)])) rfl (by rw [hml]; rfl) (Steps.refl _) (argsL := []) (rest := []) (lenOf pd_12 rfl) rfl (by show 2 * 0 + _ ≤ _; exact Nat.le_of_eq rfl) (hb hby at_258) (fun _ _ => ⟨rfl, rfl, (Nat.le_of_ble_eq_true rfl), (Nat.le_of_ble_eq_true rfl)⟩)
      dsimp only [Pt.U, Pt.locs, Pt.cells, Pt.slots] at X17 l17 y17 z17 st17 hQ17
      subst l17 y17 z17
      obtain ⟨rfl, N17q, e17⟩ := hQ17
      have Nf := Fr.app Nf N17q
      refine own_go (fun tQ kQ => st17.trans kQ) ?_
      show own_End p e below _ (T17.setTop (mkF m 261 #[.val (.int i0), .val (.int i1), .val (.int i2), .val (.int i3), .val (.int i4), .val (.int i5), .val (.int zn), .val (.int za), .val (.ref ca), .val (.ref st), .val (.int (0 : Int32)), .val (.ref r)] [(.int (0 : Int32))]))
      refine own_go (fun tQ kQ => XS.iload X17.here hx rfl (hb hby at_261) rfl kQ) ?_
      show own_End p e below _ (T17.setTop (mkF m 263 #[.val (.int i0), .val (.int i1), .val (.int i2), .val (.int i3), .val (.int i4), .val (.int i5), .val (.int zn), .val (.int za), .val (.ref ca), .val (.ref st), .val (.int (0 : Int32)), .val (.ref r)] [(.int (0 : Int32)), (.int (0 : Int32))]))
      refine own_go (fun tQ kQ => XS.icmpNo X17.here hx rfl (hb hby at_263) rfl (teq (rfl : (0 : Int32) = (0 : Int32))).2 kQ) ?_
      show own_End p e below _ (T17.setTop (mkF m 266 #[.val (.int i0), .val (.int i1), .val (.int i2), .val (.int i3), .val (.int i4), .val (.int i5), .val (.int zn), .val (.int za), .val (.ref ca), .val (.ref st), .val (.int (0 : Int32)), .val (.ref r)] []))
      refine own_go (fun tQ kQ => XS.iload X17.here hx rfl (hb hby at_266) rfl kQ) ?_
      show own_End p e below _ (T17.setTop (mkF m 268 #[.val (.int i0), .val (.int i1), .val (.int i2), .val (.int i3), .val (.int i4), .val (.int i5), .val (.int zn), .val (.int za), .val (.ref ca), .val (.ref st), .val (.int (0 : Int32)), .val (.ref r)] [(.int (0 : Int32))]))
      refine own_go (fun tQ kQ => XS.iconst X17.here hx rfl (hb hby at_268) kQ) ?_
      show own_End p e below _ (T17.setTop (mkF m 269 #[.val (.int i0), .val (.int i1), .val (.int i2), .val (.int i3), .val (.int i4), .val (.int i5), .val (.int zn), .val (.int za), .val (.ref ca), .val (.ref st), .val (.int (0 : Int32)), .val (.ref r)] [(.int (1 : Int32)), (.int (0 : Int32))]))
      refine own_go (fun tQ kQ => XS.icmpYes X17.here hx rfl (pc0 := 269) (pc' := 285) rfl (hb hby at_269) rfl (tlt (by decide)).1 (by decide) (by decide) kQ) ?_
      show own_End p e below _ (T17.setTop (mkF m 285 #[.val (.int i0), .val (.int i1), .val (.int i2), .val (.int i3), .val (.int i4), .val (.int i5), .val (.int zn), .val (.int za), .val (.ref ca), .val (.ref st), .val (.int (0 : Int32)), .val (.ref r)] []))
      refine own_go (fun tQ kQ => XS.iload X17.here hx rfl (hb hby at_285) rfl kQ) ?_
      show own_End p e below _ (T17.setTop (mkF m 287 #[.val (.int i0), .val (.int i1), .val (.int i2), .val (.int i3), .val (.int i4), .val (.int i5), .val (.int zn), .val (.int za), .val (.ref ca), .val (.ref st), .val (.int (0 : Int32)), .val (.ref r)] [(.int (0 : Int32))]))
      refine own_go (fun tQ kQ => XS.iconst X17.here hx rfl (hb hby at_287) kQ) ?_
      show own_End p e below _ (T17.setTop (mkF m 288 #[.val (.int i0), .val (.int i1), .val (.int i2), .val (.int i3), .val (.int i4), .val (.int i5), .val (.int zn), .val (.int za), .val (.ref ca), .val (.ref st), .val (.int (0 : Int32)), .val (.ref r)] [(.int (2 : Int32)), (.int (0 : Int32))]))
      refine own_go (fun tQ kQ => XS.icmpYes X17.here hx rfl (pc0 := 288) (pc' := 304) rfl (hb hby at_288) rfl (tlt (by decide)).1 (by decide) (by decide) kQ) ?_
      show own_End p e below _ (T17.setTop (mkF m 304 #[.val (.int i0), .val (.int i1), .val (.int i2), .val (.int i3), .val (.int i4), .val (.int i5), .val (.int zn), .val (.int za), .val (.ref ca), .val (.ref st), .val (.int (0 : Int32)), .val (.ref r)] []))
      refine own_go (fun tQ kQ => XS.iload X17.here hx rfl (hb hby at_304) rfl kQ) ?_
      show own_End p e below _ (T17.setTop (mkF m 306 #[.val (.int i0), .val (.int i1), .val (.int i2), .val (.int i3), .val (.int i4), .val (.int i5), .val (.int zn), .val (.int za), .val (.ref ca), .val (.ref st), .val (.int (0 : Int32)), .val (.ref r)] [(.int (0 : Int32))]))
      refine own_go (fun tQ kQ => XS.iconst X17.here hx rfl (hb hby at_306) kQ) ?_
      show own_End p e below _ (T17.setTop (mkF m 307 #[.val (.int i0), .val (.int i1), .val (.int i2), .val (.int i3), .val (.int i4), .val (.int i5), .val (.int zn), .val (.int za), .val (.ref ca), .val (.ref st), .val (.int (0 : Int32)), .val (.ref r)] [(.int (3 : Int32)), (.int (0 : Int32))]))
      refine own_go (fun tQ kQ => XS.icmpYes X17.here hx rfl (pc0 := 307) (pc' := 323) rfl (hb hby at_307) rfl (tlt (by decide)).1 (by decide) (by decide) kQ) ?_
      show own_End p e below _ (T17.setTop (mkF m 323 #[.val (.int i0), .val (.int i1), .val (.int i2), .val (.int i3), .val (.int i4), .val (.int i5), .val (.int zn), .val (.int za), .val (.ref ca), .val (.ref st), .val (.int (0 : Int32)), .val (.ref r)] []))
      refine own_go (fun tQ kQ => XS.iconst X17.here hx rfl (hb hby at_323) kQ) ?_
      show own_End p e below _ (T17.setTop (mkF m 324 #[.val (.int i0), .val (.int i1), .val (.int i2), .val (.int i3), .val (.int i4), .val (.int i5), .val (.int zn), .val (.int za), .val (.ref ca), .val (.ref st), .val (.int (0 : Int32)), .val (.ref r)] [(.int (1 : Int32))]))
      refine own_go (fun tQ kQ => XS.goto X17.here hx rfl (pc0 := 324) (pc' := 328) rfl (hb hby at_324) (by decide) (by decide) kQ) ?_
      show own_End p e below _ (T17.setTop (mkF m 328 #[.val (.int i0), .val (.int i1), .val (.int i2), .val (.int i3), .val (.int i4), .val (.int i5), .val (.int zn), .val (.int za), .val (.ref ca), .val (.ref st), .val (.int (0 : Int32)), .val (.ref r)] [(.int (1 : Int32))]))
      obtain ⟨fs, hr, hrun, hended, hend⟩ := X17.leaveW hS (by rw [e17]; exact hkW) (v := some (.int (1 : Int32))) (fun h => by rw [Bd.returns] at h; cases h)
      refine ⟨_, _, (retN X17 hx (t := .boolean) Bd.returns (by simp) (hb hby at_328) hr), hrun, hended, _, _, rfl, ?_, ⟨hend.1, hend.2.1, hend.2.2.1, hend.2.2.2.mono (by decide) (by decide)⟩⟩
      show Q0 Z i0 i1 i2 i3 i4 i5 cz fm h0 n0 _ T17.heap _
      rw [e17]
      exact ⟨rfl, Nf⟩
    have J247_1 : ∀  (T : State) (locs : List Loc) (h : Heap) (vm0 : Vm) (k0 : Nat) (X : Stand p l e room_1 (s.setVm vm0) m #[(.int i0), (.int i1), (.int i2), (.int i3), (.int i4), (.int i5)] below meth c T locs 4 16) (eT : T.heap = h) (Nf : Fr n0 locs) (Zs : n0 ≤ h.size) (Kp : Keep h0 h []) (szr : h0.size ≤ h.size) (hS : s.Since vm0 k0) (hkW : k0 ≤ h.size) (hZ : Z.Warmed39 (s.setVm vm0).vm) (hown : (s.setVm vm0).vm.findClass "com/example/resolvent/resolvent/identifiers/IdentifierPrefixOfPinLaw" = some m.cls) (E_st : Exa Z h st "java/lang/String") (F_value_st : Fld Z h st "java/lang/String" "value" "[B" (.ref tt)) (F_coder_st : Fld Z h st "java/lang/String" "coder" "B" (.int (0 : Int32))) (V_tt : own_Ar Z h tt .byte zn (fun j => .int ((fun j => (cf j).toInt8.toInt32) j))) (V_ca : own_Ar Z h ca .char (4 : Int32) (fun j => .int (cf j))) (Ol : Old Z n0 h) (hf1 : ∀ j, j < 1 → ¬ cf j = 47) (hf2 : 1 < 3 → cf 1 = 47) (hf3 : 1 ≤ 3) (hvm : vm0 = s.vm), own_End p e below (P0 Z i0 i1 i2 i3 i4 i5 cz fm h0 n0 s) (T.setTop (mkF m 247 #[.val (.int i0), .val (.int i1), .val (.int i2), .val (.int i3), .val (.int i4), .val (.int i5), .val (.int zn), .val (.int za), .val (.ref ca), .val (.ref st), .unset, .unset] [(.int (1 : Int32))])) := by
      intro  T locs h vm0 k0 X eT Nf Zs Kp szr hS hkW hZ hown E_st F_value_st F_coder_st V_tt V_ca Ol hf1 hf2 hf3 hvm
      subst hvm
      have hKA : 1 ≤ A := by
        rcases Nat.lt_or_ge A 1 with q | q
        · exact absurd hcA (hf1 A q)
        · exact q
      have hcK : cf 1 = 47 := hf2 (by decide)
      refine own_go (fun tQ kQ => XS.istore X.here hx rfl (hb hby at_247) rfl (l' := #[.val (.int i0), .val (.int i1), .val (.int i2), .val (.int i3), .val (.int i4), .val (.int i5), .val (.int zn), .val (.int za), .val (.ref ca), .val (.ref st), .val (.int (1 : Int32)), .unset]) rfl kQ) ?_
      show own_End p e below _ (T.setTop (mkF m 249 #[.val (.int i0), .val (.int i1), .val (.int i2), .val (.int i3), .val (.int i4), .val (.int i5), .val (.int zn), .val (.int za), .val (.ref ca), .val (.ref st), .val (.int (1 : Int32)), .unset] []))
      refine own_go (fun tQ kQ => XS.aload X.here hx rfl (hb hby at_249) rfl rfl kQ) ?_
      show own_End p e below _ (T.setTop (mkF m 251 #[.val (.int i0), .val (.int i1), .val (.int i2), .val (.int i3), .val (.int i4), .val (.int i5), .val (.int zn), .val (.int za), .val (.ref ca), .val (.ref st), .val (.int (1 : Int32)), .unset] [(.ref st)]))
      obtain ⟨_, _, ⟨T18, L18, k18, n18⟩, -, X18, ⟨Lc18, hQ18, l18, y18, z18⟩, st18⟩ := Jvm.LawKit.callS X hx (y := (⟨"com/example/resolvent/resolvent/identifiers/Identifier", "prefixOf", "(Ljava/lang/String;)Ljava/lang/String;"⟩ : MethodName)) hown (mvT hZ (hw _ (List.mem_of_getElem? (i := 35) rfl))) (mvT hZ (hw _ (List.mem_of_getElem? (i := 36) rfl))) (mvT hZ (hw _ (List.mem_of_getElem? (i := 37) rfl))) (mvT hZ (hw _ (List.mem_of_getElem? (i := 38) rfl))) (by decide) (backOf (W := 0) (rmpo l Z a0 hw [] st tt zn (fun j => (cf j).toInt8.toInt32) cz N 1 (1 : Int32) fm h n0 Zs E_st F_value_st F_coder_st V_tt Ol S_cs hcz hz (by decide) (by omega) ((own_slash (hcb 1)).mpr hcK) (fun j hj q => hf1 j hj ((own_slash (hcb j)).mp q)) (by decide) (fun j => fits_nar_byte _) S_fm rfm (by decide)) hZ (hw _ (List.mem_of_getElem? (i := 38) rfl)) (hw _ (List.mem_of_getElem? (i := 37) rfl)) (by decide) (by decide)) (g := (mkF m 251 #[.val (.int i0), .val (.int i1), .val (.int i2), .val (.int i3), .val (.int i4), .val (.int i5), .val (.int zn), .val (.int za), .val (.ref ca), .val (.ref st), .val (.int (1 : Int32)), .unset] [(.ref st)])) rfl (by rw [hml]; rfl) (argsL := [(.ref st)]) (rest := []) (lenOf pd_23 rfl) rfl (by show 2 * 0 + _ ≤ _; exact Nat.le_of_eq rfl) (hb hby at_251) (fun _ _ => ⟨rfl, eT, (Nat.le_of_ble_eq_true rfl), (Nat.le_of_ble_eq_true rfl)⟩)
      dsimp only [Pt.U, Pt.locs, Pt.cells, Pt.slots] at X18 l18 y18 z18 st18 hQ18
      subst l18 y18 z18
      obtain ⟨r, tr, rfl, N18q, K18, hb18, hc18, E_r, F_value_r, F_coder_r, V_tr⟩ := hQ18
      have Nf := Fr.app Nf N18q
      have ne_st_r : st ≠ r := Nat.ne_of_lt (Nat.lt_of_lt_of_le E_st.lt hb18)
      have ne_tt_r : tt ≠ r := Nat.ne_of_lt (Nat.lt_of_lt_of_le V_tt.lt hb18)
      have ne_ca_r : ca ≠ r := Nat.ne_of_lt (Nat.lt_of_lt_of_le V_ca.lt hb18)
      have g_r : n0 ≤ r := Nat.le_trans Zs hb18
      have sz_r : h0.size ≤ r := Nat.le_trans szr hb18
      have ne_st_tr : st ≠ tr := Nat.ne_of_lt (Nat.lt_of_lt_of_le E_st.lt hc18)
      have ne_tt_tr : tt ≠ tr := Nat.ne_of_lt (Nat.lt_of_lt_of_le V_tt.lt hc18)
      have ne_ca_tr : ca ≠ tr := Nat.ne_of_lt (Nat.lt_of_lt_of_le V_ca.lt hc18)
      have g_tr : n0 ≤ tr := Nat.le_trans Zs hc18
      have sz_tr : h0.size ≤ tr := Nat.le_trans szr hc18
      have E_st := E_st.keep K18
      have F_value_st := F_value_st.keep K18 nin0
      have F_coder_st := F_coder_st.keep K18 nin0
      have V_tt := V_tt.keep K18 nin0
      have V_ca := V_ca.keep K18 nin0
      have Ol := Ol.keep K18 all0
      have Kp := Kp.trans K18 all0
      have Zs := Nat.le_trans Zs K18.1
      have szr := Nat.le_trans szr K18.1
      have hkW := Nat.le_trans hkW K18.1
      refine own_go (fun tQ kQ => st18 tQ kQ) ?_
      show own_End p e below _ (T18.setTop (mkF m 254 #[.val (.int i0), .val (.int i1), .val (.int i2), .val (.int i3), .val (.int i4), .val (.int i5), .val (.int zn), .val (.int za), .val (.ref ca), .val (.ref st), .val (.int (1 : Int32)), .unset] [(.ref r)]))
      refine own_go (fun tQ kQ => XS.astore X18.here hx rfl (hb hby at_254) rfl rfl (l' := #[.val (.int i0), .val (.int i1), .val (.int i2), .val (.int i3), .val (.int i4), .val (.int i5), .val (.int zn), .val (.int za), .val (.ref ca), .val (.ref st), .val (.int (1 : Int32)), .val (.ref r)]) rfl kQ) ?_
      show own_End p e below _ (T18.setTop (mkF m 256 #[.val (.int i0), .val (.int i1), .val (.int i2), .val (.int i3), .val (.int i4), .val (.int i5), .val (.int zn), .val (.int za), .val (.ref ca), .val (.ref st), .val (.int (1 : Int32)), .val (.ref r)] []))
      refine own_go (fun tQ kQ => XS.aload X18.here hx rfl (hb hby at_256) rfl rfl kQ) ?_
      show own_End p e below _ (T18.setTop (mkF m 258 #[.val (.int i0), .val (.int i1), .val (.int i2), .val (.int i3), .val (.int i4), .val (.int i5), .val (.int zn), .val (.int za), .val (.ref ca), .val (.ref st), .val (.int (1 : Int32)), .val (.ref r)] [(.ref r)]))
      obtain ⟨cq19, kq19, q19a, q19b, q19c⟩ := isOf hZ rfl E_r
      obtain ⟨_, _, ⟨T19, L19, k19, n19⟩, -, X19, ⟨Lc19, hQ19, l19, y19, z19⟩, st19⟩ := X18.virtualBack hx (y := (⟨"java/lang/String", "length", "()I"⟩ : MethodName)) (z := (⟨"java/lang/String", "length", "()I"⟩ : MethodName)) hown (mvT hZ (hw _ (List.mem_of_getElem? (i := 100) rfl))) (mvT hZ (hw _ (List.mem_of_getElem? (i := 55) rfl))) (notFace_of_selects (args := #[]) (mvT hZ (hw _ (List.mem_of_getElem? (i := 57) rfl)))) (mvT hZ (hw _ (List.mem_of_getElem? (i := 57) rfl))) (mvT hZ (hw _ (List.mem_of_getElem? (i := 56) rfl))) (by decide) (backOf (W := 0) (rmlen l Z a0 hw [] r tr (1 : Int32) (fun j => (cf j).toInt8.toInt32) cz T18.heap n0 Zs E_r F_value_r F_coder_r V_tr Ol S_cs hcz) hZ (hw _ (List.mem_of_getElem? (i := 58) rfl)) (hw _ (List.mem_of_getElem? (i := 8) rfl)) (by decide) (by decide)) q19a q19c (g := (mkF m 258 #[.val (.int i0), .val (.int i1), .val (.int i2), .val (.int i3), .val (.int i4), .val (.int i5), .val (.int zn), .val (.int za), .val (.ref ca), .val (.ref st), .val (.int (1 : Int32)), .val (.ref r)] [(.ref r)])) rfl (by rw [hml]; rfl) (Steps.refl _) (argsL := []) (rest := []) (lenOf pd_12 rfl) rfl (by show 2 * 0 + _ ≤ _; exact Nat.le_of_eq rfl) (hb hby at_258) (fun _ _ => ⟨rfl, rfl, (Nat.le_of_ble_eq_true rfl), (Nat.le_of_ble_eq_true rfl)⟩)
      dsimp only [Pt.U, Pt.locs, Pt.cells, Pt.slots] at X19 l19 y19 z19 st19 hQ19
      subst l19 y19 z19
      obtain ⟨rfl, N19q, e19⟩ := hQ19
      have Nf := Fr.app Nf N19q
      refine own_go (fun tQ kQ => st19.trans kQ) ?_
      show own_End p e below _ (T19.setTop (mkF m 261 #[.val (.int i0), .val (.int i1), .val (.int i2), .val (.int i3), .val (.int i4), .val (.int i5), .val (.int zn), .val (.int za), .val (.ref ca), .val (.ref st), .val (.int (1 : Int32)), .val (.ref r)] [(.int (1 : Int32))]))
      refine own_go (fun tQ kQ => XS.iload X19.here hx rfl (hb hby at_261) rfl kQ) ?_
      show own_End p e below _ (T19.setTop (mkF m 263 #[.val (.int i0), .val (.int i1), .val (.int i2), .val (.int i3), .val (.int i4), .val (.int i5), .val (.int zn), .val (.int za), .val (.ref ca), .val (.ref st), .val (.int (1 : Int32)), .val (.ref r)] [(.int (1 : Int32)), (.int (1 : Int32))]))
      refine own_go (fun tQ kQ => XS.icmpNo X19.here hx rfl (hb hby at_263) rfl (teq (rfl : (1 : Int32) = (1 : Int32))).2 kQ) ?_
      show own_End p e below _ (T19.setTop (mkF m 266 #[.val (.int i0), .val (.int i1), .val (.int i2), .val (.int i3), .val (.int i4), .val (.int i5), .val (.int zn), .val (.int za), .val (.ref ca), .val (.ref st), .val (.int (1 : Int32)), .val (.ref r)] []))
      refine own_go (fun tQ kQ => XS.iload X19.here hx rfl (hb hby at_266) rfl kQ) ?_
      show own_End p e below _ (T19.setTop (mkF m 268 #[.val (.int i0), .val (.int i1), .val (.int i2), .val (.int i3), .val (.int i4), .val (.int i5), .val (.int zn), .val (.int za), .val (.ref ca), .val (.ref st), .val (.int (1 : Int32)), .val (.ref r)] [(.int (1 : Int32))]))
      refine own_go (fun tQ kQ => XS.iconst X19.here hx rfl (hb hby at_268) kQ) ?_
      show own_End p e below _ (T19.setTop (mkF m 269 #[.val (.int i0), .val (.int i1), .val (.int i2), .val (.int i3), .val (.int i4), .val (.int i5), .val (.int zn), .val (.int za), .val (.ref ca), .val (.ref st), .val (.int (1 : Int32)), .val (.ref r)] [(.int (1 : Int32)), (.int (1 : Int32))]))
      refine own_go (fun tQ kQ => XS.icmpNo X19.here hx rfl (hb hby at_269) rfl (flt (by decide)).1 kQ) ?_
      show own_End p e below _ (T19.setTop (mkF m 272 #[.val (.int i0), .val (.int i1), .val (.int i2), .val (.int i3), .val (.int i4), .val (.int i5), .val (.int zn), .val (.int za), .val (.ref ca), .val (.ref st), .val (.int (1 : Int32)), .val (.ref r)] []))
      refine own_go (fun tQ kQ => XS.aload X19.here hx rfl (hb hby at_272) rfl rfl kQ) ?_
      show own_End p e below _ (T19.setTop (mkF m 274 #[.val (.int i0), .val (.int i1), .val (.int i2), .val (.int i3), .val (.int i4), .val (.int i5), .val (.int zn), .val (.int za), .val (.ref ca), .val (.ref st), .val (.int (1 : Int32)), .val (.ref r)] [(.ref r)]))
      refine own_go (fun tQ kQ => XS.iconst X19.here hx rfl (hb hby at_274) kQ) ?_
      show own_End p e below _ (T19.setTop (mkF m 275 #[.val (.int i0), .val (.int i1), .val (.int i2), .val (.int i3), .val (.int i4), .val (.int i5), .val (.int zn), .val (.int za), .val (.ref ca), .val (.ref st), .val (.int (1 : Int32)), .val (.ref r)] [(.int (0 : Int32)), (.ref r)]))
      obtain ⟨cq20, kq20, q20a, q20b, q20c⟩ := isOf hZ e19 E_r
      obtain ⟨_, _, ⟨T20, L20, k20, n20⟩, -, X20, ⟨Lc20, hQ20, l20, y20, z20⟩, st20⟩ := X19.virtualBack hx (y := (⟨"java/lang/String", "charAt", "(I)C"⟩ : MethodName)) (z := (⟨"java/lang/String", "charAt", "(I)C"⟩ : MethodName)) hown (mvT hZ (hw _ (List.mem_of_getElem? (i := 120) rfl))) (mvT hZ (hw _ (List.mem_of_getElem? (i := 121) rfl))) (notFace_of_selects (args := #[]) (mvT hZ (hw _ (List.mem_of_getElem? (i := 123) rfl)))) (mvT hZ (hw _ (List.mem_of_getElem? (i := 123) rfl))) (mvT hZ (hw _ (List.mem_of_getElem? (i := 122) rfl))) (by decide) (backOf (W := 0) (rmchA l Z a0 hw [] r tr (1 : Int32) (fun j => (cf j).toInt8.toInt32) cz (0 : Int32) fm T18.heap n0 Zs E_r F_value_r F_coder_r V_tr Ol S_cs hcz S_fm rfm (by decide) (by decide)) hZ (hw _ (List.mem_of_getElem? (i := 124) rfl)) (hw _ (List.mem_of_getElem? (i := 8) rfl)) (by decide) (by decide)) q20a q20c (g := (mkF m 275 #[.val (.int i0), .val (.int i1), .val (.int i2), .val (.int i3), .val (.int i4), .val (.int i5), .val (.int zn), .val (.int za), .val (.ref ca), .val (.ref st), .val (.int (1 : Int32)), .val (.ref r)] [(.int (0 : Int32)), (.ref r)])) rfl (by rw [hml]; rfl) (Steps.refl _) (argsL := [(.int (0 : Int32))]) (rest := []) (lenOf pd_22 rfl) rfl (by show 2 * 0 + _ ≤ _; exact Nat.le_of_eq rfl) (hb hby at_275) (fun _ _ => ⟨rfl, e19, (Nat.le_of_ble_eq_true rfl), (Nat.le_of_ble_eq_true rfl)⟩)
      dsimp only [Pt.U, Pt.locs, Pt.cells, Pt.slots] at X20 l20 y20 z20 st20 hQ20
      subst l20 y20 z20
      obtain ⟨rfl, N20q, e20⟩ := hQ20
      have Nf := Fr.app Nf N20q
      refine own_go (fun tQ kQ => st20.trans kQ) ?_
      show own_End p e below _ (T20.setTop (mkF m 278 #[.val (.int i0), .val (.int i1), .val (.int i2), .val (.int i3), .val (.int i4), .val (.int i5), .val (.int zn), .val (.int za), .val (.ref ca), .val (.ref st), .val (.int (1 : Int32)), .val (.ref r)] [(.int (own_ch ((fun j => (cf j).toInt8.toInt32) (0 : Int32).toNatClampNeg)))]))
      rw [show own_ch ((fun j => (cf j).toInt8.toInt32) (0 : Int32).toNatClampNeg) = cf 0 from own_ch_of (hcb 0).1 (hcb 0).2]
      show own_End p e below _ (T20.setTop (mkF m 278 #[.val (.int i0), .val (.int i1), .val (.int i2), .val (.int i3), .val (.int i4), .val (.int i5), .val (.int zn), .val (.int za), .val (.ref ca), .val (.ref st), .val (.int (1 : Int32)), .val (.ref r)] [(.int (cf 0))]))
      refine own_go (fun tQ kQ => XS.aload X20.here hx rfl (hb hby at_278) rfl rfl kQ) ?_
      show own_End p e below _ (T20.setTop (mkF m 280 #[.val (.int i0), .val (.int i1), .val (.int i2), .val (.int i3), .val (.int i4), .val (.int i5), .val (.int zn), .val (.int za), .val (.ref ca), .val (.ref st), .val (.int (1 : Int32)), .val (.ref r)] [(.ref ca), (.int (cf 0))]))
      refine own_go (fun tQ kQ => XS.iconst X20.here hx rfl (hb hby at_280) kQ) ?_
      show own_End p e below _ (T20.setTop (mkF m 281 #[.val (.int i0), .val (.int i1), .val (.int i2), .val (.int i3), .val (.int i4), .val (.int i5), .val (.int zn), .val (.int za), .val (.ref ca), .val (.ref st), .val (.int (1 : Int32)), .val (.ref r)] [(.int (0 : Int32)), (.ref ca), (.int (cf 0))]))
      obtain ⟨cl21, Ar21, S21, M21, H21⟩ := id V_ca
      have hin21 := inb_of (j := (0 : Int32)) S21 ⟨(by decide), (by decide)⟩
      refine own_go (fun tQ kQ => X20.caload hx (j := (0 : Int32)) (v := (.int (cf 0))) (by rw [e20]; exact Ar21.1) (State.isArrayOf_alike hZ.alike Ar21.2.1) Ar21.2.2 hin21 (H21 _ (own_in S21 hin21)) (g := (mkF m 281 #[.val (.int i0), .val (.int i1), .val (.int i2), .val (.int i3), .val (.int i4), .val (.int i5), .val (.int zn), .val (.int za), .val (.ref ca), .val (.ref st), .val (.int (1 : Int32)), .val (.ref r)] [(.int (0 : Int32)), (.ref ca), (.int (cf 0))])) rfl rfl (hb hby at_281) _ kQ) ?_
      show own_End p e below _ (T20.setTop (mkF m 282 #[.val (.int i0), .val (.int i1), .val (.int i2), .val (.int i3), .val (.int i4), .val (.int i5), .val (.int zn), .val (.int za), .val (.ref ca), .val (.ref st), .val (.int (1 : Int32)), .val (.ref r)] [(.int (cf 0)), (.int (cf 0))]))
      refine own_go (fun tQ kQ => XS.icmpNo X20.here hx rfl (hb hby at_282) rfl (teq (rfl : cf 0 = cf 0)).2 kQ) ?_
      show own_End p e below _ (T20.setTop (mkF m 285 #[.val (.int i0), .val (.int i1), .val (.int i2), .val (.int i3), .val (.int i4), .val (.int i5), .val (.int zn), .val (.int za), .val (.ref ca), .val (.ref st), .val (.int (1 : Int32)), .val (.ref r)] []))
      refine own_go (fun tQ kQ => XS.iload X20.here hx rfl (hb hby at_285) rfl kQ) ?_
      show own_End p e below _ (T20.setTop (mkF m 287 #[.val (.int i0), .val (.int i1), .val (.int i2), .val (.int i3), .val (.int i4), .val (.int i5), .val (.int zn), .val (.int za), .val (.ref ca), .val (.ref st), .val (.int (1 : Int32)), .val (.ref r)] [(.int (1 : Int32))]))
      refine own_go (fun tQ kQ => XS.iconst X20.here hx rfl (hb hby at_287) kQ) ?_
      show own_End p e below _ (T20.setTop (mkF m 288 #[.val (.int i0), .val (.int i1), .val (.int i2), .val (.int i3), .val (.int i4), .val (.int i5), .val (.int zn), .val (.int za), .val (.ref ca), .val (.ref st), .val (.int (1 : Int32)), .val (.ref r)] [(.int (2 : Int32)), (.int (1 : Int32))]))
      refine own_go (fun tQ kQ => XS.icmpYes X20.here hx rfl (pc0 := 288) (pc' := 304) rfl (hb hby at_288) rfl (tlt (by decide)).1 (by decide) (by decide) kQ) ?_
      show own_End p e below _ (T20.setTop (mkF m 304 #[.val (.int i0), .val (.int i1), .val (.int i2), .val (.int i3), .val (.int i4), .val (.int i5), .val (.int zn), .val (.int za), .val (.ref ca), .val (.ref st), .val (.int (1 : Int32)), .val (.ref r)] []))
      refine own_go (fun tQ kQ => XS.iload X20.here hx rfl (hb hby at_304) rfl kQ) ?_
      show own_End p e below _ (T20.setTop (mkF m 306 #[.val (.int i0), .val (.int i1), .val (.int i2), .val (.int i3), .val (.int i4), .val (.int i5), .val (.int zn), .val (.int za), .val (.ref ca), .val (.ref st), .val (.int (1 : Int32)), .val (.ref r)] [(.int (1 : Int32))]))
      refine own_go (fun tQ kQ => XS.iconst X20.here hx rfl (hb hby at_306) kQ) ?_
      show own_End p e below _ (T20.setTop (mkF m 307 #[.val (.int i0), .val (.int i1), .val (.int i2), .val (.int i3), .val (.int i4), .val (.int i5), .val (.int zn), .val (.int za), .val (.ref ca), .val (.ref st), .val (.int (1 : Int32)), .val (.ref r)] [(.int (3 : Int32)), (.int (1 : Int32))]))
      refine own_go (fun tQ kQ => XS.icmpYes X20.here hx rfl (pc0 := 307) (pc' := 323) rfl (hb hby at_307) rfl (tlt (by decide)).1 (by decide) (by decide) kQ) ?_
      show own_End p e below _ (T20.setTop (mkF m 323 #[.val (.int i0), .val (.int i1), .val (.int i2), .val (.int i3), .val (.int i4), .val (.int i5), .val (.int zn), .val (.int za), .val (.ref ca), .val (.ref st), .val (.int (1 : Int32)), .val (.ref r)] []))
      refine own_go (fun tQ kQ => XS.iconst X20.here hx rfl (hb hby at_323) kQ) ?_
      show own_End p e below _ (T20.setTop (mkF m 324 #[.val (.int i0), .val (.int i1), .val (.int i2), .val (.int i3), .val (.int i4), .val (.int i5), .val (.int zn), .val (.int za), .val (.ref ca), .val (.ref st), .val (.int (1 : Int32)), .val (.ref r)] [(.int (1 : Int32))]))
      refine own_go (fun tQ kQ => XS.goto X20.here hx rfl (pc0 := 324) (pc' := 328) rfl (hb hby at_324) (by decide) (by decide) kQ) ?_
      show own_End p e below _ (T20.setTop (mkF m 328 #[.val (.int i0), .val (.int i1), .val (.int i2), .val (.int i3), .val (.int i4), .val (.int i5), .val (.int zn), .val (.int za), .val (.ref ca), .val (.ref st), .val (.int (1 : Int32)), .val (.ref r)] [(.int (1 : Int32))]))
      obtain ⟨fs, hr, hrun, hended, hend⟩ := X20.leaveW hS (by rw [e20]; exact hkW) (v := some (.int (1 : Int32))) (fun h => by rw [Bd.returns] at h; cases h)
      refine ⟨_, _, (retN X20 hx (t := .boolean) Bd.returns (by simp) (hb hby at_328) hr), hrun, hended, _, _, rfl, ?_, ⟨hend.1, hend.2.1, hend.2.2.1, hend.2.2.2.mono (by decide) (by decide)⟩⟩
      show Q0 Z i0 i1 i2 i3 i4 i5 cz fm h0 n0 _ T20.heap _
      rw [e20]
      exact ⟨rfl, Nf⟩
    have J247_2 : ∀  (T : State) (locs : List Loc) (h : Heap) (vm0 : Vm) (k0 : Nat) (X : Stand p l e room_1 (s.setVm vm0) m #[(.int i0), (.int i1), (.int i2), (.int i3), (.int i4), (.int i5)] below meth c T locs 4 16) (eT : T.heap = h) (Nf : Fr n0 locs) (Zs : n0 ≤ h.size) (Kp : Keep h0 h []) (szr : h0.size ≤ h.size) (hS : s.Since vm0 k0) (hkW : k0 ≤ h.size) (hZ : Z.Warmed39 (s.setVm vm0).vm) (hown : (s.setVm vm0).vm.findClass "com/example/resolvent/resolvent/identifiers/IdentifierPrefixOfPinLaw" = some m.cls) (E_st : Exa Z h st "java/lang/String") (F_value_st : Fld Z h st "java/lang/String" "value" "[B" (.ref tt)) (F_coder_st : Fld Z h st "java/lang/String" "coder" "B" (.int (0 : Int32))) (V_tt : own_Ar Z h tt .byte zn (fun j => .int ((fun j => (cf j).toInt8.toInt32) j))) (V_ca : own_Ar Z h ca .char (4 : Int32) (fun j => .int (cf j))) (Ol : Old Z n0 h) (hf1 : ∀ j, j < 2 → ¬ cf j = 47) (hf2 : 2 < 3 → cf 2 = 47) (hf3 : 2 ≤ 3) (hvm : vm0 = s.vm), own_End p e below (P0 Z i0 i1 i2 i3 i4 i5 cz fm h0 n0 s) (T.setTop (mkF m 247 #[.val (.int i0), .val (.int i1), .val (.int i2), .val (.int i3), .val (.int i4), .val (.int i5), .val (.int zn), .val (.int za), .val (.ref ca), .val (.ref st), .unset, .unset] [(.int (2 : Int32))])) := by
      intro  T locs h vm0 k0 X eT Nf Zs Kp szr hS hkW hZ hown E_st F_value_st F_coder_st V_tt V_ca Ol hf1 hf2 hf3 hvm
      subst hvm
      have hKA : 2 ≤ A := by
        rcases Nat.lt_or_ge A 2 with q | q
        · exact absurd hcA (hf1 A q)
        · exact q
      have hcK : cf 2 = 47 := hf2 (by decide)
      refine own_go (fun tQ kQ => XS.istore X.here hx rfl (hb hby at_247) rfl (l' := #[.val (.int i0), .val (.int i1), .val (.int i2), .val (.int i3), .val (.int i4), .val (.int i5), .val (.int zn), .val (.int za), .val (.ref ca), .val (.ref st), .val (.int (2 : Int32)), .unset]) rfl kQ) ?_
      show own_End p e below _ (T.setTop (mkF m 249 #[.val (.int i0), .val (.int i1), .val (.int i2), .val (.int i3), .val (.int i4), .val (.int i5), .val (.int zn), .val (.int za), .val (.ref ca), .val (.ref st), .val (.int (2 : Int32)), .unset] []))
      refine own_go (fun tQ kQ => XS.aload X.here hx rfl (hb hby at_249) rfl rfl kQ) ?_
      show own_End p e below _ (T.setTop (mkF m 251 #[.val (.int i0), .val (.int i1), .val (.int i2), .val (.int i3), .val (.int i4), .val (.int i5), .val (.int zn), .val (.int za), .val (.ref ca), .val (.ref st), .val (.int (2 : Int32)), .unset] [(.ref st)]))
      obtain ⟨_, _, ⟨T22, L22, k22, n22⟩, -, X22, ⟨Lc22, hQ22, l22, y22, z22⟩, st22⟩ := Jvm.LawKit.callS X hx (y := (⟨"com/example/resolvent/resolvent/identifiers/Identifier", "prefixOf", "(Ljava/lang/String;)Ljava/lang/String;"⟩ : MethodName)) hown (mvT hZ (hw _ (List.mem_of_getElem? (i := 35) rfl))) (mvT hZ (hw _ (List.mem_of_getElem? (i := 36) rfl))) (mvT hZ (hw _ (List.mem_of_getElem? (i := 37) rfl))) (mvT hZ (hw _ (List.mem_of_getElem? (i := 38) rfl))) (by decide) (backOf (W := 0) (rmpo l Z a0 hw [] st tt zn (fun j => (cf j).toInt8.toInt32) cz N 2 (2 : Int32) fm h n0 Zs E_st F_value_st F_coder_st V_tt Ol S_cs hcz hz (by decide) (by omega) ((own_slash (hcb 2)).mpr hcK) (fun j hj q => hf1 j hj ((own_slash (hcb j)).mp q)) (by decide) (fun j => fits_nar_byte _) S_fm rfm (by decide)) hZ (hw _ (List.mem_of_getElem? (i := 38) rfl)) (hw _ (List.mem_of_getElem? (i := 37) rfl)) (by decide) (by decide)) (g := (mkF m 251 #[.val (.int i0), .val (.int i1), .val (.int i2), .val (.int i3), .val (.int i4), .val (.int i5), .val (.int zn), .val (.int za), .val (.ref ca), .val (.ref st), .val (.int (2 : Int32)), .unset] [(.ref st)])) rfl (by rw [hml]; rfl) (argsL := [(.ref st)]) (rest := []) (lenOf pd_23 rfl) rfl (by show 2 * 0 + _ ≤ _; exact Nat.le_of_eq rfl) (hb hby at_251) (fun _ _ => ⟨rfl, eT, (Nat.le_of_ble_eq_true rfl), (Nat.le_of_ble_eq_true rfl)⟩)
      dsimp only [Pt.U, Pt.locs, Pt.cells, Pt.slots] at X22 l22 y22 z22 st22 hQ22
      subst l22 y22 z22
      obtain ⟨r, tr, rfl, N22q, K22, hb22, hc22, E_r, F_value_r, F_coder_r, V_tr⟩ := hQ22
      have Nf := Fr.app Nf N22q
      have ne_st_r : st ≠ r := Nat.ne_of_lt (Nat.lt_of_lt_of_le E_st.lt hb22)
      have ne_tt_r : tt ≠ r := Nat.ne_of_lt (Nat.lt_of_lt_of_le V_tt.lt hb22)
      have ne_ca_r : ca ≠ r := Nat.ne_of_lt (Nat.lt_of_lt_of_le V_ca.lt hb22)
      have g_r : n0 ≤ r := Nat.le_trans Zs hb22
      have sz_r : h0.size ≤ r := Nat.le_trans szr hb22
      have ne_st_tr : st ≠ tr := Nat.ne_of_lt (Nat.lt_of_lt_of_le E_st.lt hc22)
      have ne_tt_tr : tt ≠ tr := Nat.ne_of_lt (Nat.lt_of_lt_of_le V_tt.lt hc22)
      have ne_ca_tr : ca ≠ tr := Nat.ne_of_lt (Nat.lt_of_lt_of_le V_ca.lt hc22)
      have g_tr : n0 ≤ tr := Nat.le_trans Zs hc22
      have sz_tr : h0.size ≤ tr := Nat.le_trans szr hc22
      have E_st := E_st.keep K22
      have F_value_st := F_value_st.keep K22 nin0
      have F_coder_st := F_coder_st.keep K22 nin0
      have V_tt := V_tt.keep K22 nin0
      have V_ca := V_ca.keep K22 nin0
      have Ol := Ol.keep K22 all0
      have Kp := Kp.trans K22 all0
      have Zs := Nat.le_trans Zs K22.1
      have szr := Nat.le_trans szr K22.1
      have hkW := Nat.le_trans hkW K22.1
      refine own_go (fun tQ kQ => st22 tQ kQ) ?_
      show own_End p e below _ (T22.setTop (mkF m 254 #[.val (.int i0), .val (.int i1), .val (.int i2), .val (.int i3), .val (.int i4), .val (.int i5), .val (.int zn), .val (.int za), .val (.ref ca), .val (.ref st), .val (.int (2 : Int32)), .unset] [(.ref r)]))
      refine own_go (fun tQ kQ => XS.astore X22.here hx rfl (hb hby at_254) rfl rfl (l' := #[.val (.int i0), .val (.int i1), .val (.int i2), .val (.int i3), .val (.int i4), .val (.int i5), .val (.int zn), .val (.int za), .val (.ref ca), .val (.ref st), .val (.int (2 : Int32)), .val (.ref r)]) rfl kQ) ?_
      show own_End p e below _ (T22.setTop (mkF m 256 #[.val (.int i0), .val (.int i1), .val (.int i2), .val (.int i3), .val (.int i4), .val (.int i5), .val (.int zn), .val (.int za), .val (.ref ca), .val (.ref st), .val (.int (2 : Int32)), .val (.ref r)] []))
      refine own_go (fun tQ kQ => XS.aload X22.here hx rfl (hb hby at_256) rfl rfl kQ) ?_
      show own_End p e below _ (T22.setTop (mkF m 258 #[.val (.int i0), .val (.int i1), .val (.int i2), .val (.int i3), .val (.int i4), .val (.int i5), .val (.int zn), .val (.int za), .val (.ref ca), .val (.ref st), .val (.int (2 : Int32)), .val (.ref r)] [(.ref r)]))
      obtain ⟨cq23, kq23, q23a, q23b, q23c⟩ := isOf hZ rfl E_r
      obtain ⟨_, _, ⟨T23, L23, k23, n23⟩, -, X23, ⟨Lc23, hQ23, l23, y23, z23⟩, st23⟩ := X22.virtualBack hx (y := (⟨"java/lang/String", "length", "()I"⟩ : MethodName)) (z := (⟨"java/lang/String", "length", "()I"⟩ : MethodName)) hown (mvT hZ (hw _ (List.mem_of_getElem? (i := 100) rfl))) (mvT hZ (hw _ (List.mem_of_getElem? (i := 55) rfl))) (notFace_of_selects (args := #[]) (mvT hZ (hw _ (List.mem_of_getElem? (i := 57) rfl)))) (mvT hZ (hw _ (List.mem_of_getElem? (i := 57) rfl))) (mvT hZ (hw _ (List.mem_of_getElem? (i := 56) rfl))) (by decide) (backOf (W := 0) (rmlen l Z a0 hw [] r tr (2 : Int32) (fun j => (cf j).toInt8.toInt32) cz T22.heap n0 Zs E_r F_value_r F_coder_r V_tr Ol S_cs hcz) hZ (hw _ (List.mem_of_getElem? (i := 58) rfl)) (hw _ (List.mem_of_getElem? (i := 8) rfl)) (by decide) (by decide)) q23a q23c (g := (mkF m 258 #[.val (.int i0), .val (.int i1), .val (.int i2), .val (.int i3), .val (.int i4), .val (.int i5), .val (.int zn), .val (.int za), .val (.ref ca), .val (.ref st), .val (.int (2 : Int32)), .val (.ref r)] [(.ref r)])) rfl (by rw [hml]; rfl) (Steps.refl _) (argsL := []) (rest := []) (lenOf pd_12 rfl) rfl (by show 2 * 0 + _ ≤ _; exact Nat.le_of_eq rfl) (hb hby at_258) (fun _ _ => ⟨rfl, rfl, (Nat.le_of_ble_eq_true rfl), (Nat.le_of_ble_eq_true rfl)⟩)
      dsimp only [Pt.U, Pt.locs, Pt.cells, Pt.slots] at X23 l23 y23 z23 st23 hQ23
      subst l23 y23 z23
      obtain ⟨rfl, N23q, e23⟩ := hQ23
      have Nf := Fr.app Nf N23q
      refine own_go (fun tQ kQ => st23.trans kQ) ?_
      show own_End p e below _ (T23.setTop (mkF m 261 #[.val (.int i0), .val (.int i1), .val (.int i2), .val (.int i3), .val (.int i4), .val (.int i5), .val (.int zn), .val (.int za), .val (.ref ca), .val (.ref st), .val (.int (2 : Int32)), .val (.ref r)] [(.int (2 : Int32))]))
      refine own_go (fun tQ kQ => XS.iload X23.here hx rfl (hb hby at_261) rfl kQ) ?_
      show own_End p e below _ (T23.setTop (mkF m 263 #[.val (.int i0), .val (.int i1), .val (.int i2), .val (.int i3), .val (.int i4), .val (.int i5), .val (.int zn), .val (.int za), .val (.ref ca), .val (.ref st), .val (.int (2 : Int32)), .val (.ref r)] [(.int (2 : Int32)), (.int (2 : Int32))]))
      refine own_go (fun tQ kQ => XS.icmpNo X23.here hx rfl (hb hby at_263) rfl (teq (rfl : (2 : Int32) = (2 : Int32))).2 kQ) ?_
      show own_End p e below _ (T23.setTop (mkF m 266 #[.val (.int i0), .val (.int i1), .val (.int i2), .val (.int i3), .val (.int i4), .val (.int i5), .val (.int zn), .val (.int za), .val (.ref ca), .val (.ref st), .val (.int (2 : Int32)), .val (.ref r)] []))
      refine own_go (fun tQ kQ => XS.iload X23.here hx rfl (hb hby at_266) rfl kQ) ?_
      show own_End p e below _ (T23.setTop (mkF m 268 #[.val (.int i0), .val (.int i1), .val (.int i2), .val (.int i3), .val (.int i4), .val (.int i5), .val (.int zn), .val (.int za), .val (.ref ca), .val (.ref st), .val (.int (2 : Int32)), .val (.ref r)] [(.int (2 : Int32))]))
      refine own_go (fun tQ kQ => XS.iconst X23.here hx rfl (hb hby at_268) kQ) ?_
      show own_End p e below _ (T23.setTop (mkF m 269 #[.val (.int i0), .val (.int i1), .val (.int i2), .val (.int i3), .val (.int i4), .val (.int i5), .val (.int zn), .val (.int za), .val (.ref ca), .val (.ref st), .val (.int (2 : Int32)), .val (.ref r)] [(.int (1 : Int32)), (.int (2 : Int32))]))
      refine own_go (fun tQ kQ => XS.icmpNo X23.here hx rfl (hb hby at_269) rfl (flt (by decide)).1 kQ) ?_
      show own_End p e below _ (T23.setTop (mkF m 272 #[.val (.int i0), .val (.int i1), .val (.int i2), .val (.int i3), .val (.int i4), .val (.int i5), .val (.int zn), .val (.int za), .val (.ref ca), .val (.ref st), .val (.int (2 : Int32)), .val (.ref r)] []))
      refine own_go (fun tQ kQ => XS.aload X23.here hx rfl (hb hby at_272) rfl rfl kQ) ?_
      show own_End p e below _ (T23.setTop (mkF m 274 #[.val (.int i0), .val (.int i1), .val (.int i2), .val (.int i3), .val (.int i4), .val (.int i5), .val (.int zn), .val (.int za), .val (.ref ca), .val (.ref st), .val (.int (2 : Int32)), .val (.ref r)] [(.ref r)]))
      refine own_go (fun tQ kQ => XS.iconst X23.here hx rfl (hb hby at_274) kQ) ?_
      show own_End p e below _ (T23.setTop (mkF m 275 #[.val (.int i0), .val (.int i1), .val (.int i2), .val (.int i3), .val (.int i4), .val (.int i5), .val (.int zn), .val (.int za), .val (.ref ca), .val (.ref st), .val (.int (2 : Int32)), .val (.ref r)] [(.int (0 : Int32)), (.ref r)]))
      obtain ⟨cq24, kq24, q24a, q24b, q24c⟩ := isOf hZ e23 E_r
      obtain ⟨_, _, ⟨T24, L24, k24, n24⟩, -, X24, ⟨Lc24, hQ24, l24, y24, z24⟩, st24⟩ := X23.virtualBack hx (y := (⟨"java/lang/String", "charAt", "(I)C"⟩ : MethodName)) (z := (⟨"java/lang/String", "charAt", "(I)C"⟩ : MethodName)) hown (mvT hZ (hw _ (List.mem_of_getElem? (i := 120) rfl))) (mvT hZ (hw _ (List.mem_of_getElem? (i := 121) rfl))) (notFace_of_selects (args := #[]) (mvT hZ (hw _ (List.mem_of_getElem? (i := 123) rfl)))) (mvT hZ (hw _ (List.mem_of_getElem? (i := 123) rfl))) (mvT hZ (hw _ (List.mem_of_getElem? (i := 122) rfl))) (by decide) (backOf (W := 0) (rmchA l Z a0 hw [] r tr (2 : Int32) (fun j => (cf j).toInt8.toInt32) cz (0 : Int32) fm T22.heap n0 Zs E_r F_value_r F_coder_r V_tr Ol S_cs hcz S_fm rfm (by decide) (by decide)) hZ (hw _ (List.mem_of_getElem? (i := 124) rfl)) (hw _ (List.mem_of_getElem? (i := 8) rfl)) (by decide) (by decide)) q24a q24c (g := (mkF m 275 #[.val (.int i0), .val (.int i1), .val (.int i2), .val (.int i3), .val (.int i4), .val (.int i5), .val (.int zn), .val (.int za), .val (.ref ca), .val (.ref st), .val (.int (2 : Int32)), .val (.ref r)] [(.int (0 : Int32)), (.ref r)])) rfl (by rw [hml]; rfl) (Steps.refl _) (argsL := [(.int (0 : Int32))]) (rest := []) (lenOf pd_22 rfl) rfl (by show 2 * 0 + _ ≤ _; exact Nat.le_of_eq rfl) (hb hby at_275) (fun _ _ => ⟨rfl, e23, (Nat.le_of_ble_eq_true rfl), (Nat.le_of_ble_eq_true rfl)⟩)
      dsimp only [Pt.U, Pt.locs, Pt.cells, Pt.slots] at X24 l24 y24 z24 st24 hQ24
      subst l24 y24 z24
      obtain ⟨rfl, N24q, e24⟩ := hQ24
      have Nf := Fr.app Nf N24q
      refine own_go (fun tQ kQ => st24.trans kQ) ?_
      show own_End p e below _ (T24.setTop (mkF m 278 #[.val (.int i0), .val (.int i1), .val (.int i2), .val (.int i3), .val (.int i4), .val (.int i5), .val (.int zn), .val (.int za), .val (.ref ca), .val (.ref st), .val (.int (2 : Int32)), .val (.ref r)] [(.int (own_ch ((fun j => (cf j).toInt8.toInt32) (0 : Int32).toNatClampNeg)))]))
      rw [show own_ch ((fun j => (cf j).toInt8.toInt32) (0 : Int32).toNatClampNeg) = cf 0 from own_ch_of (hcb 0).1 (hcb 0).2]
      show own_End p e below _ (T24.setTop (mkF m 278 #[.val (.int i0), .val (.int i1), .val (.int i2), .val (.int i3), .val (.int i4), .val (.int i5), .val (.int zn), .val (.int za), .val (.ref ca), .val (.ref st), .val (.int (2 : Int32)), .val (.ref r)] [(.int (cf 0))]))
      refine own_go (fun tQ kQ => XS.aload X24.here hx rfl (hb hby at_278) rfl rfl kQ) ?_
      show own_End p e below _ (T24.setTop (mkF m 280 #[.val (.int i0), .val (.int i1), .val (.int i2), .val (.int i3), .val (.int i4), .val (.int i5), .val (.int zn), .val (.int za), .val (.ref ca), .val (.ref st), .val (.int (2 : Int32)), .val (.ref r)] [(.ref ca), (.int (cf 0))]))
      refine own_go (fun tQ kQ => XS.iconst X24.here hx rfl (hb hby at_280) kQ) ?_
      show own_End p e below _ (T24.setTop (mkF m 281 #[.val (.int i0), .val (.int i1), .val (.int i2), .val (.int i3), .val (.int i4), .val (.int i5), .val (.int zn), .val (.int za), .val (.ref ca), .val (.ref st), .val (.int (2 : Int32)), .val (.ref r)] [(.int (0 : Int32)), (.ref ca), (.int (cf 0))]))
      obtain ⟨cl25, Ar25, S25, M25, H25⟩ := id V_ca
      have hin25 := inb_of (j := (0 : Int32)) S25 ⟨(by decide), (by decide)⟩
      refine own_go (fun tQ kQ => X24.caload hx (j := (0 : Int32)) (v := (.int (cf 0))) (by rw [e24]; exact Ar25.1) (State.isArrayOf_alike hZ.alike Ar25.2.1) Ar25.2.2 hin25 (H25 _ (own_in S25 hin25)) (g := (mkF m 281 #[.val (.int i0), .val (.int i1), .val (.int i2), .val (.int i3), .val (.int i4), .val (.int i5), .val (.int zn), .val (.int za), .val (.ref ca), .val (.ref st), .val (.int (2 : Int32)), .val (.ref r)] [(.int (0 : Int32)), (.ref ca), (.int (cf 0))])) rfl rfl (hb hby at_281) _ kQ) ?_
      show own_End p e below _ (T24.setTop (mkF m 282 #[.val (.int i0), .val (.int i1), .val (.int i2), .val (.int i3), .val (.int i4), .val (.int i5), .val (.int zn), .val (.int za), .val (.ref ca), .val (.ref st), .val (.int (2 : Int32)), .val (.ref r)] [(.int (cf 0)), (.int (cf 0))]))
      refine own_go (fun tQ kQ => XS.icmpNo X24.here hx rfl (hb hby at_282) rfl (teq (rfl : cf 0 = cf 0)).2 kQ) ?_
      show own_End p e below _ (T24.setTop (mkF m 285 #[.val (.int i0), .val (.int i1), .val (.int i2), .val (.int i3), .val (.int i4), .val (.int i5), .val (.int zn), .val (.int za), .val (.ref ca), .val (.ref st), .val (.int (2 : Int32)), .val (.ref r)] []))
      refine own_go (fun tQ kQ => XS.iload X24.here hx rfl (hb hby at_285) rfl kQ) ?_
      show own_End p e below _ (T24.setTop (mkF m 287 #[.val (.int i0), .val (.int i1), .val (.int i2), .val (.int i3), .val (.int i4), .val (.int i5), .val (.int zn), .val (.int za), .val (.ref ca), .val (.ref st), .val (.int (2 : Int32)), .val (.ref r)] [(.int (2 : Int32))]))
      refine own_go (fun tQ kQ => XS.iconst X24.here hx rfl (hb hby at_287) kQ) ?_
      show own_End p e below _ (T24.setTop (mkF m 288 #[.val (.int i0), .val (.int i1), .val (.int i2), .val (.int i3), .val (.int i4), .val (.int i5), .val (.int zn), .val (.int za), .val (.ref ca), .val (.ref st), .val (.int (2 : Int32)), .val (.ref r)] [(.int (2 : Int32)), (.int (2 : Int32))]))
      refine own_go (fun tQ kQ => XS.icmpNo X24.here hx rfl (hb hby at_288) rfl (flt (by decide)).1 kQ) ?_
      show own_End p e below _ (T24.setTop (mkF m 291 #[.val (.int i0), .val (.int i1), .val (.int i2), .val (.int i3), .val (.int i4), .val (.int i5), .val (.int zn), .val (.int za), .val (.ref ca), .val (.ref st), .val (.int (2 : Int32)), .val (.ref r)] []))
      refine own_go (fun tQ kQ => XS.aload X24.here hx rfl (hb hby at_291) rfl rfl kQ) ?_
      show own_End p e below _ (T24.setTop (mkF m 293 #[.val (.int i0), .val (.int i1), .val (.int i2), .val (.int i3), .val (.int i4), .val (.int i5), .val (.int zn), .val (.int za), .val (.ref ca), .val (.ref st), .val (.int (2 : Int32)), .val (.ref r)] [(.ref r)]))
      refine own_go (fun tQ kQ => XS.iconst X24.here hx rfl (hb hby at_293) kQ) ?_
      show own_End p e below _ (T24.setTop (mkF m 294 #[.val (.int i0), .val (.int i1), .val (.int i2), .val (.int i3), .val (.int i4), .val (.int i5), .val (.int zn), .val (.int za), .val (.ref ca), .val (.ref st), .val (.int (2 : Int32)), .val (.ref r)] [(.int (1 : Int32)), (.ref r)]))
      obtain ⟨cq26, kq26, q26a, q26b, q26c⟩ := isOf hZ e24 E_r
      obtain ⟨_, _, ⟨T26, L26, k26, n26⟩, -, X26, ⟨Lc26, hQ26, l26, y26, z26⟩, st26⟩ := X24.virtualBack hx (y := (⟨"java/lang/String", "charAt", "(I)C"⟩ : MethodName)) (z := (⟨"java/lang/String", "charAt", "(I)C"⟩ : MethodName)) hown (mvT hZ (hw _ (List.mem_of_getElem? (i := 120) rfl))) (mvT hZ (hw _ (List.mem_of_getElem? (i := 121) rfl))) (notFace_of_selects (args := #[]) (mvT hZ (hw _ (List.mem_of_getElem? (i := 123) rfl)))) (mvT hZ (hw _ (List.mem_of_getElem? (i := 123) rfl))) (mvT hZ (hw _ (List.mem_of_getElem? (i := 122) rfl))) (by decide) (backOf (W := 0) (rmchA l Z a0 hw [] r tr (2 : Int32) (fun j => (cf j).toInt8.toInt32) cz (1 : Int32) fm T22.heap n0 Zs E_r F_value_r F_coder_r V_tr Ol S_cs hcz S_fm rfm (by decide) (by decide)) hZ (hw _ (List.mem_of_getElem? (i := 124) rfl)) (hw _ (List.mem_of_getElem? (i := 8) rfl)) (by decide) (by decide)) q26a q26c (g := (mkF m 294 #[.val (.int i0), .val (.int i1), .val (.int i2), .val (.int i3), .val (.int i4), .val (.int i5), .val (.int zn), .val (.int za), .val (.ref ca), .val (.ref st), .val (.int (2 : Int32)), .val (.ref r)] [(.int (1 : Int32)), (.ref r)])) rfl (by rw [hml]; rfl) (Steps.refl _) (argsL := [(.int (1 : Int32))]) (rest := []) (lenOf pd_22 rfl) rfl (by show 2 * 0 + _ ≤ _; exact Nat.le_of_eq rfl) (hb hby at_294) (fun _ _ => ⟨rfl, e24, (Nat.le_of_ble_eq_true rfl), (Nat.le_of_ble_eq_true rfl)⟩)
      dsimp only [Pt.U, Pt.locs, Pt.cells, Pt.slots] at X26 l26 y26 z26 st26 hQ26
      subst l26 y26 z26
      obtain ⟨rfl, N26q, e26⟩ := hQ26
      have Nf := Fr.app Nf N26q
      refine own_go (fun tQ kQ => st26.trans kQ) ?_
      show own_End p e below _ (T26.setTop (mkF m 297 #[.val (.int i0), .val (.int i1), .val (.int i2), .val (.int i3), .val (.int i4), .val (.int i5), .val (.int zn), .val (.int za), .val (.ref ca), .val (.ref st), .val (.int (2 : Int32)), .val (.ref r)] [(.int (own_ch ((fun j => (cf j).toInt8.toInt32) (1 : Int32).toNatClampNeg)))]))
      rw [show own_ch ((fun j => (cf j).toInt8.toInt32) (1 : Int32).toNatClampNeg) = cf 1 from own_ch_of (hcb 1).1 (hcb 1).2]
      show own_End p e below _ (T26.setTop (mkF m 297 #[.val (.int i0), .val (.int i1), .val (.int i2), .val (.int i3), .val (.int i4), .val (.int i5), .val (.int zn), .val (.int za), .val (.ref ca), .val (.ref st), .val (.int (2 : Int32)), .val (.ref r)] [(.int (cf 1))]))
      refine own_go (fun tQ kQ => XS.aload X26.here hx rfl (hb hby at_297) rfl rfl kQ) ?_
      show own_End p e below _ (T26.setTop (mkF m 299 #[.val (.int i0), .val (.int i1), .val (.int i2), .val (.int i3), .val (.int i4), .val (.int i5), .val (.int zn), .val (.int za), .val (.ref ca), .val (.ref st), .val (.int (2 : Int32)), .val (.ref r)] [(.ref ca), (.int (cf 1))]))
      refine own_go (fun tQ kQ => XS.iconst X26.here hx rfl (hb hby at_299) kQ) ?_
      show own_End p e below _ (T26.setTop (mkF m 300 #[.val (.int i0), .val (.int i1), .val (.int i2), .val (.int i3), .val (.int i4), .val (.int i5), .val (.int zn), .val (.int za), .val (.ref ca), .val (.ref st), .val (.int (2 : Int32)), .val (.ref r)] [(.int (1 : Int32)), (.ref ca), (.int (cf 1))]))
      obtain ⟨cl27, Ar27, S27, M27, H27⟩ := id V_ca
      have hin27 := inb_of (j := (1 : Int32)) S27 ⟨(by decide), (by decide)⟩
      refine own_go (fun tQ kQ => X26.caload hx (j := (1 : Int32)) (v := (.int (cf 1))) (by rw [e26]; exact Ar27.1) (State.isArrayOf_alike hZ.alike Ar27.2.1) Ar27.2.2 hin27 (H27 _ (own_in S27 hin27)) (g := (mkF m 300 #[.val (.int i0), .val (.int i1), .val (.int i2), .val (.int i3), .val (.int i4), .val (.int i5), .val (.int zn), .val (.int za), .val (.ref ca), .val (.ref st), .val (.int (2 : Int32)), .val (.ref r)] [(.int (1 : Int32)), (.ref ca), (.int (cf 1))])) rfl rfl (hb hby at_300) _ kQ) ?_
      show own_End p e below _ (T26.setTop (mkF m 301 #[.val (.int i0), .val (.int i1), .val (.int i2), .val (.int i3), .val (.int i4), .val (.int i5), .val (.int zn), .val (.int za), .val (.ref ca), .val (.ref st), .val (.int (2 : Int32)), .val (.ref r)] [(.int (cf 1)), (.int (cf 1))]))
      refine own_go (fun tQ kQ => XS.icmpNo X26.here hx rfl (hb hby at_301) rfl (teq (rfl : cf 1 = cf 1)).2 kQ) ?_
      show own_End p e below _ (T26.setTop (mkF m 304 #[.val (.int i0), .val (.int i1), .val (.int i2), .val (.int i3), .val (.int i4), .val (.int i5), .val (.int zn), .val (.int za), .val (.ref ca), .val (.ref st), .val (.int (2 : Int32)), .val (.ref r)] []))
      refine own_go (fun tQ kQ => XS.iload X26.here hx rfl (hb hby at_304) rfl kQ) ?_
      show own_End p e below _ (T26.setTop (mkF m 306 #[.val (.int i0), .val (.int i1), .val (.int i2), .val (.int i3), .val (.int i4), .val (.int i5), .val (.int zn), .val (.int za), .val (.ref ca), .val (.ref st), .val (.int (2 : Int32)), .val (.ref r)] [(.int (2 : Int32))]))
      refine own_go (fun tQ kQ => XS.iconst X26.here hx rfl (hb hby at_306) kQ) ?_
      show own_End p e below _ (T26.setTop (mkF m 307 #[.val (.int i0), .val (.int i1), .val (.int i2), .val (.int i3), .val (.int i4), .val (.int i5), .val (.int zn), .val (.int za), .val (.ref ca), .val (.ref st), .val (.int (2 : Int32)), .val (.ref r)] [(.int (3 : Int32)), (.int (2 : Int32))]))
      refine own_go (fun tQ kQ => XS.icmpYes X26.here hx rfl (pc0 := 307) (pc' := 323) rfl (hb hby at_307) rfl (tlt (by decide)).1 (by decide) (by decide) kQ) ?_
      show own_End p e below _ (T26.setTop (mkF m 323 #[.val (.int i0), .val (.int i1), .val (.int i2), .val (.int i3), .val (.int i4), .val (.int i5), .val (.int zn), .val (.int za), .val (.ref ca), .val (.ref st), .val (.int (2 : Int32)), .val (.ref r)] []))
      refine own_go (fun tQ kQ => XS.iconst X26.here hx rfl (hb hby at_323) kQ) ?_
      show own_End p e below _ (T26.setTop (mkF m 324 #[.val (.int i0), .val (.int i1), .val (.int i2), .val (.int i3), .val (.int i4), .val (.int i5), .val (.int zn), .val (.int za), .val (.ref ca), .val (.ref st), .val (.int (2 : Int32)), .val (.ref r)] [(.int (1 : Int32))]))
      refine own_go (fun tQ kQ => XS.goto X26.here hx rfl (pc0 := 324) (pc' := 328) rfl (hb hby at_324) (by decide) (by decide) kQ) ?_
      show own_End p e below _ (T26.setTop (mkF m 328 #[.val (.int i0), .val (.int i1), .val (.int i2), .val (.int i3), .val (.int i4), .val (.int i5), .val (.int zn), .val (.int za), .val (.ref ca), .val (.ref st), .val (.int (2 : Int32)), .val (.ref r)] [(.int (1 : Int32))]))
      obtain ⟨fs, hr, hrun, hended, hend⟩ := X26.leaveW hS (by rw [e26]; exact hkW) (v := some (.int (1 : Int32))) (fun h => by rw [Bd.returns] at h; cases h)
      refine ⟨_, _, (retN X26 hx (t := .boolean) Bd.returns (by simp) (hb hby at_328) hr), hrun, hended, _, _, rfl, ?_, ⟨hend.1, hend.2.1, hend.2.2.1, hend.2.2.2.mono (by decide) (by decide)⟩⟩
      show Q0 Z i0 i1 i2 i3 i4 i5 cz fm h0 n0 _ T26.heap _
      rw [e26]
      exact ⟨rfl, Nf⟩
    have J247_3 : ∀  (T : State) (locs : List Loc) (h : Heap) (vm0 : Vm) (k0 : Nat) (X : Stand p l e room_1 (s.setVm vm0) m #[(.int i0), (.int i1), (.int i2), (.int i3), (.int i4), (.int i5)] below meth c T locs 4 16) (eT : T.heap = h) (Nf : Fr n0 locs) (Zs : n0 ≤ h.size) (Kp : Keep h0 h []) (szr : h0.size ≤ h.size) (hS : s.Since vm0 k0) (hkW : k0 ≤ h.size) (hZ : Z.Warmed39 (s.setVm vm0).vm) (hown : (s.setVm vm0).vm.findClass "com/example/resolvent/resolvent/identifiers/IdentifierPrefixOfPinLaw" = some m.cls) (E_st : Exa Z h st "java/lang/String") (F_value_st : Fld Z h st "java/lang/String" "value" "[B" (.ref tt)) (F_coder_st : Fld Z h st "java/lang/String" "coder" "B" (.int (0 : Int32))) (V_tt : own_Ar Z h tt .byte zn (fun j => .int ((fun j => (cf j).toInt8.toInt32) j))) (V_ca : own_Ar Z h ca .char (4 : Int32) (fun j => .int (cf j))) (Ol : Old Z n0 h) (hf1 : ∀ j, j < 3 → ¬ cf j = 47) (hf2 : 3 < 3 → cf 3 = 47) (hf3 : 3 ≤ 3) (hvm : vm0 = s.vm), own_End p e below (P0 Z i0 i1 i2 i3 i4 i5 cz fm h0 n0 s) (T.setTop (mkF m 247 #[.val (.int i0), .val (.int i1), .val (.int i2), .val (.int i3), .val (.int i4), .val (.int i5), .val (.int zn), .val (.int za), .val (.ref ca), .val (.ref st), .unset, .unset] [(.int (3 : Int32))])) := by
      intro  T locs h vm0 k0 X eT Nf Zs Kp szr hS hkW hZ hown E_st F_value_st F_coder_st V_tt V_ca Ol hf1 hf2 hf3 hvm
      subst hvm
      have hKA : 3 ≤ A := by
        rcases Nat.lt_or_ge A 3 with q | q
        · exact absurd hcA (hf1 A q)
        · exact q
      have hcK : cf 3 = 47 := by rw [show 3 = A by omega]; exact hcA
      refine own_go (fun tQ kQ => XS.istore X.here hx rfl (hb hby at_247) rfl (l' := #[.val (.int i0), .val (.int i1), .val (.int i2), .val (.int i3), .val (.int i4), .val (.int i5), .val (.int zn), .val (.int za), .val (.ref ca), .val (.ref st), .val (.int (3 : Int32)), .unset]) rfl kQ) ?_
      show own_End p e below _ (T.setTop (mkF m 249 #[.val (.int i0), .val (.int i1), .val (.int i2), .val (.int i3), .val (.int i4), .val (.int i5), .val (.int zn), .val (.int za), .val (.ref ca), .val (.ref st), .val (.int (3 : Int32)), .unset] []))
      refine own_go (fun tQ kQ => XS.aload X.here hx rfl (hb hby at_249) rfl rfl kQ) ?_
      show own_End p e below _ (T.setTop (mkF m 251 #[.val (.int i0), .val (.int i1), .val (.int i2), .val (.int i3), .val (.int i4), .val (.int i5), .val (.int zn), .val (.int za), .val (.ref ca), .val (.ref st), .val (.int (3 : Int32)), .unset] [(.ref st)]))
      obtain ⟨_, _, ⟨T28, L28, k28, n28⟩, -, X28, ⟨Lc28, hQ28, l28, y28, z28⟩, st28⟩ := Jvm.LawKit.callS X hx (y := (⟨"com/example/resolvent/resolvent/identifiers/Identifier", "prefixOf", "(Ljava/lang/String;)Ljava/lang/String;"⟩ : MethodName)) hown (mvT hZ (hw _ (List.mem_of_getElem? (i := 35) rfl))) (mvT hZ (hw _ (List.mem_of_getElem? (i := 36) rfl))) (mvT hZ (hw _ (List.mem_of_getElem? (i := 37) rfl))) (mvT hZ (hw _ (List.mem_of_getElem? (i := 38) rfl))) (by decide) (backOf (W := 0) (rmpo l Z a0 hw [] st tt zn (fun j => (cf j).toInt8.toInt32) cz N 3 (3 : Int32) fm h n0 Zs E_st F_value_st F_coder_st V_tt Ol S_cs hcz hz (by decide) (by omega) ((own_slash (hcb 3)).mpr hcK) (fun j hj q => hf1 j hj ((own_slash (hcb j)).mp q)) (by decide) (fun j => fits_nar_byte _) S_fm rfm (by decide)) hZ (hw _ (List.mem_of_getElem? (i := 38) rfl)) (hw _ (List.mem_of_getElem? (i := 37) rfl)) (by decide) (by decide)) (g := (mkF m 251 #[.val (.int i0), .val (.int i1), .val (.int i2), .val (.int i3), .val (.int i4), .val (.int i5), .val (.int zn), .val (.int za), .val (.ref ca), .val (.ref st), .val (.int (3 : Int32)), .unset] [(.ref st)])) rfl (by rw [hml]; rfl) (argsL := [(.ref st)]) (rest := []) (lenOf pd_23 rfl) rfl (by show 2 * 0 + _ ≤ _; exact Nat.le_of_eq rfl) (hb hby at_251) (fun _ _ => ⟨rfl, eT, (Nat.le_of_ble_eq_true rfl), (Nat.le_of_ble_eq_true rfl)⟩)
      dsimp only [Pt.U, Pt.locs, Pt.cells, Pt.slots] at X28 l28 y28 z28 st28 hQ28
      subst l28 y28 z28
      obtain ⟨r, tr, rfl, N28q, K28, hb28, hc28, E_r, F_value_r, F_coder_r, V_tr⟩ := hQ28
      have Nf := Fr.app Nf N28q
      have ne_st_r : st ≠ r := Nat.ne_of_lt (Nat.lt_of_lt_of_le E_st.lt hb28)
      have ne_tt_r : tt ≠ r := Nat.ne_of_lt (Nat.lt_of_lt_of_le V_tt.lt hb28)
      have ne_ca_r : ca ≠ r := Nat.ne_of_lt (Nat.lt_of_lt_of_le V_ca.lt hb28)
      have g_r : n0 ≤ r := Nat.le_trans Zs hb28
      have sz_r : h0.size ≤ r := Nat.le_trans szr hb28
      have ne_st_tr : st ≠ tr := Nat.ne_of_lt (Nat.lt_of_lt_of_le E_st.lt hc28)
      have ne_tt_tr : tt ≠ tr := Nat.ne_of_lt (Nat.lt_of_lt_of_le V_tt.lt hc28)
      have ne_ca_tr : ca ≠ tr := Nat.ne_of_lt (Nat.lt_of_lt_of_le V_ca.lt hc28)
      have g_tr : n0 ≤ tr := Nat.le_trans Zs hc28
      have sz_tr : h0.size ≤ tr := Nat.le_trans szr hc28
      have E_st := E_st.keep K28
      have F_value_st := F_value_st.keep K28 nin0
      have F_coder_st := F_coder_st.keep K28 nin0
      have V_tt := V_tt.keep K28 nin0
      have V_ca := V_ca.keep K28 nin0
      have Ol := Ol.keep K28 all0
      have Kp := Kp.trans K28 all0
      have Zs := Nat.le_trans Zs K28.1
      have szr := Nat.le_trans szr K28.1
      have hkW := Nat.le_trans hkW K28.1
      refine own_go (fun tQ kQ => st28 tQ kQ) ?_
      show own_End p e below _ (T28.setTop (mkF m 254 #[.val (.int i0), .val (.int i1), .val (.int i2), .val (.int i3), .val (.int i4), .val (.int i5), .val (.int zn), .val (.int za), .val (.ref ca), .val (.ref st), .val (.int (3 : Int32)), .unset] [(.ref r)]))
      refine own_go (fun tQ kQ => XS.astore X28.here hx rfl (hb hby at_254) rfl rfl (l' := #[.val (.int i0), .val (.int i1), .val (.int i2), .val (.int i3), .val (.int i4), .val (.int i5), .val (.int zn), .val (.int za), .val (.ref ca), .val (.ref st), .val (.int (3 : Int32)), .val (.ref r)]) rfl kQ) ?_
      show own_End p e below _ (T28.setTop (mkF m 256 #[.val (.int i0), .val (.int i1), .val (.int i2), .val (.int i3), .val (.int i4), .val (.int i5), .val (.int zn), .val (.int za), .val (.ref ca), .val (.ref st), .val (.int (3 : Int32)), .val (.ref r)] []))
      refine own_go (fun tQ kQ => XS.aload X28.here hx rfl (hb hby at_256) rfl rfl kQ) ?_
      show own_End p e below _ (T28.setTop (mkF m 258 #[.val (.int i0), .val (.int i1), .val (.int i2), .val (.int i3), .val (.int i4), .val (.int i5), .val (.int zn), .val (.int za), .val (.ref ca), .val (.ref st), .val (.int (3 : Int32)), .val (.ref r)] [(.ref r)]))
      obtain ⟨cq29, kq29, q29a, q29b, q29c⟩ := isOf hZ rfl E_r
      obtain ⟨_, _, ⟨T29, L29, k29, n29⟩, -, X29, ⟨Lc29, hQ29, l29, y29, z29⟩, st29⟩ := X28.virtualBack hx (y := (⟨"java/lang/String", "length", "()I"⟩ : MethodName)) (z := (⟨"java/lang/String", "length", "()I"⟩ : MethodName)) hown (mvT hZ (hw _ (List.mem_of_getElem? (i := 100) rfl))) (mvT hZ (hw _ (List.mem_of_getElem? (i := 55) rfl))) (notFace_of_selects (args := #[]) (mvT hZ (hw _ (List.mem_of_getElem? (i := 57) rfl)))) (mvT hZ (hw _ (List.mem_of_getElem? (i := 57) rfl))) (mvT hZ (hw _ (List.mem_of_getElem? (i := 56) rfl))) (by decide) (backOf (W := 0) (rmlen l Z a0 hw [] r tr (3 : Int32) (fun j => (cf j).toInt8.toInt32) cz T28.heap n0 Zs E_r F_value_r F_coder_r V_tr Ol S_cs hcz) hZ (hw _ (List.mem_of_getElem? (i := 58) rfl)) (hw _ (List.mem_of_getElem? (i := 8) rfl)) (by decide) (by decide)) q29a q29c (g := (mkF m 258 #[.val (.int i0), .val (.int i1), .val (.int i2), .val (.int i3), .val (.int i4), .val (.int i5), .val (.int zn), .val (.int za), .val (.ref ca), .val (.ref st), .val (.int (3 : Int32)), .val (.ref r)] [(.ref r)])) rfl (by rw [hml]; rfl) (Steps.refl _) (argsL := []) (rest := []) (lenOf pd_12 rfl) rfl (by show 2 * 0 + _ ≤ _; exact Nat.le_of_eq rfl) (hb hby at_258) (fun _ _ => ⟨rfl, rfl, (Nat.le_of_ble_eq_true rfl), (Nat.le_of_ble_eq_true rfl)⟩)
      dsimp only [Pt.U, Pt.locs, Pt.cells, Pt.slots] at X29 l29 y29 z29 st29 hQ29
      subst l29 y29 z29
      obtain ⟨rfl, N29q, e29⟩ := hQ29
      have Nf := Fr.app Nf N29q
      refine own_go (fun tQ kQ => st29.trans kQ) ?_
      show own_End p e below _ (T29.setTop (mkF m 261 #[.val (.int i0), .val (.int i1), .val (.int i2), .val (.int i3), .val (.int i4), .val (.int i5), .val (.int zn), .val (.int za), .val (.ref ca), .val (.ref st), .val (.int (3 : Int32)), .val (.ref r)] [(.int (3 : Int32))]))
      refine own_go (fun tQ kQ => XS.iload X29.here hx rfl (hb hby at_261) rfl kQ) ?_
      show own_End p e below _ (T29.setTop (mkF m 263 #[.val (.int i0), .val (.int i1), .val (.int i2), .val (.int i3), .val (.int i4), .val (.int i5), .val (.int zn), .val (.int za), .val (.ref ca), .val (.ref st), .val (.int (3 : Int32)), .val (.ref r)] [(.int (3 : Int32)), (.int (3 : Int32))]))
      refine own_go (fun tQ kQ => XS.icmpNo X29.here hx rfl (hb hby at_263) rfl (teq (rfl : (3 : Int32) = (3 : Int32))).2 kQ) ?_
      show own_End p e below _ (T29.setTop (mkF m 266 #[.val (.int i0), .val (.int i1), .val (.int i2), .val (.int i3), .val (.int i4), .val (.int i5), .val (.int zn), .val (.int za), .val (.ref ca), .val (.ref st), .val (.int (3 : Int32)), .val (.ref r)] []))
      refine own_go (fun tQ kQ => XS.iload X29.here hx rfl (hb hby at_266) rfl kQ) ?_
      show own_End p e below _ (T29.setTop (mkF m 268 #[.val (.int i0), .val (.int i1), .val (.int i2), .val (.int i3), .val (.int i4), .val (.int i5), .val (.int zn), .val (.int za), .val (.ref ca), .val (.ref st), .val (.int (3 : Int32)), .val (.ref r)] [(.int (3 : Int32))]))
      refine own_go (fun tQ kQ => XS.iconst X29.here hx rfl (hb hby at_268) kQ) ?_
      show own_End p e below _ (T29.setTop (mkF m 269 #[.val (.int i0), .val (.int i1), .val (.int i2), .val (.int i3), .val (.int i4), .val (.int i5), .val (.int zn), .val (.int za), .val (.ref ca), .val (.ref st), .val (.int (3 : Int32)), .val (.ref r)] [(.int (1 : Int32)), (.int (3 : Int32))]))
      refine own_go (fun tQ kQ => XS.icmpNo X29.here hx rfl (hb hby at_269) rfl (flt (by decide)).1 kQ) ?_
      show own_End p e below _ (T29.setTop (mkF m 272 #[.val (.int i0), .val (.int i1), .val (.int i2), .val (.int i3), .val (.int i4), .val (.int i5), .val (.int zn), .val (.int za), .val (.ref ca), .val (.ref st), .val (.int (3 : Int32)), .val (.ref r)] []))
      refine own_go (fun tQ kQ => XS.aload X29.here hx rfl (hb hby at_272) rfl rfl kQ) ?_
      show own_End p e below _ (T29.setTop (mkF m 274 #[.val (.int i0), .val (.int i1), .val (.int i2), .val (.int i3), .val (.int i4), .val (.int i5), .val (.int zn), .val (.int za), .val (.ref ca), .val (.ref st), .val (.int (3 : Int32)), .val (.ref r)] [(.ref r)]))
      refine own_go (fun tQ kQ => XS.iconst X29.here hx rfl (hb hby at_274) kQ) ?_
      show own_End p e below _ (T29.setTop (mkF m 275 #[.val (.int i0), .val (.int i1), .val (.int i2), .val (.int i3), .val (.int i4), .val (.int i5), .val (.int zn), .val (.int za), .val (.ref ca), .val (.ref st), .val (.int (3 : Int32)), .val (.ref r)] [(.int (0 : Int32)), (.ref r)]))
      obtain ⟨cq30, kq30, q30a, q30b, q30c⟩ := isOf hZ e29 E_r
      obtain ⟨_, _, ⟨T30, L30, k30, n30⟩, -, X30, ⟨Lc30, hQ30, l30, y30, z30⟩, st30⟩ := X29.virtualBack hx (y := (⟨"java/lang/String", "charAt", "(I)C"⟩ : MethodName)) (z := (⟨"java/lang/String", "charAt", "(I)C"⟩ : MethodName)) hown (mvT hZ (hw _ (List.mem_of_getElem? (i := 120) rfl))) (mvT hZ (hw _ (List.mem_of_getElem? (i := 121) rfl))) (notFace_of_selects (args := #[]) (mvT hZ (hw _ (List.mem_of_getElem? (i := 123) rfl)))) (mvT hZ (hw _ (List.mem_of_getElem? (i := 123) rfl))) (mvT hZ (hw _ (List.mem_of_getElem? (i := 122) rfl))) (by decide) (backOf (W := 0) (rmchA l Z a0 hw [] r tr (3 : Int32) (fun j => (cf j).toInt8.toInt32) cz (0 : Int32) fm T28.heap n0 Zs E_r F_value_r F_coder_r V_tr Ol S_cs hcz S_fm rfm (by decide) (by decide)) hZ (hw _ (List.mem_of_getElem? (i := 124) rfl)) (hw _ (List.mem_of_getElem? (i := 8) rfl)) (by decide) (by decide)) q30a q30c (g := (mkF m 275 #[.val (.int i0), .val (.int i1), .val (.int i2), .val (.int i3), .val (.int i4), .val (.int i5), .val (.int zn), .val (.int za), .val (.ref ca), .val (.ref st), .val (.int (3 : Int32)), .val (.ref r)] [(.int (0 : Int32)), (.ref r)])) rfl (by rw [hml]; rfl) (Steps.refl _) (argsL := [(.int (0 : Int32))]) (rest := []) (lenOf pd_22 rfl) rfl (by show 2 * 0 + _ ≤ _; exact Nat.le_of_eq rfl) (hb hby at_275) (fun _ _ => ⟨rfl, e29, (Nat.le_of_ble_eq_true rfl), (Nat.le_of_ble_eq_true rfl)⟩)
      dsimp only [Pt.U, Pt.locs, Pt.cells, Pt.slots] at X30 l30 y30 z30 st30 hQ30
      subst l30 y30 z30
      obtain ⟨rfl, N30q, e30⟩ := hQ30
      have Nf := Fr.app Nf N30q
      refine own_go (fun tQ kQ => st30.trans kQ) ?_
      show own_End p e below _ (T30.setTop (mkF m 278 #[.val (.int i0), .val (.int i1), .val (.int i2), .val (.int i3), .val (.int i4), .val (.int i5), .val (.int zn), .val (.int za), .val (.ref ca), .val (.ref st), .val (.int (3 : Int32)), .val (.ref r)] [(.int (own_ch ((fun j => (cf j).toInt8.toInt32) (0 : Int32).toNatClampNeg)))]))
      rw [show own_ch ((fun j => (cf j).toInt8.toInt32) (0 : Int32).toNatClampNeg) = cf 0 from own_ch_of (hcb 0).1 (hcb 0).2]
      show own_End p e below _ (T30.setTop (mkF m 278 #[.val (.int i0), .val (.int i1), .val (.int i2), .val (.int i3), .val (.int i4), .val (.int i5), .val (.int zn), .val (.int za), .val (.ref ca), .val (.ref st), .val (.int (3 : Int32)), .val (.ref r)] [(.int (cf 0))]))
      refine own_go (fun tQ kQ => XS.aload X30.here hx rfl (hb hby at_278) rfl rfl kQ) ?_
      show own_End p e below _ (T30.setTop (mkF m 280 #[.val (.int i0), .val (.int i1), .val (.int i2), .val (.int i3), .val (.int i4), .val (.int i5), .val (.int zn), .val (.int za), .val (.ref ca), .val (.ref st), .val (.int (3 : Int32)), .val (.ref r)] [(.ref ca), (.int (cf 0))]))
      refine own_go (fun tQ kQ => XS.iconst X30.here hx rfl (hb hby at_280) kQ) ?_
      show own_End p e below _ (T30.setTop (mkF m 281 #[.val (.int i0), .val (.int i1), .val (.int i2), .val (.int i3), .val (.int i4), .val (.int i5), .val (.int zn), .val (.int za), .val (.ref ca), .val (.ref st), .val (.int (3 : Int32)), .val (.ref r)] [(.int (0 : Int32)), (.ref ca), (.int (cf 0))]))
      obtain ⟨cl31, Ar31, S31, M31, H31⟩ := id V_ca
      have hin31 := inb_of (j := (0 : Int32)) S31 ⟨(by decide), (by decide)⟩
      refine own_go (fun tQ kQ => X30.caload hx (j := (0 : Int32)) (v := (.int (cf 0))) (by rw [e30]; exact Ar31.1) (State.isArrayOf_alike hZ.alike Ar31.2.1) Ar31.2.2 hin31 (H31 _ (own_in S31 hin31)) (g := (mkF m 281 #[.val (.int i0), .val (.int i1), .val (.int i2), .val (.int i3), .val (.int i4), .val (.int i5), .val (.int zn), .val (.int za), .val (.ref ca), .val (.ref st), .val (.int (3 : Int32)), .val (.ref r)] [(.int (0 : Int32)), (.ref ca), (.int (cf 0))])) rfl rfl (hb hby at_281) _ kQ) ?_
      show own_End p e below _ (T30.setTop (mkF m 282 #[.val (.int i0), .val (.int i1), .val (.int i2), .val (.int i3), .val (.int i4), .val (.int i5), .val (.int zn), .val (.int za), .val (.ref ca), .val (.ref st), .val (.int (3 : Int32)), .val (.ref r)] [(.int (cf 0)), (.int (cf 0))]))
      refine own_go (fun tQ kQ => XS.icmpNo X30.here hx rfl (hb hby at_282) rfl (teq (rfl : cf 0 = cf 0)).2 kQ) ?_
      show own_End p e below _ (T30.setTop (mkF m 285 #[.val (.int i0), .val (.int i1), .val (.int i2), .val (.int i3), .val (.int i4), .val (.int i5), .val (.int zn), .val (.int za), .val (.ref ca), .val (.ref st), .val (.int (3 : Int32)), .val (.ref r)] []))
      refine own_go (fun tQ kQ => XS.iload X30.here hx rfl (hb hby at_285) rfl kQ) ?_
      show own_End p e below _ (T30.setTop (mkF m 287 #[.val (.int i0), .val (.int i1), .val (.int i2), .val (.int i3), .val (.int i4), .val (.int i5), .val (.int zn), .val (.int za), .val (.ref ca), .val (.ref st), .val (.int (3 : Int32)), .val (.ref r)] [(.int (3 : Int32))]))
      refine own_go (fun tQ kQ => XS.iconst X30.here hx rfl (hb hby at_287) kQ) ?_
      show own_End p e below _ (T30.setTop (mkF m 288 #[.val (.int i0), .val (.int i1), .val (.int i2), .val (.int i3), .val (.int i4), .val (.int i5), .val (.int zn), .val (.int za), .val (.ref ca), .val (.ref st), .val (.int (3 : Int32)), .val (.ref r)] [(.int (2 : Int32)), (.int (3 : Int32))]))
      refine own_go (fun tQ kQ => XS.icmpNo X30.here hx rfl (hb hby at_288) rfl (flt (by decide)).1 kQ) ?_
      show own_End p e below _ (T30.setTop (mkF m 291 #[.val (.int i0), .val (.int i1), .val (.int i2), .val (.int i3), .val (.int i4), .val (.int i5), .val (.int zn), .val (.int za), .val (.ref ca), .val (.ref st), .val (.int (3 : Int32)), .val (.ref r)] []))
      refine own_go (fun tQ kQ => XS.aload X30.here hx rfl (hb hby at_291) rfl rfl kQ) ?_
      show own_End p e below _ (T30.setTop (mkF m 293 #[.val (.int i0), .val (.int i1), .val (.int i2), .val (.int i3), .val (.int i4), .val (.int i5), .val (.int zn), .val (.int za), .val (.ref ca), .val (.ref st), .val (.int (3 : Int32)), .val (.ref r)] [(.ref r)]))
      refine own_go (fun tQ kQ => XS.iconst X30.here hx rfl (hb hby at_293) kQ) ?_
      show own_End p e below _ (T30.setTop (mkF m 294 #[.val (.int i0), .val (.int i1), .val (.int i2), .val (.int i3), .val (.int i4), .val (.int i5), .val (.int zn), .val (.int za), .val (.ref ca), .val (.ref st), .val (.int (3 : Int32)), .val (.ref r)] [(.int (1 : Int32)), (.ref r)]))
      obtain ⟨cq32, kq32, q32a, q32b, q32c⟩ := isOf hZ e30 E_r
      obtain ⟨_, _, ⟨T32, L32, k32, n32⟩, -, X32, ⟨Lc32, hQ32, l32, y32, z32⟩, st32⟩ := X30.virtualBack hx (y := (⟨"java/lang/String", "charAt", "(I)C"⟩ : MethodName)) (z := (⟨"java/lang/String", "charAt", "(I)C"⟩ : MethodName)) hown (mvT hZ (hw _ (List.mem_of_getElem? (i := 120) rfl))) (mvT hZ (hw _ (List.mem_of_getElem? (i := 121) rfl))) (notFace_of_selects (args := #[]) (mvT hZ (hw _ (List.mem_of_getElem? (i := 123) rfl)))) (mvT hZ (hw _ (List.mem_of_getElem? (i := 123) rfl))) (mvT hZ (hw _ (List.mem_of_getElem? (i := 122) rfl))) (by decide) (backOf (W := 0) (rmchA l Z a0 hw [] r tr (3 : Int32) (fun j => (cf j).toInt8.toInt32) cz (1 : Int32) fm T28.heap n0 Zs E_r F_value_r F_coder_r V_tr Ol S_cs hcz S_fm rfm (by decide) (by decide)) hZ (hw _ (List.mem_of_getElem? (i := 124) rfl)) (hw _ (List.mem_of_getElem? (i := 8) rfl)) (by decide) (by decide)) q32a q32c (g := (mkF m 294 #[.val (.int i0), .val (.int i1), .val (.int i2), .val (.int i3), .val (.int i4), .val (.int i5), .val (.int zn), .val (.int za), .val (.ref ca), .val (.ref st), .val (.int (3 : Int32)), .val (.ref r)] [(.int (1 : Int32)), (.ref r)])) rfl (by rw [hml]; rfl) (Steps.refl _) (argsL := [(.int (1 : Int32))]) (rest := []) (lenOf pd_22 rfl) rfl (by show 2 * 0 + _ ≤ _; exact Nat.le_of_eq rfl) (hb hby at_294) (fun _ _ => ⟨rfl, e30, (Nat.le_of_ble_eq_true rfl), (Nat.le_of_ble_eq_true rfl)⟩)
      dsimp only [Pt.U, Pt.locs, Pt.cells, Pt.slots] at X32 l32 y32 z32 st32 hQ32
      subst l32 y32 z32
      obtain ⟨rfl, N32q, e32⟩ := hQ32
      have Nf := Fr.app Nf N32q
      refine own_go (fun tQ kQ => st32.trans kQ) ?_
      show own_End p e below _ (T32.setTop (mkF m 297 #[.val (.int i0), .val (.int i1), .val (.int i2), .val (.int i3), .val (.int i4), .val (.int i5), .val (.int zn), .val (.int za), .val (.ref ca), .val (.ref st), .val (.int (3 : Int32)), .val (.ref r)] [(.int (own_ch ((fun j => (cf j).toInt8.toInt32) (1 : Int32).toNatClampNeg)))]))
      rw [show own_ch ((fun j => (cf j).toInt8.toInt32) (1 : Int32).toNatClampNeg) = cf 1 from own_ch_of (hcb 1).1 (hcb 1).2]
      show own_End p e below _ (T32.setTop (mkF m 297 #[.val (.int i0), .val (.int i1), .val (.int i2), .val (.int i3), .val (.int i4), .val (.int i5), .val (.int zn), .val (.int za), .val (.ref ca), .val (.ref st), .val (.int (3 : Int32)), .val (.ref r)] [(.int (cf 1))]))
      refine own_go (fun tQ kQ => XS.aload X32.here hx rfl (hb hby at_297) rfl rfl kQ) ?_
      show own_End p e below _ (T32.setTop (mkF m 299 #[.val (.int i0), .val (.int i1), .val (.int i2), .val (.int i3), .val (.int i4), .val (.int i5), .val (.int zn), .val (.int za), .val (.ref ca), .val (.ref st), .val (.int (3 : Int32)), .val (.ref r)] [(.ref ca), (.int (cf 1))]))
      refine own_go (fun tQ kQ => XS.iconst X32.here hx rfl (hb hby at_299) kQ) ?_
      show own_End p e below _ (T32.setTop (mkF m 300 #[.val (.int i0), .val (.int i1), .val (.int i2), .val (.int i3), .val (.int i4), .val (.int i5), .val (.int zn), .val (.int za), .val (.ref ca), .val (.ref st), .val (.int (3 : Int32)), .val (.ref r)] [(.int (1 : Int32)), (.ref ca), (.int (cf 1))]))
      obtain ⟨cl33, Ar33, S33, M33, H33⟩ := id V_ca
      have hin33 := inb_of (j := (1 : Int32)) S33 ⟨(by decide), (by decide)⟩
      refine own_go (fun tQ kQ => X32.caload hx (j := (1 : Int32)) (v := (.int (cf 1))) (by rw [e32]; exact Ar33.1) (State.isArrayOf_alike hZ.alike Ar33.2.1) Ar33.2.2 hin33 (H33 _ (own_in S33 hin33)) (g := (mkF m 300 #[.val (.int i0), .val (.int i1), .val (.int i2), .val (.int i3), .val (.int i4), .val (.int i5), .val (.int zn), .val (.int za), .val (.ref ca), .val (.ref st), .val (.int (3 : Int32)), .val (.ref r)] [(.int (1 : Int32)), (.ref ca), (.int (cf 1))])) rfl rfl (hb hby at_300) _ kQ) ?_
      show own_End p e below _ (T32.setTop (mkF m 301 #[.val (.int i0), .val (.int i1), .val (.int i2), .val (.int i3), .val (.int i4), .val (.int i5), .val (.int zn), .val (.int za), .val (.ref ca), .val (.ref st), .val (.int (3 : Int32)), .val (.ref r)] [(.int (cf 1)), (.int (cf 1))]))
      refine own_go (fun tQ kQ => XS.icmpNo X32.here hx rfl (hb hby at_301) rfl (teq (rfl : cf 1 = cf 1)).2 kQ) ?_
      show own_End p e below _ (T32.setTop (mkF m 304 #[.val (.int i0), .val (.int i1), .val (.int i2), .val (.int i3), .val (.int i4), .val (.int i5), .val (.int zn), .val (.int za), .val (.ref ca), .val (.ref st), .val (.int (3 : Int32)), .val (.ref r)] []))
      refine own_go (fun tQ kQ => XS.iload X32.here hx rfl (hb hby at_304) rfl kQ) ?_
      show own_End p e below _ (T32.setTop (mkF m 306 #[.val (.int i0), .val (.int i1), .val (.int i2), .val (.int i3), .val (.int i4), .val (.int i5), .val (.int zn), .val (.int za), .val (.ref ca), .val (.ref st), .val (.int (3 : Int32)), .val (.ref r)] [(.int (3 : Int32))]))
      refine own_go (fun tQ kQ => XS.iconst X32.here hx rfl (hb hby at_306) kQ) ?_
      show own_End p e below _ (T32.setTop (mkF m 307 #[.val (.int i0), .val (.int i1), .val (.int i2), .val (.int i3), .val (.int i4), .val (.int i5), .val (.int zn), .val (.int za), .val (.ref ca), .val (.ref st), .val (.int (3 : Int32)), .val (.ref r)] [(.int (3 : Int32)), (.int (3 : Int32))]))
      refine own_go (fun tQ kQ => XS.icmpNo X32.here hx rfl (hb hby at_307) rfl (flt (by decide)).1 kQ) ?_
      show own_End p e below _ (T32.setTop (mkF m 310 #[.val (.int i0), .val (.int i1), .val (.int i2), .val (.int i3), .val (.int i4), .val (.int i5), .val (.int zn), .val (.int za), .val (.ref ca), .val (.ref st), .val (.int (3 : Int32)), .val (.ref r)] []))
      refine own_go (fun tQ kQ => XS.aload X32.here hx rfl (hb hby at_310) rfl rfl kQ) ?_
      show own_End p e below _ (T32.setTop (mkF m 312 #[.val (.int i0), .val (.int i1), .val (.int i2), .val (.int i3), .val (.int i4), .val (.int i5), .val (.int zn), .val (.int za), .val (.ref ca), .val (.ref st), .val (.int (3 : Int32)), .val (.ref r)] [(.ref r)]))
      refine own_go (fun tQ kQ => XS.iconst X32.here hx rfl (hb hby at_312) kQ) ?_
      show own_End p e below _ (T32.setTop (mkF m 313 #[.val (.int i0), .val (.int i1), .val (.int i2), .val (.int i3), .val (.int i4), .val (.int i5), .val (.int zn), .val (.int za), .val (.ref ca), .val (.ref st), .val (.int (3 : Int32)), .val (.ref r)] [(.int (2 : Int32)), (.ref r)]))
      obtain ⟨cq34, kq34, q34a, q34b, q34c⟩ := isOf hZ e32 E_r
      obtain ⟨_, _, ⟨T34, L34, k34, n34⟩, -, X34, ⟨Lc34, hQ34, l34, y34, z34⟩, st34⟩ := X32.virtualBack hx (y := (⟨"java/lang/String", "charAt", "(I)C"⟩ : MethodName)) (z := (⟨"java/lang/String", "charAt", "(I)C"⟩ : MethodName)) hown (mvT hZ (hw _ (List.mem_of_getElem? (i := 120) rfl))) (mvT hZ (hw _ (List.mem_of_getElem? (i := 121) rfl))) (notFace_of_selects (args := #[]) (mvT hZ (hw _ (List.mem_of_getElem? (i := 123) rfl)))) (mvT hZ (hw _ (List.mem_of_getElem? (i := 123) rfl))) (mvT hZ (hw _ (List.mem_of_getElem? (i := 122) rfl))) (by decide) (backOf (W := 0) (rmchA l Z a0 hw [] r tr (3 : Int32) (fun j => (cf j).toInt8.toInt32) cz (2 : Int32) fm T28.heap n0 Zs E_r F_value_r F_coder_r V_tr Ol S_cs hcz S_fm rfm (by decide) (by decide)) hZ (hw _ (List.mem_of_getElem? (i := 124) rfl)) (hw _ (List.mem_of_getElem? (i := 8) rfl)) (by decide) (by decide)) q34a q34c (g := (mkF m 313 #[.val (.int i0), .val (.int i1), .val (.int i2), .val (.int i3), .val (.int i4), .val (.int i5), .val (.int zn), .val (.int za), .val (.ref ca), .val (.ref st), .val (.int (3 : Int32)), .val (.ref r)] [(.int (2 : Int32)), (.ref r)])) rfl (by rw [hml]; rfl) (Steps.refl _) (argsL := [(.int (2 : Int32))]) (rest := []) (lenOf pd_22 rfl) rfl (by show 2 * 0 + _ ≤ _; exact Nat.le_of_eq rfl) (hb hby at_313) (fun _ _ => ⟨rfl, e32, (Nat.le_of_ble_eq_true rfl), (Nat.le_of_ble_eq_true rfl)⟩)
      dsimp only [Pt.U, Pt.locs, Pt.cells, Pt.slots] at X34 l34 y34 z34 st34 hQ34
      subst l34 y34 z34
      obtain ⟨rfl, N34q, e34⟩ := hQ34
      have Nf := Fr.app Nf N34q
      refine own_go (fun tQ kQ => st34.trans kQ) ?_
      show own_End p e below _ (T34.setTop (mkF m 316 #[.val (.int i0), .val (.int i1), .val (.int i2), .val (.int i3), .val (.int i4), .val (.int i5), .val (.int zn), .val (.int za), .val (.ref ca), .val (.ref st), .val (.int (3 : Int32)), .val (.ref r)] [(.int (own_ch ((fun j => (cf j).toInt8.toInt32) (2 : Int32).toNatClampNeg)))]))
      rw [show own_ch ((fun j => (cf j).toInt8.toInt32) (2 : Int32).toNatClampNeg) = cf 2 from own_ch_of (hcb 2).1 (hcb 2).2]
      show own_End p e below _ (T34.setTop (mkF m 316 #[.val (.int i0), .val (.int i1), .val (.int i2), .val (.int i3), .val (.int i4), .val (.int i5), .val (.int zn), .val (.int za), .val (.ref ca), .val (.ref st), .val (.int (3 : Int32)), .val (.ref r)] [(.int (cf 2))]))
      refine own_go (fun tQ kQ => XS.aload X34.here hx rfl (hb hby at_316) rfl rfl kQ) ?_
      show own_End p e below _ (T34.setTop (mkF m 318 #[.val (.int i0), .val (.int i1), .val (.int i2), .val (.int i3), .val (.int i4), .val (.int i5), .val (.int zn), .val (.int za), .val (.ref ca), .val (.ref st), .val (.int (3 : Int32)), .val (.ref r)] [(.ref ca), (.int (cf 2))]))
      refine own_go (fun tQ kQ => XS.iconst X34.here hx rfl (hb hby at_318) kQ) ?_
      show own_End p e below _ (T34.setTop (mkF m 319 #[.val (.int i0), .val (.int i1), .val (.int i2), .val (.int i3), .val (.int i4), .val (.int i5), .val (.int zn), .val (.int za), .val (.ref ca), .val (.ref st), .val (.int (3 : Int32)), .val (.ref r)] [(.int (2 : Int32)), (.ref ca), (.int (cf 2))]))
      obtain ⟨cl35, Ar35, S35, M35, H35⟩ := id V_ca
      have hin35 := inb_of (j := (2 : Int32)) S35 ⟨(by decide), (by decide)⟩
      refine own_go (fun tQ kQ => X34.caload hx (j := (2 : Int32)) (v := (.int (cf 2))) (by rw [e34]; exact Ar35.1) (State.isArrayOf_alike hZ.alike Ar35.2.1) Ar35.2.2 hin35 (H35 _ (own_in S35 hin35)) (g := (mkF m 319 #[.val (.int i0), .val (.int i1), .val (.int i2), .val (.int i3), .val (.int i4), .val (.int i5), .val (.int zn), .val (.int za), .val (.ref ca), .val (.ref st), .val (.int (3 : Int32)), .val (.ref r)] [(.int (2 : Int32)), (.ref ca), (.int (cf 2))])) rfl rfl (hb hby at_319) _ kQ) ?_
      show own_End p e below _ (T34.setTop (mkF m 320 #[.val (.int i0), .val (.int i1), .val (.int i2), .val (.int i3), .val (.int i4), .val (.int i5), .val (.int zn), .val (.int za), .val (.ref ca), .val (.ref st), .val (.int (3 : Int32)), .val (.ref r)] [(.int (cf 2)), (.int (cf 2))]))
      refine own_go (fun tQ kQ => XS.icmpNo X34.here hx rfl (hb hby at_320) rfl (teq (rfl : cf 2 = cf 2)).2 kQ) ?_
      show own_End p e below _ (T34.setTop (mkF m 323 #[.val (.int i0), .val (.int i1), .val (.int i2), .val (.int i3), .val (.int i4), .val (.int i5), .val (.int zn), .val (.int za), .val (.ref ca), .val (.ref st), .val (.int (3 : Int32)), .val (.ref r)] []))
      refine own_go (fun tQ kQ => XS.iconst X34.here hx rfl (hb hby at_323) kQ) ?_
      show own_End p e below _ (T34.setTop (mkF m 324 #[.val (.int i0), .val (.int i1), .val (.int i2), .val (.int i3), .val (.int i4), .val (.int i5), .val (.int zn), .val (.int za), .val (.ref ca), .val (.ref st), .val (.int (3 : Int32)), .val (.ref r)] [(.int (1 : Int32))]))
      refine own_go (fun tQ kQ => XS.goto X34.here hx rfl (pc0 := 324) (pc' := 328) rfl (hb hby at_324) (by decide) (by decide) kQ) ?_
      show own_End p e below _ (T34.setTop (mkF m 328 #[.val (.int i0), .val (.int i1), .val (.int i2), .val (.int i3), .val (.int i4), .val (.int i5), .val (.int zn), .val (.int za), .val (.ref ca), .val (.ref st), .val (.int (3 : Int32)), .val (.ref r)] [(.int (1 : Int32))]))
      obtain ⟨fs, hr, hrun, hended, hend⟩ := X34.leaveW hS (by rw [e34]; exact hkW) (v := some (.int (1 : Int32))) (fun h => by rw [Bd.returns] at h; cases h)
      refine ⟨_, _, (retN X34 hx (t := .boolean) Bd.returns (by simp) (hb hby at_328) hr), hrun, hended, _, _, rfl, ?_, ⟨hend.1, hend.2.1, hend.2.2.1, hend.2.2.2.mono (by decide) (by decide)⟩⟩
      show Q0 Z i0 i1 i2 i3 i4 i5 cz fm h0 n0 _ T34.heap _
      rw [e34]
      exact ⟨rfl, Nf⟩
    refine own_go (fun tQ kQ => XS.aload X.here hx rfl (hb hby at_207) rfl rfl kQ) ?_
    show own_End p e below _ (T.setTop (mkF m 209 #[.val (.int i0), .val (.int i1), .val (.int i2), .val (.int i3), .val (.int i4), .val (.int i5), .val (.int zn), .val (.int za), .val (.ref ca), .val (.ref st), .unset, .unset] [(.ref ca)]))
    refine own_go (fun tQ kQ => XS.iconst X.here hx rfl (hb hby at_209) kQ) ?_
    show own_End p e below _ (T.setTop (mkF m 210 #[.val (.int i0), .val (.int i1), .val (.int i2), .val (.int i3), .val (.int i4), .val (.int i5), .val (.int zn), .val (.int za), .val (.ref ca), .val (.ref st), .unset, .unset] [(.int (0 : Int32)), (.ref ca)]))
    obtain ⟨cl36, Ar36, S36, M36, H36⟩ := id V_ca
    have hin36 := inb_of (j := (0 : Int32)) S36 ⟨(by decide), (by decide)⟩
    refine own_go (fun tQ kQ => X.caload hx (j := (0 : Int32)) (v := (.int (cf 0))) (by rw [eT]; exact Ar36.1) (State.isArrayOf_alike hZ.alike Ar36.2.1) Ar36.2.2 hin36 (H36 _ (own_in S36 hin36)) (g := (mkF m 210 #[.val (.int i0), .val (.int i1), .val (.int i2), .val (.int i3), .val (.int i4), .val (.int i5), .val (.int zn), .val (.int za), .val (.ref ca), .val (.ref st), .unset, .unset] [(.int (0 : Int32)), (.ref ca)])) rfl rfl (hb hby at_210) _ kQ) ?_
    show own_End p e below _ (T.setTop (mkF m 211 #[.val (.int i0), .val (.int i1), .val (.int i2), .val (.int i3), .val (.int i4), .val (.int i5), .val (.int zn), .val (.int za), .val (.ref ca), .val (.ref st), .unset, .unset] [(.int (cf 0))]))
    refine own_go (fun tQ kQ => XS.bipush X.here hx rfl (hb hby at_211) kQ) ?_
    show own_End p e below _ (T.setTop (mkF m 213 #[.val (.int i0), .val (.int i1), .val (.int i2), .val (.int i3), .val (.int i4), .val (.int i5), .val (.int zn), .val (.int za), .val (.ref ca), .val (.ref st), .unset, .unset] [(.int (47 : Int32)), (.int (cf 0))]))
    by_cases hc213 : (cf 0) = (47 : Int32)
    ·
      refine own_go (fun tQ kQ => XS.icmpNo X.here hx rfl (hb hby at_213) rfl (teq hc213).2 kQ) ?_
      show own_End p e below _ (T.setTop (mkF m 216 #[.val (.int i0), .val (.int i1), .val (.int i2), .val (.int i3), .val (.int i4), .val (.int i5), .val (.int zn), .val (.int za), .val (.ref ca), .val (.ref st), .unset, .unset] []))
      refine own_go (fun tQ kQ => XS.iconst X.here hx rfl (hb hby at_216) kQ) ?_
      show own_End p e below _ (T.setTop (mkF m 217 #[.val (.int i0), .val (.int i1), .val (.int i2), .val (.int i3), .val (.int i4), .val (.int i5), .val (.int zn), .val (.int za), .val (.ref ca), .val (.ref st), .unset, .unset] [(.int (0 : Int32))]))
      refine own_go (fun tQ kQ => XS.goto X.here hx rfl (pc0 := 217) (pc' := 247) rfl (hb hby at_217) (by decide) (by decide) kQ) ?_
      show own_End p e below _ (T.setTop (mkF m 247 #[.val (.int i0), .val (.int i1), .val (.int i2), .val (.int i3), .val (.int i4), .val (.int i5), .val (.int zn), .val (.int za), .val (.ref ca), .val (.ref st), .unset, .unset] [(.int (0 : Int32))]))
      exact J247_0  T _ h _ _ X eT Nf Zs Kp szr hS hkW hZ hown E_st F_value_st F_coder_st V_tt V_ca Ol (fun j hj => absurd hj (Nat.not_lt_zero _)) (fun _ => hc213) (by decide) hvm
    ·
      refine own_go (fun tQ kQ => XS.icmpYes X.here hx rfl (pc0 := 213) (pc' := 220) rfl (hb hby at_213) rfl (feq hc213).2 (by decide) (by decide) kQ) ?_
      show own_End p e below _ (T.setTop (mkF m 220 #[.val (.int i0), .val (.int i1), .val (.int i2), .val (.int i3), .val (.int i4), .val (.int i5), .val (.int zn), .val (.int za), .val (.ref ca), .val (.ref st), .unset, .unset] []))
      refine own_go (fun tQ kQ => XS.aload X.here hx rfl (hb hby at_220) rfl rfl kQ) ?_
      show own_End p e below _ (T.setTop (mkF m 222 #[.val (.int i0), .val (.int i1), .val (.int i2), .val (.int i3), .val (.int i4), .val (.int i5), .val (.int zn), .val (.int za), .val (.ref ca), .val (.ref st), .unset, .unset] [(.ref ca)]))
      refine own_go (fun tQ kQ => XS.iconst X.here hx rfl (hb hby at_222) kQ) ?_
      show own_End p e below _ (T.setTop (mkF m 223 #[.val (.int i0), .val (.int i1), .val (.int i2), .val (.int i3), .val (.int i4), .val (.int i5), .val (.int zn), .val (.int za), .val (.ref ca), .val (.ref st), .unset, .unset] [(.int (1 : Int32)), (.ref ca)]))
      obtain ⟨cl37, Ar37, S37, M37, H37⟩ := id V_ca
      have hin37 := inb_of (j := (1 : Int32)) S37 ⟨(by decide), (by decide)⟩
      refine own_go (fun tQ kQ => X.caload hx (j := (1 : Int32)) (v := (.int (cf 1))) (by rw [eT]; exact Ar37.1) (State.isArrayOf_alike hZ.alike Ar37.2.1) Ar37.2.2 hin37 (H37 _ (own_in S37 hin37)) (g := (mkF m 223 #[.val (.int i0), .val (.int i1), .val (.int i2), .val (.int i3), .val (.int i4), .val (.int i5), .val (.int zn), .val (.int za), .val (.ref ca), .val (.ref st), .unset, .unset] [(.int (1 : Int32)), (.ref ca)])) rfl rfl (hb hby at_223) _ kQ) ?_
      show own_End p e below _ (T.setTop (mkF m 224 #[.val (.int i0), .val (.int i1), .val (.int i2), .val (.int i3), .val (.int i4), .val (.int i5), .val (.int zn), .val (.int za), .val (.ref ca), .val (.ref st), .unset, .unset] [(.int (cf 1))]))
      refine own_go (fun tQ kQ => XS.bipush X.here hx rfl (hb hby at_224) kQ) ?_
      show own_End p e below _ (T.setTop (mkF m 226 #[.val (.int i0), .val (.int i1), .val (.int i2), .val (.int i3), .val (.int i4), .val (.int i5), .val (.int zn), .val (.int za), .val (.ref ca), .val (.ref st), .unset, .unset] [(.int (47 : Int32)), (.int (cf 1))]))
      by_cases hc226 : (cf 1) = (47 : Int32)
      ·
        refine own_go (fun tQ kQ => XS.icmpNo X.here hx rfl (hb hby at_226) rfl (teq hc226).2 kQ) ?_
        show own_End p e below _ (T.setTop (mkF m 229 #[.val (.int i0), .val (.int i1), .val (.int i2), .val (.int i3), .val (.int i4), .val (.int i5), .val (.int zn), .val (.int za), .val (.ref ca), .val (.ref st), .unset, .unset] []))
        refine own_go (fun tQ kQ => XS.iconst X.here hx rfl (hb hby at_229) kQ) ?_
        show own_End p e below _ (T.setTop (mkF m 230 #[.val (.int i0), .val (.int i1), .val (.int i2), .val (.int i3), .val (.int i4), .val (.int i5), .val (.int zn), .val (.int za), .val (.ref ca), .val (.ref st), .unset, .unset] [(.int (1 : Int32))]))
        refine own_go (fun tQ kQ => XS.goto X.here hx rfl (pc0 := 230) (pc' := 247) rfl (hb hby at_230) (by decide) (by decide) kQ) ?_
        show own_End p e below _ (T.setTop (mkF m 247 #[.val (.int i0), .val (.int i1), .val (.int i2), .val (.int i3), .val (.int i4), .val (.int i5), .val (.int zn), .val (.int za), .val (.ref ca), .val (.ref st), .unset, .unset] [(.int (1 : Int32))]))
        exact J247_1  T _ h _ _ X eT Nf Zs Kp szr hS hkW hZ hown E_st F_value_st F_coder_st V_tt V_ca Ol (fun j hj q => by
          have hj2 : j = 0 := by omega
          rcases hj2 with rfl
          · exact hc213 q) (fun _ => hc226) (by decide) hvm
      ·
        refine own_go (fun tQ kQ => XS.icmpYes X.here hx rfl (pc0 := 226) (pc' := 233) rfl (hb hby at_226) rfl (feq hc226).2 (by decide) (by decide) kQ) ?_
        show own_End p e below _ (T.setTop (mkF m 233 #[.val (.int i0), .val (.int i1), .val (.int i2), .val (.int i3), .val (.int i4), .val (.int i5), .val (.int zn), .val (.int za), .val (.ref ca), .val (.ref st), .unset, .unset] []))
        refine own_go (fun tQ kQ => XS.aload X.here hx rfl (hb hby at_233) rfl rfl kQ) ?_
        show own_End p e below _ (T.setTop (mkF m 235 #[.val (.int i0), .val (.int i1), .val (.int i2), .val (.int i3), .val (.int i4), .val (.int i5), .val (.int zn), .val (.int za), .val (.ref ca), .val (.ref st), .unset, .unset] [(.ref ca)]))
        refine own_go (fun tQ kQ => XS.iconst X.here hx rfl (hb hby at_235) kQ) ?_
        show own_End p e below _ (T.setTop (mkF m 236 #[.val (.int i0), .val (.int i1), .val (.int i2), .val (.int i3), .val (.int i4), .val (.int i5), .val (.int zn), .val (.int za), .val (.ref ca), .val (.ref st), .unset, .unset] [(.int (2 : Int32)), (.ref ca)]))
        obtain ⟨cl38, Ar38, S38, M38, H38⟩ := id V_ca
        have hin38 := inb_of (j := (2 : Int32)) S38 ⟨(by decide), (by decide)⟩
        refine own_go (fun tQ kQ => X.caload hx (j := (2 : Int32)) (v := (.int (cf 2))) (by rw [eT]; exact Ar38.1) (State.isArrayOf_alike hZ.alike Ar38.2.1) Ar38.2.2 hin38 (H38 _ (own_in S38 hin38)) (g := (mkF m 236 #[.val (.int i0), .val (.int i1), .val (.int i2), .val (.int i3), .val (.int i4), .val (.int i5), .val (.int zn), .val (.int za), .val (.ref ca), .val (.ref st), .unset, .unset] [(.int (2 : Int32)), (.ref ca)])) rfl rfl (hb hby at_236) _ kQ) ?_
        show own_End p e below _ (T.setTop (mkF m 237 #[.val (.int i0), .val (.int i1), .val (.int i2), .val (.int i3), .val (.int i4), .val (.int i5), .val (.int zn), .val (.int za), .val (.ref ca), .val (.ref st), .unset, .unset] [(.int (cf 2))]))
        refine own_go (fun tQ kQ => XS.bipush X.here hx rfl (hb hby at_237) kQ) ?_
        show own_End p e below _ (T.setTop (mkF m 239 #[.val (.int i0), .val (.int i1), .val (.int i2), .val (.int i3), .val (.int i4), .val (.int i5), .val (.int zn), .val (.int za), .val (.ref ca), .val (.ref st), .unset, .unset] [(.int (47 : Int32)), (.int (cf 2))]))
        by_cases hc239 : (cf 2) = (47 : Int32)
        ·
          refine own_go (fun tQ kQ => XS.icmpNo X.here hx rfl (hb hby at_239) rfl (teq hc239).2 kQ) ?_
          show own_End p e below _ (T.setTop (mkF m 242 #[.val (.int i0), .val (.int i1), .val (.int i2), .val (.int i3), .val (.int i4), .val (.int i5), .val (.int zn), .val (.int za), .val (.ref ca), .val (.ref st), .unset, .unset] []))
          refine own_go (fun tQ kQ => XS.iconst X.here hx rfl (hb hby at_242) kQ) ?_
          show own_End p e below _ (T.setTop (mkF m 243 #[.val (.int i0), .val (.int i1), .val (.int i2), .val (.int i3), .val (.int i4), .val (.int i5), .val (.int zn), .val (.int za), .val (.ref ca), .val (.ref st), .unset, .unset] [(.int (2 : Int32))]))
          refine own_go (fun tQ kQ => XS.goto X.here hx rfl (pc0 := 243) (pc' := 247) rfl (hb hby at_243) (by decide) (by decide) kQ) ?_
          show own_End p e below _ (T.setTop (mkF m 247 #[.val (.int i0), .val (.int i1), .val (.int i2), .val (.int i3), .val (.int i4), .val (.int i5), .val (.int zn), .val (.int za), .val (.ref ca), .val (.ref st), .unset, .unset] [(.int (2 : Int32))]))
          exact J247_2  T _ h _ _ X eT Nf Zs Kp szr hS hkW hZ hown E_st F_value_st F_coder_st V_tt V_ca Ol (fun j hj q => by
            have hj2 : j = 0 ∨ j = 1 := by omega
            rcases hj2 with rfl | rfl
            · exact hc213 q
            · exact hc226 q) (fun _ => hc239) (by decide) hvm
        ·
          refine own_go (fun tQ kQ => XS.icmpYes X.here hx rfl (pc0 := 239) (pc' := 246) rfl (hb hby at_239) rfl (feq hc239).2 (by decide) (by decide) kQ) ?_
          show own_End p e below _ (T.setTop (mkF m 246 #[.val (.int i0), .val (.int i1), .val (.int i2), .val (.int i3), .val (.int i4), .val (.int i5), .val (.int zn), .val (.int za), .val (.ref ca), .val (.ref st), .unset, .unset] []))
          refine own_go (fun tQ kQ => XS.iconst X.here hx rfl (hb hby at_246) kQ) ?_
          show own_End p e below _ (T.setTop (mkF m 247 #[.val (.int i0), .val (.int i1), .val (.int i2), .val (.int i3), .val (.int i4), .val (.int i5), .val (.int zn), .val (.int za), .val (.ref ca), .val (.ref st), .unset, .unset] [(.int (3 : Int32))]))
          exact J247_3  T _ h _ _ X eT Nf Zs Kp szr hS hkW hZ hown E_st F_value_st F_coder_st V_tt V_ca Ol (fun j hj q => by
            have hj2 : j = 0 ∨ j = 1 ∨ j = 2 := by omega
            rcases hj2 with rfl | rfl | rfl
            · exact hc213 q
            · exact hc226 q
            · exact hc239 q) (fun q => absurd q (by decide)) (by decide) hvm
  have hNc : N = 1 ∨ N = 2 ∨ N = 3 ∨ N = 4 := by omega
  have hzc : zn = 1 ∨ zn = 2 ∨ zn = 3 ∨ zn = 4 := by
    rcases hNc with q | q | q | q
    · exact Or.inl (Int32.toInt_inj.mp (by rw [hz, q]; decide))
    · exact Or.inr (Or.inl (Int32.toInt_inj.mp (by rw [hz, q]; decide)))
    · exact Or.inr (Or.inr (Or.inl (Int32.toInt_inj.mp (by rw [hz, q]; decide))))
    · exact Or.inr (Or.inr (Or.inr (Int32.toInt_inj.mp (by rw [hz, q]; decide))))
  rcases hzc with rfl | rfl | rfl | rfl
  ·
    show own_End p e below _ (T15.setTop (mkF m 62 #[.val (.int i0), .val (.int i1), .val (.int i2), .val (.int i3), .val (.int i4), .val (.int i5), .val (.int (1 : Int32)), .val (.int za), .val (.ref ca), .unset, .unset, .unset] []))
    refine own_go (fun tQ kQ => XS.iload X15.here hx rfl (hb hby at_62) rfl kQ) ?_
    show own_End p e below _ (T15.setTop (mkF m 64 #[.val (.int i0), .val (.int i1), .val (.int i2), .val (.int i3), .val (.int i4), .val (.int i5), .val (.int (1 : Int32)), .val (.int za), .val (.ref ca), .unset, .unset, .unset] [(.int (1 : Int32))]))
    refine own_go (fun tQ kQ => XS.iconst X15.here hx rfl (hb hby at_64) kQ) ?_
    show own_End p e below _ (T15.setTop (mkF m 65 #[.val (.int i0), .val (.int i1), .val (.int i2), .val (.int i3), .val (.int i4), .val (.int i5), .val (.int (1 : Int32)), .val (.int za), .val (.ref ca), .unset, .unset, .unset] [(.int (1 : Int32)), (.int (1 : Int32))]))
    refine own_go (fun tQ kQ => XS.icmpNo X15.here hx rfl (hb hby at_65) rfl (teq (by decide)).2 kQ) ?_
    show own_End p e below _ (T15.setTop (mkF m 68 #[.val (.int i0), .val (.int i1), .val (.int i2), .val (.int i3), .val (.int i4), .val (.int i5), .val (.int (1 : Int32)), .val (.int za), .val (.ref ca), .unset, .unset, .unset] []))
    obtain ⟨T39, h39, X39, e39, E39, A39, D39, -, st39⟩ := newO X15 hx hZ hown (hw _ (List.mem_of_getElem? (i := 6) rfl)) (hw _ (List.mem_of_getElem? (i := 7) rfl)) (hw _ (List.mem_of_getElem? (i := 8) rfl)) e15 (g := (mkF m 68 #[.val (.int i0), .val (.int i1), .val (.int i2), .val (.int i3), .val (.int i4), .val (.int i5), .val (.int (1 : Int32)), .val (.int za), .val (.ref ca), .unset, .unset, .unset] [])) rfl (hb hby at_68) (by decide) (by decide)
    obtain ⟨st, g39⟩ : ∃ z, z = h15.size := ⟨_, rfl⟩
    rw [← g39] at A39 D39 st39
    have ne_ca_st : ca ≠ st := Nat.ne_of_lt (Nat.lt_of_lt_of_le V_ca.lt (Nat.le_of_eq g39.symm))
    have g_st : n0 ≤ st := Nat.le_trans Zs (Nat.le_of_eq g39.symm)
    have sz_st : h0.size ≤ st := Nat.le_trans szr (Nat.le_of_eq g39.symm)
    have Ol := Ol.ext E39
    have V_ca := V_ca.ext E39
    have Kp := Kp.ext E39
    have Zs := Nat.le_trans Zs E39.1
    have szr := Nat.le_trans szr E39.1
    have hkW := Nat.le_trans hkW E39.1
    have E_st := A39
    have F_coder_st : Fld Z h39 st "java/lang/String" "coder" "B" (.int (0 : Int32)) := D39 (Or.inr (hw _ (List.mem_of_getElem? (i := 32) rfl))) (ty := .byte) (by decide)
    have F_value_st : Fld Z h39 st "java/lang/String" "value" "[B" .null := D39 (Or.inr (hw _ (List.mem_of_getElem? (i := 34) rfl))) (ty := (.array .byte)) (by decide)
    refine own_go (fun tQ kQ => st39 tQ kQ) ?_
    show own_End p e below _ (T39.setTop (mkF m 71 #[.val (.int i0), .val (.int i1), .val (.int i2), .val (.int i3), .val (.int i4), .val (.int i5), .val (.int (1 : Int32)), .val (.int za), .val (.ref ca), .unset, .unset, .unset] [(.ref st)]))
    refine own_go (fun tQ kQ => XS.dup X39.here hx rfl (hb hby at_71) rfl rfl kQ) ?_
    show own_End p e below _ (T39.setTop (mkF m 72 #[.val (.int i0), .val (.int i1), .val (.int i2), .val (.int i3), .val (.int i4), .val (.int i5), .val (.int (1 : Int32)), .val (.int za), .val (.ref ca), .unset, .unset, .unset] [(.ref st), (.ref st)]))
    refine own_go (fun tQ kQ => XS.iconst X39.here hx rfl (hb hby at_72) kQ) ?_
    show own_End p e below _ (T39.setTop (mkF m 73 #[.val (.int i0), .val (.int i1), .val (.int i2), .val (.int i3), .val (.int i4), .val (.int i5), .val (.int (1 : Int32)), .val (.int za), .val (.ref ca), .unset, .unset, .unset] [(.int (1 : Int32)), (.ref st), (.ref st)]))
    obtain ⟨T40, h40, k40, X40, e40, E40, A40, st40⟩ := newP X39 hx hZ (hw _ (List.mem_of_getElem? (i := 1) rfl)) e39 (g := (mkF m 73 #[.val (.int i0), .val (.int i1), .val (.int i2), .val (.int i3), .val (.int i4), .val (.int i5), .val (.int (1 : Int32)), .val (.int za), .val (.ref ca), .unset, .unset, .unset] [(.int (1 : Int32)), (.ref st), (.ref st)])) rfl (hb hby at_73) rfl (by decide) (cap := 1) (by decide) (by decide) (by decide) (by decide)
    obtain ⟨cb, g40⟩ : ∃ z, z = h39.size := ⟨_, rfl⟩
    rw [← g40] at A40 st40
    have ne_ca_cb : ca ≠ cb := Nat.ne_of_lt (Nat.lt_of_lt_of_le V_ca.lt (Nat.le_of_eq g40.symm))
    have ne_st_cb : st ≠ cb := Nat.ne_of_lt (Nat.lt_of_lt_of_le E_st.lt (Nat.le_of_eq g40.symm))
    have g_cb : n0 ≤ cb := Nat.le_trans Zs (Nat.le_of_eq g40.symm)
    have sz_cb : h0.size ≤ cb := Nat.le_trans szr (Nat.le_of_eq g40.symm)
    have Ol := Ol.ext E40
    have V_ca := V_ca.ext E40
    have E_st := E_st.ext E40
    have F_coder_st := F_coder_st.ext E40
    have F_value_st := F_value_st.ext E40
    have Kp := Kp.ext E40
    have Zs := Nat.le_trans Zs E40.1
    have szr := Nat.le_trans szr E40.1
    have hkW := Nat.le_trans hkW E40.1
    have V_cb : own_Ar Z h40 cb .char (1 : Int32) (fun _ => (.int (0 : Int32))) := own_Ar.new A40 (by decide)
    refine own_go (fun tQ kQ => st40 tQ kQ) ?_
    show own_End p e below _ (T40.setTop (mkF m 75 #[.val (.int i0), .val (.int i1), .val (.int i2), .val (.int i3), .val (.int i4), .val (.int i5), .val (.int (1 : Int32)), .val (.int za), .val (.ref ca), .unset, .unset, .unset] [(.ref cb), (.ref st), (.ref st)]))
    refine own_go (fun tQ kQ => XS.dup X40.here hx rfl (hb hby at_75) rfl rfl kQ) ?_
    show own_End p e below _ (T40.setTop (mkF m 76 #[.val (.int i0), .val (.int i1), .val (.int i2), .val (.int i3), .val (.int i4), .val (.int i5), .val (.int (1 : Int32)), .val (.int za), .val (.ref ca), .unset, .unset, .unset] [(.ref cb), (.ref cb), (.ref st), (.ref st)]))
    refine own_go (fun tQ kQ => XS.iconst X40.here hx rfl (hb hby at_76) kQ) ?_
    show own_End p e below _ (T40.setTop (mkF m 77 #[.val (.int i0), .val (.int i1), .val (.int i2), .val (.int i3), .val (.int i4), .val (.int i5), .val (.int (1 : Int32)), .val (.int za), .val (.ref ca), .unset, .unset, .unset] [(.int (0 : Int32)), (.ref cb), (.ref cb), (.ref st), (.ref st)]))
    refine own_go (fun tQ kQ => XS.aload X40.here hx rfl (hb hby at_77) rfl rfl kQ) ?_
    show own_End p e below _ (T40.setTop (mkF m 79 #[.val (.int i0), .val (.int i1), .val (.int i2), .val (.int i3), .val (.int i4), .val (.int i5), .val (.int (1 : Int32)), .val (.int za), .val (.ref ca), .unset, .unset, .unset] [(.ref ca), (.int (0 : Int32)), (.ref cb), (.ref cb), (.ref st), (.ref st)]))
    refine own_go (fun tQ kQ => XS.iconst X40.here hx rfl (hb hby at_79) kQ) ?_
    show own_End p e below _ (T40.setTop (mkF m 80 #[.val (.int i0), .val (.int i1), .val (.int i2), .val (.int i3), .val (.int i4), .val (.int i5), .val (.int (1 : Int32)), .val (.int za), .val (.ref ca), .unset, .unset, .unset] [(.int (0 : Int32)), (.ref ca), (.int (0 : Int32)), (.ref cb), (.ref cb), (.ref st), (.ref st)]))
    obtain ⟨cl41, Ar41, S41, M41, H41⟩ := id V_ca
    have hin41 := inb_of (j := (0 : Int32)) S41 ⟨(by decide), (by decide)⟩
    refine own_go (fun tQ kQ => X40.caload hx (j := (0 : Int32)) (v := (.int (cf 0))) (by rw [e40]; exact Ar41.1) (State.isArrayOf_alike hZ.alike Ar41.2.1) Ar41.2.2 hin41 (H41 _ (own_in S41 hin41)) (g := (mkF m 80 #[.val (.int i0), .val (.int i1), .val (.int i2), .val (.int i3), .val (.int i4), .val (.int i5), .val (.int (1 : Int32)), .val (.int za), .val (.ref ca), .unset, .unset, .unset] [(.int (0 : Int32)), (.ref ca), (.int (0 : Int32)), (.ref cb), (.ref cb), (.ref st), (.ref st)])) rfl rfl (hb hby at_80) _ kQ) ?_
    show own_End p e below _ (T40.setTop (mkF m 81 #[.val (.int i0), .val (.int i1), .val (.int i2), .val (.int i3), .val (.int i4), .val (.int i5), .val (.int (1 : Int32)), .val (.int za), .val (.ref ca), .unset, .unset, .unset] [(.int (cf 0)), (.int (0 : Int32)), (.ref cb), (.ref cb), (.ref st), (.ref st)]))
    obtain ⟨cl42, Ar42, S42, M42, H42⟩ := id V_cb
    have hin42 := inb_of (j := (0 : Int32)) S42 ⟨(by decide), (by decide)⟩
    obtain ⟨T43, h43, X43, e43, W43, st43⟩ := stC X40 hx hZ e40 Ar42 (j := (0 : Int32)) hin42 (g := (mkF m 81 #[.val (.int i0), .val (.int i1), .val (.int i2), .val (.int i3), .val (.int i4), .val (.int i5), .val (.int (1 : Int32)), .val (.int za), .val (.ref ca), .unset, .unset, .unset] [(.int (cf 0)), (.int (0 : Int32)), (.ref cb), (.ref cb), (.ref st), (.ref st)])) rfl rfl (hb hby at_81)
    have V_cb := own_Ar_set Ar42 S42 M42 H42 W43
    have Ol := Ol.wr W43 g_cb
    have V_ca := V_ca.other W43 ne_ca_cb
    have E_st := E_st.wr W43
    have F_coder_st := F_coder_st.other W43 (Or.inl ne_st_cb)
    have F_value_st := F_value_st.other W43 (Or.inl ne_st_cb)
    have Kp := Kp.wr W43 (Or.inr sz_cb)
    have Nf := Fr.snoc X43 Nf g_cb
    have Zs := Nat.le_trans Zs (Keep.of_wr W43).1
    have szr := Nat.le_trans szr (Keep.of_wr W43).1
    have hkW := Nat.le_trans hkW (Keep.of_wr W43).1
    refine own_go (fun tQ kQ => st43 tQ kQ) ?_
    show own_End p e below _ (T43.setTop (mkF m 82 #[.val (.int i0), .val (.int i1), .val (.int i2), .val (.int i3), .val (.int i4), .val (.int i5), .val (.int (1 : Int32)), .val (.int za), .val (.ref ca), .unset, .unset, .unset] [(.ref cb), (.ref st), (.ref st)]))
    obtain ⟨kcb, V_cb⟩ := V_cb.arv (vs := ([cf 0] : List Int32).map Value.int) (d := .int (0 : Int32)) (fun j hj => by
      have hj' : j < 1 := hj
      have hj2 : j = 0 := by omega
      rcases hj2 with rfl
      · exact congrArg Value.int (own_c_nar (hcb 0))) (fun j hj => by
      have hj' : j < 1 := hj
      have hj2 : j = 0 := by omega
      rcases hj2 with rfl
      · exact own_fit (hcb 0))
    have hcc : ∀ c ∈ ([cf 0] : List Int32), own_c c := by
      intro c hc
      simp only [List.mem_cons, List.not_mem_nil, or_false] at hc
      rcases hc with rfl
      · exact hcb 0
    obtain ⟨_, _, ⟨T44, L44, k44, n44⟩, -, X44, ⟨Lc44, hQ44, l44, y44, z44⟩, st44⟩ := X43.specialBack hx (y := (⟨"java/lang/String", "<init>", "([C)V"⟩ : MethodName)) rfl hown (mvT hZ (hw _ (List.mem_of_getElem? (i := 9) rfl))) (mvT hZ (hw _ (List.mem_of_getElem? (i := 10) rfl))) (mvT hZ (hw _ (List.mem_of_getElem? (i := 11) rfl))) (by decide) (StrChars.Road.backV (W := 1) hZ hws (kI := 4) (hw _ (List.mem_of_getElem? (i := 7) rfl)) (cs := ([cf 0] : List Int32)) (bs := ([cf 0] : List Int32).map (fun c => c.toInt8.toInt32)) (n := 1) g_st Zs E_st F_value_st F_coder_st V_cb (S_cs.ext Ol.2) hcz rfl rfl (by decide) (by decide) hcc rfl (by decide) (by decide)) (g := (mkF m 82 #[.val (.int i0), .val (.int i1), .val (.int i2), .val (.int i3), .val (.int i4), .val (.int i5), .val (.int (1 : Int32)), .val (.int za), .val (.ref ca), .unset, .unset, .unset] [(.ref cb), (.ref st), (.ref st)])) rfl (by rw [hml]; rfl) (Steps.refl _) (a := st) (argsL := [(.ref cb)]) (rest := [(.ref st)]) (lenOf pd_24 rfl) rfl (by show 2 * 0 + _ ≤ _; exact Nat.le_of_eq rfl) (hb hby at_82) (fun _ _ => ⟨rfl, e43, (Nat.le_of_ble_eq_true rfl), (Nat.le_of_ble_eq_true rfl)⟩)
    dsimp only [Pt.U, Pt.locs, Pt.cells, Pt.slots] at X44 l44 y44 z44 st44 hQ44
    subst l44 y44 z44
    obtain ⟨rfl, N44q, K44, -, F_coder_st, tt, kb, -, hb44, -, F_value_st, Kv⟩ := hQ44
    have Nf := Fr.app Nf N44q
    have ne_ca_tt : ca ≠ tt := Nat.ne_of_lt (Nat.lt_of_lt_of_le V_ca.lt hb44)
    have ne_st_tt : st ≠ tt := Nat.ne_of_lt (Nat.lt_of_lt_of_le E_st.lt hb44)
    have ne_cb_tt : cb ≠ tt := Nat.ne_of_lt (Nat.lt_of_lt_of_le V_cb.lt hb44)
    have g_tt : n0 ≤ tt := Nat.le_trans Zs hb44
    have sz_tt : h0.size ≤ tt := Nat.le_trans szr hb44
    have Ol := Ol.keep K44 (allS g_st all0)
    have V_ca := V_ca.keep K44 (ninS ne_ca_st nin0)
    have E_st := E_st.keep K44
    have V_cb := V_cb.keep K44 (ninS (Ne.symm ne_st_cb) nin0)
    have Kp := Kp.trans K44 (allS (Or.inr sz_st) all0)
    have Zs := Nat.le_trans Zs K44.1
    have szr := Nat.le_trans szr K44.1
    have hkW := Nat.le_trans hkW K44.1
    refine own_go (fun tQ kQ => st44.trans kQ) ?_
    show own_End p e below _ (T44.setTop (mkF m 85 #[.val (.int i0), .val (.int i1), .val (.int i2), .val (.int i3), .val (.int i4), .val (.int i5), .val (.int (1 : Int32)), .val (.int za), .val (.ref ca), .unset, .unset, .unset] [(.ref st)]))
    have V_tt : own_Ar Z T44.heap tt .byte (1 : Int32) (fun j => .int ((fun j => (cf j).toInt8.toInt32) j)) := (own_Ar.of_arv Kv).turn (fun j hj => by
      have hj' : j < 1 := hj
      have hj2 : j = 0 := by omega
      rcases hj2 with rfl <;> rfl)
    refine own_go (fun tQ kQ => XS.astore X44.here hx rfl (hb hby at_85) rfl rfl (l' := #[.val (.int i0), .val (.int i1), .val (.int i2), .val (.int i3), .val (.int i4), .val (.int i5), .val (.int (1 : Int32)), .val (.int za), .val (.ref ca), .val (.ref st), .unset, .unset]) rfl kQ) ?_
    show own_End p e below _ (T44.setTop (mkF m 87 #[.val (.int i0), .val (.int i1), .val (.int i2), .val (.int i3), .val (.int i4), .val (.int i5), .val (.int (1 : Int32)), .val (.int za), .val (.ref ca), .val (.ref st), .unset, .unset] []))
    refine own_go (fun tQ kQ => XS.goto X44.here hx rfl (pc0 := 87) (pc' := 207) rfl (hb hby at_87) (by decide) (by decide) kQ) ?_
    show own_End p e below _ (T44.setTop (mkF m 207 #[.val (.int i0), .val (.int i1), .val (.int i2), .val (.int i3), .val (.int i4), .val (.int i5), .val (.int (1 : Int32)), .val (.int za), .val (.ref ca), .val (.ref st), .unset, .unset] []))
    have Xp := own_pad (k' := 4) (n' := 16) X44 (by decide) (by decide)
    exact J207 st tt T44 _ T44.heap _ _ Xp rfl Nf Zs Kp szr hS hkW hZ hown E_st F_value_st F_coder_st V_tt V_ca Ol rfl
  ·
    show own_End p e below _ (T15.setTop (mkF m 62 #[.val (.int i0), .val (.int i1), .val (.int i2), .val (.int i3), .val (.int i4), .val (.int i5), .val (.int (2 : Int32)), .val (.int za), .val (.ref ca), .unset, .unset, .unset] []))
    refine own_go (fun tQ kQ => XS.iload X15.here hx rfl (hb hby at_62) rfl kQ) ?_
    show own_End p e below _ (T15.setTop (mkF m 64 #[.val (.int i0), .val (.int i1), .val (.int i2), .val (.int i3), .val (.int i4), .val (.int i5), .val (.int (2 : Int32)), .val (.int za), .val (.ref ca), .unset, .unset, .unset] [(.int (2 : Int32))]))
    refine own_go (fun tQ kQ => XS.iconst X15.here hx rfl (hb hby at_64) kQ) ?_
    show own_End p e below _ (T15.setTop (mkF m 65 #[.val (.int i0), .val (.int i1), .val (.int i2), .val (.int i3), .val (.int i4), .val (.int i5), .val (.int (2 : Int32)), .val (.int za), .val (.ref ca), .unset, .unset, .unset] [(.int (1 : Int32)), (.int (2 : Int32))]))
    refine own_go (fun tQ kQ => XS.icmpYes X15.here hx rfl (pc0 := 65) (pc' := 90) rfl (hb hby at_65) rfl (feq (by decide)).2 (by decide) (by decide) kQ) ?_
    show own_End p e below _ (T15.setTop (mkF m 90 #[.val (.int i0), .val (.int i1), .val (.int i2), .val (.int i3), .val (.int i4), .val (.int i5), .val (.int (2 : Int32)), .val (.int za), .val (.ref ca), .unset, .unset, .unset] []))
    refine own_go (fun tQ kQ => XS.iload X15.here hx rfl (hb hby at_90) rfl kQ) ?_
    show own_End p e below _ (T15.setTop (mkF m 92 #[.val (.int i0), .val (.int i1), .val (.int i2), .val (.int i3), .val (.int i4), .val (.int i5), .val (.int (2 : Int32)), .val (.int za), .val (.ref ca), .unset, .unset, .unset] [(.int (2 : Int32))]))
    refine own_go (fun tQ kQ => XS.iconst X15.here hx rfl (hb hby at_92) kQ) ?_
    show own_End p e below _ (T15.setTop (mkF m 93 #[.val (.int i0), .val (.int i1), .val (.int i2), .val (.int i3), .val (.int i4), .val (.int i5), .val (.int (2 : Int32)), .val (.int za), .val (.ref ca), .unset, .unset, .unset] [(.int (2 : Int32)), (.int (2 : Int32))]))
    refine own_go (fun tQ kQ => XS.icmpNo X15.here hx rfl (hb hby at_93) rfl (teq (by decide)).2 kQ) ?_
    show own_End p e below _ (T15.setTop (mkF m 96 #[.val (.int i0), .val (.int i1), .val (.int i2), .val (.int i3), .val (.int i4), .val (.int i5), .val (.int (2 : Int32)), .val (.int za), .val (.ref ca), .unset, .unset, .unset] []))
    obtain ⟨T45, h45, X45, e45, E45, A45, D45, -, st45⟩ := newO X15 hx hZ hown (hw _ (List.mem_of_getElem? (i := 6) rfl)) (hw _ (List.mem_of_getElem? (i := 7) rfl)) (hw _ (List.mem_of_getElem? (i := 8) rfl)) e15 (g := (mkF m 96 #[.val (.int i0), .val (.int i1), .val (.int i2), .val (.int i3), .val (.int i4), .val (.int i5), .val (.int (2 : Int32)), .val (.int za), .val (.ref ca), .unset, .unset, .unset] [])) rfl (hb hby at_96) (by decide) (by decide)
    obtain ⟨st, g45⟩ : ∃ z, z = h15.size := ⟨_, rfl⟩
    rw [← g45] at A45 D45 st45
    have ne_ca_st : ca ≠ st := Nat.ne_of_lt (Nat.lt_of_lt_of_le V_ca.lt (Nat.le_of_eq g45.symm))
    have g_st : n0 ≤ st := Nat.le_trans Zs (Nat.le_of_eq g45.symm)
    have sz_st : h0.size ≤ st := Nat.le_trans szr (Nat.le_of_eq g45.symm)
    have Ol := Ol.ext E45
    have V_ca := V_ca.ext E45
    have Kp := Kp.ext E45
    have Zs := Nat.le_trans Zs E45.1
    have szr := Nat.le_trans szr E45.1
    have hkW := Nat.le_trans hkW E45.1
    have E_st := A45
    have F_coder_st : Fld Z h45 st "java/lang/String" "coder" "B" (.int (0 : Int32)) := D45 (Or.inr (hw _ (List.mem_of_getElem? (i := 32) rfl))) (ty := .byte) (by decide)
    have F_value_st : Fld Z h45 st "java/lang/String" "value" "[B" .null := D45 (Or.inr (hw _ (List.mem_of_getElem? (i := 34) rfl))) (ty := (.array .byte)) (by decide)
    refine own_go (fun tQ kQ => st45 tQ kQ) ?_
    show own_End p e below _ (T45.setTop (mkF m 99 #[.val (.int i0), .val (.int i1), .val (.int i2), .val (.int i3), .val (.int i4), .val (.int i5), .val (.int (2 : Int32)), .val (.int za), .val (.ref ca), .unset, .unset, .unset] [(.ref st)]))
    refine own_go (fun tQ kQ => XS.dup X45.here hx rfl (hb hby at_99) rfl rfl kQ) ?_
    show own_End p e below _ (T45.setTop (mkF m 100 #[.val (.int i0), .val (.int i1), .val (.int i2), .val (.int i3), .val (.int i4), .val (.int i5), .val (.int (2 : Int32)), .val (.int za), .val (.ref ca), .unset, .unset, .unset] [(.ref st), (.ref st)]))
    refine own_go (fun tQ kQ => XS.iconst X45.here hx rfl (hb hby at_100) kQ) ?_
    show own_End p e below _ (T45.setTop (mkF m 101 #[.val (.int i0), .val (.int i1), .val (.int i2), .val (.int i3), .val (.int i4), .val (.int i5), .val (.int (2 : Int32)), .val (.int za), .val (.ref ca), .unset, .unset, .unset] [(.int (2 : Int32)), (.ref st), (.ref st)]))
    obtain ⟨T46, h46, k46, X46, e46, E46, A46, st46⟩ := newP X45 hx hZ (hw _ (List.mem_of_getElem? (i := 1) rfl)) e45 (g := (mkF m 101 #[.val (.int i0), .val (.int i1), .val (.int i2), .val (.int i3), .val (.int i4), .val (.int i5), .val (.int (2 : Int32)), .val (.int za), .val (.ref ca), .unset, .unset, .unset] [(.int (2 : Int32)), (.ref st), (.ref st)])) rfl (hb hby at_101) rfl (by decide) (cap := 2) (by decide) (by decide) (by decide) (by decide)
    obtain ⟨cb, g46⟩ : ∃ z, z = h45.size := ⟨_, rfl⟩
    rw [← g46] at A46 st46
    have ne_ca_cb : ca ≠ cb := Nat.ne_of_lt (Nat.lt_of_lt_of_le V_ca.lt (Nat.le_of_eq g46.symm))
    have ne_st_cb : st ≠ cb := Nat.ne_of_lt (Nat.lt_of_lt_of_le E_st.lt (Nat.le_of_eq g46.symm))
    have g_cb : n0 ≤ cb := Nat.le_trans Zs (Nat.le_of_eq g46.symm)
    have sz_cb : h0.size ≤ cb := Nat.le_trans szr (Nat.le_of_eq g46.symm)
    have Ol := Ol.ext E46
    have V_ca := V_ca.ext E46
    have E_st := E_st.ext E46
    have F_coder_st := F_coder_st.ext E46
    have F_value_st := F_value_st.ext E46
    have Kp := Kp.ext E46
    have Zs := Nat.le_trans Zs E46.1
    have szr := Nat.le_trans szr E46.1
    have hkW := Nat.le_trans hkW E46.1
    have V_cb : own_Ar Z h46 cb .char (2 : Int32) (fun _ => (.int (0 : Int32))) := own_Ar.new A46 (by decide)
    refine own_go (fun tQ kQ => st46 tQ kQ) ?_
    show own_End p e below _ (T46.setTop (mkF m 103 #[.val (.int i0), .val (.int i1), .val (.int i2), .val (.int i3), .val (.int i4), .val (.int i5), .val (.int (2 : Int32)), .val (.int za), .val (.ref ca), .unset, .unset, .unset] [(.ref cb), (.ref st), (.ref st)]))
    refine own_go (fun tQ kQ => XS.dup X46.here hx rfl (hb hby at_103) rfl rfl kQ) ?_
    show own_End p e below _ (T46.setTop (mkF m 104 #[.val (.int i0), .val (.int i1), .val (.int i2), .val (.int i3), .val (.int i4), .val (.int i5), .val (.int (2 : Int32)), .val (.int za), .val (.ref ca), .unset, .unset, .unset] [(.ref cb), (.ref cb), (.ref st), (.ref st)]))
    refine own_go (fun tQ kQ => XS.iconst X46.here hx rfl (hb hby at_104) kQ) ?_
    show own_End p e below _ (T46.setTop (mkF m 105 #[.val (.int i0), .val (.int i1), .val (.int i2), .val (.int i3), .val (.int i4), .val (.int i5), .val (.int (2 : Int32)), .val (.int za), .val (.ref ca), .unset, .unset, .unset] [(.int (0 : Int32)), (.ref cb), (.ref cb), (.ref st), (.ref st)]))
    refine own_go (fun tQ kQ => XS.aload X46.here hx rfl (hb hby at_105) rfl rfl kQ) ?_
    show own_End p e below _ (T46.setTop (mkF m 107 #[.val (.int i0), .val (.int i1), .val (.int i2), .val (.int i3), .val (.int i4), .val (.int i5), .val (.int (2 : Int32)), .val (.int za), .val (.ref ca), .unset, .unset, .unset] [(.ref ca), (.int (0 : Int32)), (.ref cb), (.ref cb), (.ref st), (.ref st)]))
    refine own_go (fun tQ kQ => XS.iconst X46.here hx rfl (hb hby at_107) kQ) ?_
    show own_End p e below _ (T46.setTop (mkF m 108 #[.val (.int i0), .val (.int i1), .val (.int i2), .val (.int i3), .val (.int i4), .val (.int i5), .val (.int (2 : Int32)), .val (.int za), .val (.ref ca), .unset, .unset, .unset] [(.int (0 : Int32)), (.ref ca), (.int (0 : Int32)), (.ref cb), (.ref cb), (.ref st), (.ref st)]))
    obtain ⟨cl47, Ar47, S47, M47, H47⟩ := id V_ca
    have hin47 := inb_of (j := (0 : Int32)) S47 ⟨(by decide), (by decide)⟩
    refine own_go (fun tQ kQ => X46.caload hx (j := (0 : Int32)) (v := (.int (cf 0))) (by rw [e46]; exact Ar47.1) (State.isArrayOf_alike hZ.alike Ar47.2.1) Ar47.2.2 hin47 (H47 _ (own_in S47 hin47)) (g := (mkF m 108 #[.val (.int i0), .val (.int i1), .val (.int i2), .val (.int i3), .val (.int i4), .val (.int i5), .val (.int (2 : Int32)), .val (.int za), .val (.ref ca), .unset, .unset, .unset] [(.int (0 : Int32)), (.ref ca), (.int (0 : Int32)), (.ref cb), (.ref cb), (.ref st), (.ref st)])) rfl rfl (hb hby at_108) _ kQ) ?_
    show own_End p e below _ (T46.setTop (mkF m 109 #[.val (.int i0), .val (.int i1), .val (.int i2), .val (.int i3), .val (.int i4), .val (.int i5), .val (.int (2 : Int32)), .val (.int za), .val (.ref ca), .unset, .unset, .unset] [(.int (cf 0)), (.int (0 : Int32)), (.ref cb), (.ref cb), (.ref st), (.ref st)]))
    obtain ⟨cl48, Ar48, S48, M48, H48⟩ := id V_cb
    have hin48 := inb_of (j := (0 : Int32)) S48 ⟨(by decide), (by decide)⟩
    obtain ⟨T49, h49, X49, e49, W49, st49⟩ := stC X46 hx hZ e46 Ar48 (j := (0 : Int32)) hin48 (g := (mkF m 109 #[.val (.int i0), .val (.int i1), .val (.int i2), .val (.int i3), .val (.int i4), .val (.int i5), .val (.int (2 : Int32)), .val (.int za), .val (.ref ca), .unset, .unset, .unset] [(.int (cf 0)), (.int (0 : Int32)), (.ref cb), (.ref cb), (.ref st), (.ref st)])) rfl rfl (hb hby at_109)
    have V_cb := own_Ar_set Ar48 S48 M48 H48 W49
    have Ol := Ol.wr W49 g_cb
    have V_ca := V_ca.other W49 ne_ca_cb
    have E_st := E_st.wr W49
    have F_coder_st := F_coder_st.other W49 (Or.inl ne_st_cb)
    have F_value_st := F_value_st.other W49 (Or.inl ne_st_cb)
    have Kp := Kp.wr W49 (Or.inr sz_cb)
    have Nf := Fr.snoc X49 Nf g_cb
    have Zs := Nat.le_trans Zs (Keep.of_wr W49).1
    have szr := Nat.le_trans szr (Keep.of_wr W49).1
    have hkW := Nat.le_trans hkW (Keep.of_wr W49).1
    refine own_go (fun tQ kQ => st49 tQ kQ) ?_
    show own_End p e below _ (T49.setTop (mkF m 110 #[.val (.int i0), .val (.int i1), .val (.int i2), .val (.int i3), .val (.int i4), .val (.int i5), .val (.int (2 : Int32)), .val (.int za), .val (.ref ca), .unset, .unset, .unset] [(.ref cb), (.ref st), (.ref st)]))
    refine own_go (fun tQ kQ => XS.dup X49.here hx rfl (hb hby at_110) rfl rfl kQ) ?_
    show own_End p e below _ (T49.setTop (mkF m 111 #[.val (.int i0), .val (.int i1), .val (.int i2), .val (.int i3), .val (.int i4), .val (.int i5), .val (.int (2 : Int32)), .val (.int za), .val (.ref ca), .unset, .unset, .unset] [(.ref cb), (.ref cb), (.ref st), (.ref st)]))
    refine own_go (fun tQ kQ => XS.iconst X49.here hx rfl (hb hby at_111) kQ) ?_
    show own_End p e below _ (T49.setTop (mkF m 112 #[.val (.int i0), .val (.int i1), .val (.int i2), .val (.int i3), .val (.int i4), .val (.int i5), .val (.int (2 : Int32)), .val (.int za), .val (.ref ca), .unset, .unset, .unset] [(.int (1 : Int32)), (.ref cb), (.ref cb), (.ref st), (.ref st)]))
    refine own_go (fun tQ kQ => XS.aload X49.here hx rfl (hb hby at_112) rfl rfl kQ) ?_
    show own_End p e below _ (T49.setTop (mkF m 114 #[.val (.int i0), .val (.int i1), .val (.int i2), .val (.int i3), .val (.int i4), .val (.int i5), .val (.int (2 : Int32)), .val (.int za), .val (.ref ca), .unset, .unset, .unset] [(.ref ca), (.int (1 : Int32)), (.ref cb), (.ref cb), (.ref st), (.ref st)]))
    refine own_go (fun tQ kQ => XS.iconst X49.here hx rfl (hb hby at_114) kQ) ?_
    show own_End p e below _ (T49.setTop (mkF m 115 #[.val (.int i0), .val (.int i1), .val (.int i2), .val (.int i3), .val (.int i4), .val (.int i5), .val (.int (2 : Int32)), .val (.int za), .val (.ref ca), .unset, .unset, .unset] [(.int (1 : Int32)), (.ref ca), (.int (1 : Int32)), (.ref cb), (.ref cb), (.ref st), (.ref st)]))
    obtain ⟨cl50, Ar50, S50, M50, H50⟩ := id V_ca
    have hin50 := inb_of (j := (1 : Int32)) S50 ⟨(by decide), (by decide)⟩
    refine own_go (fun tQ kQ => X49.caload hx (j := (1 : Int32)) (v := (.int (cf 1))) (by rw [e49]; exact Ar50.1) (State.isArrayOf_alike hZ.alike Ar50.2.1) Ar50.2.2 hin50 (H50 _ (own_in S50 hin50)) (g := (mkF m 115 #[.val (.int i0), .val (.int i1), .val (.int i2), .val (.int i3), .val (.int i4), .val (.int i5), .val (.int (2 : Int32)), .val (.int za), .val (.ref ca), .unset, .unset, .unset] [(.int (1 : Int32)), (.ref ca), (.int (1 : Int32)), (.ref cb), (.ref cb), (.ref st), (.ref st)])) rfl rfl (hb hby at_115) _ kQ) ?_
    show own_End p e below _ (T49.setTop (mkF m 116 #[.val (.int i0), .val (.int i1), .val (.int i2), .val (.int i3), .val (.int i4), .val (.int i5), .val (.int (2 : Int32)), .val (.int za), .val (.ref ca), .unset, .unset, .unset] [(.int (cf 1)), (.int (1 : Int32)), (.ref cb), (.ref cb), (.ref st), (.ref st)]))
    obtain ⟨cl51, Ar51, S51, M51, H51⟩ := id V_cb
    have hin51 := inb_of (j := (1 : Int32)) S51 ⟨(by decide), (by decide)⟩
    obtain ⟨T52, h52, X52, e52, W52, st52⟩ := stC X49 hx hZ e49 Ar51 (j := (1 : Int32)) hin51 (g := (mkF m 116 #[.val (.int i0), .val (.int i1), .val (.int i2), .val (.int i3), .val (.int i4), .val (.int i5), .val (.int (2 : Int32)), .val (.int za), .val (.ref ca), .unset, .unset, .unset] [(.int (cf 1)), (.int (1 : Int32)), (.ref cb), (.ref cb), (.ref st), (.ref st)])) rfl rfl (hb hby at_116)
    have V_cb := own_Ar_set Ar51 S51 M51 H51 W52
    have Ol := Ol.wr W52 g_cb
    have V_ca := V_ca.other W52 ne_ca_cb
    have E_st := E_st.wr W52
    have F_coder_st := F_coder_st.other W52 (Or.inl ne_st_cb)
    have F_value_st := F_value_st.other W52 (Or.inl ne_st_cb)
    have Kp := Kp.wr W52 (Or.inr sz_cb)
    have Nf := Fr.snoc X52 Nf g_cb
    have Zs := Nat.le_trans Zs (Keep.of_wr W52).1
    have szr := Nat.le_trans szr (Keep.of_wr W52).1
    have hkW := Nat.le_trans hkW (Keep.of_wr W52).1
    refine own_go (fun tQ kQ => st52 tQ kQ) ?_
    show own_End p e below _ (T52.setTop (mkF m 117 #[.val (.int i0), .val (.int i1), .val (.int i2), .val (.int i3), .val (.int i4), .val (.int i5), .val (.int (2 : Int32)), .val (.int za), .val (.ref ca), .unset, .unset, .unset] [(.ref cb), (.ref st), (.ref st)]))
    obtain ⟨kcb, V_cb⟩ := V_cb.arv (vs := ([cf 0, cf 1] : List Int32).map Value.int) (d := .int (0 : Int32)) (fun j hj => by
      have hj' : j < 2 := hj
      have hj2 : j = 0 ∨ j = 1 := by omega
      rcases hj2 with rfl | rfl
      · exact congrArg Value.int (own_c_nar (hcb 0))
      · exact congrArg Value.int (own_c_nar (hcb 1))) (fun j hj => by
      have hj' : j < 2 := hj
      have hj2 : j = 0 ∨ j = 1 := by omega
      rcases hj2 with rfl | rfl
      · exact own_fit (hcb 0)
      · exact own_fit (hcb 1))
    have hcc : ∀ c ∈ ([cf 0, cf 1] : List Int32), own_c c := by
      intro c hc
      simp only [List.mem_cons, List.not_mem_nil, or_false] at hc
      rcases hc with rfl | rfl
      · exact hcb 0
      · exact hcb 1
    obtain ⟨_, _, ⟨T53, L53, k53, n53⟩, -, X53, ⟨Lc53, hQ53, l53, y53, z53⟩, st53⟩ := X52.specialBack hx (y := (⟨"java/lang/String", "<init>", "([C)V"⟩ : MethodName)) rfl hown (mvT hZ (hw _ (List.mem_of_getElem? (i := 9) rfl))) (mvT hZ (hw _ (List.mem_of_getElem? (i := 10) rfl))) (mvT hZ (hw _ (List.mem_of_getElem? (i := 11) rfl))) (by decide) (StrChars.Road.backV (W := 1) hZ hws (kI := 4) (hw _ (List.mem_of_getElem? (i := 7) rfl)) (cs := ([cf 0, cf 1] : List Int32)) (bs := ([cf 0, cf 1] : List Int32).map (fun c => c.toInt8.toInt32)) (n := 2) g_st Zs E_st F_value_st F_coder_st V_cb (S_cs.ext Ol.2) hcz rfl rfl (by decide) (by decide) hcc rfl (by decide) (by decide)) (g := (mkF m 117 #[.val (.int i0), .val (.int i1), .val (.int i2), .val (.int i3), .val (.int i4), .val (.int i5), .val (.int (2 : Int32)), .val (.int za), .val (.ref ca), .unset, .unset, .unset] [(.ref cb), (.ref st), (.ref st)])) rfl (by rw [hml]; rfl) (Steps.refl _) (a := st) (argsL := [(.ref cb)]) (rest := [(.ref st)]) (lenOf pd_24 rfl) rfl (by show 2 * 0 + _ ≤ _; exact Nat.le_of_eq rfl) (hb hby at_117) (fun _ _ => ⟨rfl, e52, (Nat.le_of_ble_eq_true rfl), (Nat.le_of_ble_eq_true rfl)⟩)
    dsimp only [Pt.U, Pt.locs, Pt.cells, Pt.slots] at X53 l53 y53 z53 st53 hQ53
    subst l53 y53 z53
    obtain ⟨rfl, N53q, K53, -, F_coder_st, tt, kb, -, hb53, -, F_value_st, Kv⟩ := hQ53
    have Nf := Fr.app Nf N53q
    have ne_ca_tt : ca ≠ tt := Nat.ne_of_lt (Nat.lt_of_lt_of_le V_ca.lt hb53)
    have ne_st_tt : st ≠ tt := Nat.ne_of_lt (Nat.lt_of_lt_of_le E_st.lt hb53)
    have ne_cb_tt : cb ≠ tt := Nat.ne_of_lt (Nat.lt_of_lt_of_le V_cb.lt hb53)
    have g_tt : n0 ≤ tt := Nat.le_trans Zs hb53
    have sz_tt : h0.size ≤ tt := Nat.le_trans szr hb53
    have Ol := Ol.keep K53 (allS g_st all0)
    have V_ca := V_ca.keep K53 (ninS ne_ca_st nin0)
    have E_st := E_st.keep K53
    have V_cb := V_cb.keep K53 (ninS (Ne.symm ne_st_cb) nin0)
    have Kp := Kp.trans K53 (allS (Or.inr sz_st) all0)
    have Zs := Nat.le_trans Zs K53.1
    have szr := Nat.le_trans szr K53.1
    have hkW := Nat.le_trans hkW K53.1
    refine own_go (fun tQ kQ => st53.trans kQ) ?_
    show own_End p e below _ (T53.setTop (mkF m 120 #[.val (.int i0), .val (.int i1), .val (.int i2), .val (.int i3), .val (.int i4), .val (.int i5), .val (.int (2 : Int32)), .val (.int za), .val (.ref ca), .unset, .unset, .unset] [(.ref st)]))
    have V_tt : own_Ar Z T53.heap tt .byte (2 : Int32) (fun j => .int ((fun j => (cf j).toInt8.toInt32) j)) := (own_Ar.of_arv Kv).turn (fun j hj => by
      have hj' : j < 2 := hj
      have hj2 : j = 0 ∨ j = 1 := by omega
      rcases hj2 with rfl | rfl <;> rfl)
    refine own_go (fun tQ kQ => XS.astore X53.here hx rfl (hb hby at_120) rfl rfl (l' := #[.val (.int i0), .val (.int i1), .val (.int i2), .val (.int i3), .val (.int i4), .val (.int i5), .val (.int (2 : Int32)), .val (.int za), .val (.ref ca), .val (.ref st), .unset, .unset]) rfl kQ) ?_
    show own_End p e below _ (T53.setTop (mkF m 122 #[.val (.int i0), .val (.int i1), .val (.int i2), .val (.int i3), .val (.int i4), .val (.int i5), .val (.int (2 : Int32)), .val (.int za), .val (.ref ca), .val (.ref st), .unset, .unset] []))
    refine own_go (fun tQ kQ => XS.goto X53.here hx rfl (pc0 := 122) (pc' := 207) rfl (hb hby at_122) (by decide) (by decide) kQ) ?_
    show own_End p e below _ (T53.setTop (mkF m 207 #[.val (.int i0), .val (.int i1), .val (.int i2), .val (.int i3), .val (.int i4), .val (.int i5), .val (.int (2 : Int32)), .val (.int za), .val (.ref ca), .val (.ref st), .unset, .unset] []))
    have Xp := own_pad (k' := 4) (n' := 16) X53 (by decide) (by decide)
    exact J207 st tt T53 _ T53.heap _ _ Xp rfl Nf Zs Kp szr hS hkW hZ hown E_st F_value_st F_coder_st V_tt V_ca Ol rfl
  ·
    show own_End p e below _ (T15.setTop (mkF m 62 #[.val (.int i0), .val (.int i1), .val (.int i2), .val (.int i3), .val (.int i4), .val (.int i5), .val (.int (3 : Int32)), .val (.int za), .val (.ref ca), .unset, .unset, .unset] []))
    refine own_go (fun tQ kQ => XS.iload X15.here hx rfl (hb hby at_62) rfl kQ) ?_
    show own_End p e below _ (T15.setTop (mkF m 64 #[.val (.int i0), .val (.int i1), .val (.int i2), .val (.int i3), .val (.int i4), .val (.int i5), .val (.int (3 : Int32)), .val (.int za), .val (.ref ca), .unset, .unset, .unset] [(.int (3 : Int32))]))
    refine own_go (fun tQ kQ => XS.iconst X15.here hx rfl (hb hby at_64) kQ) ?_
    show own_End p e below _ (T15.setTop (mkF m 65 #[.val (.int i0), .val (.int i1), .val (.int i2), .val (.int i3), .val (.int i4), .val (.int i5), .val (.int (3 : Int32)), .val (.int za), .val (.ref ca), .unset, .unset, .unset] [(.int (1 : Int32)), (.int (3 : Int32))]))
    refine own_go (fun tQ kQ => XS.icmpYes X15.here hx rfl (pc0 := 65) (pc' := 90) rfl (hb hby at_65) rfl (feq (by decide)).2 (by decide) (by decide) kQ) ?_
    show own_End p e below _ (T15.setTop (mkF m 90 #[.val (.int i0), .val (.int i1), .val (.int i2), .val (.int i3), .val (.int i4), .val (.int i5), .val (.int (3 : Int32)), .val (.int za), .val (.ref ca), .unset, .unset, .unset] []))
    refine own_go (fun tQ kQ => XS.iload X15.here hx rfl (hb hby at_90) rfl kQ) ?_
    show own_End p e below _ (T15.setTop (mkF m 92 #[.val (.int i0), .val (.int i1), .val (.int i2), .val (.int i3), .val (.int i4), .val (.int i5), .val (.int (3 : Int32)), .val (.int za), .val (.ref ca), .unset, .unset, .unset] [(.int (3 : Int32))]))
    refine own_go (fun tQ kQ => XS.iconst X15.here hx rfl (hb hby at_92) kQ) ?_
    show own_End p e below _ (T15.setTop (mkF m 93 #[.val (.int i0), .val (.int i1), .val (.int i2), .val (.int i3), .val (.int i4), .val (.int i5), .val (.int (3 : Int32)), .val (.int za), .val (.ref ca), .unset, .unset, .unset] [(.int (2 : Int32)), (.int (3 : Int32))]))
    refine own_go (fun tQ kQ => XS.icmpYes X15.here hx rfl (pc0 := 93) (pc' := 125) rfl (hb hby at_93) rfl (feq (by decide)).2 (by decide) (by decide) kQ) ?_
    show own_End p e below _ (T15.setTop (mkF m 125 #[.val (.int i0), .val (.int i1), .val (.int i2), .val (.int i3), .val (.int i4), .val (.int i5), .val (.int (3 : Int32)), .val (.int za), .val (.ref ca), .unset, .unset, .unset] []))
    refine own_go (fun tQ kQ => XS.iload X15.here hx rfl (hb hby at_125) rfl kQ) ?_
    show own_End p e below _ (T15.setTop (mkF m 127 #[.val (.int i0), .val (.int i1), .val (.int i2), .val (.int i3), .val (.int i4), .val (.int i5), .val (.int (3 : Int32)), .val (.int za), .val (.ref ca), .unset, .unset, .unset] [(.int (3 : Int32))]))
    refine own_go (fun tQ kQ => XS.iconst X15.here hx rfl (hb hby at_127) kQ) ?_
    show own_End p e below _ (T15.setTop (mkF m 128 #[.val (.int i0), .val (.int i1), .val (.int i2), .val (.int i3), .val (.int i4), .val (.int i5), .val (.int (3 : Int32)), .val (.int za), .val (.ref ca), .unset, .unset, .unset] [(.int (3 : Int32)), (.int (3 : Int32))]))
    refine own_go (fun tQ kQ => XS.icmpNo X15.here hx rfl (hb hby at_128) rfl (teq (by decide)).2 kQ) ?_
    show own_End p e below _ (T15.setTop (mkF m 131 #[.val (.int i0), .val (.int i1), .val (.int i2), .val (.int i3), .val (.int i4), .val (.int i5), .val (.int (3 : Int32)), .val (.int za), .val (.ref ca), .unset, .unset, .unset] []))
    obtain ⟨T54, h54, X54, e54, E54, A54, D54, -, st54⟩ := newO X15 hx hZ hown (hw _ (List.mem_of_getElem? (i := 6) rfl)) (hw _ (List.mem_of_getElem? (i := 7) rfl)) (hw _ (List.mem_of_getElem? (i := 8) rfl)) e15 (g := (mkF m 131 #[.val (.int i0), .val (.int i1), .val (.int i2), .val (.int i3), .val (.int i4), .val (.int i5), .val (.int (3 : Int32)), .val (.int za), .val (.ref ca), .unset, .unset, .unset] [])) rfl (hb hby at_131) (by decide) (by decide)
    obtain ⟨st, g54⟩ : ∃ z, z = h15.size := ⟨_, rfl⟩
    rw [← g54] at A54 D54 st54
    have ne_ca_st : ca ≠ st := Nat.ne_of_lt (Nat.lt_of_lt_of_le V_ca.lt (Nat.le_of_eq g54.symm))
    have g_st : n0 ≤ st := Nat.le_trans Zs (Nat.le_of_eq g54.symm)
    have sz_st : h0.size ≤ st := Nat.le_trans szr (Nat.le_of_eq g54.symm)
    have Ol := Ol.ext E54
    have V_ca := V_ca.ext E54
    have Kp := Kp.ext E54
    have Zs := Nat.le_trans Zs E54.1
    have szr := Nat.le_trans szr E54.1
    have hkW := Nat.le_trans hkW E54.1
    have E_st := A54
    have F_coder_st : Fld Z h54 st "java/lang/String" "coder" "B" (.int (0 : Int32)) := D54 (Or.inr (hw _ (List.mem_of_getElem? (i := 32) rfl))) (ty := .byte) (by decide)
    have F_value_st : Fld Z h54 st "java/lang/String" "value" "[B" .null := D54 (Or.inr (hw _ (List.mem_of_getElem? (i := 34) rfl))) (ty := (.array .byte)) (by decide)
    refine own_go (fun tQ kQ => st54 tQ kQ) ?_
    show own_End p e below _ (T54.setTop (mkF m 134 #[.val (.int i0), .val (.int i1), .val (.int i2), .val (.int i3), .val (.int i4), .val (.int i5), .val (.int (3 : Int32)), .val (.int za), .val (.ref ca), .unset, .unset, .unset] [(.ref st)]))
    refine own_go (fun tQ kQ => XS.dup X54.here hx rfl (hb hby at_134) rfl rfl kQ) ?_
    show own_End p e below _ (T54.setTop (mkF m 135 #[.val (.int i0), .val (.int i1), .val (.int i2), .val (.int i3), .val (.int i4), .val (.int i5), .val (.int (3 : Int32)), .val (.int za), .val (.ref ca), .unset, .unset, .unset] [(.ref st), (.ref st)]))
    refine own_go (fun tQ kQ => XS.iconst X54.here hx rfl (hb hby at_135) kQ) ?_
    show own_End p e below _ (T54.setTop (mkF m 136 #[.val (.int i0), .val (.int i1), .val (.int i2), .val (.int i3), .val (.int i4), .val (.int i5), .val (.int (3 : Int32)), .val (.int za), .val (.ref ca), .unset, .unset, .unset] [(.int (3 : Int32)), (.ref st), (.ref st)]))
    obtain ⟨T55, h55, k55, X55, e55, E55, A55, st55⟩ := newP X54 hx hZ (hw _ (List.mem_of_getElem? (i := 1) rfl)) e54 (g := (mkF m 136 #[.val (.int i0), .val (.int i1), .val (.int i2), .val (.int i3), .val (.int i4), .val (.int i5), .val (.int (3 : Int32)), .val (.int za), .val (.ref ca), .unset, .unset, .unset] [(.int (3 : Int32)), (.ref st), (.ref st)])) rfl (hb hby at_136) rfl (by decide) (cap := 3) (by decide) (by decide) (by decide) (by decide)
    obtain ⟨cb, g55⟩ : ∃ z, z = h54.size := ⟨_, rfl⟩
    rw [← g55] at A55 st55
    have ne_ca_cb : ca ≠ cb := Nat.ne_of_lt (Nat.lt_of_lt_of_le V_ca.lt (Nat.le_of_eq g55.symm))
    have ne_st_cb : st ≠ cb := Nat.ne_of_lt (Nat.lt_of_lt_of_le E_st.lt (Nat.le_of_eq g55.symm))
    have g_cb : n0 ≤ cb := Nat.le_trans Zs (Nat.le_of_eq g55.symm)
    have sz_cb : h0.size ≤ cb := Nat.le_trans szr (Nat.le_of_eq g55.symm)
    have Ol := Ol.ext E55
    have V_ca := V_ca.ext E55
    have E_st := E_st.ext E55
    have F_coder_st := F_coder_st.ext E55
    have F_value_st := F_value_st.ext E55
    have Kp := Kp.ext E55
    have Zs := Nat.le_trans Zs E55.1
    have szr := Nat.le_trans szr E55.1
    have hkW := Nat.le_trans hkW E55.1
    have V_cb : own_Ar Z h55 cb .char (3 : Int32) (fun _ => (.int (0 : Int32))) := own_Ar.new A55 (by decide)
    refine own_go (fun tQ kQ => st55 tQ kQ) ?_
    show own_End p e below _ (T55.setTop (mkF m 138 #[.val (.int i0), .val (.int i1), .val (.int i2), .val (.int i3), .val (.int i4), .val (.int i5), .val (.int (3 : Int32)), .val (.int za), .val (.ref ca), .unset, .unset, .unset] [(.ref cb), (.ref st), (.ref st)]))
    refine own_go (fun tQ kQ => XS.dup X55.here hx rfl (hb hby at_138) rfl rfl kQ) ?_
    show own_End p e below _ (T55.setTop (mkF m 139 #[.val (.int i0), .val (.int i1), .val (.int i2), .val (.int i3), .val (.int i4), .val (.int i5), .val (.int (3 : Int32)), .val (.int za), .val (.ref ca), .unset, .unset, .unset] [(.ref cb), (.ref cb), (.ref st), (.ref st)]))
    refine own_go (fun tQ kQ => XS.iconst X55.here hx rfl (hb hby at_139) kQ) ?_
    show own_End p e below _ (T55.setTop (mkF m 140 #[.val (.int i0), .val (.int i1), .val (.int i2), .val (.int i3), .val (.int i4), .val (.int i5), .val (.int (3 : Int32)), .val (.int za), .val (.ref ca), .unset, .unset, .unset] [(.int (0 : Int32)), (.ref cb), (.ref cb), (.ref st), (.ref st)]))
    refine own_go (fun tQ kQ => XS.aload X55.here hx rfl (hb hby at_140) rfl rfl kQ) ?_
    show own_End p e below _ (T55.setTop (mkF m 142 #[.val (.int i0), .val (.int i1), .val (.int i2), .val (.int i3), .val (.int i4), .val (.int i5), .val (.int (3 : Int32)), .val (.int za), .val (.ref ca), .unset, .unset, .unset] [(.ref ca), (.int (0 : Int32)), (.ref cb), (.ref cb), (.ref st), (.ref st)]))
    refine own_go (fun tQ kQ => XS.iconst X55.here hx rfl (hb hby at_142) kQ) ?_
    show own_End p e below _ (T55.setTop (mkF m 143 #[.val (.int i0), .val (.int i1), .val (.int i2), .val (.int i3), .val (.int i4), .val (.int i5), .val (.int (3 : Int32)), .val (.int za), .val (.ref ca), .unset, .unset, .unset] [(.int (0 : Int32)), (.ref ca), (.int (0 : Int32)), (.ref cb), (.ref cb), (.ref st), (.ref st)]))
    obtain ⟨cl56, Ar56, S56, M56, H56⟩ := id V_ca
    have hin56 := inb_of (j := (0 : Int32)) S56 ⟨(by decide), (by decide)⟩
    refine own_go (fun tQ kQ => X55.caload hx (j := (0 : Int32)) (v := (.int (cf 0))) (by rw [e55]; exact Ar56.1) (State.isArrayOf_alike hZ.alike Ar56.2.1) Ar56.2.2 hin56 (H56 _ (own_in S56 hin56)) (g := (mkF m 143 #[.val (.int i0), .val (.int i1), .val (.int i2), .val (.int i3), .val (.int i4), .val (.int i5), .val (.int (3 : Int32)), .val (.int za), .val (.ref ca), .unset, .unset, .unset] [(.int (0 : Int32)), (.ref ca), (.int (0 : Int32)), (.ref cb), (.ref cb), (.ref st), (.ref st)])) rfl rfl (hb hby at_143) _ kQ) ?_
    show own_End p e below _ (T55.setTop (mkF m 144 #[.val (.int i0), .val (.int i1), .val (.int i2), .val (.int i3), .val (.int i4), .val (.int i5), .val (.int (3 : Int32)), .val (.int za), .val (.ref ca), .unset, .unset, .unset] [(.int (cf 0)), (.int (0 : Int32)), (.ref cb), (.ref cb), (.ref st), (.ref st)]))
    obtain ⟨cl57, Ar57, S57, M57, H57⟩ := id V_cb
    have hin57 := inb_of (j := (0 : Int32)) S57 ⟨(by decide), (by decide)⟩
    obtain ⟨T58, h58, X58, e58, W58, st58⟩ := stC X55 hx hZ e55 Ar57 (j := (0 : Int32)) hin57 (g := (mkF m 144 #[.val (.int i0), .val (.int i1), .val (.int i2), .val (.int i3), .val (.int i4), .val (.int i5), .val (.int (3 : Int32)), .val (.int za), .val (.ref ca), .unset, .unset, .unset] [(.int (cf 0)), (.int (0 : Int32)), (.ref cb), (.ref cb), (.ref st), (.ref st)])) rfl rfl (hb hby at_144)
    have V_cb := own_Ar_set Ar57 S57 M57 H57 W58
    have Ol := Ol.wr W58 g_cb
    have V_ca := V_ca.other W58 ne_ca_cb
    have E_st := E_st.wr W58
    have F_coder_st := F_coder_st.other W58 (Or.inl ne_st_cb)
    have F_value_st := F_value_st.other W58 (Or.inl ne_st_cb)
    have Kp := Kp.wr W58 (Or.inr sz_cb)
    have Nf := Fr.snoc X58 Nf g_cb
    have Zs := Nat.le_trans Zs (Keep.of_wr W58).1
    have szr := Nat.le_trans szr (Keep.of_wr W58).1
    have hkW := Nat.le_trans hkW (Keep.of_wr W58).1
    refine own_go (fun tQ kQ => st58 tQ kQ) ?_
    show own_End p e below _ (T58.setTop (mkF m 145 #[.val (.int i0), .val (.int i1), .val (.int i2), .val (.int i3), .val (.int i4), .val (.int i5), .val (.int (3 : Int32)), .val (.int za), .val (.ref ca), .unset, .unset, .unset] [(.ref cb), (.ref st), (.ref st)]))
    refine own_go (fun tQ kQ => XS.dup X58.here hx rfl (hb hby at_145) rfl rfl kQ) ?_
    show own_End p e below _ (T58.setTop (mkF m 146 #[.val (.int i0), .val (.int i1), .val (.int i2), .val (.int i3), .val (.int i4), .val (.int i5), .val (.int (3 : Int32)), .val (.int za), .val (.ref ca), .unset, .unset, .unset] [(.ref cb), (.ref cb), (.ref st), (.ref st)]))
    refine own_go (fun tQ kQ => XS.iconst X58.here hx rfl (hb hby at_146) kQ) ?_
    show own_End p e below _ (T58.setTop (mkF m 147 #[.val (.int i0), .val (.int i1), .val (.int i2), .val (.int i3), .val (.int i4), .val (.int i5), .val (.int (3 : Int32)), .val (.int za), .val (.ref ca), .unset, .unset, .unset] [(.int (1 : Int32)), (.ref cb), (.ref cb), (.ref st), (.ref st)]))
    refine own_go (fun tQ kQ => XS.aload X58.here hx rfl (hb hby at_147) rfl rfl kQ) ?_
    show own_End p e below _ (T58.setTop (mkF m 149 #[.val (.int i0), .val (.int i1), .val (.int i2), .val (.int i3), .val (.int i4), .val (.int i5), .val (.int (3 : Int32)), .val (.int za), .val (.ref ca), .unset, .unset, .unset] [(.ref ca), (.int (1 : Int32)), (.ref cb), (.ref cb), (.ref st), (.ref st)]))
    refine own_go (fun tQ kQ => XS.iconst X58.here hx rfl (hb hby at_149) kQ) ?_
    show own_End p e below _ (T58.setTop (mkF m 150 #[.val (.int i0), .val (.int i1), .val (.int i2), .val (.int i3), .val (.int i4), .val (.int i5), .val (.int (3 : Int32)), .val (.int za), .val (.ref ca), .unset, .unset, .unset] [(.int (1 : Int32)), (.ref ca), (.int (1 : Int32)), (.ref cb), (.ref cb), (.ref st), (.ref st)]))
    obtain ⟨cl59, Ar59, S59, M59, H59⟩ := id V_ca
    have hin59 := inb_of (j := (1 : Int32)) S59 ⟨(by decide), (by decide)⟩
    refine own_go (fun tQ kQ => X58.caload hx (j := (1 : Int32)) (v := (.int (cf 1))) (by rw [e58]; exact Ar59.1) (State.isArrayOf_alike hZ.alike Ar59.2.1) Ar59.2.2 hin59 (H59 _ (own_in S59 hin59)) (g := (mkF m 150 #[.val (.int i0), .val (.int i1), .val (.int i2), .val (.int i3), .val (.int i4), .val (.int i5), .val (.int (3 : Int32)), .val (.int za), .val (.ref ca), .unset, .unset, .unset] [(.int (1 : Int32)), (.ref ca), (.int (1 : Int32)), (.ref cb), (.ref cb), (.ref st), (.ref st)])) rfl rfl (hb hby at_150) _ kQ) ?_
    show own_End p e below _ (T58.setTop (mkF m 151 #[.val (.int i0), .val (.int i1), .val (.int i2), .val (.int i3), .val (.int i4), .val (.int i5), .val (.int (3 : Int32)), .val (.int za), .val (.ref ca), .unset, .unset, .unset] [(.int (cf 1)), (.int (1 : Int32)), (.ref cb), (.ref cb), (.ref st), (.ref st)]))
    obtain ⟨cl60, Ar60, S60, M60, H60⟩ := id V_cb
    have hin60 := inb_of (j := (1 : Int32)) S60 ⟨(by decide), (by decide)⟩
    obtain ⟨T61, h61, X61, e61, W61, st61⟩ := stC X58 hx hZ e58 Ar60 (j := (1 : Int32)) hin60 (g := (mkF m 151 #[.val (.int i0), .val (.int i1), .val (.int i2), .val (.int i3), .val (.int i4), .val (.int i5), .val (.int (3 : Int32)), .val (.int za), .val (.ref ca), .unset, .unset, .unset] [(.int (cf 1)), (.int (1 : Int32)), (.ref cb), (.ref cb), (.ref st), (.ref st)])) rfl rfl (hb hby at_151)
    have V_cb := own_Ar_set Ar60 S60 M60 H60 W61
    have Ol := Ol.wr W61 g_cb
    have V_ca := V_ca.other W61 ne_ca_cb
    have E_st := E_st.wr W61
    have F_coder_st := F_coder_st.other W61 (Or.inl ne_st_cb)
    have F_value_st := F_value_st.other W61 (Or.inl ne_st_cb)
    have Kp := Kp.wr W61 (Or.inr sz_cb)
    have Nf := Fr.snoc X61 Nf g_cb
    have Zs := Nat.le_trans Zs (Keep.of_wr W61).1
    have szr := Nat.le_trans szr (Keep.of_wr W61).1
    have hkW := Nat.le_trans hkW (Keep.of_wr W61).1
    refine own_go (fun tQ kQ => st61 tQ kQ) ?_
    show own_End p e below _ (T61.setTop (mkF m 152 #[.val (.int i0), .val (.int i1), .val (.int i2), .val (.int i3), .val (.int i4), .val (.int i5), .val (.int (3 : Int32)), .val (.int za), .val (.ref ca), .unset, .unset, .unset] [(.ref cb), (.ref st), (.ref st)]))
    refine own_go (fun tQ kQ => XS.dup X61.here hx rfl (hb hby at_152) rfl rfl kQ) ?_
    show own_End p e below _ (T61.setTop (mkF m 153 #[.val (.int i0), .val (.int i1), .val (.int i2), .val (.int i3), .val (.int i4), .val (.int i5), .val (.int (3 : Int32)), .val (.int za), .val (.ref ca), .unset, .unset, .unset] [(.ref cb), (.ref cb), (.ref st), (.ref st)]))
    refine own_go (fun tQ kQ => XS.iconst X61.here hx rfl (hb hby at_153) kQ) ?_
    show own_End p e below _ (T61.setTop (mkF m 154 #[.val (.int i0), .val (.int i1), .val (.int i2), .val (.int i3), .val (.int i4), .val (.int i5), .val (.int (3 : Int32)), .val (.int za), .val (.ref ca), .unset, .unset, .unset] [(.int (2 : Int32)), (.ref cb), (.ref cb), (.ref st), (.ref st)]))
    refine own_go (fun tQ kQ => XS.aload X61.here hx rfl (hb hby at_154) rfl rfl kQ) ?_
    show own_End p e below _ (T61.setTop (mkF m 156 #[.val (.int i0), .val (.int i1), .val (.int i2), .val (.int i3), .val (.int i4), .val (.int i5), .val (.int (3 : Int32)), .val (.int za), .val (.ref ca), .unset, .unset, .unset] [(.ref ca), (.int (2 : Int32)), (.ref cb), (.ref cb), (.ref st), (.ref st)]))
    refine own_go (fun tQ kQ => XS.iconst X61.here hx rfl (hb hby at_156) kQ) ?_
    show own_End p e below _ (T61.setTop (mkF m 157 #[.val (.int i0), .val (.int i1), .val (.int i2), .val (.int i3), .val (.int i4), .val (.int i5), .val (.int (3 : Int32)), .val (.int za), .val (.ref ca), .unset, .unset, .unset] [(.int (2 : Int32)), (.ref ca), (.int (2 : Int32)), (.ref cb), (.ref cb), (.ref st), (.ref st)]))
    obtain ⟨cl62, Ar62, S62, M62, H62⟩ := id V_ca
    have hin62 := inb_of (j := (2 : Int32)) S62 ⟨(by decide), (by decide)⟩
    refine own_go (fun tQ kQ => X61.caload hx (j := (2 : Int32)) (v := (.int (cf 2))) (by rw [e61]; exact Ar62.1) (State.isArrayOf_alike hZ.alike Ar62.2.1) Ar62.2.2 hin62 (H62 _ (own_in S62 hin62)) (g := (mkF m 157 #[.val (.int i0), .val (.int i1), .val (.int i2), .val (.int i3), .val (.int i4), .val (.int i5), .val (.int (3 : Int32)), .val (.int za), .val (.ref ca), .unset, .unset, .unset] [(.int (2 : Int32)), (.ref ca), (.int (2 : Int32)), (.ref cb), (.ref cb), (.ref st), (.ref st)])) rfl rfl (hb hby at_157) _ kQ) ?_
    show own_End p e below _ (T61.setTop (mkF m 158 #[.val (.int i0), .val (.int i1), .val (.int i2), .val (.int i3), .val (.int i4), .val (.int i5), .val (.int (3 : Int32)), .val (.int za), .val (.ref ca), .unset, .unset, .unset] [(.int (cf 2)), (.int (2 : Int32)), (.ref cb), (.ref cb), (.ref st), (.ref st)]))
    obtain ⟨cl63, Ar63, S63, M63, H63⟩ := id V_cb
    have hin63 := inb_of (j := (2 : Int32)) S63 ⟨(by decide), (by decide)⟩
    obtain ⟨T64, h64, X64, e64, W64, st64⟩ := stC X61 hx hZ e61 Ar63 (j := (2 : Int32)) hin63 (g := (mkF m 158 #[.val (.int i0), .val (.int i1), .val (.int i2), .val (.int i3), .val (.int i4), .val (.int i5), .val (.int (3 : Int32)), .val (.int za), .val (.ref ca), .unset, .unset, .unset] [(.int (cf 2)), (.int (2 : Int32)), (.ref cb), (.ref cb), (.ref st), (.ref st)])) rfl rfl (hb hby at_158)
    have V_cb := own_Ar_set Ar63 S63 M63 H63 W64
    have Ol := Ol.wr W64 g_cb
    have V_ca := V_ca.other W64 ne_ca_cb
    have E_st := E_st.wr W64
    have F_coder_st := F_coder_st.other W64 (Or.inl ne_st_cb)
    have F_value_st := F_value_st.other W64 (Or.inl ne_st_cb)
    have Kp := Kp.wr W64 (Or.inr sz_cb)
    have Nf := Fr.snoc X64 Nf g_cb
    have Zs := Nat.le_trans Zs (Keep.of_wr W64).1
    have szr := Nat.le_trans szr (Keep.of_wr W64).1
    have hkW := Nat.le_trans hkW (Keep.of_wr W64).1
    refine own_go (fun tQ kQ => st64 tQ kQ) ?_
    show own_End p e below _ (T64.setTop (mkF m 159 #[.val (.int i0), .val (.int i1), .val (.int i2), .val (.int i3), .val (.int i4), .val (.int i5), .val (.int (3 : Int32)), .val (.int za), .val (.ref ca), .unset, .unset, .unset] [(.ref cb), (.ref st), (.ref st)]))
    obtain ⟨kcb, V_cb⟩ := V_cb.arv (vs := ([cf 0, cf 1, cf 2] : List Int32).map Value.int) (d := .int (0 : Int32)) (fun j hj => by
      have hj' : j < 3 := hj
      have hj2 : j = 0 ∨ j = 1 ∨ j = 2 := by omega
      rcases hj2 with rfl | rfl | rfl
      · exact congrArg Value.int (own_c_nar (hcb 0))
      · exact congrArg Value.int (own_c_nar (hcb 1))
      · exact congrArg Value.int (own_c_nar (hcb 2))) (fun j hj => by
      have hj' : j < 3 := hj
      have hj2 : j = 0 ∨ j = 1 ∨ j = 2 := by omega
      rcases hj2 with rfl | rfl | rfl
      · exact own_fit (hcb 0)
      · exact own_fit (hcb 1)
      · exact own_fit (hcb 2))
    have hcc : ∀ c ∈ ([cf 0, cf 1, cf 2] : List Int32), own_c c := by
      intro c hc
      simp only [List.mem_cons, List.not_mem_nil, or_false] at hc
      rcases hc with rfl | rfl | rfl
      · exact hcb 0
      · exact hcb 1
      · exact hcb 2
    obtain ⟨_, _, ⟨T65, L65, k65, n65⟩, -, X65, ⟨Lc65, hQ65, l65, y65, z65⟩, st65⟩ := X64.specialBack hx (y := (⟨"java/lang/String", "<init>", "([C)V"⟩ : MethodName)) rfl hown (mvT hZ (hw _ (List.mem_of_getElem? (i := 9) rfl))) (mvT hZ (hw _ (List.mem_of_getElem? (i := 10) rfl))) (mvT hZ (hw _ (List.mem_of_getElem? (i := 11) rfl))) (by decide) (StrChars.Road.backV (W := 1) hZ hws (kI := 4) (hw _ (List.mem_of_getElem? (i := 7) rfl)) (cs := ([cf 0, cf 1, cf 2] : List Int32)) (bs := ([cf 0, cf 1, cf 2] : List Int32).map (fun c => c.toInt8.toInt32)) (n := 3) g_st Zs E_st F_value_st F_coder_st V_cb (S_cs.ext Ol.2) hcz rfl rfl (by decide) (by decide) hcc rfl (by decide) (by decide)) (g := (mkF m 159 #[.val (.int i0), .val (.int i1), .val (.int i2), .val (.int i3), .val (.int i4), .val (.int i5), .val (.int (3 : Int32)), .val (.int za), .val (.ref ca), .unset, .unset, .unset] [(.ref cb), (.ref st), (.ref st)])) rfl (by rw [hml]; rfl) (Steps.refl _) (a := st) (argsL := [(.ref cb)]) (rest := [(.ref st)]) (lenOf pd_24 rfl) rfl (by show 2 * 0 + _ ≤ _; exact Nat.le_of_eq rfl) (hb hby at_159) (fun _ _ => ⟨rfl, e64, (Nat.le_of_ble_eq_true rfl), (Nat.le_of_ble_eq_true rfl)⟩)
    dsimp only [Pt.U, Pt.locs, Pt.cells, Pt.slots] at X65 l65 y65 z65 st65 hQ65
    subst l65 y65 z65
    obtain ⟨rfl, N65q, K65, -, F_coder_st, tt, kb, -, hb65, -, F_value_st, Kv⟩ := hQ65
    have Nf := Fr.app Nf N65q
    have ne_ca_tt : ca ≠ tt := Nat.ne_of_lt (Nat.lt_of_lt_of_le V_ca.lt hb65)
    have ne_st_tt : st ≠ tt := Nat.ne_of_lt (Nat.lt_of_lt_of_le E_st.lt hb65)
    have ne_cb_tt : cb ≠ tt := Nat.ne_of_lt (Nat.lt_of_lt_of_le V_cb.lt hb65)
    have g_tt : n0 ≤ tt := Nat.le_trans Zs hb65
    have sz_tt : h0.size ≤ tt := Nat.le_trans szr hb65
    have Ol := Ol.keep K65 (allS g_st all0)
    have V_ca := V_ca.keep K65 (ninS ne_ca_st nin0)
    have E_st := E_st.keep K65
    have V_cb := V_cb.keep K65 (ninS (Ne.symm ne_st_cb) nin0)
    have Kp := Kp.trans K65 (allS (Or.inr sz_st) all0)
    have Zs := Nat.le_trans Zs K65.1
    have szr := Nat.le_trans szr K65.1
    have hkW := Nat.le_trans hkW K65.1
    refine own_go (fun tQ kQ => st65.trans kQ) ?_
    show own_End p e below _ (T65.setTop (mkF m 162 #[.val (.int i0), .val (.int i1), .val (.int i2), .val (.int i3), .val (.int i4), .val (.int i5), .val (.int (3 : Int32)), .val (.int za), .val (.ref ca), .unset, .unset, .unset] [(.ref st)]))
    have V_tt : own_Ar Z T65.heap tt .byte (3 : Int32) (fun j => .int ((fun j => (cf j).toInt8.toInt32) j)) := (own_Ar.of_arv Kv).turn (fun j hj => by
      have hj' : j < 3 := hj
      have hj2 : j = 0 ∨ j = 1 ∨ j = 2 := by omega
      rcases hj2 with rfl | rfl | rfl <;> rfl)
    refine own_go (fun tQ kQ => XS.astore X65.here hx rfl (hb hby at_162) rfl rfl (l' := #[.val (.int i0), .val (.int i1), .val (.int i2), .val (.int i3), .val (.int i4), .val (.int i5), .val (.int (3 : Int32)), .val (.int za), .val (.ref ca), .val (.ref st), .unset, .unset]) rfl kQ) ?_
    show own_End p e below _ (T65.setTop (mkF m 164 #[.val (.int i0), .val (.int i1), .val (.int i2), .val (.int i3), .val (.int i4), .val (.int i5), .val (.int (3 : Int32)), .val (.int za), .val (.ref ca), .val (.ref st), .unset, .unset] []))
    refine own_go (fun tQ kQ => XS.goto X65.here hx rfl (pc0 := 164) (pc' := 207) rfl (hb hby at_164) (by decide) (by decide) kQ) ?_
    show own_End p e below _ (T65.setTop (mkF m 207 #[.val (.int i0), .val (.int i1), .val (.int i2), .val (.int i3), .val (.int i4), .val (.int i5), .val (.int (3 : Int32)), .val (.int za), .val (.ref ca), .val (.ref st), .unset, .unset] []))
    have Xp := own_pad (k' := 4) (n' := 16) X65 (by decide) (by decide)
    exact J207 st tt T65 _ T65.heap _ _ Xp rfl Nf Zs Kp szr hS hkW hZ hown E_st F_value_st F_coder_st V_tt V_ca Ol rfl
  ·
    show own_End p e below _ (T15.setTop (mkF m 62 #[.val (.int i0), .val (.int i1), .val (.int i2), .val (.int i3), .val (.int i4), .val (.int i5), .val (.int (4 : Int32)), .val (.int za), .val (.ref ca), .unset, .unset, .unset] []))
    refine own_go (fun tQ kQ => XS.iload X15.here hx rfl (hb hby at_62) rfl kQ) ?_
    show own_End p e below _ (T15.setTop (mkF m 64 #[.val (.int i0), .val (.int i1), .val (.int i2), .val (.int i3), .val (.int i4), .val (.int i5), .val (.int (4 : Int32)), .val (.int za), .val (.ref ca), .unset, .unset, .unset] [(.int (4 : Int32))]))
    refine own_go (fun tQ kQ => XS.iconst X15.here hx rfl (hb hby at_64) kQ) ?_
    show own_End p e below _ (T15.setTop (mkF m 65 #[.val (.int i0), .val (.int i1), .val (.int i2), .val (.int i3), .val (.int i4), .val (.int i5), .val (.int (4 : Int32)), .val (.int za), .val (.ref ca), .unset, .unset, .unset] [(.int (1 : Int32)), (.int (4 : Int32))]))
    refine own_go (fun tQ kQ => XS.icmpYes X15.here hx rfl (pc0 := 65) (pc' := 90) rfl (hb hby at_65) rfl (feq (by decide)).2 (by decide) (by decide) kQ) ?_
    show own_End p e below _ (T15.setTop (mkF m 90 #[.val (.int i0), .val (.int i1), .val (.int i2), .val (.int i3), .val (.int i4), .val (.int i5), .val (.int (4 : Int32)), .val (.int za), .val (.ref ca), .unset, .unset, .unset] []))
    refine own_go (fun tQ kQ => XS.iload X15.here hx rfl (hb hby at_90) rfl kQ) ?_
    show own_End p e below _ (T15.setTop (mkF m 92 #[.val (.int i0), .val (.int i1), .val (.int i2), .val (.int i3), .val (.int i4), .val (.int i5), .val (.int (4 : Int32)), .val (.int za), .val (.ref ca), .unset, .unset, .unset] [(.int (4 : Int32))]))
    refine own_go (fun tQ kQ => XS.iconst X15.here hx rfl (hb hby at_92) kQ) ?_
    show own_End p e below _ (T15.setTop (mkF m 93 #[.val (.int i0), .val (.int i1), .val (.int i2), .val (.int i3), .val (.int i4), .val (.int i5), .val (.int (4 : Int32)), .val (.int za), .val (.ref ca), .unset, .unset, .unset] [(.int (2 : Int32)), (.int (4 : Int32))]))
    refine own_go (fun tQ kQ => XS.icmpYes X15.here hx rfl (pc0 := 93) (pc' := 125) rfl (hb hby at_93) rfl (feq (by decide)).2 (by decide) (by decide) kQ) ?_
    show own_End p e below _ (T15.setTop (mkF m 125 #[.val (.int i0), .val (.int i1), .val (.int i2), .val (.int i3), .val (.int i4), .val (.int i5), .val (.int (4 : Int32)), .val (.int za), .val (.ref ca), .unset, .unset, .unset] []))
    refine own_go (fun tQ kQ => XS.iload X15.here hx rfl (hb hby at_125) rfl kQ) ?_
    show own_End p e below _ (T15.setTop (mkF m 127 #[.val (.int i0), .val (.int i1), .val (.int i2), .val (.int i3), .val (.int i4), .val (.int i5), .val (.int (4 : Int32)), .val (.int za), .val (.ref ca), .unset, .unset, .unset] [(.int (4 : Int32))]))
    refine own_go (fun tQ kQ => XS.iconst X15.here hx rfl (hb hby at_127) kQ) ?_
    show own_End p e below _ (T15.setTop (mkF m 128 #[.val (.int i0), .val (.int i1), .val (.int i2), .val (.int i3), .val (.int i4), .val (.int i5), .val (.int (4 : Int32)), .val (.int za), .val (.ref ca), .unset, .unset, .unset] [(.int (3 : Int32)), (.int (4 : Int32))]))
    refine own_go (fun tQ kQ => XS.icmpYes X15.here hx rfl (pc0 := 128) (pc' := 167) rfl (hb hby at_128) rfl (feq (by decide)).2 (by decide) (by decide) kQ) ?_
    show own_End p e below _ (T15.setTop (mkF m 167 #[.val (.int i0), .val (.int i1), .val (.int i2), .val (.int i3), .val (.int i4), .val (.int i5), .val (.int (4 : Int32)), .val (.int za), .val (.ref ca), .unset, .unset, .unset] []))
    obtain ⟨T66, h66, X66, e66, E66, A66, D66, -, st66⟩ := newO X15 hx hZ hown (hw _ (List.mem_of_getElem? (i := 6) rfl)) (hw _ (List.mem_of_getElem? (i := 7) rfl)) (hw _ (List.mem_of_getElem? (i := 8) rfl)) e15 (g := (mkF m 167 #[.val (.int i0), .val (.int i1), .val (.int i2), .val (.int i3), .val (.int i4), .val (.int i5), .val (.int (4 : Int32)), .val (.int za), .val (.ref ca), .unset, .unset, .unset] [])) rfl (hb hby at_167) (by decide) (by decide)
    obtain ⟨st, g66⟩ : ∃ z, z = h15.size := ⟨_, rfl⟩
    rw [← g66] at A66 D66 st66
    have ne_ca_st : ca ≠ st := Nat.ne_of_lt (Nat.lt_of_lt_of_le V_ca.lt (Nat.le_of_eq g66.symm))
    have g_st : n0 ≤ st := Nat.le_trans Zs (Nat.le_of_eq g66.symm)
    have sz_st : h0.size ≤ st := Nat.le_trans szr (Nat.le_of_eq g66.symm)
    have Ol := Ol.ext E66
    have V_ca := V_ca.ext E66
    have Kp := Kp.ext E66
    have Zs := Nat.le_trans Zs E66.1
    have szr := Nat.le_trans szr E66.1
    have hkW := Nat.le_trans hkW E66.1
    have E_st := A66
    have F_coder_st : Fld Z h66 st "java/lang/String" "coder" "B" (.int (0 : Int32)) := D66 (Or.inr (hw _ (List.mem_of_getElem? (i := 32) rfl))) (ty := .byte) (by decide)
    have F_value_st : Fld Z h66 st "java/lang/String" "value" "[B" .null := D66 (Or.inr (hw _ (List.mem_of_getElem? (i := 34) rfl))) (ty := (.array .byte)) (by decide)
    refine own_go (fun tQ kQ => st66 tQ kQ) ?_
    show own_End p e below _ (T66.setTop (mkF m 170 #[.val (.int i0), .val (.int i1), .val (.int i2), .val (.int i3), .val (.int i4), .val (.int i5), .val (.int (4 : Int32)), .val (.int za), .val (.ref ca), .unset, .unset, .unset] [(.ref st)]))
    refine own_go (fun tQ kQ => XS.dup X66.here hx rfl (hb hby at_170) rfl rfl kQ) ?_
    show own_End p e below _ (T66.setTop (mkF m 171 #[.val (.int i0), .val (.int i1), .val (.int i2), .val (.int i3), .val (.int i4), .val (.int i5), .val (.int (4 : Int32)), .val (.int za), .val (.ref ca), .unset, .unset, .unset] [(.ref st), (.ref st)]))
    refine own_go (fun tQ kQ => XS.iconst X66.here hx rfl (hb hby at_171) kQ) ?_
    show own_End p e below _ (T66.setTop (mkF m 172 #[.val (.int i0), .val (.int i1), .val (.int i2), .val (.int i3), .val (.int i4), .val (.int i5), .val (.int (4 : Int32)), .val (.int za), .val (.ref ca), .unset, .unset, .unset] [(.int (4 : Int32)), (.ref st), (.ref st)]))
    obtain ⟨T67, h67, k67, X67, e67, E67, A67, st67⟩ := newP X66 hx hZ (hw _ (List.mem_of_getElem? (i := 1) rfl)) e66 (g := (mkF m 172 #[.val (.int i0), .val (.int i1), .val (.int i2), .val (.int i3), .val (.int i4), .val (.int i5), .val (.int (4 : Int32)), .val (.int za), .val (.ref ca), .unset, .unset, .unset] [(.int (4 : Int32)), (.ref st), (.ref st)])) rfl (hb hby at_172) rfl (by decide) (cap := 4) (by decide) (by decide) (by decide) (by decide)
    obtain ⟨cb, g67⟩ : ∃ z, z = h66.size := ⟨_, rfl⟩
    rw [← g67] at A67 st67
    have ne_ca_cb : ca ≠ cb := Nat.ne_of_lt (Nat.lt_of_lt_of_le V_ca.lt (Nat.le_of_eq g67.symm))
    have ne_st_cb : st ≠ cb := Nat.ne_of_lt (Nat.lt_of_lt_of_le E_st.lt (Nat.le_of_eq g67.symm))
    have g_cb : n0 ≤ cb := Nat.le_trans Zs (Nat.le_of_eq g67.symm)
    have sz_cb : h0.size ≤ cb := Nat.le_trans szr (Nat.le_of_eq g67.symm)
    have Ol := Ol.ext E67
    have V_ca := V_ca.ext E67
    have E_st := E_st.ext E67
    have F_coder_st := F_coder_st.ext E67
    have F_value_st := F_value_st.ext E67
    have Kp := Kp.ext E67
    have Zs := Nat.le_trans Zs E67.1
    have szr := Nat.le_trans szr E67.1
    have hkW := Nat.le_trans hkW E67.1
    have V_cb : own_Ar Z h67 cb .char (4 : Int32) (fun _ => (.int (0 : Int32))) := own_Ar.new A67 (by decide)
    refine own_go (fun tQ kQ => st67 tQ kQ) ?_
    show own_End p e below _ (T67.setTop (mkF m 174 #[.val (.int i0), .val (.int i1), .val (.int i2), .val (.int i3), .val (.int i4), .val (.int i5), .val (.int (4 : Int32)), .val (.int za), .val (.ref ca), .unset, .unset, .unset] [(.ref cb), (.ref st), (.ref st)]))
    refine own_go (fun tQ kQ => XS.dup X67.here hx rfl (hb hby at_174) rfl rfl kQ) ?_
    show own_End p e below _ (T67.setTop (mkF m 175 #[.val (.int i0), .val (.int i1), .val (.int i2), .val (.int i3), .val (.int i4), .val (.int i5), .val (.int (4 : Int32)), .val (.int za), .val (.ref ca), .unset, .unset, .unset] [(.ref cb), (.ref cb), (.ref st), (.ref st)]))
    refine own_go (fun tQ kQ => XS.iconst X67.here hx rfl (hb hby at_175) kQ) ?_
    show own_End p e below _ (T67.setTop (mkF m 176 #[.val (.int i0), .val (.int i1), .val (.int i2), .val (.int i3), .val (.int i4), .val (.int i5), .val (.int (4 : Int32)), .val (.int za), .val (.ref ca), .unset, .unset, .unset] [(.int (0 : Int32)), (.ref cb), (.ref cb), (.ref st), (.ref st)]))
    refine own_go (fun tQ kQ => XS.aload X67.here hx rfl (hb hby at_176) rfl rfl kQ) ?_
    show own_End p e below _ (T67.setTop (mkF m 178 #[.val (.int i0), .val (.int i1), .val (.int i2), .val (.int i3), .val (.int i4), .val (.int i5), .val (.int (4 : Int32)), .val (.int za), .val (.ref ca), .unset, .unset, .unset] [(.ref ca), (.int (0 : Int32)), (.ref cb), (.ref cb), (.ref st), (.ref st)]))
    refine own_go (fun tQ kQ => XS.iconst X67.here hx rfl (hb hby at_178) kQ) ?_
    show own_End p e below _ (T67.setTop (mkF m 179 #[.val (.int i0), .val (.int i1), .val (.int i2), .val (.int i3), .val (.int i4), .val (.int i5), .val (.int (4 : Int32)), .val (.int za), .val (.ref ca), .unset, .unset, .unset] [(.int (0 : Int32)), (.ref ca), (.int (0 : Int32)), (.ref cb), (.ref cb), (.ref st), (.ref st)]))
    obtain ⟨cl68, Ar68, S68, M68, H68⟩ := id V_ca
    have hin68 := inb_of (j := (0 : Int32)) S68 ⟨(by decide), (by decide)⟩
    refine own_go (fun tQ kQ => X67.caload hx (j := (0 : Int32)) (v := (.int (cf 0))) (by rw [e67]; exact Ar68.1) (State.isArrayOf_alike hZ.alike Ar68.2.1) Ar68.2.2 hin68 (H68 _ (own_in S68 hin68)) (g := (mkF m 179 #[.val (.int i0), .val (.int i1), .val (.int i2), .val (.int i3), .val (.int i4), .val (.int i5), .val (.int (4 : Int32)), .val (.int za), .val (.ref ca), .unset, .unset, .unset] [(.int (0 : Int32)), (.ref ca), (.int (0 : Int32)), (.ref cb), (.ref cb), (.ref st), (.ref st)])) rfl rfl (hb hby at_179) _ kQ) ?_
    show own_End p e below _ (T67.setTop (mkF m 180 #[.val (.int i0), .val (.int i1), .val (.int i2), .val (.int i3), .val (.int i4), .val (.int i5), .val (.int (4 : Int32)), .val (.int za), .val (.ref ca), .unset, .unset, .unset] [(.int (cf 0)), (.int (0 : Int32)), (.ref cb), (.ref cb), (.ref st), (.ref st)]))
    obtain ⟨cl69, Ar69, S69, M69, H69⟩ := id V_cb
    have hin69 := inb_of (j := (0 : Int32)) S69 ⟨(by decide), (by decide)⟩
    obtain ⟨T70, h70, X70, e70, W70, st70⟩ := stC X67 hx hZ e67 Ar69 (j := (0 : Int32)) hin69 (g := (mkF m 180 #[.val (.int i0), .val (.int i1), .val (.int i2), .val (.int i3), .val (.int i4), .val (.int i5), .val (.int (4 : Int32)), .val (.int za), .val (.ref ca), .unset, .unset, .unset] [(.int (cf 0)), (.int (0 : Int32)), (.ref cb), (.ref cb), (.ref st), (.ref st)])) rfl rfl (hb hby at_180)
    have V_cb := own_Ar_set Ar69 S69 M69 H69 W70
    have Ol := Ol.wr W70 g_cb
    have V_ca := V_ca.other W70 ne_ca_cb
    have E_st := E_st.wr W70
    have F_coder_st := F_coder_st.other W70 (Or.inl ne_st_cb)
    have F_value_st := F_value_st.other W70 (Or.inl ne_st_cb)
    have Kp := Kp.wr W70 (Or.inr sz_cb)
    have Nf := Fr.snoc X70 Nf g_cb
    have Zs := Nat.le_trans Zs (Keep.of_wr W70).1
    have szr := Nat.le_trans szr (Keep.of_wr W70).1
    have hkW := Nat.le_trans hkW (Keep.of_wr W70).1
    refine own_go (fun tQ kQ => st70 tQ kQ) ?_
    show own_End p e below _ (T70.setTop (mkF m 181 #[.val (.int i0), .val (.int i1), .val (.int i2), .val (.int i3), .val (.int i4), .val (.int i5), .val (.int (4 : Int32)), .val (.int za), .val (.ref ca), .unset, .unset, .unset] [(.ref cb), (.ref st), (.ref st)]))
    refine own_go (fun tQ kQ => XS.dup X70.here hx rfl (hb hby at_181) rfl rfl kQ) ?_
    show own_End p e below _ (T70.setTop (mkF m 182 #[.val (.int i0), .val (.int i1), .val (.int i2), .val (.int i3), .val (.int i4), .val (.int i5), .val (.int (4 : Int32)), .val (.int za), .val (.ref ca), .unset, .unset, .unset] [(.ref cb), (.ref cb), (.ref st), (.ref st)]))
    refine own_go (fun tQ kQ => XS.iconst X70.here hx rfl (hb hby at_182) kQ) ?_
    show own_End p e below _ (T70.setTop (mkF m 183 #[.val (.int i0), .val (.int i1), .val (.int i2), .val (.int i3), .val (.int i4), .val (.int i5), .val (.int (4 : Int32)), .val (.int za), .val (.ref ca), .unset, .unset, .unset] [(.int (1 : Int32)), (.ref cb), (.ref cb), (.ref st), (.ref st)]))
    refine own_go (fun tQ kQ => XS.aload X70.here hx rfl (hb hby at_183) rfl rfl kQ) ?_
    show own_End p e below _ (T70.setTop (mkF m 185 #[.val (.int i0), .val (.int i1), .val (.int i2), .val (.int i3), .val (.int i4), .val (.int i5), .val (.int (4 : Int32)), .val (.int za), .val (.ref ca), .unset, .unset, .unset] [(.ref ca), (.int (1 : Int32)), (.ref cb), (.ref cb), (.ref st), (.ref st)]))
    refine own_go (fun tQ kQ => XS.iconst X70.here hx rfl (hb hby at_185) kQ) ?_
    show own_End p e below _ (T70.setTop (mkF m 186 #[.val (.int i0), .val (.int i1), .val (.int i2), .val (.int i3), .val (.int i4), .val (.int i5), .val (.int (4 : Int32)), .val (.int za), .val (.ref ca), .unset, .unset, .unset] [(.int (1 : Int32)), (.ref ca), (.int (1 : Int32)), (.ref cb), (.ref cb), (.ref st), (.ref st)]))
    obtain ⟨cl71, Ar71, S71, M71, H71⟩ := id V_ca
    have hin71 := inb_of (j := (1 : Int32)) S71 ⟨(by decide), (by decide)⟩
    refine own_go (fun tQ kQ => X70.caload hx (j := (1 : Int32)) (v := (.int (cf 1))) (by rw [e70]; exact Ar71.1) (State.isArrayOf_alike hZ.alike Ar71.2.1) Ar71.2.2 hin71 (H71 _ (own_in S71 hin71)) (g := (mkF m 186 #[.val (.int i0), .val (.int i1), .val (.int i2), .val (.int i3), .val (.int i4), .val (.int i5), .val (.int (4 : Int32)), .val (.int za), .val (.ref ca), .unset, .unset, .unset] [(.int (1 : Int32)), (.ref ca), (.int (1 : Int32)), (.ref cb), (.ref cb), (.ref st), (.ref st)])) rfl rfl (hb hby at_186) _ kQ) ?_
    show own_End p e below _ (T70.setTop (mkF m 187 #[.val (.int i0), .val (.int i1), .val (.int i2), .val (.int i3), .val (.int i4), .val (.int i5), .val (.int (4 : Int32)), .val (.int za), .val (.ref ca), .unset, .unset, .unset] [(.int (cf 1)), (.int (1 : Int32)), (.ref cb), (.ref cb), (.ref st), (.ref st)]))
    obtain ⟨cl72, Ar72, S72, M72, H72⟩ := id V_cb
    have hin72 := inb_of (j := (1 : Int32)) S72 ⟨(by decide), (by decide)⟩
    obtain ⟨T73, h73, X73, e73, W73, st73⟩ := stC X70 hx hZ e70 Ar72 (j := (1 : Int32)) hin72 (g := (mkF m 187 #[.val (.int i0), .val (.int i1), .val (.int i2), .val (.int i3), .val (.int i4), .val (.int i5), .val (.int (4 : Int32)), .val (.int za), .val (.ref ca), .unset, .unset, .unset] [(.int (cf 1)), (.int (1 : Int32)), (.ref cb), (.ref cb), (.ref st), (.ref st)])) rfl rfl (hb hby at_187)
    have V_cb := own_Ar_set Ar72 S72 M72 H72 W73
    have Ol := Ol.wr W73 g_cb
    have V_ca := V_ca.other W73 ne_ca_cb
    have E_st := E_st.wr W73
    have F_coder_st := F_coder_st.other W73 (Or.inl ne_st_cb)
    have F_value_st := F_value_st.other W73 (Or.inl ne_st_cb)
    have Kp := Kp.wr W73 (Or.inr sz_cb)
    have Nf := Fr.snoc X73 Nf g_cb
    have Zs := Nat.le_trans Zs (Keep.of_wr W73).1
    have szr := Nat.le_trans szr (Keep.of_wr W73).1
    have hkW := Nat.le_trans hkW (Keep.of_wr W73).1
    refine own_go (fun tQ kQ => st73 tQ kQ) ?_
    show own_End p e below _ (T73.setTop (mkF m 188 #[.val (.int i0), .val (.int i1), .val (.int i2), .val (.int i3), .val (.int i4), .val (.int i5), .val (.int (4 : Int32)), .val (.int za), .val (.ref ca), .unset, .unset, .unset] [(.ref cb), (.ref st), (.ref st)]))
    refine own_go (fun tQ kQ => XS.dup X73.here hx rfl (hb hby at_188) rfl rfl kQ) ?_
    show own_End p e below _ (T73.setTop (mkF m 189 #[.val (.int i0), .val (.int i1), .val (.int i2), .val (.int i3), .val (.int i4), .val (.int i5), .val (.int (4 : Int32)), .val (.int za), .val (.ref ca), .unset, .unset, .unset] [(.ref cb), (.ref cb), (.ref st), (.ref st)]))
    refine own_go (fun tQ kQ => XS.iconst X73.here hx rfl (hb hby at_189) kQ) ?_
    show own_End p e below _ (T73.setTop (mkF m 190 #[.val (.int i0), .val (.int i1), .val (.int i2), .val (.int i3), .val (.int i4), .val (.int i5), .val (.int (4 : Int32)), .val (.int za), .val (.ref ca), .unset, .unset, .unset] [(.int (2 : Int32)), (.ref cb), (.ref cb), (.ref st), (.ref st)]))
    refine own_go (fun tQ kQ => XS.aload X73.here hx rfl (hb hby at_190) rfl rfl kQ) ?_
    show own_End p e below _ (T73.setTop (mkF m 192 #[.val (.int i0), .val (.int i1), .val (.int i2), .val (.int i3), .val (.int i4), .val (.int i5), .val (.int (4 : Int32)), .val (.int za), .val (.ref ca), .unset, .unset, .unset] [(.ref ca), (.int (2 : Int32)), (.ref cb), (.ref cb), (.ref st), (.ref st)]))
    refine own_go (fun tQ kQ => XS.iconst X73.here hx rfl (hb hby at_192) kQ) ?_
    show own_End p e below _ (T73.setTop (mkF m 193 #[.val (.int i0), .val (.int i1), .val (.int i2), .val (.int i3), .val (.int i4), .val (.int i5), .val (.int (4 : Int32)), .val (.int za), .val (.ref ca), .unset, .unset, .unset] [(.int (2 : Int32)), (.ref ca), (.int (2 : Int32)), (.ref cb), (.ref cb), (.ref st), (.ref st)]))
    obtain ⟨cl74, Ar74, S74, M74, H74⟩ := id V_ca
    have hin74 := inb_of (j := (2 : Int32)) S74 ⟨(by decide), (by decide)⟩
    refine own_go (fun tQ kQ => X73.caload hx (j := (2 : Int32)) (v := (.int (cf 2))) (by rw [e73]; exact Ar74.1) (State.isArrayOf_alike hZ.alike Ar74.2.1) Ar74.2.2 hin74 (H74 _ (own_in S74 hin74)) (g := (mkF m 193 #[.val (.int i0), .val (.int i1), .val (.int i2), .val (.int i3), .val (.int i4), .val (.int i5), .val (.int (4 : Int32)), .val (.int za), .val (.ref ca), .unset, .unset, .unset] [(.int (2 : Int32)), (.ref ca), (.int (2 : Int32)), (.ref cb), (.ref cb), (.ref st), (.ref st)])) rfl rfl (hb hby at_193) _ kQ) ?_
    show own_End p e below _ (T73.setTop (mkF m 194 #[.val (.int i0), .val (.int i1), .val (.int i2), .val (.int i3), .val (.int i4), .val (.int i5), .val (.int (4 : Int32)), .val (.int za), .val (.ref ca), .unset, .unset, .unset] [(.int (cf 2)), (.int (2 : Int32)), (.ref cb), (.ref cb), (.ref st), (.ref st)]))
    obtain ⟨cl75, Ar75, S75, M75, H75⟩ := id V_cb
    have hin75 := inb_of (j := (2 : Int32)) S75 ⟨(by decide), (by decide)⟩
    obtain ⟨T76, h76, X76, e76, W76, st76⟩ := stC X73 hx hZ e73 Ar75 (j := (2 : Int32)) hin75 (g := (mkF m 194 #[.val (.int i0), .val (.int i1), .val (.int i2), .val (.int i3), .val (.int i4), .val (.int i5), .val (.int (4 : Int32)), .val (.int za), .val (.ref ca), .unset, .unset, .unset] [(.int (cf 2)), (.int (2 : Int32)), (.ref cb), (.ref cb), (.ref st), (.ref st)])) rfl rfl (hb hby at_194)
    have V_cb := own_Ar_set Ar75 S75 M75 H75 W76
    have Ol := Ol.wr W76 g_cb
    have V_ca := V_ca.other W76 ne_ca_cb
    have E_st := E_st.wr W76
    have F_coder_st := F_coder_st.other W76 (Or.inl ne_st_cb)
    have F_value_st := F_value_st.other W76 (Or.inl ne_st_cb)
    have Kp := Kp.wr W76 (Or.inr sz_cb)
    have Nf := Fr.snoc X76 Nf g_cb
    have Zs := Nat.le_trans Zs (Keep.of_wr W76).1
    have szr := Nat.le_trans szr (Keep.of_wr W76).1
    have hkW := Nat.le_trans hkW (Keep.of_wr W76).1
    refine own_go (fun tQ kQ => st76 tQ kQ) ?_
    show own_End p e below _ (T76.setTop (mkF m 195 #[.val (.int i0), .val (.int i1), .val (.int i2), .val (.int i3), .val (.int i4), .val (.int i5), .val (.int (4 : Int32)), .val (.int za), .val (.ref ca), .unset, .unset, .unset] [(.ref cb), (.ref st), (.ref st)]))
    refine own_go (fun tQ kQ => XS.dup X76.here hx rfl (hb hby at_195) rfl rfl kQ) ?_
    show own_End p e below _ (T76.setTop (mkF m 196 #[.val (.int i0), .val (.int i1), .val (.int i2), .val (.int i3), .val (.int i4), .val (.int i5), .val (.int (4 : Int32)), .val (.int za), .val (.ref ca), .unset, .unset, .unset] [(.ref cb), (.ref cb), (.ref st), (.ref st)]))
    refine own_go (fun tQ kQ => XS.iconst X76.here hx rfl (hb hby at_196) kQ) ?_
    show own_End p e below _ (T76.setTop (mkF m 197 #[.val (.int i0), .val (.int i1), .val (.int i2), .val (.int i3), .val (.int i4), .val (.int i5), .val (.int (4 : Int32)), .val (.int za), .val (.ref ca), .unset, .unset, .unset] [(.int (3 : Int32)), (.ref cb), (.ref cb), (.ref st), (.ref st)]))
    refine own_go (fun tQ kQ => XS.aload X76.here hx rfl (hb hby at_197) rfl rfl kQ) ?_
    show own_End p e below _ (T76.setTop (mkF m 199 #[.val (.int i0), .val (.int i1), .val (.int i2), .val (.int i3), .val (.int i4), .val (.int i5), .val (.int (4 : Int32)), .val (.int za), .val (.ref ca), .unset, .unset, .unset] [(.ref ca), (.int (3 : Int32)), (.ref cb), (.ref cb), (.ref st), (.ref st)]))
    refine own_go (fun tQ kQ => XS.iconst X76.here hx rfl (hb hby at_199) kQ) ?_
    show own_End p e below _ (T76.setTop (mkF m 200 #[.val (.int i0), .val (.int i1), .val (.int i2), .val (.int i3), .val (.int i4), .val (.int i5), .val (.int (4 : Int32)), .val (.int za), .val (.ref ca), .unset, .unset, .unset] [(.int (3 : Int32)), (.ref ca), (.int (3 : Int32)), (.ref cb), (.ref cb), (.ref st), (.ref st)]))
    obtain ⟨cl77, Ar77, S77, M77, H77⟩ := id V_ca
    have hin77 := inb_of (j := (3 : Int32)) S77 ⟨(by decide), (by decide)⟩
    refine own_go (fun tQ kQ => X76.caload hx (j := (3 : Int32)) (v := (.int (cf 3))) (by rw [e76]; exact Ar77.1) (State.isArrayOf_alike hZ.alike Ar77.2.1) Ar77.2.2 hin77 (H77 _ (own_in S77 hin77)) (g := (mkF m 200 #[.val (.int i0), .val (.int i1), .val (.int i2), .val (.int i3), .val (.int i4), .val (.int i5), .val (.int (4 : Int32)), .val (.int za), .val (.ref ca), .unset, .unset, .unset] [(.int (3 : Int32)), (.ref ca), (.int (3 : Int32)), (.ref cb), (.ref cb), (.ref st), (.ref st)])) rfl rfl (hb hby at_200) _ kQ) ?_
    show own_End p e below _ (T76.setTop (mkF m 201 #[.val (.int i0), .val (.int i1), .val (.int i2), .val (.int i3), .val (.int i4), .val (.int i5), .val (.int (4 : Int32)), .val (.int za), .val (.ref ca), .unset, .unset, .unset] [(.int (cf 3)), (.int (3 : Int32)), (.ref cb), (.ref cb), (.ref st), (.ref st)]))
    obtain ⟨cl78, Ar78, S78, M78, H78⟩ := id V_cb
    have hin78 := inb_of (j := (3 : Int32)) S78 ⟨(by decide), (by decide)⟩
    obtain ⟨T79, h79, X79, e79, W79, st79⟩ := stC X76 hx hZ e76 Ar78 (j := (3 : Int32)) hin78 (g := (mkF m 201 #[.val (.int i0), .val (.int i1), .val (.int i2), .val (.int i3), .val (.int i4), .val (.int i5), .val (.int (4 : Int32)), .val (.int za), .val (.ref ca), .unset, .unset, .unset] [(.int (cf 3)), (.int (3 : Int32)), (.ref cb), (.ref cb), (.ref st), (.ref st)])) rfl rfl (hb hby at_201)
    have V_cb := own_Ar_set Ar78 S78 M78 H78 W79
    have Ol := Ol.wr W79 g_cb
    have V_ca := V_ca.other W79 ne_ca_cb
    have E_st := E_st.wr W79
    have F_coder_st := F_coder_st.other W79 (Or.inl ne_st_cb)
    have F_value_st := F_value_st.other W79 (Or.inl ne_st_cb)
    have Kp := Kp.wr W79 (Or.inr sz_cb)
    have Nf := Fr.snoc X79 Nf g_cb
    have Zs := Nat.le_trans Zs (Keep.of_wr W79).1
    have szr := Nat.le_trans szr (Keep.of_wr W79).1
    have hkW := Nat.le_trans hkW (Keep.of_wr W79).1
    refine own_go (fun tQ kQ => st79 tQ kQ) ?_
    show own_End p e below _ (T79.setTop (mkF m 202 #[.val (.int i0), .val (.int i1), .val (.int i2), .val (.int i3), .val (.int i4), .val (.int i5), .val (.int (4 : Int32)), .val (.int za), .val (.ref ca), .unset, .unset, .unset] [(.ref cb), (.ref st), (.ref st)]))
    obtain ⟨kcb, V_cb⟩ := V_cb.arv (vs := ([cf 0, cf 1, cf 2, cf 3] : List Int32).map Value.int) (d := .int (0 : Int32)) (fun j hj => by
      have hj' : j < 4 := hj
      have hj2 : j = 0 ∨ j = 1 ∨ j = 2 ∨ j = 3 := by omega
      rcases hj2 with rfl | rfl | rfl | rfl
      · exact congrArg Value.int (own_c_nar (hcb 0))
      · exact congrArg Value.int (own_c_nar (hcb 1))
      · exact congrArg Value.int (own_c_nar (hcb 2))
      · exact congrArg Value.int (own_c_nar (hcb 3))) (fun j hj => by
      have hj' : j < 4 := hj
      have hj2 : j = 0 ∨ j = 1 ∨ j = 2 ∨ j = 3 := by omega
      rcases hj2 with rfl | rfl | rfl | rfl
      · exact own_fit (hcb 0)
      · exact own_fit (hcb 1)
      · exact own_fit (hcb 2)
      · exact own_fit (hcb 3))
    have hcc : ∀ c ∈ ([cf 0, cf 1, cf 2, cf 3] : List Int32), own_c c := by
      intro c hc
      simp only [List.mem_cons, List.not_mem_nil, or_false] at hc
      rcases hc with rfl | rfl | rfl | rfl
      · exact hcb 0
      · exact hcb 1
      · exact hcb 2
      · exact hcb 3
    obtain ⟨_, _, ⟨T80, L80, k80, n80⟩, -, X80, ⟨Lc80, hQ80, l80, y80, z80⟩, st80⟩ := X79.specialBack hx (y := (⟨"java/lang/String", "<init>", "([C)V"⟩ : MethodName)) rfl hown (mvT hZ (hw _ (List.mem_of_getElem? (i := 9) rfl))) (mvT hZ (hw _ (List.mem_of_getElem? (i := 10) rfl))) (mvT hZ (hw _ (List.mem_of_getElem? (i := 11) rfl))) (by decide) (StrChars.Road.backV (W := 1) hZ hws (kI := 4) (hw _ (List.mem_of_getElem? (i := 7) rfl)) (cs := ([cf 0, cf 1, cf 2, cf 3] : List Int32)) (bs := ([cf 0, cf 1, cf 2, cf 3] : List Int32).map (fun c => c.toInt8.toInt32)) (n := 4) g_st Zs E_st F_value_st F_coder_st V_cb (S_cs.ext Ol.2) hcz rfl rfl (by decide) (by decide) hcc rfl (by decide) (by decide)) (g := (mkF m 202 #[.val (.int i0), .val (.int i1), .val (.int i2), .val (.int i3), .val (.int i4), .val (.int i5), .val (.int (4 : Int32)), .val (.int za), .val (.ref ca), .unset, .unset, .unset] [(.ref cb), (.ref st), (.ref st)])) rfl (by rw [hml]; rfl) (Steps.refl _) (a := st) (argsL := [(.ref cb)]) (rest := [(.ref st)]) (lenOf pd_24 rfl) rfl (by show 2 * 0 + _ ≤ _; exact Nat.le_of_eq rfl) (hb hby at_202) (fun _ _ => ⟨rfl, e79, (Nat.le_of_ble_eq_true rfl), (Nat.le_of_ble_eq_true rfl)⟩)
    dsimp only [Pt.U, Pt.locs, Pt.cells, Pt.slots] at X80 l80 y80 z80 st80 hQ80
    subst l80 y80 z80
    obtain ⟨rfl, N80q, K80, -, F_coder_st, tt, kb, -, hb80, -, F_value_st, Kv⟩ := hQ80
    have Nf := Fr.app Nf N80q
    have ne_ca_tt : ca ≠ tt := Nat.ne_of_lt (Nat.lt_of_lt_of_le V_ca.lt hb80)
    have ne_st_tt : st ≠ tt := Nat.ne_of_lt (Nat.lt_of_lt_of_le E_st.lt hb80)
    have ne_cb_tt : cb ≠ tt := Nat.ne_of_lt (Nat.lt_of_lt_of_le V_cb.lt hb80)
    have g_tt : n0 ≤ tt := Nat.le_trans Zs hb80
    have sz_tt : h0.size ≤ tt := Nat.le_trans szr hb80
    have Ol := Ol.keep K80 (allS g_st all0)
    have V_ca := V_ca.keep K80 (ninS ne_ca_st nin0)
    have E_st := E_st.keep K80
    have V_cb := V_cb.keep K80 (ninS (Ne.symm ne_st_cb) nin0)
    have Kp := Kp.trans K80 (allS (Or.inr sz_st) all0)
    have Zs := Nat.le_trans Zs K80.1
    have szr := Nat.le_trans szr K80.1
    have hkW := Nat.le_trans hkW K80.1
    refine own_go (fun tQ kQ => st80.trans kQ) ?_
    show own_End p e below _ (T80.setTop (mkF m 205 #[.val (.int i0), .val (.int i1), .val (.int i2), .val (.int i3), .val (.int i4), .val (.int i5), .val (.int (4 : Int32)), .val (.int za), .val (.ref ca), .unset, .unset, .unset] [(.ref st)]))
    have V_tt : own_Ar Z T80.heap tt .byte (4 : Int32) (fun j => .int ((fun j => (cf j).toInt8.toInt32) j)) := (own_Ar.of_arv Kv).turn (fun j hj => by
      have hj' : j < 4 := hj
      have hj2 : j = 0 ∨ j = 1 ∨ j = 2 ∨ j = 3 := by omega
      rcases hj2 with rfl | rfl | rfl | rfl <;> rfl)
    refine own_go (fun tQ kQ => XS.astore X80.here hx rfl (hb hby at_205) rfl rfl (l' := #[.val (.int i0), .val (.int i1), .val (.int i2), .val (.int i3), .val (.int i4), .val (.int i5), .val (.int (4 : Int32)), .val (.int za), .val (.ref ca), .val (.ref st), .unset, .unset]) rfl kQ) ?_
    show own_End p e below _ (T80.setTop (mkF m 207 #[.val (.int i0), .val (.int i1), .val (.int i2), .val (.int i3), .val (.int i4), .val (.int i5), .val (.int (4 : Int32)), .val (.int za), .val (.ref ca), .val (.ref st), .unset, .unset] []))
    have Xp := own_pad (k' := 4) (n' := 16) X80 (by decide) (by decide)
    exact J207 st tt T80 _ T80.heap _ _ Xp rfl Nf Zs Kp szr hS hkW hZ hown E_st F_value_st F_coder_st V_tt V_ca Ol rfl
set_option maxRecDepth 65536 in
set_option maxHeartbeats 40000000 in
theorem comes_1 {Post : Tables → Env → Array Value → State → Outcome → State → Prop} (hpost : ∀ tb e args s v u, (limb_1_1.after args s (.returned v) u = true ∧ limb_1_2.after args s (.returned v) u = true ∧ True) → ReturnedEndW s (.returned v) u (Jvm.fieldLocs frame_1_writes args s ++ Jvm.arrayLocs frame_1_arrays args s ++ Jvm.staticLocs frame_1_statics s) 24 1152 → Post tb e args s (.returned v) u) :
    ArmFor flags0 classFile x code maxLocals ret World_1 tables_1 room_1 Calls_1 rest_1 Pre_1 Post := by
  intro l hfl _ _ p e ha hc hk s m args below hf hA hF happ hP
  obtain ⟨hcalls, hrest, hpre⟩ := hP
  obtain ⟨-, -, -, hnamed, -, -, -, hat⟩ := (Spec.applies_iff hf).mp happ
  obtain ⟨hg, hn⟩ := and_e (Cond.before_iff.mp (show (Jvm.Cond.and given_1 narrow_1).before args s = true from hpre))
  obtain ⟨h1, g0⟩ := and_e hg
  obtain ⟨k0, g1⟩ := and_e g0
  obtain ⟨k1, g2⟩ := and_e g1
  obtain ⟨k2, g3⟩ := and_e g2
  obtain ⟨k3, g4⟩ := and_e g3
  obtain ⟨k4, g5⟩ := and_e g4
  obtain ⟨w0, w1, w2, w3, w4, w5, rfl⟩ : ∃ w0 w1 w2 w3 w4 w5 : Value, args = #[w0, w1, w2, w3, w4, w5] := by
    have hs : args.size = 6 := by simpa [Cond.value, given_1] using h1
    obtain ⟨L⟩ := args
    match L, hs with
    | [w0, w1, w2, w3, w4, w5], _ => exact ⟨w0, w1, w2, w3, w4, w5, rfl⟩
  have hw := fun d (hd : d ∈ tables_1) => atoms_spec (ws := Jvm.Cond.code x code maxLocals ret :: tables_1) hat d (List.mem_cons_of_mem _ hd)
  have hfit : Fit s := fun {y c} hc i hi => by
    obtain ⟨ha, rfl⟩ := Array.getElem?_eq_some_iff.mp hc
    have q := List.all_eq_true.mp ((Array.all_eq_true_iff_forall_mem.mp hF) _ (Array.getElem_mem ha)) i (List.mem_range.mpr hi)
    simpa [Array.getElem?_eq_getElem hi] using q
  obtain ⟨v0, e0⟩ := is_v k0
  obtain rfl : w0 = (.int v0) := Option.some.inj e0
  obtain ⟨v1, e1⟩ := is_v k1
  obtain rfl : w1 = (.int v1) := Option.some.inj e1
  obtain ⟨v2, e2⟩ := is_v k2
  obtain rfl : w2 = (.int v2) := Option.some.inj e2
  obtain ⟨v3, e3⟩ := is_v k3
  obtain rfl : w3 = (.int v3) := Option.some.inj e3
  obtain ⟨v4, e4⟩ := is_v k4
  obtain rfl : w4 = (.int v4) := Option.some.inj e4
  obtain ⟨v5, e5⟩ := is_v g5
  obtain rfl : w5 = (.int v5) := Option.some.inj e5
  obtain ⟨hsets, hown0⟩ := atoms_of _ (rest_1_c_eq ▸ (show rest_1_c.before _ s = true from hrest))
  have n5 := not_v (Cond.before_iff.mp (hsets _ (List.mem_of_getElem? (i := 2) rfl)))
  obtain ⟨cz, ecz⟩ := is_v (Cond.before_iff.mp (hsets _ (List.mem_of_getElem? (i := 1) rfl)))
  have S_cs : Sta s s.heap "java/lang/String" "COMPACT_STRINGS" "Z" (.int cz) := Sta.start ecz (Or.inl (hsets _ (List.mem_of_getElem? (i := 0) rfl)))
  obtain ⟨fm, efm, rfm⟩ := isR_v (Cond.before_iff.mp (hsets _ (List.mem_of_getElem? (i := 8) rfl)))
  have S_fm : Sta s s.heap "jdk/internal/util/Preconditions" "SIOOBE_FORMATTER" "Ljava/util/function/BiFunction;" fm := Sta.start efm (Or.inl (hsets _ (List.mem_of_getElem? (i := 7) rfl)))
  have hcz : ¬ (cz = (0 : Int32)) := gotF (Cond.eq_ints ecz (Term.int_eval (0))) n5
  have hEL : EW s _ own_EL := EW.cons (hw _ (List.mem_of_getElem? (i := 97) rfl)) (by decide) EW.nil
  have hH : CHv s own_EL s.vm s.heap := CHv.start hEL (fun q hq => (hcalls.1 q hq)) (hsets _ (List.mem_of_getElem? (i := 2) rfl)) (hw _ (List.mem_of_getElem? (i := 24) rfl)) (hw _ (List.mem_of_getElem? (i := 7) rfl))
  obtain ⟨n, o, h1, h2, h3, _, L, rfl, ⟨rfl, N⟩, hq⟩ := rm0 l s _ hw tables_1 v0 v1 v2 v3 v4 v5 cz fm s.heap s.heap.size (Nat.le_refl _) (Old.start s) S_cs hcz S_fm rfm hEL p e ha hc hk s m _ below hf ((Spec.applies_iff_loose hf).mp happ).1 ⟨rfl, State.Warmed39.refl s, rfl, hH⟩ trivial
  refine ⟨n, _, h1, h2, h3, hpost _ _ _ _ _ _ ⟨Cond.after_iff.mpr rfl, Cond.after_iff.mpr (eq_i res_at (Term.int_eval (1)) rfl), trivial⟩ ⟨hq.1, hq.2.1, hq.2.2.1, (hq.2.2.2.sift fun y hy => Or.inr (N y hy)).mono (by decide) (by decide)⟩⟩
theorem main_1_1 : Claimed_1_1 := comes_1 fun _ _ _ _ _ _ h hF => ⟨h.1, hF⟩
theorem main_1_2 : Claimed_1_2 := comes_1 fun _ _ _ _ _ _ h hF => ⟨h.2.1, hF⟩
end Jvm.Pilot.@@N@@
namespace Jvm.Pilot.@@N@@
open Jvm Jvm.ClassFile Sem Op Lib Jvm.Free Jvm.Stand Jvm.Pilot.@@N@@.Jvm.D
/-! MADE BY PROGRAM (witnessworld.py) out of the Statement's table words and the real class files: 24 classes; the members and pool entries that the words name. The judged class is class 1, her method 1. -/
namespace start1
open Jvm.ClassFile
def u (s : String) : CpInfo := .utf8 (stringToUtf16 s)
/-- a pool by its gaps: so many unusable entries, then the entry; so many at the end -/
def gap : Nat → List CpInfo → List CpInfo
  | 0, r => r
  | n + 1, r => .unusable :: gap n r
def poolList (es : List (Nat × CpInfo)) (last : Nat) : List CpInfo := es.foldr (fun e r => gap e.1 (e.2 :: r)) (gap last [])
def pool (es : List (Nat × CpInfo)) (last : Nat) : Array CpInfo := ⟨poolList es last⟩
def fileOf (pool : Array CpInfo) (this : Nat) (attrs : Array Attribute := #[]) (ms : Array MethodInfo := #[]) (fl : Nat := 33) (sup : Nat := 0) (ifs : Array Nat := #[]) (fds : Array FieldInfo := #[]) : ClassFile where
  minorVersion := 0
  majorVersion := 65
  constantPool := pool
  accessFlags := fl
  thisClass := this
  superClass := sup
  interfaces := ifs
  fields := fds
  methods := ms
  attributes := attrs
def plain (name : String) (sup : Option ClassId) : Class where
  name := name
  kind := .ordinary
  loader := none
  accessFlags := 33
  super := sup
  interfaces := #[]
  cf := none
  fields := #[]
  methods := #[]
  instanceTypes := #[]
  staticTypes := #[]
  resolved := #[]
  callSites := []
  init := .initialized
  statics := none
  mirror := none

def pool0 : Array CpInfo := pool [(5, u "<init>"), (0, u "()V"), (1, .class_ 10), (1, u "java/lang/Object")] 113

def k0c0 : Code := { maxStack := 0, maxLocals := 1, code := object_method_1_code, exceptionTable := #[], attributes := #[] }
def k0m0 : Method := { name := "<init>", desc := "()V", sig := { parameters := [], returnType := none }, accessFlags := 1, code := some k0c0 }
/-- java/lang/Object -/
def k0 : Class := { plain "java/lang/Object" none with
  accessFlags := 33
  interfaces := #[]
  cf := some (fileOf pool0 8 #[] #[{ accessFlags := 1, nameIndex := 5, descriptorIndex := 6, attributes := #[] }] 33 0 #[] #[])
  fields := #[]
  methods := #[k0m0]
  instanceTypes := #[]
  staticTypes := #[]
  resolved := Array.replicate 124 none
  statics := none }

def pool1 : Array CpInfo := pool [(2, .class_ 4), (1, u "java/lang/Object"), (0, u "<init>"), (0, u "()V"), (0, .integer 2147483647), (0, .methodref 9 10), (0, .class_ 11), (0, .nameAndType 12 13), (0, u "com/example/resolvent/resolvent/identifiers/IdentifierPrefixOfPinLaw"), (0, u "draw"), (0, u "(I)C"), (0, .class_ 15), (0, u "java/lang/String"), (0, .methodref 14 17), (0, .nameAndType 5 18), (0, u "([C)V"), (0, .methodref 20 21), (0, .class_ 22), (0, .nameAndType 23 24), (0, u "com/example/resolvent/resolvent/identifiers/Identifier"), (0, u "prefixOf"), (0, u "(Ljava/lang/String;)Ljava/lang/String;"), (0, .methodref 14 26), (0, .nameAndType 27 28), (0, u "length"), (0, u "()I"), (0, .methodref 14 30), (0, .nameAndType 31 13), (0, u "charAt"), (2, u "law"), (0, u "(IIIIII)Z")] 5

def k1m0 : Method := { name := "<init>", desc := "()V", sig := { parameters := [], returnType := none }, accessFlags := 1, code := none }
def k1c1 : Code := { maxStack := 7, maxLocals := 12, code := code, exceptionTable := #[], attributes := #[] }
def k1m1 : Method := { name := "law", desc := "(IIIIII)Z", sig := { parameters := [.int, .int, .int, .int, .int, .int], returnType := some .boolean }, accessFlags := 9, code := some k1c1 }
def k1c2 : Code := { maxStack := 2, maxLocals := 1, code := method_3_code, exceptionTable := #[], attributes := #[] }
def k1m2 : Method := { name := "draw", desc := "(I)C", sig := { parameters := [.int], returnType := some .char }, accessFlags := 10, code := some k1c2 }
/-- com/example/resolvent/resolvent/identifiers/IdentifierPrefixOfPinLaw -/
def k1 : Class := { plain "com/example/resolvent/resolvent/identifiers/IdentifierPrefixOfPinLaw" (some 0) with
  accessFlags := 49
  interfaces := #[]
  cf := some (fileOf pool1 9 #[] #[{ accessFlags := 1, nameIndex := 5, descriptorIndex := 6, attributes := #[] }, { accessFlags := 9, nameIndex := 34, descriptorIndex := 35, attributes := #[] }, { accessFlags := 10, nameIndex := 12, descriptorIndex := 13, attributes := #[] }] 49 2 #[] #[])
  fields := #[]
  methods := #[k1m0, k1m1, k1m2]
  instanceTypes := #[]
  staticTypes := #[]
  resolved := Array.replicate 41 none
  statics := none }

def pool2 : Array CpInfo := pool [(1, .class_ 2), (0, u "java/io/Serializable"), (0, .class_ 4), (0, u "java/lang/Object")] 2

/-- java/io/Serializable -/
def k2 : Class := { plain "java/io/Serializable" (some 0) with
  accessFlags := 1537
  interfaces := #[]
  cf := some (fileOf pool2 1 #[] #[] 1537 3 #[] #[])
  fields := #[]
  methods := #[]
  instanceTypes := #[]
  staticTypes := #[]
  resolved := Array.replicate 7 none
  statics := none }

def pool3 : Array CpInfo := pool [(1, .class_ 2), (0, u "java/lang/Comparable"), (0, .class_ 4), (0, u "java/lang/Object")] 7

/-- java/lang/Comparable -/
def k3 : Class := { plain "java/lang/Comparable" (some 0) with
  accessFlags := 1537
  interfaces := #[]
  cf := some (fileOf pool3 1 #[] #[] 1537 3 #[] #[])
  fields := #[]
  methods := #[]
  instanceTypes := #[]
  staticTypes := #[]
  resolved := Array.replicate 12 none
  statics := none }

def pool4 : Array CpInfo := pool [(2, .class_ 4), (1, u "java/lang/CharSequence"), (42, .class_ 48), (0, u "java/lang/CharSequence$1CodePointIterator"), (10, .class_ 60), (0, u "java/lang/CharSequence$1CharIterator"), (5, .class_ 67), (0, u "java/lang/Object")] 63

/-- java/lang/CharSequence -/
def k4 : Class := { plain "java/lang/CharSequence" (some 0) with
  accessFlags := 1537
  interfaces := #[]
  cf := some (fileOf pool4 2 #[.nestMembers #[47, 59]] #[] 1537 66 #[] #[])
  fields := #[]
  methods := #[]
  instanceTypes := #[]
  staticTypes := #[]
  resolved := Array.replicate 131 none
  statics := none }

def pool5 : Array CpInfo := pool [(1, .class_ 2), (0, u "java/lang/constant/Constable"), (0, .class_ 4), (0, u "java/lang/Object")] 6

/-- java/lang/constant/Constable -/
def k5 : Class := { plain "java/lang/constant/Constable" (some 0) with
  accessFlags := 1537
  interfaces := #[]
  cf := some (fileOf pool5 1 #[] #[] 1537 3 #[] #[])
  fields := #[]
  methods := #[]
  instanceTypes := #[]
  staticTypes := #[]
  resolved := Array.replicate 11 none
  statics := none }

def pool6 : Array CpInfo := pool [(1, .class_ 2), (0, u "java/lang/constant/ConstantDesc"), (0, .class_ 4), (0, u "java/lang/Object")] 32

/-- java/lang/constant/ConstantDesc -/
def k6 : Class := { plain "java/lang/constant/ConstantDesc" (some 0) with
  accessFlags := 1537
  interfaces := #[]
  cf := some (fileOf pool6 1 #[] #[] 1537 3 #[] #[])
  fields := #[]
  methods := #[]
  instanceTypes := #[]
  staticTypes := #[]
  resolved := Array.replicate 37 none
  statics := none }

def pool7 : Array CpInfo := pool [(1, .methodref 2 3), (0, .class_ 4), (0, .nameAndType 5 6), (0, u "java/lang/Object"), (0, u "<init>"), (0, u "()V"), (2, .fieldref 10 11), (0, .class_ 12), (0, .nameAndType 13 14), (0, u "java/lang/String"), (0, u "value"), (0, u "[B"), (0, .fieldref 10 16), (0, .nameAndType 17 18), (0, u "coder"), (0, u "B"), (2, u "hash"), (0, u "I"), (2, u "hashIsZero"), (0, u "Z"), (0, .methodref 10 28), (0, .nameAndType 5 29), (0, u "([CIILjava/lang/Void;)V"), (8, .fieldref 10 39), (0, .nameAndType 40 26), (0, u "COMPACT_STRINGS"), (1, .class_ 44), (1, u "java/lang/StringUTF16"), (0, u "compress"), (1, .methodref 42 48), (0, .nameAndType 49 50), (0, u "coderFromArrayLen"), (0, u "([BI)B"), (56, .class_ 109), (1, u "java/lang/StringLatin1"), (32, u "()Z"), (34, .methodref 42 178), (0, .nameAndType 45 179), (0, u "([CII)[B"), (31, u "([BB)V"), (122, u "()I"), (0, .methodref 10 336), (0, .nameAndType 17 337), (0, u "()B"), (25, u "([BI)C"), (27, u "(II)V"), (35, u "(I)C"), (64, .methodref 10 493), (0, .nameAndType 494 142), (0, u "isLatin1"), (0, .methodref 107 496), (0, .nameAndType 497 363), (0, u "charAt"), (3, u "checkIndex"), (3, .methodref 10 506), (0, .nameAndType 507 334), (0, u "length"), (5, u "checkFromToIndex"), (7, .methodref 10 522), (0, .nameAndType 523 524), (0, u "checkBoundsBeginEnd"), (0, u "(III)V"), (50, .class_ 576), (0, u "java/lang/CharSequence"), (22, u "CASE_INSENSITIVE_ORDER"), (0, u "Ljava/util/Comparator;"), (32, .methodref 10 634), (0, .nameAndType 635 636), (0, u "indexOf"), (0, u "(II)I"), (0, .methodref 107 638), (0, .nameAndType 635 639), (0, u "([BIII)I"), (43, u "substring"), (0, u "(II)Ljava/lang/String;"), (0, .methodref 107 686), (0, .nameAndType 687 688), (0, u "newString"), (0, u "([BII)Ljava/lang/String;"), (76, u "(I)I"), (244, u "([C)V"), (42, .fieldref 1054 1055), (0, .class_ 1056), (0, .nameAndType 1057 1058), (0, u "jdk/internal/util/Preconditions"), (0, u "SIOOBE_FORMATTER"), (0, u "Ljava/util/function/BiFunction;"), (0, .methodref 1054 1060), (0, .nameAndType 501 1061), (0, u "(IILjava/util/function/BiFunction;)I"), (0, .methodref 1054 1063), (0, .nameAndType 513 1064), (0, u "(IIILjava/util/function/BiFunction;)I"), (36, u "serialPersistentFields"), (0, u "[Ljava/io/ObjectStreamField;"), (0, .class_ 1104), (0, u "java/lang/String$CaseInsensitiveComparator"), (1, .class_ 1107), (0, u "java/io/Serializable"), (0, .class_ 1109), (0, u "java/lang/Comparable"), (0, .class_ 1111), (0, u "java/lang/constant/Constable"), (0, .class_ 1113), (0, u "java/lang/constant/ConstantDesc"), (2, u "serialVersionUID"), (0, u "J"), (3, u "REPL"), (0, u "C"), (2, u "LATIN1"), (1, u "UTF16")] 323

def k7m0 : Method := { name := "<init>", desc := "()V", sig := { parameters := [], returnType := none }, accessFlags := 1, code := none }
def k7c1 : Code := { maxStack := 5, maxLocals := 2, code := jdk_42_method_3_code, exceptionTable := #[], attributes := #[] }
def k7m1 : Method := { name := "<init>", desc := "([C)V", sig := { parameters := [(.array .char)], returnType := none }, accessFlags := 1, code := some k7c1 }
def k7c2 : Code := { maxStack := 2, maxLocals := 1, code := jdk_42_method_54_code, exceptionTable := #[], attributes := #[] }
def k7m2 : Method := { name := "length", desc := "()I", sig := { parameters := [], returnType := some .int }, accessFlags := 1, code := some k7c2 }
def k7c3 : Code := { maxStack := 2, maxLocals := 2, code := jdk_42_method_56_code, exceptionTable := #[], attributes := #[] }
def k7m3 : Method := { name := "charAt", desc := "(I)C", sig := { parameters := [.int], returnType := some .char }, accessFlags := 1, code := some k7c3 }
def k7c4 : Code := { maxStack := 3, maxLocals := 2, code := jdk_42_method_79_code, exceptionTable := #[], attributes := #[] }
def k7m4 : Method := { name := "indexOf", desc := "(I)I", sig := { parameters := [.int], returnType := some .int }, accessFlags := 1, code := some k7c4 }
def k7c5 : Code := { maxStack := 4, maxLocals := 3, code := jdk_42_method_80_code, exceptionTable := #[], attributes := #[] }
def k7m5 : Method := { name := "indexOf", desc := "(II)I", sig := { parameters := [.int, .int], returnType := some .int }, accessFlags := 1, code := some k7c5 }
def k7c6 : Code := { maxStack := 3, maxLocals := 5, code := jdk_42_method_92_code, exceptionTable := #[], attributes := #[] }
def k7m6 : Method := { name := "substring", desc := "(II)Ljava/lang/String;", sig := { parameters := [.int, .int], returnType := some (.object "java/lang/String") }, accessFlags := 1, code := some k7c6 }
def k7c7 : Code := { maxStack := 4, maxLocals := 6, code := jdk_42_method_149_code, exceptionTable := #[], attributes := #[] }
def k7m7 : Method := { name := "<init>", desc := "([CIILjava/lang/Void;)V", sig := { parameters := [(.array .char), .int, .int, (.object "java/lang/Void")], returnType := none }, accessFlags := 2, code := some k7c7 }
def k7c8 : Code := { maxStack := 2, maxLocals := 3, code := jdk_42_method_151_code, exceptionTable := #[], attributes := #[] }
def k7m8 : Method := { name := "<init>", desc := "([BB)V", sig := { parameters := [(.array .byte), .byte], returnType := none }, accessFlags := 0, code := some k7c8 }
def k7c9 : Code := { maxStack := 1, maxLocals := 1, code := jdk_42_method_152_code, exceptionTable := #[], attributes := #[] }
def k7m9 : Method := { name := "coder", desc := "()B", sig := { parameters := [], returnType := some .byte }, accessFlags := 0, code := some k7c9 }
def k7c10 : Code := { maxStack := 1, maxLocals := 1, code := jdk_42_method_154_code, exceptionTable := #[], attributes := #[] }
def k7m10 : Method := { name := "isLatin1", desc := "()Z", sig := { parameters := [], returnType := some .boolean }, accessFlags := 0, code := some k7c10 }
def k7c11 : Code := { maxStack := 3, maxLocals := 2, code := jdk_42_method_155_code, exceptionTable := #[], attributes := #[] }
def k7m11 : Method := { name := "checkIndex", desc := "(II)V", sig := { parameters := [.int, .int], returnType := none }, accessFlags := 8, code := some k7c11 }
def k7c12 : Code := { maxStack := 4, maxLocals := 3, code := jdk_42_method_158_code, exceptionTable := #[], attributes := #[] }
def k7m12 : Method := { name := "checkBoundsBeginEnd", desc := "(III)V", sig := { parameters := [.int, .int, .int], returnType := none }, accessFlags := 8, code := some k7c12 }
/-- java/lang/String -/
def k7 : Class := { plain "java/lang/String" (some 0) with
  accessFlags := 49
  interfaces := #[2, 3, 4, 5, 6]
  cf := some (fileOf pool7 10 #[.nestMembers #[1103]] #[{ accessFlags := 1, nameIndex := 5, descriptorIndex := 6, attributes := #[] }, { accessFlags := 1, nameIndex := 5, descriptorIndex := 1010, attributes := #[] }, { accessFlags := 1, nameIndex := 507, descriptorIndex := 334, attributes := #[] }, { accessFlags := 1, nameIndex := 497, descriptorIndex := 427, attributes := #[] }, { accessFlags := 1, nameIndex := 635, descriptorIndex := 765, attributes := #[] }, { accessFlags := 1, nameIndex := 635, descriptorIndex := 636, attributes := #[] }, { accessFlags := 1, nameIndex := 683, descriptorIndex := 684, attributes := #[] }, { accessFlags := 2, nameIndex := 5, descriptorIndex := 29, attributes := #[] }, { accessFlags := 0, nameIndex := 5, descriptorIndex := 211, attributes := #[] }, { accessFlags := 0, nameIndex := 17, descriptorIndex := 337, attributes := #[] }, { accessFlags := 0, nameIndex := 494, descriptorIndex := 142, attributes := #[] }, { accessFlags := 8, nameIndex := 501, descriptorIndex := 391, attributes := #[] }, { accessFlags := 8, nameIndex := 523, descriptorIndex := 524, attributes := #[] }] 49 2 #[1106, 1108, 575, 1110, 1112] #[{ accessFlags := 18, nameIndex := 13, descriptorIndex := 14, attributes := #[] }, { accessFlags := 18, nameIndex := 17, descriptorIndex := 18, attributes := #[] }, { accessFlags := 2, nameIndex := 21, descriptorIndex := 22, attributes := #[] }, { accessFlags := 2, nameIndex := 25, descriptorIndex := 26, attributes := #[] }, { accessFlags := 26, nameIndex := 1116, descriptorIndex := 1117, attributes := #[] }, { accessFlags := 24, nameIndex := 40, descriptorIndex := 26, attributes := #[] }, { accessFlags := 26, nameIndex := 1101, descriptorIndex := 1102, attributes := #[] }, { accessFlags := 26, nameIndex := 1121, descriptorIndex := 1122, attributes := #[] }, { accessFlags := 25, nameIndex := 599, descriptorIndex := 600, attributes := #[] }, { accessFlags := 24, nameIndex := 1125, descriptorIndex := 18, attributes := #[] }, { accessFlags := 24, nameIndex := 1127, descriptorIndex := 18, attributes := #[] }])
  fields := #[{ name := "value", type := (.array .byte), accessFlags := 18, slot := 0, constantValue := 0 }, { name := "coder", type := .byte, accessFlags := 18, slot := 1, constantValue := 0 }, { name := "hash", type := .int, accessFlags := 2, slot := 2, constantValue := 0 }, { name := "hashIsZero", type := .boolean, accessFlags := 2, slot := 3, constantValue := 0 }, { name := "serialVersionUID", type := .long, accessFlags := 26, slot := 0, constantValue := 0 }, { name := "COMPACT_STRINGS", type := .boolean, accessFlags := 24, slot := 1, constantValue := 0 }, { name := "serialPersistentFields", type := (.array (.object "java/io/ObjectStreamField")), accessFlags := 26, slot := 2, constantValue := 0 }, { name := "REPL", type := .char, accessFlags := 26, slot := 3, constantValue := 0 }, { name := "CASE_INSENSITIVE_ORDER", type := (.object "java/util/Comparator"), accessFlags := 25, slot := 4, constantValue := 0 }, { name := "LATIN1", type := .byte, accessFlags := 24, slot := 5, constantValue := 0 }, { name := "UTF16", type := .byte, accessFlags := 24, slot := 6, constantValue := 0 }]
  methods := #[k7m0, k7m1, k7m2, k7m3, k7m4, k7m5, k7m6, k7m7, k7m8, k7m9, k7m10, k7m11, k7m12]
  instanceTypes := #[(.array .byte), .byte, .int, .boolean]
  staticTypes := #[.long, .boolean, (.array (.object "java/io/ObjectStreamField")), .char, (.object "java/util/Comparator"), .byte, .byte]
  resolved := Array.replicate 1451 none
  statics := some 0 }

def pool8 : Array CpInfo := pool [(6, .class_ 8), (1, u "java/lang/Object"), (0, u "<init>"), (0, u "()V"), (1, .class_ 14), (1, u "java/lang/StringUTF16"), (31, u "$assertionsDisabled"), (0, u "Z"), (13, u "HI_BYTE_SHIFT"), (0, u "I"), (2, u "LO_BYTE_SHIFT"), (49, .methodref 12 116), (0, .nameAndType 117 118), (0, u "compress"), (0, u "([CI[BII)I"), (3, u "([CII)[B"), (138, u "coderFromArrayLen"), (0, u "([BI)B"), (106, .class_ 371), (1, u "java/lang/StringUTF16$LinesSpliterator"), (58, u "MAX_LENGTH"), (196, .class_ 628), (0, u "java/lang/StringUTF16$CodePointsSpliterator"), (0, .class_ 630), (0, u "java/lang/StringUTF16$CharsSpliterator")] 4

def k8m0 : Method := { name := "<init>", desc := "()V", sig := { parameters := [], returnType := none }, accessFlags := 0, code := none }
def k8c1 : Code := { maxStack := 2, maxLocals := 2, code := jdk_52_method_15_code, exceptionTable := #[], attributes := #[] }
def k8m1 : Method := { name := "coderFromArrayLen", desc := "([BI)B", sig := { parameters := [(.array .byte), .int], returnType := some .byte }, accessFlags := 8, code := some k8c1 }
def k8c2 : Code := { maxStack := 5, maxLocals := 6, code := jdk_52_method_16_code, exceptionTable := #[], attributes := #[] }
def k8m2 : Method := { name := "compress", desc := "([CII)[B", sig := { parameters := [(.array .char), .int, .int], returnType := some (.array .byte) }, accessFlags := 9, code := some k8c2 }
def k8c3 : Code := { maxStack := 3, maxLocals := 7, code := jdk_52_method_21_code, exceptionTable := #[], attributes := #[] }
def k8m3 : Method := { name := "compress", desc := "([CI[BII)I", sig := { parameters := [(.array .char), .int, (.array .byte), .int, .int], returnType := some .int }, accessFlags := 9, code := some k8c3 }
/-- java/lang/StringUTF16 -/
def k8 : Class := { plain "java/lang/StringUTF16" (some 0) with
  accessFlags := 48
  interfaces := #[]
  cf := some (fileOf pool8 12 #[.nestMembers #[627, 629, 369]] #[{ accessFlags := 0, nameIndex := 9, descriptorIndex := 10, attributes := #[] }, { accessFlags := 8, nameIndex := 261, descriptorIndex := 262, attributes := #[] }, { accessFlags := 9, nameIndex := 117, descriptorIndex := 122, attributes := #[] }, { accessFlags := 9, nameIndex := 117, descriptorIndex := 118, attributes := #[] }] 48 6 #[] #[{ accessFlags := 26, nameIndex := 61, descriptorIndex := 62, attributes := #[] }, { accessFlags := 26, nameIndex := 65, descriptorIndex := 62, attributes := #[] }, { accessFlags := 24, nameIndex := 430, descriptorIndex := 62, attributes := #[] }, { accessFlags := 4120, nameIndex := 46, descriptorIndex := 47, attributes := #[] }])
  fields := #[{ name := "HI_BYTE_SHIFT", type := .int, accessFlags := 26, slot := 0, constantValue := 0 }, { name := "LO_BYTE_SHIFT", type := .int, accessFlags := 26, slot := 1, constantValue := 0 }, { name := "MAX_LENGTH", type := .int, accessFlags := 24, slot := 2, constantValue := 0 }, { name := "$assertionsDisabled", type := .boolean, accessFlags := 4120, slot := 3, constantValue := 0 }]
  methods := #[k8m0, k8m1, k8m2, k8m3]
  instanceTypes := #[]
  staticTypes := #[.int, .int, .int, .boolean]
  resolved := Array.replicate 635 none
  statics := none }

def pool9 : Array CpInfo := pool [(2, .class_ 4), (1, u "java/lang/Object"), (0, u "<init>"), (0, u "()V"), (0, .class_ 8), (0, u "java/lang/Record")] 13

def k9m0 : Method := { name := "<init>", desc := "()V", sig := { parameters := [], returnType := none }, accessFlags := 4, code := none }
/-- java/lang/Record -/
def k9 : Class := { plain "java/lang/Record" (some 0) with
  accessFlags := 1057
  interfaces := #[]
  cf := some (fileOf pool9 7 #[] #[{ accessFlags := 4, nameIndex := 5, descriptorIndex := 6, attributes := #[] }] 1057 2 #[] #[])
  fields := #[]
  methods := #[k9m0]
  instanceTypes := #[]
  staticTypes := #[]
  resolved := Array.replicate 22 none
  statics := none }

def pool10 : Array CpInfo := pool [(2, .class_ 4), (1, u "java/lang/Record"), (3, .class_ 10), (1, u "com/example/resolvent/resolvent/identifiers/Identifier"), (0, u "pid"), (0, u "Ljava/lang/String;"), (2, u "binding"), (0, u "Lcom/example/resolvent/resolvent/identifiers/Binding;"), (2, u "state"), (0, u "Lcom/example/resolvent/resolvent/identifiers/IdentifierState;"), (3, u "(Ljava/lang/String;)Ljava/lang/String;"), (2, u "prefixOf"), (3, .methodref 32 33), (0, .class_ 34), (0, .nameAndType 35 36), (0, u "java/lang/String"), (0, u "indexOf"), (0, u "(I)I"), (0, .methodref 32 38), (0, .nameAndType 39 40), (0, u "substring"), (0, u "(II)Ljava/lang/String;")] 124

def k10c0 : Code := { maxStack := 4, maxLocals := 1, code := prog_3_method_6_code, exceptionTable := #[], attributes := #[] }
def k10m0 : Method := { name := "prefixOf", desc := "(Ljava/lang/String;)Ljava/lang/String;", sig := { parameters := [(.object "java/lang/String")], returnType := some (.object "java/lang/String") }, accessFlags := 9, code := some k10c0 }
/-- com/example/resolvent/resolvent/identifiers/Identifier -/
def k10 : Class := { plain "com/example/resolvent/resolvent/identifiers/Identifier" (some 9) with
  accessFlags := 49
  interfaces := #[]
  cf := some (fileOf pool10 8 #[] #[{ accessFlags := 9, nameIndex := 27, descriptorIndex := 24, attributes := #[] }] 49 2 #[] #[{ accessFlags := 18, nameIndex := 11, descriptorIndex := 12, attributes := #[] }, { accessFlags := 18, nameIndex := 15, descriptorIndex := 16, attributes := #[] }, { accessFlags := 18, nameIndex := 19, descriptorIndex := 20, attributes := #[] }])
  fields := #[{ name := "pid", type := (.object "java/lang/String"), accessFlags := 18, slot := 0, constantValue := 0 }, { name := "binding", type := (.object "com/example/resolvent/resolvent/identifiers/Binding"), accessFlags := 18, slot := 1, constantValue := 0 }, { name := "state", type := (.object "com/example/resolvent/resolvent/identifiers/IdentifierState"), accessFlags := 18, slot := 2, constantValue := 0 }]
  methods := #[k10m0]
  instanceTypes := #[(.object "java/lang/String"), (.object "com/example/resolvent/resolvent/identifiers/Binding"), (.object "com/example/resolvent/resolvent/identifiers/IdentifierState")]
  staticTypes := #[]
  resolved := Array.replicate 165 none
  statics := none }

def pool11 : Array CpInfo := pool [(1, .class_ 2), (0, u "java/lang/String"), (1, .class_ 6), (1, u "java/lang/Object"), (0, u "<init>"), (0, u "()V"), (0, .methodref 1 10), (0, .nameAndType 11 12), (0, u "checkIndex"), (0, u "(II)V"), (1, .class_ 16), (1, u "java/lang/StringLatin1"), (21, .methodref 39 40), (0, .class_ 41), (0, .nameAndType 42 43), (0, u "java/lang/Math"), (0, u "min"), (0, u "(II)I"), (9, u "([BI)C"), (34, .methodref 14 89), (0, .nameAndType 90 91), (0, u "canEncode"), (0, u "(I)Z"), (0, .methodref 39 93), (0, .nameAndType 94 43), (0, u "max"), (0, .methodref 14 96), (0, .nameAndType 97 98), (0, u "indexOfChar"), (0, u "([BIII)I"), (2, u "indexOf"), (10, .methodref 1 113), (0, .nameAndType 7 114), (0, u "([BB)V"), (6, u "$assertionsDisabled"), (0, u "Z"), (8, .class_ 133), (1, u "java/util/Arrays"), (17, .string 152), (0, u ""), (43, u "newString"), (0, u "([BII)Ljava/lang/String;"), (23, .class_ 223), (1, u "java/lang/StringLatin1$LinesSpliterator"), (8, .methodref 131 233), (0, .nameAndType 234 235), (0, u "copyOfRange"), (0, u "([BII)[B"), (16, u "charAt"), (137, .class_ 391), (0, u "java/lang/StringLatin1$CharsSpliterator")] 3

def k11m0 : Method := { name := "<init>", desc := "()V", sig := { parameters := [], returnType := none }, accessFlags := 0, code := none }
def k11c1 : Code := { maxStack := 2, maxLocals := 2, code := jdk_43_method_2_code, exceptionTable := #[], attributes := #[] }
def k11m1 : Method := { name := "charAt", desc := "([BI)C", sig := { parameters := [(.array .byte), .int], returnType := some .char }, accessFlags := 9, code := some k11c1 }
def k11c2 : Code := { maxStack := 2, maxLocals := 1, code := jdk_43_method_4_code, exceptionTable := #[], attributes := #[] }
def k11m2 : Method := { name := "canEncode", desc := "(I)Z", sig := { parameters := [.int], returnType := some .boolean }, accessFlags := 9, code := some k11c2 }
def k11c3 : Code := { maxStack := 4, maxLocals := 4, code := jdk_43_method_22_code, exceptionTable := #[], attributes := #[] }
def k11m3 : Method := { name := "indexOf", desc := "([BIII)I", sig := { parameters := [(.array .byte), .int, .int, .int], returnType := some .int }, accessFlags := 9, code := some k11c3 }
def k11c4 : Code := { maxStack := 2, maxLocals := 6, code := jdk_43_method_23_code, exceptionTable := #[], attributes := #[] }
def k11m4 : Method := { name := "indexOfChar", desc := "([BIII)I", sig := { parameters := [(.array .byte), .int, .int, .int], returnType := some .int }, accessFlags := 10, code := some k11c4 }
def k11c5 : Code := { maxStack := 6, maxLocals := 3, code := jdk_43_method_47_code, exceptionTable := #[], attributes := #[] }
def k11m5 : Method := { name := "newString", desc := "([BII)Ljava/lang/String;", sig := { parameters := [(.array .byte), .int, .int], returnType := some (.object "java/lang/String") }, accessFlags := 9, code := some k11c5 }
/-- java/lang/StringLatin1 -/
def k11 : Class := { plain "java/lang/StringLatin1" (some 0) with
  accessFlags := 48
  interfaces := #[]
  cf := some (fileOf pool11 14 #[.nestMembers #[390, 221]] #[{ accessFlags := 0, nameIndex := 7, descriptorIndex := 8, attributes := #[] }, { accessFlags := 9, nameIndex := 252, descriptorIndex := 53, attributes := #[] }, { accessFlags := 9, nameIndex := 90, descriptorIndex := 91, attributes := #[] }, { accessFlags := 9, nameIndex := 101, descriptorIndex := 98, attributes := #[] }, { accessFlags := 10, nameIndex := 97, descriptorIndex := 98, attributes := #[] }, { accessFlags := 9, nameIndex := 196, descriptorIndex := 197, attributes := #[] }] 48 4 #[] #[{ accessFlags := 4120, nameIndex := 121, descriptorIndex := 122, attributes := #[] }])
  fields := #[{ name := "$assertionsDisabled", type := .boolean, accessFlags := 4120, slot := 0, constantValue := 0 }]
  methods := #[k11m0, k11m1, k11m2, k11m3, k11m4, k11m5]
  instanceTypes := #[]
  staticTypes := #[.boolean]
  resolved := Array.replicate 395 none
  statics := none }

def pool12 : Array CpInfo := pool [(1, .class_ 2), (0, u "java/lang/Math"), (1, .class_ 6), (1, u "java/lang/Object"), (0, u "<init>"), (0, u "()V"), (89, .class_ 100), (1, u "java/lang/Math$RandomNumberGeneratorHolder"), (71, u "negativeZeroFloatBits"), (0, u "J"), (2, u "negativeZeroDoubleBits"), (21, u "max"), (2, u "min"), (43, u "$assertionsDisabled"), (0, u "Z"), (88, u "(II)I"), (2, u "twoToTheDoubleScaleDown"), (0, u "D"), (4, u "twoToTheDoubleScaleUp"), (9, u "E"), (3, u "PI"), (2, u "TAU"), (2, u "DEGREES_TO_RADIANS"), (0, u "RADIANS_TO_DEGREES")] 94

def k12m0 : Method := { name := "<init>", desc := "()V", sig := { parameters := [], returnType := none }, accessFlags := 2, code := none }
def k12c1 : Code := { maxStack := 2, maxLocals := 2, code := jdk_29_method_65_code, exceptionTable := #[], attributes := #[] }
def k12m1 : Method := { name := "max", desc := "(II)I", sig := { parameters := [.int, .int], returnType := some .int }, accessFlags := 9, code := some k12c1 }
def k12c2 : Code := { maxStack := 2, maxLocals := 2, code := jdk_29_method_69_code, exceptionTable := #[], attributes := #[] }
def k12m2 : Method := { name := "min", desc := "(II)I", sig := { parameters := [.int, .int], returnType := some .int }, accessFlags := 9, code := some k12c2 }
/-- java/lang/Math -/
def k12 : Class := { plain "java/lang/Math" (some 0) with
  accessFlags := 49
  interfaces := #[]
  cf := some (fileOf pool12 1 #[.nestMembers #[98]] #[{ accessFlags := 2, nameIndex := 7, descriptorIndex := 8, attributes := #[] }, { accessFlags := 9, nameIndex := 198, descriptorIndex := 335, attributes := #[] }, { accessFlags := 9, nameIndex := 201, descriptorIndex := 335, attributes := #[] }] 49 4 #[] #[{ accessFlags := 25, nameIndex := 354, descriptorIndex := 339, attributes := #[] }, { accessFlags := 25, nameIndex := 358, descriptorIndex := 339, attributes := #[] }, { accessFlags := 25, nameIndex := 361, descriptorIndex := 339, attributes := #[] }, { accessFlags := 26, nameIndex := 364, descriptorIndex := 339, attributes := #[] }, { accessFlags := 26, nameIndex := 365, descriptorIndex := 339, attributes := #[] }, { accessFlags := 26, nameIndex := 172, descriptorIndex := 173, attributes := #[] }, { accessFlags := 26, nameIndex := 176, descriptorIndex := 173, attributes := #[] }, { accessFlags := 8, nameIndex := 344, descriptorIndex := 339, attributes := #[] }, { accessFlags := 8, nameIndex := 338, descriptorIndex := 339, attributes := #[] }, { accessFlags := 4120, nameIndex := 245, descriptorIndex := 246, attributes := #[] }])
  fields := #[{ name := "E", type := .double, accessFlags := 25, slot := 0, constantValue := 0 }, { name := "PI", type := .double, accessFlags := 25, slot := 1, constantValue := 0 }, { name := "TAU", type := .double, accessFlags := 25, slot := 2, constantValue := 0 }, { name := "DEGREES_TO_RADIANS", type := .double, accessFlags := 26, slot := 3, constantValue := 0 }, { name := "RADIANS_TO_DEGREES", type := .double, accessFlags := 26, slot := 4, constantValue := 0 }, { name := "negativeZeroFloatBits", type := .long, accessFlags := 26, slot := 5, constantValue := 0 }, { name := "negativeZeroDoubleBits", type := .long, accessFlags := 26, slot := 6, constantValue := 0 }, { name := "twoToTheDoubleScaleUp", type := .double, accessFlags := 8, slot := 7, constantValue := 0 }, { name := "twoToTheDoubleScaleDown", type := .double, accessFlags := 8, slot := 8, constantValue := 0 }, { name := "$assertionsDisabled", type := .boolean, accessFlags := 4120, slot := 9, constantValue := 0 }]
  methods := #[k12m0, k12m1, k12m2]
  instanceTypes := #[]
  staticTypes := #[.double, .double, .double, .double, .double, .long, .long, .double, .double, .boolean]
  resolved := Array.replicate 460 none
  statics := none }

def pool13 : Array CpInfo := pool [(2, .class_ 4), (1, u "java/lang/Object"), (0, u "<init>"), (0, u "()V"), (17, .class_ 26), (1, u "jdk/internal/util/Preconditions"), (6, u "checkIndex"), (13, u "checkFromToIndex"), (7, .class_ 56), (0, u "jdk/internal/util/Preconditions$4"), (57, .class_ 115), (0, u "jdk/internal/util/Preconditions$1"), (7, u "SIOOBE_FORMATTER"), (0, u "Ljava/util/function/BiFunction;"), (0, .class_ 126), (0, u "jdk/internal/util/Preconditions$2"), (3, u "AIOOBE_FORMATTER"), (0, .class_ 132), (0, u "jdk/internal/util/Preconditions$3"), (3, u "IOOBE_FORMATTER"), (41, u "(IILjava/util/function/BiFunction;)I"), (4, u "(IIILjava/util/function/BiFunction;)I")] 10

def k13m0 : Method := { name := "<init>", desc := "()V", sig := { parameters := [], returnType := none }, accessFlags := 1, code := none }
def k13c1 : Code := { maxStack := 3, maxLocals := 3, code := jdk_41_method_11_code, exceptionTable := #[], attributes := #[] }
def k13m1 : Method := { name := "checkIndex", desc := "(IILjava/util/function/BiFunction;)I", sig := { parameters := [.int, .int, (.object "java/util/function/BiFunction")], returnType := some .int }, accessFlags := 9, code := some k13c1 }
def k13c2 : Code := { maxStack := 4, maxLocals := 4, code := jdk_41_method_12_code, exceptionTable := #[], attributes := #[] }
def k13m2 : Method := { name := "checkFromToIndex", desc := "(IIILjava/util/function/BiFunction;)I", sig := { parameters := [.int, .int, .int, (.object "java/util/function/BiFunction")], returnType := some .int }, accessFlags := 9, code := some k13c2 }
/-- jdk/internal/util/Preconditions -/
def k13 : Class := { plain "jdk/internal/util/Preconditions" (some 0) with
  accessFlags := 33
  interfaces := #[]
  cf := some (fileOf pool13 24 #[.nestMembers #[55, 131, 125, 114]] #[{ accessFlags := 1, nameIndex := 5, descriptorIndex := 6, attributes := #[] }, { accessFlags := 9, nameIndex := 33, descriptorIndex := 178, attributes := #[] }, { accessFlags := 9, nameIndex := 47, descriptorIndex := 183, attributes := #[] }] 33 2 #[] #[{ accessFlags := 25, nameIndex := 123, descriptorIndex := 124, attributes := #[] }, { accessFlags := 25, nameIndex := 130, descriptorIndex := 124, attributes := #[] }, { accessFlags := 25, nameIndex := 136, descriptorIndex := 124, attributes := #[] }])
  fields := #[{ name := "SIOOBE_FORMATTER", type := (.object "java/util/function/BiFunction"), accessFlags := 25, slot := 0, constantValue := 0 }, { name := "AIOOBE_FORMATTER", type := (.object "java/util/function/BiFunction"), accessFlags := 25, slot := 1, constantValue := 0 }, { name := "IOOBE_FORMATTER", type := (.object "java/util/function/BiFunction"), accessFlags := 25, slot := 2, constantValue := 0 }]
  methods := #[k13m0, k13m1, k13m2]
  instanceTypes := #[]
  staticTypes := #[(.object "java/util/function/BiFunction"), (.object "java/util/function/BiFunction"), (.object "java/util/function/BiFunction")]
  resolved := Array.replicate 194 none
  statics := some 1 }

def pool14 : Array CpInfo := pool [(2, .class_ 4), (1, u "java/lang/Object"), (0, u "<init>"), (0, u "()V"), (7, .class_ 16), (1, u "java/util/Arrays"), (57, .class_ 76), (1, u "java/util/Arrays$NaturalOrder"), (36, .class_ 115), (1, u "java/util/Arrays$LegacyMergeSort"), (1, u "Z"), (21, u "copyOfRange"), (10, .methodref 151 152), (0, .class_ 153), (0, .nameAndType 154 155), (0, u "java/lang/System"), (0, u "arraycopy"), (0, u "(Ljava/lang/Object;ILjava/lang/Object;II)V"), (148, .methodref 305 306), (0, .class_ 307), (0, .nameAndType 308 309), (0, u "java/lang/Math"), (0, u "min"), (0, u "(II)I"), (29, .methodref 14 340), (0, .nameAndType 341 342), (0, u "copyOfRangeByte"), (0, u "([BII)[B"), (0, .methodref 14 344), (0, .nameAndType 345 346), (0, u "checkLength"), (0, u "(II)V"), (28, .class_ 376), (0, u "java/util/Arrays$ArrayList"), (68, u "$assertionsDisabled"), (269, u "MIN_ARRAY_SORT_GRAN"), (0, u "I"), (2, u "INSERTIONSORT_THRESHOLD"), (255, .class_ 976), (0, u "java/util/Arrays$ArrayItr")] 52

def k14m0 : Method := { name := "<init>", desc := "()V", sig := { parameters := [], returnType := none }, accessFlags := 2, code := none }
def k14c1 : Code := { maxStack := 4, maxLocals := 2, code := jdk_65_method_131_code, exceptionTable := #[], attributes := #[] }
def k14m1 : Method := { name := "checkLength", desc := "(II)V", sig := { parameters := [.int, .int], returnType := none }, accessFlags := 10, code := some k14c1 }
def k14c2 : Code := { maxStack := 3, maxLocals := 3, code := jdk_65_method_132_code, exceptionTable := #[], attributes := #[] }
def k14m2 : Method := { name := "copyOfRange", desc := "([BII)[B", sig := { parameters := [(.array .byte), .int, .int], returnType := some (.array .byte) }, accessFlags := 9, code := some k14c2 }
def k14c3 : Code := { maxStack := 6, maxLocals := 5, code := jdk_65_method_133_code, exceptionTable := #[], attributes := #[] }
def k14m3 : Method := { name := "copyOfRangeByte", desc := "([BII)[B", sig := { parameters := [(.array .byte), .int, .int], returnType := some (.array .byte) }, accessFlags := 10, code := some k14c3 }
/-- java/util/Arrays -/
def k14 : Class := { plain "java/util/Arrays" (some 0) with
  accessFlags := 49
  interfaces := #[]
  cf := some (fileOf pool14 14 #[.nestMembers #[975, 375, 113, 74]] #[{ accessFlags := 2, nameIndex := 5, descriptorIndex := 6, attributes := #[] }, { accessFlags := 10, nameIndex := 345, descriptorIndex := 346, attributes := #[] }, { accessFlags := 9, nameIndex := 139, descriptorIndex := 342, attributes := #[] }, { accessFlags := 10, nameIndex := 341, descriptorIndex := 342, attributes := #[] }] 49 2 #[] #[{ accessFlags := 26, nameIndex := 715, descriptorIndex := 716, attributes := #[] }, { accessFlags := 26, nameIndex := 719, descriptorIndex := 716, attributes := #[] }, { accessFlags := 4120, nameIndex := 445, descriptorIndex := 117, attributes := #[] }])
  fields := #[{ name := "MIN_ARRAY_SORT_GRAN", type := .int, accessFlags := 26, slot := 0, constantValue := 0 }, { name := "INSERTIONSORT_THRESHOLD", type := .int, accessFlags := 26, slot := 1, constantValue := 0 }, { name := "$assertionsDisabled", type := .boolean, accessFlags := 4120, slot := 2, constantValue := 0 }]
  methods := #[k14m0, k14m1, k14m2, k14m3]
  instanceTypes := #[]
  staticTypes := #[.int, .int, .boolean]
  resolved := Array.replicate 1029 none
  statics := none }

def pool15 : Array CpInfo := pool [(2, .class_ 4), (1, u "java/lang/Object"), (0, u "<init>"), (0, u "()V"), (1, .class_ 10), (1, u "java/lang/System"), (0, u "allowSecurityManager"), (0, u "I"), (16, u "cons"), (0, u "Ljava/io/Console;"), (77, .class_ 110), (1, u "java/lang/System$CallersHolder"), (43, u "initialErrStream"), (0, u "Ljava/io/PrintStream;"), (19, u "security"), (0, u "Ljava/lang/SecurityManager;"), (31, .class_ 209), (0, u "java/lang/System$1"), (7, u "props"), (0, u "Ljava/util/Properties;"), (2, u "lineSeparator"), (0, u "Ljava/lang/String;"), (96, .class_ 321), (1, u "java/lang/System$LoggerFinder"), (5, .class_ 328), (0, u "java/lang/System$Logger"), (67, u "err"), (2, u "out"), (91, u "notSupportedJnuEncoding"), (15, u "in"), (17, u "initialIn"), (0, u "Ljava/io/InputStream;"), (35, u "bootLayer"), (0, u "Ljava/lang/ModuleLayer;"), (99, .class_ 664), (0, u "java/lang/System$2"), (9, u "NEVER"), (2, u "MAYBE"), (49, u "arraycopy"), (0, u "(Ljava/lang/Object;ILjava/lang/Object;II)V"), (72, .class_ 802), (0, u "java/lang/System$Logger$Level")] 31

def k15m0 : Method := { name := "<init>", desc := "()V", sig := { parameters := [], returnType := none }, accessFlags := 2, code := none }
def k15m1 : Method := { name := "arraycopy", desc := "(Ljava/lang/Object;ILjava/lang/Object;II)V", sig := { parameters := [(.object "java/lang/Object"), .int, (.object "java/lang/Object"), .int, .int], returnType := none }, accessFlags := 265, code := none }
/-- java/lang/System -/
def k15 : Class := { plain "java/lang/System" (some 0) with
  accessFlags := 49
  interfaces := #[]
  cf := some (fileOf pool15 8 #[.nestMembers #[319, 327, 801, 108, 663, 208]] #[{ accessFlags := 2, nameIndex := 5, descriptorIndex := 6, attributes := #[] }, { accessFlags := 265, nameIndex := 727, descriptorIndex := 728, attributes := #[] }] 49 2 #[] #[{ accessFlags := 25, nameIndex := 507, descriptorIndex := 526, attributes := #[] }, { accessFlags := 25, nameIndex := 399, descriptorIndex := 155, attributes := #[] }, { accessFlags := 25, nameIndex := 396, descriptorIndex := 155, attributes := #[] }, { accessFlags := 10, nameIndex := 525, descriptorIndex := 526, attributes := #[] }, { accessFlags := 26, nameIndex := 674, descriptorIndex := 12, attributes := #[] }, { accessFlags := 26, nameIndex := 677, descriptorIndex := 12, attributes := #[] }, { accessFlags := 10, nameIndex := 11, descriptorIndex := 12, attributes := #[] }, { accessFlags := 74, nameIndex := 175, descriptorIndex := 176, attributes := #[] }, { accessFlags := 10, nameIndex := 491, descriptorIndex := 222, attributes := #[] }, { accessFlags := 74, nameIndex := 29, descriptorIndex := 30, attributes := #[] }, { accessFlags := 74, nameIndex := 154, descriptorIndex := 155, attributes := #[] }, { accessFlags := 10, nameIndex := 217, descriptorIndex := 218, attributes := #[] }, { accessFlags := 10, nameIndex := 221, descriptorIndex := 222, attributes := #[] }, { accessFlags := 8, nameIndex := 562, descriptorIndex := 563, attributes := #[] }])
  fields := #[{ name := "in", type := (.object "java/io/InputStream"), accessFlags := 25, slot := 0, constantValue := 0 }, { name := "out", type := (.object "java/io/PrintStream"), accessFlags := 25, slot := 1, constantValue := 0 }, { name := "err", type := (.object "java/io/PrintStream"), accessFlags := 25, slot := 2, constantValue := 0 }, { name := "initialIn", type := (.object "java/io/InputStream"), accessFlags := 10, slot := 3, constantValue := 0 }, { name := "NEVER", type := .int, accessFlags := 26, slot := 4, constantValue := 0 }, { name := "MAYBE", type := .int, accessFlags := 26, slot := 5, constantValue := 0 }, { name := "allowSecurityManager", type := .int, accessFlags := 10, slot := 6, constantValue := 0 }, { name := "security", type := (.object "java/lang/SecurityManager"), accessFlags := 74, slot := 7, constantValue := 0 }, { name := "notSupportedJnuEncoding", type := (.object "java/lang/String"), accessFlags := 10, slot := 8, constantValue := 0 }, { name := "cons", type := (.object "java/io/Console"), accessFlags := 74, slot := 9, constantValue := 0 }, { name := "initialErrStream", type := (.object "java/io/PrintStream"), accessFlags := 74, slot := 10, constantValue := 0 }, { name := "props", type := (.object "java/util/Properties"), accessFlags := 10, slot := 11, constantValue := 0 }, { name := "lineSeparator", type := (.object "java/lang/String"), accessFlags := 10, slot := 12, constantValue := 0 }, { name := "bootLayer", type := (.object "java/lang/ModuleLayer"), accessFlags := 8, slot := 13, constantValue := 0 }]
  methods := #[k15m0, k15m1]
  instanceTypes := #[]
  staticTypes := #[(.object "java/io/InputStream"), (.object "java/io/PrintStream"), (.object "java/io/PrintStream"), (.object "java/io/InputStream"), .int, .int, .int, (.object "java/lang/SecurityManager"), (.object "java/lang/String"), (.object "java/io/Console"), (.object "java/io/PrintStream"), (.object "java/util/Properties"), (.object "java/lang/String"), (.object "java/lang/ModuleLayer")]
  resolved := Array.replicate 834 none
  statics := none }

def pool16 : Array CpInfo := pool [(9, u "<init>"), (6, .class_ 18), (1, u "java/lang/Object"), (0, u "()V"), (1, .class_ 23), (1, u "jdk/internal/util/ArraysSupport"), (0, u "LOG2_ARRAY_LONG_INDEX_SCALE"), (0, u "I"), (2, u "U"), (0, u "Ljdk/internal/misc/Unsafe;"), (8, u "BIG_ENDIAN"), (0, u "Z"), (8, u "LOG2_BYTE_BIT_SIZE"), (4, u "LOG2_ARRAY_INT_INDEX_SCALE"), (54, u "JLA"), (0, u "Ljdk/internal/access/JavaLangAccess;"), (11, u "LOG2_ARRAY_BOOLEAN_INDEX_SCALE"), (9, u "LOG2_ARRAY_BYTE_INDEX_SCALE"), (5, u "LOG2_ARRAY_CHAR_INDEX_SCALE"), (5, u "LOG2_ARRAY_SHORT_INDEX_SCALE"), (18, u "LOG2_ARRAY_FLOAT_INDEX_SCALE"), (24, u "LOG2_ARRAY_DOUBLE_INDEX_SCALE"), (89, u "T_BOOLEAN"), (2, u "T_CHAR"), (1, u "T_FLOAT"), (1, u "T_DOUBLE"), (1, u "T_BYTE"), (1, u "T_SHORT"), (1, u "T_INT"), (1, u "T_LONG"), (1, u "SOFT_MAX_ARRAY_LENGTH")] 83

def k16m0 : Method := { name := "<init>", desc := "()V", sig := { parameters := [], returnType := none }, accessFlags := 2, code := none }
/-- jdk/internal/util/ArraysSupport -/
def k16 : Class := { plain "jdk/internal/util/ArraysSupport" (some 0) with
  accessFlags := 33
  interfaces := #[]
  cf := some (fileOf pool16 21 #[] #[{ accessFlags := 2, nameIndex := 9, descriptorIndex := 19, attributes := #[] }] 33 16 #[] #[{ accessFlags := 24, nameIndex := 28, descriptorIndex := 29, attributes := #[] }, { accessFlags := 26, nameIndex := 38, descriptorIndex := 39, attributes := #[] }, { accessFlags := 25, nameIndex := 121, descriptorIndex := 25, attributes := #[] }, { accessFlags := 25, nameIndex := 131, descriptorIndex := 25, attributes := #[] }, { accessFlags := 25, nameIndex := 137, descriptorIndex := 25, attributes := #[] }, { accessFlags := 25, nameIndex := 143, descriptorIndex := 25, attributes := #[] }, { accessFlags := 25, nameIndex := 53, descriptorIndex := 25, attributes := #[] }, { accessFlags := 25, nameIndex := 24, descriptorIndex := 25, attributes := #[] }, { accessFlags := 25, nameIndex := 162, descriptorIndex := 25, attributes := #[] }, { accessFlags := 25, nameIndex := 187, descriptorIndex := 25, attributes := #[] }, { accessFlags := 26, nameIndex := 48, descriptorIndex := 25, attributes := #[] }, { accessFlags := 25, nameIndex := 277, descriptorIndex := 25, attributes := #[] }, { accessFlags := 25, nameIndex := 280, descriptorIndex := 25, attributes := #[] }, { accessFlags := 25, nameIndex := 282, descriptorIndex := 25, attributes := #[] }, { accessFlags := 25, nameIndex := 284, descriptorIndex := 25, attributes := #[] }, { accessFlags := 25, nameIndex := 286, descriptorIndex := 25, attributes := #[] }, { accessFlags := 25, nameIndex := 288, descriptorIndex := 25, attributes := #[] }, { accessFlags := 25, nameIndex := 290, descriptorIndex := 25, attributes := #[] }, { accessFlags := 25, nameIndex := 292, descriptorIndex := 25, attributes := #[] }, { accessFlags := 26, nameIndex := 108, descriptorIndex := 109, attributes := #[] }, { accessFlags := 25, nameIndex := 294, descriptorIndex := 25, attributes := #[] }])
  fields := #[{ name := "U", type := (.object "jdk/internal/misc/Unsafe"), accessFlags := 24, slot := 0, constantValue := 0 }, { name := "BIG_ENDIAN", type := .boolean, accessFlags := 26, slot := 1, constantValue := 0 }, { name := "LOG2_ARRAY_BOOLEAN_INDEX_SCALE", type := .int, accessFlags := 25, slot := 2, constantValue := 0 }, { name := "LOG2_ARRAY_BYTE_INDEX_SCALE", type := .int, accessFlags := 25, slot := 3, constantValue := 0 }, { name := "LOG2_ARRAY_CHAR_INDEX_SCALE", type := .int, accessFlags := 25, slot := 4, constantValue := 0 }, { name := "LOG2_ARRAY_SHORT_INDEX_SCALE", type := .int, accessFlags := 25, slot := 5, constantValue := 0 }, { name := "LOG2_ARRAY_INT_INDEX_SCALE", type := .int, accessFlags := 25, slot := 6, constantValue := 0 }, { name := "LOG2_ARRAY_LONG_INDEX_SCALE", type := .int, accessFlags := 25, slot := 7, constantValue := 0 }, { name := "LOG2_ARRAY_FLOAT_INDEX_SCALE", type := .int, accessFlags := 25, slot := 8, constantValue := 0 }, { name := "LOG2_ARRAY_DOUBLE_INDEX_SCALE", type := .int, accessFlags := 25, slot := 9, constantValue := 0 }, { name := "LOG2_BYTE_BIT_SIZE", type := .int, accessFlags := 26, slot := 10, constantValue := 0 }, { name := "T_BOOLEAN", type := .int, accessFlags := 25, slot := 11, constantValue := 0 }, { name := "T_CHAR", type := .int, accessFlags := 25, slot := 12, constantValue := 0 }, { name := "T_FLOAT", type := .int, accessFlags := 25, slot := 13, constantValue := 0 }, { name := "T_DOUBLE", type := .int, accessFlags := 25, slot := 14, constantValue := 0 }, { name := "T_BYTE", type := .int, accessFlags := 25, slot := 15, constantValue := 0 }, { name := "T_SHORT", type := .int, accessFlags := 25, slot := 16, constantValue := 0 }, { name := "T_INT", type := .int, accessFlags := 25, slot := 17, constantValue := 0 }, { name := "T_LONG", type := .int, accessFlags := 25, slot := 18, constantValue := 0 }, { name := "JLA", type := (.object "jdk/internal/access/JavaLangAccess"), accessFlags := 26, slot := 19, constantValue := 0 }, { name := "SOFT_MAX_ARRAY_LENGTH", type := .int, accessFlags := 25, slot := 20, constantValue := 0 }]
  methods := #[k16m0]
  instanceTypes := #[]
  staticTypes := #[(.object "jdk/internal/misc/Unsafe"), .boolean, .int, .int, .int, .int, .int, .int, .int, .int, .int, .int, .int, .int, .int, .int, .int, .int, .int, (.object "jdk/internal/access/JavaLangAccess"), .int]
  resolved := Array.replicate 378 none
  statics := none }

def pool17 : Array CpInfo := pool [(1, u "java/lang/Cloneable"), (0, .class_ 1), (0, u "java/lang/Object"), (0, .class_ 3)] 3

/-- java/lang/Cloneable -/
def k17 : Class := { plain "java/lang/Cloneable" (some 0) with
  accessFlags := 1537
  interfaces := #[]
  cf := some (fileOf pool17 2 #[] #[] 1537 4 #[] #[])
  fields := #[]
  methods := #[]
  instanceTypes := #[]
  staticTypes := #[]
  resolved := Array.replicate 8 none
  statics := none }

/-- the primitive byte -/
def k18 : Class := { plain "byte" none with kind := .primitive 'B', accessFlags := 0x411 }
/-- [B -/
def k19 : Class := { plain "[B" (some 0) with kind := .array 18 .byte, interfaces := #[17, 2], accessFlags := 1041 }

/-- the primitive char -/
def k20 : Class := { plain "char" none with kind := .primitive 'C', accessFlags := 0x411 }
/-- [C -/
def k21 : Class := { plain "[C" (some 0) with kind := .array 20 .char, interfaces := #[17, 2], accessFlags := 1041 }

/-- the primitive int -/
def k22 : Class := { plain "int" none with kind := .primitive 'I', accessFlags := 0x411 }
/-- [I -/
def k23 : Class := { plain "[I" (some 0) with kind := .array 22 .int, interfaces := #[17, 2], accessFlags := 1041 }

def heap : Heap := #[{ cls := 7, slots := #[.long 0, .int 1, .null, .int 0, .null, .int 0, .int 0], vm := .statics 7 },
  { cls := 13, slots := #[.null, .null, .null], vm := .statics 13 }]
def classes : Array Class := #[k0, k1, k2, k3, k4, k5, k6, k7, k8, k9, k10, k11, k12, k13, k14, k15, k16, k17, k18, k19, k20, k21, k22, k23]
def interned : List (Array UInt16 × Addr) := []
def slotsUsed : Nat := 10
def theMethod : MethodId := ⟨1, 1⟩
def args0 : Array Value := #[.int 5, .int 5, .int 5, .int 5, .int 5, .int 5]
def aboutOver (below : List Frame) : State where
  vm := { classes := classes, interned := interned.toArray }
  heap := heap
  slotsUsed := slotsUsed
  threads := #[{ frames := .invoking theMethod args0 :: below }]
def below0 : List Frame := [.native { method := ⟨0, 0⟩, args := #[] }]
def about1 : State := aboutOver below0
def p0 : Program := .bare "" "" ""
def e0 : Env := launch0.env 0 0 0
theorem w_frames : about1.frames = Frame.invoking theMethod args0 :: below0 := rfl
set_option maxRecDepth 65536 in
theorem w_args : argsFit about1.vm theMethod args0 = true := by decide +kernel
set_option maxRecDepth 65536 in
theorem w_heap : heapFits about1 = true := by decide +kernel
set_option maxRecDepth 65536 in
theorem w_runnable : about1.curStatus? = some .runnable := by decide +kernel
set_option maxRecDepth 65536 in
theorem w_alone : about1.alone = true := by decide +kernel
set_option maxRecDepth 65536 in
theorem w_named : about1.methodNamed? x = some theMethod := by decide +kernel
set_option maxRecDepth 65536 in
theorem w_hears : about1.hears theMethod below0 = true := by decide +kernel
set_option maxRecDepth 65536 in
theorem w_ripe : about1.ripe theMethod args0 below0 = true := by decide +kernel
theorem w_running : about1.status = .running := rfl
set_option maxRecDepth 65536 in
theorem w_room : about1.hasRoom e0.platform room_1 = true :=
  launch0.hasRoom_least _ room_1 (by decide +kernel) (by decide +kernel) (by decide +kernel) (by decide +kernel) (by decide +kernel) (by decide +kernel)
theorem allAtoms_all (ts : List Jvm.Cond) (a : Array Jvm.Value) (st : Jvm.State) : (allAtoms ts).before a st = ts.all (fun c => c.before a st) := by
  induction ts with
  | nil => rfl
  | cons c t ih =>
    show (Jvm.Cond.and c (allAtoms t)).before a st = _
    rw [Jvm.Cond.before_and, ih, List.all_cons]
def words1 : List Jvm.Cond := Jvm.Cond.code x code maxLocals ret :: tables_1
/-- a 'code' word, met by the world's own term for the bytes: nothing is compared byte by byte -/
theorem code_word {y : MethodName} {bytes : ByteArray} {mx : Nat} {rt : Option FieldType} {a : Array Value} {s : State} {m : MethodId} {meth : Method} {c : Code} (h1 : s.methodNamed? y = some m) (h2 : s.vm.method? m = some meth) (h3 : meth.code = some c) (h4 : c.code = bytes)
    (h5 : (c.maxLocals == mx && c.exceptionTable.isEmpty && decide (c.maxStack ≤ mostOperands) && decide (meth.sig.returnType = rt) && !meth.locks && decide (parseMethodDescriptor y.desc = some meth.sig)) = true) : (Jvm.Cond.code y bytes mx rt).before a s = true := by
  simp only [Bool.and_eq_true, beq_iff_eq, Bool.not_eq_true', decide_eq_true_eq] at h5
  obtain ⟨⟨⟨⟨⟨g1, g2⟩, g3⟩, g4⟩, g5⟩, g6⟩ := h5
  simp [Cond.before, Cond.holds, Cond.value, h1, h2, h3, h4, g1, g2, g3, g4, g5, g6]
def isCode : Jvm.Cond → Bool
  | .code _ _ _ _ => true
  | _ => false
theorem all_split {L : List Jvm.Cond} {P : Jvm.Cond → Bool} (h1 : L.all (fun c => isCode c || P c) = true) (h2 : ∀ c ∈ L.filter isCode, P c = true) : L.all P = true := by
  refine List.all_eq_true.mpr fun c hc => ?_
  have h := List.all_eq_true.mp h1 c hc
  rcases Bool.eq_false_or_eq_true (isCode c) with hi | hi
  · exact h2 c (List.mem_filter.mpr ⟨hc, hi⟩)
  · simpa [hi] using h
set_option maxRecDepth 65536 in
theorem w_c0 : (Jvm.Cond.code x code maxLocals ret).before args0 about1 = true := code_word (m := ⟨1, 1⟩) (meth := k1m1) (c := k1c1) (by decide +kernel) rfl rfl rfl (by decide +kernel)
set_option maxRecDepth 65536 in
theorem w_c1 : (Jvm.Cond.code ({ cls := "com/example/resolvent/resolvent/identifiers/IdentifierPrefixOfPinLaw", name := "draw", desc := "(I)C" } : Jvm.MethodName) method_3_code (1 : Nat) (Option.some Jvm.ClassFile.FieldType.char)).before args0 about1 = true := code_word (m := ⟨1, 2⟩) (meth := k1m2) (c := k1c2) (by decide +kernel) rfl rfl rfl (by decide +kernel)
set_option maxRecDepth 65536 in
theorem w_c2 : (Jvm.Cond.code ({ cls := "java/lang/String", name := "<init>", desc := "([C)V" } : Jvm.MethodName) jdk_42_method_3_code (2 : Nat) (Option.none : Option Jvm.ClassFile.FieldType)).before args0 about1 = true := code_word (m := ⟨7, 1⟩) (meth := k7m1) (c := k7c1) (by decide +kernel) rfl rfl rfl (by decide +kernel)
set_option maxRecDepth 65536 in
theorem w_c3 : (Jvm.Cond.code ({ cls := "java/lang/String", name := "<init>", desc := "([CIILjava/lang/Void;)V" } : Jvm.MethodName) jdk_42_method_149_code (6 : Nat) (Option.none : Option Jvm.ClassFile.FieldType)).before args0 about1 = true := code_word (m := ⟨7, 7⟩) (meth := k7m7) (c := k7c7) (by decide +kernel) rfl rfl rfl (by decide +kernel)
set_option maxRecDepth 65536 in
theorem w_c4 : (Jvm.Cond.code ({ cls := "java/lang/Object", name := "<init>", desc := "()V" } : Jvm.MethodName) object_method_1_code (1 : Nat) (Option.none : Option Jvm.ClassFile.FieldType)).before args0 about1 = true := code_word (m := ⟨0, 0⟩) (meth := k0m0) (c := k0c0) (by decide +kernel) rfl rfl rfl (by decide +kernel)
set_option maxRecDepth 65536 in
theorem w_c5 : (Jvm.Cond.code ({ cls := "java/lang/StringUTF16", name := "compress", desc := "([CII)[B" } : Jvm.MethodName) jdk_52_method_16_code (6 : Nat) (Option.some (Jvm.ClassFile.FieldType.array Jvm.ClassFile.FieldType.byte))).before args0 about1 = true := code_word (m := ⟨8, 2⟩) (meth := k8m2) (c := k8c2) (by decide +kernel) rfl rfl rfl (by decide +kernel)
set_option maxRecDepth 65536 in
theorem w_c6 : (Jvm.Cond.code ({ cls := "java/lang/StringUTF16", name := "compress", desc := "([CI[BII)I" } : Jvm.MethodName) jdk_52_method_21_code (7 : Nat) (Option.some Jvm.ClassFile.FieldType.int)).before args0 about1 = true := code_word (m := ⟨8, 3⟩) (meth := k8m3) (c := k8c3) (by decide +kernel) rfl rfl rfl (by decide +kernel)
set_option maxRecDepth 65536 in
theorem w_c7 : (Jvm.Cond.code ({ cls := "java/lang/StringUTF16", name := "coderFromArrayLen", desc := "([BI)B" } : Jvm.MethodName) jdk_52_method_15_code (2 : Nat) (Option.some Jvm.ClassFile.FieldType.byte)).before args0 about1 = true := code_word (m := ⟨8, 1⟩) (meth := k8m1) (c := k8c1) (by decide +kernel) rfl rfl rfl (by decide +kernel)
set_option maxRecDepth 65536 in
theorem w_c8 : (Jvm.Cond.code ({ cls := "com/example/resolvent/resolvent/identifiers/Identifier", name := "prefixOf", desc := "(Ljava/lang/String;)Ljava/lang/String;" } : Jvm.MethodName) prog_3_method_6_code (1 : Nat) (Option.some (Jvm.ClassFile.FieldType.object "java/lang/String"))).before args0 about1 = true := code_word (m := ⟨10, 0⟩) (meth := k10m0) (c := k10c0) (by decide +kernel) rfl rfl rfl (by decide +kernel)
set_option maxRecDepth 65536 in
theorem w_c9 : (Jvm.Cond.code ({ cls := "java/lang/String", name := "indexOf", desc := "(I)I" } : Jvm.MethodName) jdk_42_method_79_code (2 : Nat) (Option.some Jvm.ClassFile.FieldType.int)).before args0 about1 = true := code_word (m := ⟨7, 4⟩) (meth := k7m4) (c := k7c4) (by decide +kernel) rfl rfl rfl (by decide +kernel)
set_option maxRecDepth 65536 in
theorem w_c10 : (Jvm.Cond.code ({ cls := "java/lang/String", name := "indexOf", desc := "(II)I" } : Jvm.MethodName) jdk_42_method_80_code (3 : Nat) (Option.some Jvm.ClassFile.FieldType.int)).before args0 about1 = true := code_word (m := ⟨7, 5⟩) (meth := k7m5) (c := k7c5) (by decide +kernel) rfl rfl rfl (by decide +kernel)
set_option maxRecDepth 65536 in
theorem w_c11 : (Jvm.Cond.code ({ cls := "java/lang/String", name := "isLatin1", desc := "()Z" } : Jvm.MethodName) jdk_42_method_154_code (1 : Nat) (Option.some Jvm.ClassFile.FieldType.boolean)).before args0 about1 = true := code_word (m := ⟨7, 10⟩) (meth := k7m10) (c := k7c10) (by decide +kernel) rfl rfl rfl (by decide +kernel)
set_option maxRecDepth 65536 in
theorem w_c12 : (Jvm.Cond.code ({ cls := "java/lang/String", name := "length", desc := "()I" } : Jvm.MethodName) jdk_42_method_54_code (1 : Nat) (Option.some Jvm.ClassFile.FieldType.int)).before args0 about1 = true := code_word (m := ⟨7, 2⟩) (meth := k7m2) (c := k7c2) (by decide +kernel) rfl rfl rfl (by decide +kernel)
set_option maxRecDepth 65536 in
theorem w_c13 : (Jvm.Cond.code ({ cls := "java/lang/String", name := "coder", desc := "()B" } : Jvm.MethodName) jdk_42_method_152_code (1 : Nat) (Option.some Jvm.ClassFile.FieldType.byte)).before args0 about1 = true := code_word (m := ⟨7, 9⟩) (meth := k7m9) (c := k7c9) (by decide +kernel) rfl rfl rfl (by decide +kernel)
set_option maxRecDepth 65536 in
theorem w_c14 : (Jvm.Cond.code ({ cls := "java/lang/StringLatin1", name := "indexOf", desc := "([BIII)I" } : Jvm.MethodName) jdk_43_method_22_code (4 : Nat) (Option.some Jvm.ClassFile.FieldType.int)).before args0 about1 = true := code_word (m := ⟨11, 3⟩) (meth := k11m3) (c := k11c3) (by decide +kernel) rfl rfl rfl (by decide +kernel)
set_option maxRecDepth 65536 in
theorem w_c15 : (Jvm.Cond.code ({ cls := "java/lang/StringLatin1", name := "canEncode", desc := "(I)Z" } : Jvm.MethodName) jdk_43_method_4_code (1 : Nat) (Option.some Jvm.ClassFile.FieldType.boolean)).before args0 about1 = true := code_word (m := ⟨11, 2⟩) (meth := k11m2) (c := k11c2) (by decide +kernel) rfl rfl rfl (by decide +kernel)
set_option maxRecDepth 65536 in
theorem w_c16 : (Jvm.Cond.code ({ cls := "java/lang/Math", name := "max", desc := "(II)I" } : Jvm.MethodName) jdk_29_method_65_code (2 : Nat) (Option.some Jvm.ClassFile.FieldType.int)).before args0 about1 = true := code_word (m := ⟨12, 1⟩) (meth := k12m1) (c := k12c1) (by decide +kernel) rfl rfl rfl (by decide +kernel)
set_option maxRecDepth 65536 in
theorem w_c17 : (Jvm.Cond.code ({ cls := "java/lang/Math", name := "min", desc := "(II)I" } : Jvm.MethodName) jdk_29_method_69_code (2 : Nat) (Option.some Jvm.ClassFile.FieldType.int)).before args0 about1 = true := code_word (m := ⟨12, 2⟩) (meth := k12m2) (c := k12c2) (by decide +kernel) rfl rfl rfl (by decide +kernel)
set_option maxRecDepth 65536 in
theorem w_c18 : (Jvm.Cond.code ({ cls := "java/lang/StringLatin1", name := "indexOfChar", desc := "([BIII)I" } : Jvm.MethodName) jdk_43_method_23_code (6 : Nat) (Option.some Jvm.ClassFile.FieldType.int)).before args0 about1 = true := code_word (m := ⟨11, 4⟩) (meth := k11m4) (c := k11c4) (by decide +kernel) rfl rfl rfl (by decide +kernel)
set_option maxRecDepth 65536 in
theorem w_c19 : (Jvm.Cond.code ({ cls := "java/lang/String", name := "substring", desc := "(II)Ljava/lang/String;" } : Jvm.MethodName) jdk_42_method_92_code (5 : Nat) (Option.some (Jvm.ClassFile.FieldType.object "java/lang/String"))).before args0 about1 = true := code_word (m := ⟨7, 6⟩) (meth := k7m6) (c := k7c6) (by decide +kernel) rfl rfl rfl (by decide +kernel)
set_option maxRecDepth 65536 in
theorem w_c20 : (Jvm.Cond.code ({ cls := "java/lang/String", name := "checkBoundsBeginEnd", desc := "(III)V" } : Jvm.MethodName) jdk_42_method_158_code (3 : Nat) (Option.none : Option Jvm.ClassFile.FieldType)).before args0 about1 = true := code_word (m := ⟨7, 12⟩) (meth := k7m12) (c := k7c12) (by decide +kernel) rfl rfl rfl (by decide +kernel)
set_option maxRecDepth 65536 in
theorem w_c21 : (Jvm.Cond.code ({ cls := "jdk/internal/util/Preconditions", name := "checkFromToIndex", desc := "(IIILjava/util/function/BiFunction;)I" } : Jvm.MethodName) jdk_41_method_12_code (4 : Nat) (Option.some Jvm.ClassFile.FieldType.int)).before args0 about1 = true := code_word (m := ⟨13, 2⟩) (meth := k13m2) (c := k13c2) (by decide +kernel) rfl rfl rfl (by decide +kernel)
set_option maxRecDepth 65536 in
theorem w_c22 : (Jvm.Cond.code ({ cls := "java/lang/StringLatin1", name := "newString", desc := "([BII)Ljava/lang/String;" } : Jvm.MethodName) jdk_43_method_47_code (3 : Nat) (Option.some (Jvm.ClassFile.FieldType.object "java/lang/String"))).before args0 about1 = true := code_word (m := ⟨11, 5⟩) (meth := k11m5) (c := k11c5) (by decide +kernel) rfl rfl rfl (by decide +kernel)
set_option maxRecDepth 65536 in
theorem w_c23 : (Jvm.Cond.code ({ cls := "java/util/Arrays", name := "copyOfRange", desc := "([BII)[B" } : Jvm.MethodName) jdk_65_method_132_code (3 : Nat) (Option.some (Jvm.ClassFile.FieldType.array Jvm.ClassFile.FieldType.byte))).before args0 about1 = true := code_word (m := ⟨14, 2⟩) (meth := k14m2) (c := k14c2) (by decide +kernel) rfl rfl rfl (by decide +kernel)
set_option maxRecDepth 65536 in
theorem w_c24 : (Jvm.Cond.code ({ cls := "java/util/Arrays", name := "copyOfRangeByte", desc := "([BII)[B" } : Jvm.MethodName) jdk_65_method_133_code (5 : Nat) (Option.some (Jvm.ClassFile.FieldType.array Jvm.ClassFile.FieldType.byte))).before args0 about1 = true := code_word (m := ⟨14, 3⟩) (meth := k14m3) (c := k14c3) (by decide +kernel) rfl rfl rfl (by decide +kernel)
set_option maxRecDepth 65536 in
theorem w_c25 : (Jvm.Cond.code ({ cls := "java/util/Arrays", name := "checkLength", desc := "(II)V" } : Jvm.MethodName) jdk_65_method_131_code (2 : Nat) (Option.none : Option Jvm.ClassFile.FieldType)).before args0 about1 = true := code_word (m := ⟨14, 1⟩) (meth := k14m1) (c := k14c1) (by decide +kernel) rfl rfl rfl (by decide +kernel)
set_option maxRecDepth 65536 in
theorem w_c26 : (Jvm.Cond.code ({ cls := "java/lang/String", name := "<init>", desc := "([BB)V" } : Jvm.MethodName) jdk_42_method_151_code (3 : Nat) (Option.none : Option Jvm.ClassFile.FieldType)).before args0 about1 = true := code_word (m := ⟨7, 8⟩) (meth := k7m8) (c := k7c8) (by decide +kernel) rfl rfl rfl (by decide +kernel)
set_option maxRecDepth 65536 in
theorem w_c27 : (Jvm.Cond.code ({ cls := "java/lang/String", name := "charAt", desc := "(I)C" } : Jvm.MethodName) jdk_42_method_56_code (2 : Nat) (Option.some Jvm.ClassFile.FieldType.char)).before args0 about1 = true := code_word (m := ⟨7, 3⟩) (meth := k7m3) (c := k7c3) (by decide +kernel) rfl rfl rfl (by decide +kernel)
set_option maxRecDepth 65536 in
theorem w_c28 : (Jvm.Cond.code ({ cls := "java/lang/StringLatin1", name := "charAt", desc := "([BI)C" } : Jvm.MethodName) jdk_43_method_2_code (2 : Nat) (Option.some Jvm.ClassFile.FieldType.char)).before args0 about1 = true := code_word (m := ⟨11, 1⟩) (meth := k11m1) (c := k11c1) (by decide +kernel) rfl rfl rfl (by decide +kernel)
set_option maxRecDepth 65536 in
theorem w_c29 : (Jvm.Cond.code ({ cls := "java/lang/String", name := "checkIndex", desc := "(II)V" } : Jvm.MethodName) jdk_42_method_155_code (2 : Nat) (Option.none : Option Jvm.ClassFile.FieldType)).before args0 about1 = true := code_word (m := ⟨7, 11⟩) (meth := k7m11) (c := k7c11) (by decide +kernel) rfl rfl rfl (by decide +kernel)
set_option maxRecDepth 65536 in
theorem w_c30 : (Jvm.Cond.code ({ cls := "jdk/internal/util/Preconditions", name := "checkIndex", desc := "(IILjava/util/function/BiFunction;)I" } : Jvm.MethodName) jdk_41_method_11_code (3 : Nat) (Option.some Jvm.ClassFile.FieldType.int)).before args0 about1 = true := code_word (m := ⟨13, 1⟩) (meth := k13m1) (c := k13c1) (by decide +kernel) rfl rfl rfl (by decide +kernel)
def codes1 : List Jvm.Cond := [Jvm.Cond.code x code maxLocals ret, Jvm.Cond.code ({ cls := "com/example/resolvent/resolvent/identifiers/IdentifierPrefixOfPinLaw", name := "draw", desc := "(I)C" } : Jvm.MethodName) method_3_code (1 : Nat) (Option.some Jvm.ClassFile.FieldType.char), Jvm.Cond.code ({ cls := "java/lang/String", name := "<init>", desc := "([C)V" } : Jvm.MethodName) jdk_42_method_3_code (2 : Nat) (Option.none : Option Jvm.ClassFile.FieldType), Jvm.Cond.code ({ cls := "java/lang/String", name := "<init>", desc := "([CIILjava/lang/Void;)V" } : Jvm.MethodName) jdk_42_method_149_code (6 : Nat) (Option.none : Option Jvm.ClassFile.FieldType), Jvm.Cond.code ({ cls := "java/lang/Object", name := "<init>", desc := "()V" } : Jvm.MethodName) object_method_1_code (1 : Nat) (Option.none : Option Jvm.ClassFile.FieldType), Jvm.Cond.code ({ cls := "java/lang/StringUTF16", name := "compress", desc := "([CII)[B" } : Jvm.MethodName) jdk_52_method_16_code (6 : Nat) (Option.some (Jvm.ClassFile.FieldType.array Jvm.ClassFile.FieldType.byte)), Jvm.Cond.code ({ cls := "java/lang/StringUTF16", name := "compress", desc := "([CI[BII)I" } : Jvm.MethodName) jdk_52_method_21_code (7 : Nat) (Option.some Jvm.ClassFile.FieldType.int), Jvm.Cond.code ({ cls := "java/lang/StringUTF16", name := "coderFromArrayLen", desc := "([BI)B" } : Jvm.MethodName) jdk_52_method_15_code (2 : Nat) (Option.some Jvm.ClassFile.FieldType.byte), Jvm.Cond.code ({ cls := "com/example/resolvent/resolvent/identifiers/Identifier", name := "prefixOf", desc := "(Ljava/lang/String;)Ljava/lang/String;" } : Jvm.MethodName) prog_3_method_6_code (1 : Nat) (Option.some (Jvm.ClassFile.FieldType.object "java/lang/String")), Jvm.Cond.code ({ cls := "java/lang/String", name := "indexOf", desc := "(I)I" } : Jvm.MethodName) jdk_42_method_79_code (2 : Nat) (Option.some Jvm.ClassFile.FieldType.int), Jvm.Cond.code ({ cls := "java/lang/String", name := "indexOf", desc := "(II)I" } : Jvm.MethodName) jdk_42_method_80_code (3 : Nat) (Option.some Jvm.ClassFile.FieldType.int), Jvm.Cond.code ({ cls := "java/lang/String", name := "isLatin1", desc := "()Z" } : Jvm.MethodName) jdk_42_method_154_code (1 : Nat) (Option.some Jvm.ClassFile.FieldType.boolean), Jvm.Cond.code ({ cls := "java/lang/String", name := "length", desc := "()I" } : Jvm.MethodName) jdk_42_method_54_code (1 : Nat) (Option.some Jvm.ClassFile.FieldType.int), Jvm.Cond.code ({ cls := "java/lang/String", name := "coder", desc := "()B" } : Jvm.MethodName) jdk_42_method_152_code (1 : Nat) (Option.some Jvm.ClassFile.FieldType.byte), Jvm.Cond.code ({ cls := "java/lang/StringLatin1", name := "indexOf", desc := "([BIII)I" } : Jvm.MethodName) jdk_43_method_22_code (4 : Nat) (Option.some Jvm.ClassFile.FieldType.int), Jvm.Cond.code ({ cls := "java/lang/StringLatin1", name := "canEncode", desc := "(I)Z" } : Jvm.MethodName) jdk_43_method_4_code (1 : Nat) (Option.some Jvm.ClassFile.FieldType.boolean), Jvm.Cond.code ({ cls := "java/lang/Math", name := "max", desc := "(II)I" } : Jvm.MethodName) jdk_29_method_65_code (2 : Nat) (Option.some Jvm.ClassFile.FieldType.int), Jvm.Cond.code ({ cls := "java/lang/Math", name := "min", desc := "(II)I" } : Jvm.MethodName) jdk_29_method_69_code (2 : Nat) (Option.some Jvm.ClassFile.FieldType.int), Jvm.Cond.code ({ cls := "java/lang/StringLatin1", name := "indexOfChar", desc := "([BIII)I" } : Jvm.MethodName) jdk_43_method_23_code (6 : Nat) (Option.some Jvm.ClassFile.FieldType.int), Jvm.Cond.code ({ cls := "java/lang/String", name := "substring", desc := "(II)Ljava/lang/String;" } : Jvm.MethodName) jdk_42_method_92_code (5 : Nat) (Option.some (Jvm.ClassFile.FieldType.object "java/lang/String")), Jvm.Cond.code ({ cls := "java/lang/String", name := "checkBoundsBeginEnd", desc := "(III)V" } : Jvm.MethodName) jdk_42_method_158_code (3 : Nat) (Option.none : Option Jvm.ClassFile.FieldType), Jvm.Cond.code ({ cls := "jdk/internal/util/Preconditions", name := "checkFromToIndex", desc := "(IIILjava/util/function/BiFunction;)I" } : Jvm.MethodName) jdk_41_method_12_code (4 : Nat) (Option.some Jvm.ClassFile.FieldType.int), Jvm.Cond.code ({ cls := "java/lang/StringLatin1", name := "newString", desc := "([BII)Ljava/lang/String;" } : Jvm.MethodName) jdk_43_method_47_code (3 : Nat) (Option.some (Jvm.ClassFile.FieldType.object "java/lang/String")), Jvm.Cond.code ({ cls := "java/util/Arrays", name := "copyOfRange", desc := "([BII)[B" } : Jvm.MethodName) jdk_65_method_132_code (3 : Nat) (Option.some (Jvm.ClassFile.FieldType.array Jvm.ClassFile.FieldType.byte)), Jvm.Cond.code ({ cls := "java/util/Arrays", name := "copyOfRangeByte", desc := "([BII)[B" } : Jvm.MethodName) jdk_65_method_133_code (5 : Nat) (Option.some (Jvm.ClassFile.FieldType.array Jvm.ClassFile.FieldType.byte)), Jvm.Cond.code ({ cls := "java/util/Arrays", name := "checkLength", desc := "(II)V" } : Jvm.MethodName) jdk_65_method_131_code (2 : Nat) (Option.none : Option Jvm.ClassFile.FieldType), Jvm.Cond.code ({ cls := "java/lang/String", name := "<init>", desc := "([BB)V" } : Jvm.MethodName) jdk_42_method_151_code (3 : Nat) (Option.none : Option Jvm.ClassFile.FieldType), Jvm.Cond.code ({ cls := "java/lang/String", name := "charAt", desc := "(I)C" } : Jvm.MethodName) jdk_42_method_56_code (2 : Nat) (Option.some Jvm.ClassFile.FieldType.char), Jvm.Cond.code ({ cls := "java/lang/StringLatin1", name := "charAt", desc := "([BI)C" } : Jvm.MethodName) jdk_43_method_2_code (2 : Nat) (Option.some Jvm.ClassFile.FieldType.char), Jvm.Cond.code ({ cls := "java/lang/String", name := "checkIndex", desc := "(II)V" } : Jvm.MethodName) jdk_42_method_155_code (2 : Nat) (Option.none : Option Jvm.ClassFile.FieldType), Jvm.Cond.code ({ cls := "jdk/internal/util/Preconditions", name := "checkIndex", desc := "(IILjava/util/function/BiFunction;)I" } : Jvm.MethodName) jdk_41_method_11_code (3 : Nat) (Option.some Jvm.ClassFile.FieldType.int)]
set_option maxRecDepth 65536 in
theorem codes_eq : words1.filter isCode = codes1 := rfl
theorem w_codes : ∀ c ∈ words1.filter isCode, c.before args0 about1 = true := by
  rw [codes_eq]
  intro c hc
  simp only [codes1, List.mem_cons, List.not_mem_nil, or_false] at hc
  rcases hc with rfl | rfl | rfl | rfl | rfl | rfl | rfl | rfl | rfl | rfl | rfl | rfl | rfl | rfl | rfl | rfl | rfl | rfl | rfl | rfl | rfl | rfl | rfl | rfl | rfl | rfl | rfl | rfl | rfl | rfl | rfl
  · exact w_c0
  · exact w_c1
  · exact w_c2
  · exact w_c3
  · exact w_c4
  · exact w_c5
  · exact w_c6
  · exact w_c7
  · exact w_c8
  · exact w_c9
  · exact w_c10
  · exact w_c11
  · exact w_c12
  · exact w_c13
  · exact w_c14
  · exact w_c15
  · exact w_c16
  · exact w_c17
  · exact w_c18
  · exact w_c19
  · exact w_c20
  · exact w_c21
  · exact w_c22
  · exact w_c23
  · exact w_c24
  · exact w_c25
  · exact w_c26
  · exact w_c27
  · exact w_c28
  · exact w_c29
  · exact w_c30
set_option maxRecDepth 65536 in
theorem w_t1 : (words1.take 24).all (fun c => isCode c || c.before args0 about1) = true := by decide +kernel
set_option maxRecDepth 65536 in
theorem w_t2 : ((words1.drop 24).take 24).all (fun c => isCode c || c.before args0 about1) = true := by decide +kernel
set_option maxRecDepth 65536 in
theorem w_t3 : (((words1.drop 24).drop 24).take 24).all (fun c => isCode c || c.before args0 about1) = true := by decide +kernel
set_option maxRecDepth 65536 in
theorem w_t4 : ((((words1.drop 24).drop 24).drop 24).take 24).all (fun c => isCode c || c.before args0 about1) = true := by decide +kernel
set_option maxRecDepth 65536 in
theorem w_t5 : (((((words1.drop 24).drop 24).drop 24).drop 24).take 24).all (fun c => isCode c || c.before args0 about1) = true := by decide +kernel
set_option maxRecDepth 65536 in
theorem w_t6 : (((((words1.drop 24).drop 24).drop 24).drop 24).drop 24).all (fun c => isCode c || c.before args0 about1) = true := by decide +kernel
theorem w_tables : (allAtoms (Jvm.Cond.code x code maxLocals ret :: tables_1)).before args0 about1 = true := by
  rw [allAtoms_all]
  show words1.all (fun c => c.before args0 about1) = true
  refine all_split ?_ w_codes
  rw [← List.take_append_drop 24 words1, List.all_append, w_t1, ← List.take_append_drop 24 (words1.drop 24), List.all_append, w_t2, ← List.take_append_drop 24 ((words1.drop 24).drop 24), List.all_append, w_t3, ← List.take_append_drop 24 (((words1.drop 24).drop 24).drop 24), List.all_append, w_t4, ← List.take_append_drop 24 ((((words1.drop 24).drop 24).drop 24).drop 24), List.all_append, w_t5, w_t6]
  rfl
set_option maxRecDepth 65536 in
theorem w_rest : rest_1_c.before args0 about1 = true := by decide +kernel
set_option maxRecDepth 65536 in
theorem w_case : (Jvm.Cond.and given_1 narrow_1).before args0 about1 = true := by decide +kernel
set_option maxRecDepth 65536 in
theorem w_consts : constsHeld consts_1 about1 := Jvm.Lit.constsHeldB_iff.mp (by decide +kernel)
theorem w_applies : (headSpec (Jvm.Cond.code x code maxLocals ret :: tables_1) room_1).applies x e0.platform about1 = true :=
  (Spec.applies_iff w_frames).mpr ⟨w_running, w_runnable, w_alone, w_named, w_hears, w_ripe, w_room, w_tables⟩
theorem atStart : AtStart classFile x code maxLocals ret World_1 tables_1 room_1 Calls_1 rest_1 Pre_1 launch0 p0 e0 about1 theMethod args0 below0 :=
  ⟨lists_1, trivial, launch0.admits_env _ _ _, launch0.least_env, fairChoices_fair.cas, fairChoices_fair.clock, w_frames, w_args, w_heap, w_applies, ⟨w_consts, trivial⟩, w_rest, w_case⟩
end start1
theorem witness_1 : WitnessClaimed_1 := ⟨start1.p0, start1.e0, start1.about1, start1.theMethod, start1.args0, start1.below0, start1.atStart⟩
end Jvm.Pilot.@@N@@
