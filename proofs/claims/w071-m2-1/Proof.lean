import JvmDerived
import JvmDerived.Pilot.@@N@@Statement
import JvmDerived.Pilot.@@N@@Code
set_option linter.unusedVariables false
set_option linter.unusedSimpArgs false
namespace Jvm.RoadKit
open Sem ClassFile Op Lib Jvm.Stand Jvm.Free Jvm.LawKit
section New
variable {p : Program} {l : Launch} {e : Env} {R : Room} {s : State} {m : MethodId} {args : Array Value} {below : List Frame} {meth : Method} {c : Code} {T : State} {locs : List Loc} {cells slots : Nat}
theorem retI (X : Stand p l e R s m args below meth c T locs cells slots) (hx : p.tables.exec = Jvm.exec) {pc : Nat} {Ls : Array Slot} {z : Int32} {rest : List Value} (hret : meth.sig.returnType = some .int) (hd : decode c.code pc = .ok (.ireturn, 1)) {fs : List Frame}
    (hl : ∀ (f : JFrame) (acts : List Action), f.method = m → f.locked = none → f.entered = [] → (doReturn e (T.setTop f) acts (some (.int z))).1 = T.setFrames fs) : Steps p.tables e below (T.setTop (mkF m pc Ls (.int z :: rest))) (T.setFrames fs) := by
  have hm' : T.vm.method? m = some meth := X.method'
  have hn : narrow .int (.int z) = .int z := rfl
  show Steps p.tables e below (T.setTop { method := m, pc := pc, locals := Ls, stack := _ :: rest, locked := none }) _
  jvm_step X.here [X.here.top, hx, hd, hm', hret, hn]
  first | (intro acts; rw [hl _ acts rfl rfl rfl]) | rw [hl _ _ rfl rfl rfl]
  exact Steps.refl _
end New
end Jvm.RoadKit
namespace Jvm.Pilot.@@N@@
open Jvm Jvm.ClassFile Sem Op Lib Jvm.Free Jvm.Stand Jvm.LawKit Jvm.RoadKit Bundle Jvm.Pilot.@@N@@.Jvm.D
/-- two slots that hold nothing, or one double or long -/
def own_Two (s t : Slot) : Prop := (s = .unset ∧ t = .unset) ∨ (∃ d, s = .val (.double d) ∧ t = .second) ∨ ∃ d, s = .val (.long d) ∧ t = .second
theorem own_pad {p : Program} {l : Launch} {e : Env} {R : Room} {s : State} {m : MethodId} {args : Array Value} {below : List Frame} {meth : Method} {c : Code} {T : State} {locs : List Loc} {k n k' n' : Nat} (X : Stand p l e R s m args below meth c T locs k n) (hk : k ≤ k') (hn : n ≤ n') : Stand p l e R s m args below meth c T locs k' n' := { X with same := X.same.mono hk hn }
/-- the walk from S on comes to an end of which Q is true -/
def own_End (p : Program) (e : Env) (below : List Frame) (Q : Outcome → State → Prop) (S : State) : Prop := ∃ s₂ o, Steps p.tables e below S s₂ ∧ s₂.status = .running ∧ Ended s₂ below o ∧ Q o s₂
theorem own_go {p : Program} {e : Env} {below : List Frame} {Q : Outcome → State → Prop} {S S' : State} (h : ∀ t, Steps p.tables e below S' t → Steps p.tables e below S t) (k : own_End p e below Q S') : own_End p e below Q S := by
  obtain ⟨s₂, o, h1, h2⟩ := k
  exact ⟨s₂, o, h s₂ h1, h2⟩
/-- what scheduled answers -/
def own_sched (st : Int32) (t sp : Int64) : Int32 := if st = 0 then 0 else if (9223372036854775807 : Int64) - sp < t then 0 else 1
theorem own_max : (9223372036854775807 : Int64).toInt = 9223372036854775807 := by decide
/-- no overflow: the span is positive; past the last moment the sum wraps -/
theorem own_wrap (t sp : Int64) (h : 0 < sp.toInt) : (9223372036854775807 : Int64) - sp < t ↔ ¬ (t < t + sp) := by
  rw [Int64.lt_iff_toInt_lt, Int64.lt_iff_toInt_lt]
  have a := c_ladd t sp; have b := c_lsub (9223372036854775807 : Int64) sp
  have r1 := rng64 t; have r2 := rng64 sp; have r3 := rng64 (t + sp); have r4 := rng64 ((9223372036854775807 : Int64) - sp)
  rw [own_max] at b
  omega
theorem own_sched0 (t sp : Int64) : own_sched 0 t sp = 0 := rfl
theorem own_schedY (t sp : Int64) (h : 0 < sp.toInt) (q : t < t + sp) : own_sched 1 t sp = 1 := by
  unfold own_sched
  rw [if_neg (by decide), if_neg (fun r => (own_wrap t sp h).mp r q)]
theorem own_schedN (t sp : Int64) (h : 0 < sp.toInt) (q : ¬ t < t + sp) : own_sched 1 t sp = 0 := by
  unfold own_sched
  rw [if_neg (by decide), if_pos ((own_wrap t sp h).mpr q)]
theorem own_span (z : Int64) (h : ¬ (z &&& (9223372036854775807 : Int64)) = 0) : 0 < (z &&& (9223372036854775807 : Int64)).toInt := by
  have a := c_maskL z (9223372036854775807 : Int64) 63 (by decide) (by decide)
  rw [← Int64.toInt_inj] at h
  have e : (0 : Int64).toInt = 0 := by decide
  omega
theorem d1_0 : decode prog_72_method_1_code 0 = .ok (.aload_n 0, 1) := by decide +kernel
theorem d1_1 : decode prog_72_method_1_code 1 = .ok (.invokespecial 1, 3) := by decide +kernel
theorem d1_4 : decode prog_72_method_1_code 4 = .ok (.aload_n 0, 1) := by decide +kernel
theorem d1_5 : decode prog_72_method_1_code 5 = .ok (.lload_n 1, 1) := by decide +kernel
theorem d1_6 : decode prog_72_method_1_code 6 = .ok (.putfield 7, 3) := by decide +kernel
theorem d1_9 : decode prog_72_method_1_code 9 = .ok (.return_, 1) := by decide +kernel
theorem pn_0 : plainName "com/example/rillway/rillway/input/TimeSlide" = true := by first | (simp [plainName, overriddenIn]; done) | decide +kernel
theorem ef_1 (m : MethodId) (x0 : Addr) (x1 : Int64) : entryFrame m #[(.ref x0), (.long x1)] 3 = mkF m 0 #[.val (.ref x0), .val (.long x1), .second] [] := by first | (simp [entryFrame, mkF, argsToLocals, Value.category]; done) | rfl
def Q1 (Z : State) (ts : Addr) (sp : Int64) (h0 : Heap) (n0 : Nat) (v : Option Value) (h : Heap) (L : List Loc) : Prop := v = none ∧ Fr n0 L ∧ Keep h0 h [ts] ∧ Fld Z h ts "com/example/rillway/rillway/input/TimeSlide" "started" "Z" (.int (0 : Int32)) ∧ Fld Z h ts "com/example/rillway/rillway/input/TimeSlide" "slidAt" "J" (.long (0 : Int64)) ∧ Fld Z h ts "com/example/rillway/rillway/input/TimeSlide" "span" "J" (.long sp)
def P1 (Z : State) (ts : Addr) (sp : Int64) (h0 : Heap) (n0 : Nat) (s : State) (o : Outcome) (U : State) : Prop := ∃ v L, o = .returned v ∧ Q1 Z ts sp h0 n0 v U.heap L ∧ FrameEnd s o U L ({ frames := 1, cells := 0, slots := 0, locals := 12 } : Room).cells ({ frames := 1, cells := 0, slots := 0, locals := 12 } : Room).slots
set_option maxRecDepth 65536 in
set_option maxHeartbeats 40000000 in
theorem rm1 (l : Launch) (Z : State) (a0 : Array Value) (hw : ∀ d ∈ tables_1, d.before a0 Z = true) (ws : List Jvm.Cond) (ts : Addr) (sp : Int64) (h0 : Heap) (n0 : Nat) (Z0 : n0 ≤ h0.size) (E_ts : Exa Z h0 ts "com/example/rillway/rillway/input/TimeSlide") (F_started_ts : Fld Z h0 ts "com/example/rillway/rillway/input/TimeSlide" "started" "Z" (.int (0 : Int32))) (F_slidAt_ts : Fld Z h0 ts "com/example/rillway/rillway/input/TimeSlide" "slidAt" "J" (.long (0 : Int64))) (F_span_ts : Fld Z h0 ts "com/example/rillway/rillway/input/TimeSlide" "span" "J" (.long (0 : Int64))) (g_ts : n0 ≤ ts) :
    MetFree l (⟨"com/example/rillway/rillway/input/TimeSlide", "<init>", "(J)V"⟩ : MethodName) (head1 (Jvm.Cond.code (⟨"com/example/rillway/rillway/input/TimeSlide", "<init>", "(J)V"⟩ : MethodName) prog_72_method_1_code 3 none :: ws) ({ frames := 1, cells := 0, slots := 0, locals := 12 } : Room)) (fun a U => a = #[(.ref ts), (.long sp)] ∧ Z.Warmed39 U.vm ∧ U.heap = h0) (fun _ _ _ _ _ => True) (fun _ U o U' => ∃ v L, o = .returned v ∧ Q1 Z ts sp h0 n0 v U'.heap L ∧ FrameEnd U o U' L ({ frames := 1, cells := 0, slots := 0, locals := 12 } : Room).cells ({ frames := 1, cells := 0, slots := 0, locals := 12 } : Room).slots) := by
  refine MetFree.of_bodySF (plainFor_of_name pn_0) hisR ?_
  intro p e s m args below meth c s₁ Bd hml0 hP hK
  obtain ⟨rfl, hZ, hh⟩ := hP
  have hx := Bd.exec
  have hby := Bd.bytes
  have hml : c.maxLocals = 3 := hml0
  have hown : s.vm.findClass "com/example/rillway/rillway/input/TimeSlide" = some m.cls := findClass_of_methodNamed Bd.named
  have hnm := (name_of_methodNamed Bd.named Bd.method).1
  have X0 : Stand p l e ({ frames := 1, cells := 0, slots := 0, locals := 12 } : Room) s m #[(.ref ts), (.long sp)] below meth c s₁ [] 0 0 := Stand.of_body Bd
  have e0 : s₁.heap = h0 := by rw [← hh, Bd.state]; rfl
  have Nf := Fr.nil n0
  have Zs : n0 ≤ h0.size := Z0
  have Kp : Keep h0 h0 [ts] := Keep.refl _ _
  have szr : h0.size ≤ h0.size := Nat.le_refl _
  show own_End p e below (P1 Z ts sp h0 n0 s) (s₁.setTop (entryFrame m #[(.ref ts), (.long sp)] 3))
  rw [ef_1]
  refine own_go (fun t k => XS.aloadN X0.here hx rfl (hb hby d1_0) rfl rfl k) ?_
  show own_End p e below _ (s₁.setTop (mkF m 1 #[.val (.ref ts), .val (.long sp), .second] [(.ref ts)]))
  obtain ⟨T1, X1, e1, st1⟩ := initO X0 hx hZ hown (hw _ (List.mem_of_getElem? (i := 7) rfl)) (hw _ (List.mem_of_getElem? (i := 8) rfl)) (hw _ (List.mem_of_getElem? (i := 9) rfl)) e0 (g := (mkF m 1 #[.val (.ref ts), .val (.long sp), .second] [(.ref ts)])) rfl (by rw [hml]; rfl) rfl (hb hby d1_1) (by decide) (W := 0) (by show 2 * 0 + _ ≤ _; exact Nat.le_of_eq rfl) (by decide)
  refine own_go (fun t k => st1 t k) ?_
  show own_End p e below _ (T1.setTop (mkF m 4 #[.val (.ref ts), .val (.long sp), .second] []))
  refine own_go (fun t k => XS.aloadN X1.here hx rfl (hb hby d1_4) rfl rfl k) ?_
  show own_End p e below _ (T1.setTop (mkF m 5 #[.val (.ref ts), .val (.long sp), .second] [(.ref ts)]))
  refine own_go (fun t k => XS.lloadN X1.here hx rfl (hb hby d1_5) rfl k) ?_
  show own_End p e below _ (T1.setTop (mkF m 6 #[.val (.ref ts), .val (.long sp), .second] [(.long sp), (.ref ts)]))
  obtain ⟨T2, h2, X2, e2, W2, st2⟩ := putF X1 hx hZ hown (host := "") (Or.inl (hw _ (List.mem_of_getElem? (i := 10) rfl))) Via.refl e1 F_span_ts E_ts (Or.inr ⟨(hw _ (List.mem_of_getElem? (i := 11) rfl)), rfl, hnm⟩) (hw _ (List.mem_of_getElem? (i := 2) rfl)) (ty := .long) (by decide) rfl rfl (g := (mkF m 6 #[.val (.ref ts), .val (.long sp), .second] [(.long sp), (.ref ts)])) rfl rfl (hb hby d1_6)
  have F_span_ts := F_span_ts.same W2
  have E_ts := E_ts.wr W2
  have F_started_ts := F_started_ts.other W2 (Or.inr (slot_ne (Or.inl (hw _ (List.mem_of_getElem? (i := 18) rfl))) (Or.inr (hw _ (List.mem_of_getElem? (i := 11) rfl))) (by decide) (t := .boolean) (t' := .long) (by decide) (by decide)))
  have F_slidAt_ts := F_slidAt_ts.other W2 (Or.inr (slot_ne (Or.inl (hw _ (List.mem_of_getElem? (i := 20) rfl))) (Or.inr (hw _ (List.mem_of_getElem? (i := 11) rfl))) (by decide) (t := .long) (t' := .long) (by decide) (by decide)))
  have Kp := Kp.wr W2 (Or.inl (List.mem_of_getElem? (i := 0) rfl))
  have Nf := Fr.snoc X2 Nf g_ts
  have Zs := Nat.le_trans Zs (Keep.of_wr W2).1
  have szr := Nat.le_trans szr (Keep.of_wr W2).1
  refine own_go (fun t k => st2 t k) ?_
  show own_End p e below _ (T2.setTop (mkF m 9 #[.val (.ref ts), .val (.long sp), .second] []))
  obtain ⟨fs, hr, hrun, hended, hW, hsame⟩ := X2.leave (v := none) (fun _ => rfl)
  refine ⟨_, _, X2.returnOut hx Bd.returns (hb hby d1_9) hr, hrun, hended, _, _, rfl, ?_, ⟨_, rfl⟩, hW, hsame.mono (by decide) (by decide)⟩
  show Q1 Z ts sp h0 n0 _ T2.heap _
  rw [e2]
  exact ⟨rfl, Nf, Kp, F_started_ts, F_slidAt_ts, F_span_ts⟩
theorem d3_0 : decode prog_72_method_2_code 0 = .ok (.aload_n 0, 1) := by decide +kernel
theorem d3_1 : decode prog_72_method_2_code 1 = .ok (.iconst 1, 1) := by decide +kernel
theorem d3_2 : decode prog_72_method_2_code 2 = .ok (.putfield 13, 3) := by decide +kernel
theorem d3_5 : decode prog_72_method_2_code 5 = .ok (.aload_n 0, 1) := by decide +kernel
theorem d3_6 : decode prog_72_method_2_code 6 = .ok (.lload_n 1, 1) := by decide +kernel
theorem d3_7 : decode prog_72_method_2_code 7 = .ok (.putfield 17, 3) := by decide +kernel
theorem d3_10 : decode prog_72_method_2_code 10 = .ok (.return_, 1) := by decide +kernel
theorem ef_3 (m : MethodId) (x0 : Addr) (x1 : Int64) : entryFrame m #[(.ref x0), (.long x1)] 3 = mkF m 0 #[.val (.ref x0), .val (.long x1), .second] [] := by first | (simp [entryFrame, mkF, argsToLocals, Value.category]; done) | rfl
def Q3 (Z : State) (ts : Addr) (q : Int64) (st : Int32) (t0 : Int64) (sp : Int64) (h0 : Heap) (n0 : Nat) (v : Option Value) (h : Heap) (L : List Loc) : Prop := v = none ∧ Fr n0 L ∧ Keep h0 h [ts] ∧ Fld Z h ts "com/example/rillway/rillway/input/TimeSlide" "started" "Z" (.int (1 : Int32)) ∧ Fld Z h ts "com/example/rillway/rillway/input/TimeSlide" "slidAt" "J" (.long q) ∧ Fld Z h ts "com/example/rillway/rillway/input/TimeSlide" "span" "J" (.long sp)
def P3 (Z : State) (ts : Addr) (q : Int64) (st : Int32) (t0 : Int64) (sp : Int64) (h0 : Heap) (n0 : Nat) (s : State) (o : Outcome) (U : State) : Prop := ∃ v L, o = .returned v ∧ Q3 Z ts q st t0 sp h0 n0 v U.heap L ∧ FrameEnd s o U L ({ frames := 0, cells := 0, slots := 0, locals := 0 } : Room).cells ({ frames := 0, cells := 0, slots := 0, locals := 0 } : Room).slots
set_option maxRecDepth 65536 in
set_option maxHeartbeats 40000000 in
theorem rm3 (l : Launch) (Z : State) (a0 : Array Value) (hw : ∀ d ∈ tables_1, d.before a0 Z = true) (ws : List Jvm.Cond) (ts : Addr) (q : Int64) (st : Int32) (t0 : Int64) (sp : Int64) (h0 : Heap) (n0 : Nat) (Z0 : n0 ≤ h0.size) (E_ts : Exa Z h0 ts "com/example/rillway/rillway/input/TimeSlide") (F_started_ts : Fld Z h0 ts "com/example/rillway/rillway/input/TimeSlide" "started" "Z" (.int st)) (F_slidAt_ts : Fld Z h0 ts "com/example/rillway/rillway/input/TimeSlide" "slidAt" "J" (.long t0)) (F_span_ts : Fld Z h0 ts "com/example/rillway/rillway/input/TimeSlide" "span" "J" (.long sp)) (g_ts : n0 ≤ ts) :
    MetFree l (⟨"com/example/rillway/rillway/input/TimeSlide", "resume", "(J)V"⟩ : MethodName) (head1 (Jvm.Cond.code (⟨"com/example/rillway/rillway/input/TimeSlide", "resume", "(J)V"⟩ : MethodName) prog_72_method_2_code 3 none :: ws) ({ frames := 0, cells := 0, slots := 0, locals := 0 } : Room)) (fun a U => a = #[(.ref ts), (.long q)] ∧ Z.Warmed39 U.vm ∧ U.heap = h0) (fun _ _ _ _ _ => True) (fun _ U o U' => ∃ v L, o = .returned v ∧ Q3 Z ts q st t0 sp h0 n0 v U'.heap L ∧ FrameEnd U o U' L ({ frames := 0, cells := 0, slots := 0, locals := 0 } : Room).cells ({ frames := 0, cells := 0, slots := 0, locals := 0 } : Room).slots) := by
  refine MetFree.of_bodySF (plainFor_of_name pn_0) hisR ?_
  intro p e s m args below meth c s₁ Bd hml0 hP hK
  obtain ⟨rfl, hZ, hh⟩ := hP
  have hx := Bd.exec
  have hby := Bd.bytes
  have hml : c.maxLocals = 3 := hml0
  have hown : s.vm.findClass "com/example/rillway/rillway/input/TimeSlide" = some m.cls := findClass_of_methodNamed Bd.named
  have hnm := (name_of_methodNamed Bd.named Bd.method).1
  have X0 : Stand p l e ({ frames := 0, cells := 0, slots := 0, locals := 0 } : Room) s m #[(.ref ts), (.long q)] below meth c s₁ [] 0 0 := Stand.of_body Bd
  have e0 : s₁.heap = h0 := by rw [← hh, Bd.state]; rfl
  have Nf := Fr.nil n0
  have Zs : n0 ≤ h0.size := Z0
  have Kp : Keep h0 h0 [ts] := Keep.refl _ _
  have szr : h0.size ≤ h0.size := Nat.le_refl _
  show own_End p e below (P3 Z ts q st t0 sp h0 n0 s) (s₁.setTop (entryFrame m #[(.ref ts), (.long q)] 3))
  rw [ef_3]
  refine own_go (fun t k => XS.aloadN X0.here hx rfl (hb hby d3_0) rfl rfl k) ?_
  show own_End p e below _ (s₁.setTop (mkF m 1 #[.val (.ref ts), .val (.long q), .second] [(.ref ts)]))
  refine own_go (fun t k => XS.iconst X0.here hx rfl (hb hby d3_1) k) ?_
  show own_End p e below _ (s₁.setTop (mkF m 2 #[.val (.ref ts), .val (.long q), .second] [(.int (1 : Int32)), (.ref ts)]))
  obtain ⟨T1, h1, X1, e1, W1, st1⟩ := putF X0 hx hZ hown (host := "") (Or.inl (hw _ (List.mem_of_getElem? (i := 17) rfl))) Via.refl e0 F_started_ts E_ts (Or.inl (hw _ (List.mem_of_getElem? (i := 18) rfl))) (hw _ (List.mem_of_getElem? (i := 2) rfl)) (ty := .boolean) (by decide) rfl rfl (g := (mkF m 2 #[.val (.ref ts), .val (.long q), .second] [(.int (1 : Int32)), (.ref ts)])) rfl rfl (hb hby d3_2)
  have F_started_ts := F_started_ts.same W1
  have E_ts := E_ts.wr W1
  have F_slidAt_ts := F_slidAt_ts.other W1 (Or.inr (slot_ne (Or.inl (hw _ (List.mem_of_getElem? (i := 20) rfl))) (Or.inl (hw _ (List.mem_of_getElem? (i := 18) rfl))) (by decide) (t := .long) (t' := .boolean) (by decide) (by decide)))
  have F_span_ts := F_span_ts.other W1 (Or.inr (slot_ne (Or.inr (hw _ (List.mem_of_getElem? (i := 11) rfl))) (Or.inl (hw _ (List.mem_of_getElem? (i := 18) rfl))) (by decide) (t := .long) (t' := .boolean) (by decide) (by decide)))
  have Kp := Kp.wr W1 (Or.inl (List.mem_of_getElem? (i := 0) rfl))
  have Nf := Fr.snoc X1 Nf g_ts
  have Zs := Nat.le_trans Zs (Keep.of_wr W1).1
  have szr := Nat.le_trans szr (Keep.of_wr W1).1
  refine own_go (fun t k => st1 t k) ?_
  show own_End p e below _ (T1.setTop (mkF m 5 #[.val (.ref ts), .val (.long q), .second] []))
  refine own_go (fun t k => XS.aloadN X1.here hx rfl (hb hby d3_5) rfl rfl k) ?_
  show own_End p e below _ (T1.setTop (mkF m 6 #[.val (.ref ts), .val (.long q), .second] [(.ref ts)]))
  refine own_go (fun t k => XS.lloadN X1.here hx rfl (hb hby d3_6) rfl k) ?_
  show own_End p e below _ (T1.setTop (mkF m 7 #[.val (.ref ts), .val (.long q), .second] [(.long q), (.ref ts)]))
  obtain ⟨T2, h2, X2, e2, W2, st2⟩ := putF X1 hx hZ hown (host := "") (Or.inl (hw _ (List.mem_of_getElem? (i := 19) rfl))) Via.refl e1 F_slidAt_ts E_ts (Or.inl (hw _ (List.mem_of_getElem? (i := 20) rfl))) (hw _ (List.mem_of_getElem? (i := 2) rfl)) (ty := .long) (by decide) rfl rfl (g := (mkF m 7 #[.val (.ref ts), .val (.long q), .second] [(.long q), (.ref ts)])) rfl rfl (hb hby d3_7)
  have F_slidAt_ts := F_slidAt_ts.same W2
  have E_ts := E_ts.wr W2
  have F_started_ts := F_started_ts.other W2 (Or.inr (slot_ne (Or.inl (hw _ (List.mem_of_getElem? (i := 18) rfl))) (Or.inl (hw _ (List.mem_of_getElem? (i := 20) rfl))) (by decide) (t := .boolean) (t' := .long) (by decide) (by decide)))
  have F_span_ts := F_span_ts.other W2 (Or.inr (slot_ne (Or.inr (hw _ (List.mem_of_getElem? (i := 11) rfl))) (Or.inl (hw _ (List.mem_of_getElem? (i := 20) rfl))) (by decide) (t := .long) (t' := .long) (by decide) (by decide)))
  have Kp := Kp.wr W2 (Or.inl (List.mem_of_getElem? (i := 0) rfl))
  have Nf := Fr.snoc X2 Nf g_ts
  have Zs := Nat.le_trans Zs (Keep.of_wr W2).1
  have szr := Nat.le_trans szr (Keep.of_wr W2).1
  refine own_go (fun t k => st2 t k) ?_
  show own_End p e below _ (T2.setTop (mkF m 10 #[.val (.ref ts), .val (.long q), .second] []))
  obtain ⟨fs, hr, hrun, hended, hW, hsame⟩ := X2.leave (v := none) (fun _ => rfl)
  refine ⟨_, _, X2.returnOut hx Bd.returns (hb hby d3_10) hr, hrun, hended, _, _, rfl, ?_, ⟨_, rfl⟩, hW, hsame.mono (by decide) (by decide)⟩
  show Q3 Z ts q st t0 sp h0 n0 _ T2.heap _
  rw [e2]
  exact ⟨rfl, Nf, Kp, F_started_ts, F_slidAt_ts, F_span_ts⟩
theorem d5_0 : decode prog_72_method_3_code 0 = .ok (.aload_n 0, 1) := by decide +kernel
theorem d5_1 : decode prog_72_method_3_code 1 = .ok (.getfield 13, 3) := by decide +kernel
theorem d5_4 : decode prog_72_method_3_code 4 = .ok (.ifCond .ne 13, 3) := by decide +kernel
theorem d5_7 : decode prog_72_method_3_code 7 = .ok (.aload_n 0, 1) := by decide +kernel
theorem d5_8 : decode prog_72_method_3_code 8 = .ok (.iconst 1, 1) := by decide +kernel
theorem d5_9 : decode prog_72_method_3_code 9 = .ok (.putfield 13, 3) := by decide +kernel
theorem d5_12 : decode prog_72_method_3_code 12 = .ok (.aload_n 0, 1) := by decide +kernel
theorem d5_13 : decode prog_72_method_3_code 13 = .ok (.lload_n 1, 1) := by decide +kernel
theorem d5_14 : decode prog_72_method_3_code 14 = .ok (.putfield 17, 3) := by decide +kernel
theorem d5_17 : decode prog_72_method_3_code 17 = .ok (.return_, 1) := by decide +kernel
theorem ef_5 (m : MethodId) (x0 : Addr) (x1 : Int64) : entryFrame m #[(.ref x0), (.long x1)] 3 = mkF m 0 #[.val (.ref x0), .val (.long x1), .second] [] := by first | (simp [entryFrame, mkF, argsToLocals, Value.category]; done) | rfl
def Q5 (Z : State) (ts : Addr) (q : Int64) (st : Int32) (t0 : Int64) (sp : Int64) (h0 : Heap) (n0 : Nat) (v : Option Value) (h : Heap) (L : List Loc) : Prop := v = none ∧ Fr n0 L ∧ Keep h0 h [ts] ∧ Fld Z h ts "com/example/rillway/rillway/input/TimeSlide" "started" "Z" (.int (1 : Int32)) ∧ Fld Z h ts "com/example/rillway/rillway/input/TimeSlide" "slidAt" "J" (.long q) ∧ Fld Z h ts "com/example/rillway/rillway/input/TimeSlide" "span" "J" (.long sp)
def P5 (Z : State) (ts : Addr) (q : Int64) (st : Int32) (t0 : Int64) (sp : Int64) (h0 : Heap) (n0 : Nat) (s : State) (o : Outcome) (U : State) : Prop := ∃ v L, o = .returned v ∧ Q5 Z ts q st t0 sp h0 n0 v U.heap L ∧ FrameEnd s o U L ({ frames := 0, cells := 0, slots := 0, locals := 0 } : Room).cells ({ frames := 0, cells := 0, slots := 0, locals := 0 } : Room).slots
set_option maxRecDepth 65536 in
set_option maxHeartbeats 40000000 in
theorem rm5 (l : Launch) (Z : State) (a0 : Array Value) (hw : ∀ d ∈ tables_1, d.before a0 Z = true) (ws : List Jvm.Cond) (ts : Addr) (q : Int64) (st : Int32) (t0 : Int64) (sp : Int64) (h0 : Heap) (n0 : Nat) (Z0 : n0 ≤ h0.size) (E_ts : Exa Z h0 ts "com/example/rillway/rillway/input/TimeSlide") (F_started_ts : Fld Z h0 ts "com/example/rillway/rillway/input/TimeSlide" "started" "Z" (.int st)) (F_slidAt_ts : Fld Z h0 ts "com/example/rillway/rillway/input/TimeSlide" "slidAt" "J" (.long t0)) (F_span_ts : Fld Z h0 ts "com/example/rillway/rillway/input/TimeSlide" "span" "J" (.long sp)) (g_ts : n0 ≤ ts) (hst : st = (0 : Int32)) :
    MetFree l (⟨"com/example/rillway/rillway/input/TimeSlide", "start", "(J)V"⟩ : MethodName) (head1 (Jvm.Cond.code (⟨"com/example/rillway/rillway/input/TimeSlide", "start", "(J)V"⟩ : MethodName) prog_72_method_3_code 3 none :: ws) ({ frames := 0, cells := 0, slots := 0, locals := 0 } : Room)) (fun a U => a = #[(.ref ts), (.long q)] ∧ Z.Warmed39 U.vm ∧ U.heap = h0) (fun _ _ _ _ _ => True) (fun _ U o U' => ∃ v L, o = .returned v ∧ Q5 Z ts q st t0 sp h0 n0 v U'.heap L ∧ FrameEnd U o U' L ({ frames := 0, cells := 0, slots := 0, locals := 0 } : Room).cells ({ frames := 0, cells := 0, slots := 0, locals := 0 } : Room).slots) := by
  refine MetFree.of_bodySF (plainFor_of_name pn_0) hisR ?_
  intro p e s m args below meth c s₁ Bd hml0 hP hK
  obtain ⟨rfl, hZ, hh⟩ := hP
  have hx := Bd.exec
  have hby := Bd.bytes
  have hml : c.maxLocals = 3 := hml0
  have hown : s.vm.findClass "com/example/rillway/rillway/input/TimeSlide" = some m.cls := findClass_of_methodNamed Bd.named
  have hnm := (name_of_methodNamed Bd.named Bd.method).1
  have X0 : Stand p l e ({ frames := 0, cells := 0, slots := 0, locals := 0 } : Room) s m #[(.ref ts), (.long q)] below meth c s₁ [] 0 0 := Stand.of_body Bd
  have e0 : s₁.heap = h0 := by rw [← hh, Bd.state]; rfl
  have Nf := Fr.nil n0
  have Zs : n0 ≤ h0.size := Z0
  have Kp : Keep h0 h0 [ts] := Keep.refl _ _
  have szr : h0.size ≤ h0.size := Nat.le_refl _
  show own_End p e below (P5 Z ts q st t0 sp h0 n0 s) (s₁.setTop (entryFrame m #[(.ref ts), (.long q)] 3))
  rw [ef_5]
  refine own_go (fun t k => XS.aloadN X0.here hx rfl (hb hby d5_0) rfl rfl k) ?_
  show own_End p e below _ (s₁.setTop (mkF m 1 #[.val (.ref ts), .val (.long q), .second] [(.ref ts)]))
  obtain ⟨T1, X1, e1, st1⟩ := getF X0 hx hZ hown (host := "") (Or.inl (hw _ (List.mem_of_getElem? (i := 17) rfl))) Via.refl e0 F_started_ts (g := (mkF m 1 #[.val (.ref ts), .val (.long q), .second] [(.ref ts)])) rfl rfl (hb hby d5_1)
  refine own_go (fun t k => st1 t k) ?_
  show own_End p e below _ (T1.setTop (mkF m 4 #[.val (.ref ts), .val (.long q), .second] [(.int st)]))
  refine own_go (fun t k => XS.ifNo X1.here hx rfl (hb hby d5_4) rfl ((if0 _ _).trans (teq hst).2) k) ?_
  show own_End p e below _ (T1.setTop (mkF m 7 #[.val (.ref ts), .val (.long q), .second] []))
  refine own_go (fun t k => XS.aloadN X1.here hx rfl (hb hby d5_7) rfl rfl k) ?_
  show own_End p e below _ (T1.setTop (mkF m 8 #[.val (.ref ts), .val (.long q), .second] [(.ref ts)]))
  refine own_go (fun t k => XS.iconst X1.here hx rfl (hb hby d5_8) k) ?_
  show own_End p e below _ (T1.setTop (mkF m 9 #[.val (.ref ts), .val (.long q), .second] [(.int (1 : Int32)), (.ref ts)]))
  obtain ⟨T2, h2, X2, e2, W2, st2⟩ := putF X1 hx hZ hown (host := "") (Or.inl (hw _ (List.mem_of_getElem? (i := 17) rfl))) Via.refl e1 F_started_ts E_ts (Or.inl (hw _ (List.mem_of_getElem? (i := 18) rfl))) (hw _ (List.mem_of_getElem? (i := 2) rfl)) (ty := .boolean) (by decide) rfl rfl (g := (mkF m 9 #[.val (.ref ts), .val (.long q), .second] [(.int (1 : Int32)), (.ref ts)])) rfl rfl (hb hby d5_9)
  have F_started_ts := F_started_ts.same W2
  have E_ts := E_ts.wr W2
  have F_slidAt_ts := F_slidAt_ts.other W2 (Or.inr (slot_ne (Or.inl (hw _ (List.mem_of_getElem? (i := 20) rfl))) (Or.inl (hw _ (List.mem_of_getElem? (i := 18) rfl))) (by decide) (t := .long) (t' := .boolean) (by decide) (by decide)))
  have F_span_ts := F_span_ts.other W2 (Or.inr (slot_ne (Or.inr (hw _ (List.mem_of_getElem? (i := 11) rfl))) (Or.inl (hw _ (List.mem_of_getElem? (i := 18) rfl))) (by decide) (t := .long) (t' := .boolean) (by decide) (by decide)))
  have Kp := Kp.wr W2 (Or.inl (List.mem_of_getElem? (i := 0) rfl))
  have Nf := Fr.snoc X2 Nf g_ts
  have Zs := Nat.le_trans Zs (Keep.of_wr W2).1
  have szr := Nat.le_trans szr (Keep.of_wr W2).1
  refine own_go (fun t k => st2 t k) ?_
  show own_End p e below _ (T2.setTop (mkF m 12 #[.val (.ref ts), .val (.long q), .second] []))
  refine own_go (fun t k => XS.aloadN X2.here hx rfl (hb hby d5_12) rfl rfl k) ?_
  show own_End p e below _ (T2.setTop (mkF m 13 #[.val (.ref ts), .val (.long q), .second] [(.ref ts)]))
  refine own_go (fun t k => XS.lloadN X2.here hx rfl (hb hby d5_13) rfl k) ?_
  show own_End p e below _ (T2.setTop (mkF m 14 #[.val (.ref ts), .val (.long q), .second] [(.long q), (.ref ts)]))
  obtain ⟨T3, h3, X3, e3, W3, st3⟩ := putF X2 hx hZ hown (host := "") (Or.inl (hw _ (List.mem_of_getElem? (i := 19) rfl))) Via.refl e2 F_slidAt_ts E_ts (Or.inl (hw _ (List.mem_of_getElem? (i := 20) rfl))) (hw _ (List.mem_of_getElem? (i := 2) rfl)) (ty := .long) (by decide) rfl rfl (g := (mkF m 14 #[.val (.ref ts), .val (.long q), .second] [(.long q), (.ref ts)])) rfl rfl (hb hby d5_14)
  have F_slidAt_ts := F_slidAt_ts.same W3
  have E_ts := E_ts.wr W3
  have F_started_ts := F_started_ts.other W3 (Or.inr (slot_ne (Or.inl (hw _ (List.mem_of_getElem? (i := 18) rfl))) (Or.inl (hw _ (List.mem_of_getElem? (i := 20) rfl))) (by decide) (t := .boolean) (t' := .long) (by decide) (by decide)))
  have F_span_ts := F_span_ts.other W3 (Or.inr (slot_ne (Or.inr (hw _ (List.mem_of_getElem? (i := 11) rfl))) (Or.inl (hw _ (List.mem_of_getElem? (i := 20) rfl))) (by decide) (t := .long) (t' := .long) (by decide) (by decide)))
  have Kp := Kp.wr W3 (Or.inl (List.mem_of_getElem? (i := 0) rfl))
  have Nf := Fr.snoc X3 Nf g_ts
  have Zs := Nat.le_trans Zs (Keep.of_wr W3).1
  have szr := Nat.le_trans szr (Keep.of_wr W3).1
  refine own_go (fun t k => st3 t k) ?_
  show own_End p e below _ (T3.setTop (mkF m 17 #[.val (.ref ts), .val (.long q), .second] []))
  obtain ⟨fs, hr, hrun, hended, hW, hsame⟩ := X3.leave (v := none) (fun _ => rfl)
  refine ⟨_, _, X3.returnOut hx Bd.returns (hb hby d5_17) hr, hrun, hended, _, _, rfl, ?_, ⟨_, rfl⟩, hW, hsame.mono (by decide) (by decide)⟩
  show Q5 Z ts q st t0 sp h0 n0 _ T3.heap _
  rw [e3]
  exact ⟨rfl, Nf, Kp, F_started_ts, F_slidAt_ts, F_span_ts⟩
theorem d6_0 : decode prog_72_method_3_code 0 = .ok (.aload_n 0, 1) := by decide +kernel
theorem d6_1 : decode prog_72_method_3_code 1 = .ok (.getfield 13, 3) := by decide +kernel
theorem d6_4 : decode prog_72_method_3_code 4 = .ok (.ifCond .ne 13, 3) := by decide +kernel
theorem d6_17 : decode prog_72_method_3_code 17 = .ok (.return_, 1) := by decide +kernel
theorem ef_6 (m : MethodId) (x0 : Addr) (x1 : Int64) : entryFrame m #[(.ref x0), (.long x1)] 3 = mkF m 0 #[.val (.ref x0), .val (.long x1), .second] [] := by first | (simp [entryFrame, mkF, argsToLocals, Value.category]; done) | rfl
def Q6 (Z : State) (ts : Addr) (q : Int64) (st : Int32) (t0 : Int64) (sp : Int64) (h0 : Heap) (n0 : Nat) (v : Option Value) (h : Heap) (L : List Loc) : Prop := v = none ∧ Fr n0 L ∧ Keep h0 h [ts] ∧ Fld Z h ts "com/example/rillway/rillway/input/TimeSlide" "started" "Z" (.int st) ∧ Fld Z h ts "com/example/rillway/rillway/input/TimeSlide" "slidAt" "J" (.long t0) ∧ Fld Z h ts "com/example/rillway/rillway/input/TimeSlide" "span" "J" (.long sp)
def P6 (Z : State) (ts : Addr) (q : Int64) (st : Int32) (t0 : Int64) (sp : Int64) (h0 : Heap) (n0 : Nat) (s : State) (o : Outcome) (U : State) : Prop := ∃ v L, o = .returned v ∧ Q6 Z ts q st t0 sp h0 n0 v U.heap L ∧ FrameEnd s o U L ({ frames := 0, cells := 0, slots := 0, locals := 0 } : Room).cells ({ frames := 0, cells := 0, slots := 0, locals := 0 } : Room).slots
set_option maxRecDepth 65536 in
set_option maxHeartbeats 40000000 in
theorem rm6 (l : Launch) (Z : State) (a0 : Array Value) (hw : ∀ d ∈ tables_1, d.before a0 Z = true) (ws : List Jvm.Cond) (ts : Addr) (q : Int64) (st : Int32) (t0 : Int64) (sp : Int64) (h0 : Heap) (n0 : Nat) (Z0 : n0 ≤ h0.size) (E_ts : Exa Z h0 ts "com/example/rillway/rillway/input/TimeSlide") (F_started_ts : Fld Z h0 ts "com/example/rillway/rillway/input/TimeSlide" "started" "Z" (.int st)) (F_slidAt_ts : Fld Z h0 ts "com/example/rillway/rillway/input/TimeSlide" "slidAt" "J" (.long t0)) (F_span_ts : Fld Z h0 ts "com/example/rillway/rillway/input/TimeSlide" "span" "J" (.long sp)) (g_ts : n0 ≤ ts) (hst : ¬ st = (0 : Int32)) :
    MetFree l (⟨"com/example/rillway/rillway/input/TimeSlide", "start", "(J)V"⟩ : MethodName) (head1 (Jvm.Cond.code (⟨"com/example/rillway/rillway/input/TimeSlide", "start", "(J)V"⟩ : MethodName) prog_72_method_3_code 3 none :: ws) ({ frames := 0, cells := 0, slots := 0, locals := 0 } : Room)) (fun a U => a = #[(.ref ts), (.long q)] ∧ Z.Warmed39 U.vm ∧ U.heap = h0) (fun _ _ _ _ _ => True) (fun _ U o U' => ∃ v L, o = .returned v ∧ Q6 Z ts q st t0 sp h0 n0 v U'.heap L ∧ FrameEnd U o U' L ({ frames := 0, cells := 0, slots := 0, locals := 0 } : Room).cells ({ frames := 0, cells := 0, slots := 0, locals := 0 } : Room).slots) := by
  refine MetFree.of_bodySF (plainFor_of_name pn_0) hisR ?_
  intro p e s m args below meth c s₁ Bd hml0 hP hK
  obtain ⟨rfl, hZ, hh⟩ := hP
  have hx := Bd.exec
  have hby := Bd.bytes
  have hml : c.maxLocals = 3 := hml0
  have hown : s.vm.findClass "com/example/rillway/rillway/input/TimeSlide" = some m.cls := findClass_of_methodNamed Bd.named
  have hnm := (name_of_methodNamed Bd.named Bd.method).1
  have X0 : Stand p l e ({ frames := 0, cells := 0, slots := 0, locals := 0 } : Room) s m #[(.ref ts), (.long q)] below meth c s₁ [] 0 0 := Stand.of_body Bd
  have e0 : s₁.heap = h0 := by rw [← hh, Bd.state]; rfl
  have Nf := Fr.nil n0
  have Zs : n0 ≤ h0.size := Z0
  have Kp : Keep h0 h0 [ts] := Keep.refl _ _
  have szr : h0.size ≤ h0.size := Nat.le_refl _
  show own_End p e below (P6 Z ts q st t0 sp h0 n0 s) (s₁.setTop (entryFrame m #[(.ref ts), (.long q)] 3))
  rw [ef_6]
  refine own_go (fun t k => XS.aloadN X0.here hx rfl (hb hby d6_0) rfl rfl k) ?_
  show own_End p e below _ (s₁.setTop (mkF m 1 #[.val (.ref ts), .val (.long q), .second] [(.ref ts)]))
  obtain ⟨T1, X1, e1, st1⟩ := getF X0 hx hZ hown (host := "") (Or.inl (hw _ (List.mem_of_getElem? (i := 17) rfl))) Via.refl e0 F_started_ts (g := (mkF m 1 #[.val (.ref ts), .val (.long q), .second] [(.ref ts)])) rfl rfl (hb hby d6_1)
  refine own_go (fun t k => st1 t k) ?_
  show own_End p e below _ (T1.setTop (mkF m 4 #[.val (.ref ts), .val (.long q), .second] [(.int st)]))
  refine own_go (fun t k => XS.ifYes X1.here hx rfl (pc0 := 4) (pc' := 17) rfl (hb hby d6_4) rfl ((if0 _ _).trans (feq hst).2) (by decide) (by decide) k) ?_
  show own_End p e below _ (T1.setTop (mkF m 17 #[.val (.ref ts), .val (.long q), .second] []))
  obtain ⟨fs, hr, hrun, hended, hW, hsame⟩ := X1.leave (v := none) (fun _ => rfl)
  refine ⟨_, _, X1.returnOut hx Bd.returns (hb hby d6_17) hr, hrun, hended, _, _, rfl, ?_, ⟨_, rfl⟩, hW, hsame.mono (by decide) (by decide)⟩
  show Q6 Z ts q st t0 sp h0 n0 _ T1.heap _
  rw [e1]
  exact ⟨rfl, Nf, Kp, F_started_ts, F_slidAt_ts, F_span_ts⟩
theorem d4_0 : decode prog_72_method_5_code 0 = .ok (.aload_n 0, 1) := by decide +kernel
theorem d4_1 : decode prog_72_method_5_code 1 = .ok (.getfield 13, 3) := by decide +kernel
theorem d4_4 : decode prog_72_method_5_code 4 = .ok (.ifCond .eq 23, 3) := by decide +kernel
theorem d4_7 : decode prog_72_method_5_code 7 = .ok (.aload_n 0, 1) := by decide +kernel
theorem d4_8 : decode prog_72_method_5_code 8 = .ok (.getfield 17, 3) := by decide +kernel
theorem d4_11 : decode prog_72_method_5_code 11 = .ok (.ldc2_w 22, 3) := by decide +kernel
theorem d4_14 : decode prog_72_method_5_code 14 = .ok (.aload_n 0, 1) := by decide +kernel
theorem d4_15 : decode prog_72_method_5_code 15 = .ok (.getfield 7, 3) := by decide +kernel
theorem d4_18 : decode prog_72_method_5_code 18 = .ok (.lsub, 1) := by decide +kernel
theorem d4_19 : decode prog_72_method_5_code 19 = .ok (.lcmp, 1) := by decide +kernel
theorem d4_20 : decode prog_72_method_5_code 20 = .ok (.ifCond .gt 7, 3) := by decide +kernel
theorem d4_23 : decode prog_72_method_5_code 23 = .ok (.iconst 1, 1) := by decide +kernel
theorem d4_24 : decode prog_72_method_5_code 24 = .ok (.goto 4, 3) := by decide +kernel
theorem d4_27 : decode prog_72_method_5_code 27 = .ok (.iconst 0, 1) := by decide +kernel
theorem d4_28 : decode prog_72_method_5_code 28 = .ok (.ireturn, 1) := by decide +kernel
theorem ef_4 (m : MethodId) (x0 : Addr) : entryFrame m #[(.ref x0)] 1 = mkF m 0 #[.val (.ref x0)] [] := by first | (simp [entryFrame, mkF, argsToLocals, Value.category]; done) | rfl
def Q4 (Z : State) (ts : Addr) (st : Int32) (t0 : Int64) (sp : Int64) (h0 : Heap) (n0 : Nat) (v : Option Value) (h : Heap) (L : List Loc) : Prop := v = some (.int (own_sched st t0 sp)) ∧ Fr n0 L ∧ h = h0
def P4 (Z : State) (ts : Addr) (st : Int32) (t0 : Int64) (sp : Int64) (h0 : Heap) (n0 : Nat) (s : State) (o : Outcome) (U : State) : Prop := ∃ v L, o = .returned v ∧ Q4 Z ts st t0 sp h0 n0 v U.heap L ∧ FrameEnd s o U L ({ frames := 0, cells := 0, slots := 0, locals := 0 } : Room).cells ({ frames := 0, cells := 0, slots := 0, locals := 0 } : Room).slots
set_option maxRecDepth 65536 in
set_option maxHeartbeats 40000000 in
theorem rm4 (l : Launch) (Z : State) (a0 : Array Value) (hw : ∀ d ∈ tables_1, d.before a0 Z = true) (ws : List Jvm.Cond) (ts : Addr) (st : Int32) (t0 : Int64) (sp : Int64) (h0 : Heap) (n0 : Nat) (Z0 : n0 ≤ h0.size) (F_started_ts : Fld Z h0 ts "com/example/rillway/rillway/input/TimeSlide" "started" "Z" (.int st)) (F_slidAt_ts : Fld Z h0 ts "com/example/rillway/rillway/input/TimeSlide" "slidAt" "J" (.long t0)) (F_span_ts : Fld Z h0 ts "com/example/rillway/rillway/input/TimeSlide" "span" "J" (.long sp)) :
    MetFree l (⟨"com/example/rillway/rillway/input/TimeSlide", "scheduled", "()Z"⟩ : MethodName) (head1 (Jvm.Cond.code (⟨"com/example/rillway/rillway/input/TimeSlide", "scheduled", "()Z"⟩ : MethodName) prog_72_method_5_code 1 (some .boolean) :: ws) ({ frames := 0, cells := 0, slots := 0, locals := 0 } : Room)) (fun a U => a = #[(.ref ts)] ∧ Z.Warmed39 U.vm ∧ U.heap = h0) (fun _ _ _ _ _ => True) (fun _ U o U' => ∃ v L, o = .returned v ∧ Q4 Z ts st t0 sp h0 n0 v U'.heap L ∧ FrameEnd U o U' L ({ frames := 0, cells := 0, slots := 0, locals := 0 } : Room).cells ({ frames := 0, cells := 0, slots := 0, locals := 0 } : Room).slots) := by
  refine MetFree.of_bodySF (plainFor_of_name pn_0) hisR ?_
  intro p e s m args below meth c s₁ Bd hml0 hP hK
  obtain ⟨rfl, hZ, hh⟩ := hP
  have hx := Bd.exec
  have hby := Bd.bytes
  have hml : c.maxLocals = 1 := hml0
  have hown : s.vm.findClass "com/example/rillway/rillway/input/TimeSlide" = some m.cls := findClass_of_methodNamed Bd.named
  have hnm := (name_of_methodNamed Bd.named Bd.method).1
  have X0 : Stand p l e ({ frames := 0, cells := 0, slots := 0, locals := 0 } : Room) s m #[(.ref ts)] below meth c s₁ [] 0 0 := Stand.of_body Bd
  have e0 : s₁.heap = h0 := by rw [← hh, Bd.state]; rfl
  have Nf := Fr.nil n0
  have Zs : n0 ≤ h0.size := Z0
  have Kp : Keep h0 h0 [] := Keep.refl _ _
  have szr : h0.size ≤ h0.size := Nat.le_refl _
  show own_End p e below (P4 Z ts st t0 sp h0 n0 s) (s₁.setTop (entryFrame m #[(.ref ts)] 1))
  rw [ef_4]
  refine own_go (fun t k => XS.aloadN X0.here hx rfl (hb hby d4_0) rfl rfl k) ?_
  show own_End p e below _ (s₁.setTop (mkF m 1 #[.val (.ref ts)] [(.ref ts)]))
  obtain ⟨T1, X1, e1, st1⟩ := getF X0 hx hZ hown (host := "") (Or.inl (hw _ (List.mem_of_getElem? (i := 17) rfl))) Via.refl e0 F_started_ts (g := (mkF m 1 #[.val (.ref ts)] [(.ref ts)])) rfl rfl (hb hby d4_1)
  refine own_go (fun t k => st1 t k) ?_
  show own_End p e below _ (T1.setTop (mkF m 4 #[.val (.ref ts)] [(.int st)]))
  by_cases hc4 : st = (0 : Int32)
  ·
    refine own_go (fun t k => XS.ifYes X1.here hx rfl (pc0 := 4) (pc' := 27) rfl (hb hby d4_4) rfl ((if0 _ _).trans (teq hc4).1) (by decide) (by decide) k) ?_
    show own_End p e below _ (T1.setTop (mkF m 27 #[.val (.ref ts)] []))
    refine own_go (fun t k => XS.iconst X1.here hx rfl (hb hby d4_27) k) ?_
    show own_End p e below _ (T1.setTop (mkF m 28 #[.val (.ref ts)] [(.int (0 : Int32))]))
    obtain ⟨fs, hr, hrun, hended, hW, hsame⟩ := X1.leave (v := some (.int (0 : Int32))) (fun h => by rw [Bd.returns] at h; cases h)
    refine ⟨_, _, (retN X1 hx (t := .boolean) Bd.returns (by simp) (hb hby d4_28) hr), hrun, hended, _, _, rfl, ?_, ⟨_, rfl⟩, hW, hsame.mono (by decide) (by decide)⟩
    show Q4 Z ts st t0 sp h0 n0 _ T1.heap _
    rw [e1]
    exact ⟨by simp [own_sched, hc4], Nf, rfl⟩
  ·
    refine own_go (fun t k => XS.ifNo X1.here hx rfl (hb hby d4_4) rfl ((if0 _ _).trans (feq hc4).1) k) ?_
    show own_End p e below _ (T1.setTop (mkF m 7 #[.val (.ref ts)] []))
    refine own_go (fun t k => XS.aloadN X1.here hx rfl (hb hby d4_7) rfl rfl k) ?_
    show own_End p e below _ (T1.setTop (mkF m 8 #[.val (.ref ts)] [(.ref ts)]))
    obtain ⟨T2, X2, e2, st2⟩ := getF X1 hx hZ hown (host := "") (Or.inl (hw _ (List.mem_of_getElem? (i := 19) rfl))) Via.refl e1 F_slidAt_ts (g := (mkF m 8 #[.val (.ref ts)] [(.ref ts)])) rfl rfl (hb hby d4_8)
    refine own_go (fun t k => st2 t k) ?_
    show own_End p e below _ (T2.setTop (mkF m 11 #[.val (.ref ts)] [(.long t0)]))
    refine own_go (fun t k => X2.ldc2Long hx hown (mvT hZ (hw _ (List.mem_of_getElem? (i := 26) rfl))) (g := (mkF m 11 #[.val (.ref ts)] [(.long t0)])) rfl (hb hby d4_11) _ k) ?_
    show own_End p e below _ (T2.setTop (mkF m 14 #[.val (.ref ts)] [(.long (9223372036854775807 : Int64)), (.long t0)]))
    refine own_go (fun t k => XS.aloadN X2.here hx rfl (hb hby d4_14) rfl rfl k) ?_
    show own_End p e below _ (T2.setTop (mkF m 15 #[.val (.ref ts)] [(.ref ts), (.long (9223372036854775807 : Int64)), (.long t0)]))
    obtain ⟨T3, X3, e3, st3⟩ := getF X2 hx hZ hown (host := "") (Or.inl (hw _ (List.mem_of_getElem? (i := 10) rfl))) Via.refl e2 F_span_ts (g := (mkF m 15 #[.val (.ref ts)] [(.ref ts), (.long (9223372036854775807 : Int64)), (.long t0)])) rfl rfl (hb hby d4_15)
    refine own_go (fun t k => st3 t k) ?_
    show own_End p e below _ (T3.setTop (mkF m 18 #[.val (.ref ts)] [(.long sp), (.long (9223372036854775807 : Int64)), (.long t0)]))
    refine own_go (fun t k => XS.lsub X3.here hx rfl (hb hby d4_18) rfl k) ?_
    show own_End p e below _ (T3.setTop (mkF m 19 #[.val (.ref ts)] [(.long ((9223372036854775807 : Int64) - sp)), (.long t0)]))
    refine own_go (fun t k => XS.lcmp X3.here hx rfl (hb hby d4_19) rfl k) ?_
    show own_End p e below _ (T3.setTop (mkF m 20 #[.val (.ref ts)] [(.int (lcmpW t0 ((9223372036854775807 : Int64) - sp)))]))
    by_cases hc20 : ((9223372036854775807 : Int64) - sp) < t0
    ·
      refine own_go (fun t k => XS.ifYes X3.here hx rfl (pc0 := 20) (pc' := 27) rfl (hb hby d4_20) rfl ((if0 _ _).trans (tlt ((lw_gt t0 ((9223372036854775807 : Int64) - sp)).mpr hc20)).2.2.1) (by decide) (by decide) k) ?_
      show own_End p e below _ (T3.setTop (mkF m 27 #[.val (.ref ts)] []))
      refine own_go (fun t k => XS.iconst X3.here hx rfl (hb hby d4_27) k) ?_
      show own_End p e below _ (T3.setTop (mkF m 28 #[.val (.ref ts)] [(.int (0 : Int32))]))
      obtain ⟨fs, hr, hrun, hended, hW, hsame⟩ := X3.leave (v := some (.int (0 : Int32))) (fun h => by rw [Bd.returns] at h; cases h)
      refine ⟨_, _, (retN X3 hx (t := .boolean) Bd.returns (by simp) (hb hby d4_28) hr), hrun, hended, _, _, rfl, ?_, ⟨_, rfl⟩, hW, hsame.mono (by decide) (by decide)⟩
      show Q4 Z ts st t0 sp h0 n0 _ T3.heap _
      rw [e3]
      exact ⟨by simp [own_sched, hc4, hc20], Nf, rfl⟩
    ·
      refine own_go (fun t k => XS.ifNo X3.here hx rfl (hb hby d4_20) rfl ((if0 _ _).trans (flt (fun q => hc20 ((lw_gt t0 ((9223372036854775807 : Int64) - sp)).mp q))).2.2.1) k) ?_
      show own_End p e below _ (T3.setTop (mkF m 23 #[.val (.ref ts)] []))
      refine own_go (fun t k => XS.iconst X3.here hx rfl (hb hby d4_23) k) ?_
      show own_End p e below _ (T3.setTop (mkF m 24 #[.val (.ref ts)] [(.int (1 : Int32))]))
      refine own_go (fun t k => XS.goto X3.here hx rfl (pc0 := 24) (pc' := 28) rfl (hb hby d4_24) (by decide) (by decide) k) ?_
      show own_End p e below _ (T3.setTop (mkF m 28 #[.val (.ref ts)] [(.int (1 : Int32))]))
      obtain ⟨fs, hr, hrun, hended, hW, hsame⟩ := X3.leave (v := some (.int (1 : Int32))) (fun h => by rw [Bd.returns] at h; cases h)
      refine ⟨_, _, (retN X3 hx (t := .boolean) Bd.returns (by simp) (hb hby d4_28) hr), hrun, hended, _, _, rfl, ?_, ⟨_, rfl⟩, hW, hsame.mono (by decide) (by decide)⟩
      show Q4 Z ts st t0 sp h0 n0 _ T3.heap _
      rw [e3]
      exact ⟨by simp [own_sched, hc4, hc20], Nf, rfl⟩
theorem pd_1 : parseMethodDescriptor "(J)V" = some ⟨[.long], none⟩ := by decide +kernel
theorem pd_2 : parseMethodDescriptor "()Z" = some ⟨[], some .boolean⟩ := by decide +kernel
theorem pn_3 : plainName "com/example/rillway/rillway/input/TimeSlideScheduledPinLaw" = true := by first | (simp [plainName, overriddenIn]; done) | decide +kernel
theorem ef_0 (m : MethodId) (x0 : Int64) (x1 : Int64) (x2 : Int64) (x3 : Int32) : entryFrame m #[(.long x0), (.long x1), (.long x2), (.int x3)] maxLocals = mkF m 0 #[.val (.long x0), .second, .val (.long x1), .second, .val (.long x2), .second, .val (.int x3), .unset, .unset, .unset, .unset, .unset, .unset, .unset, .unset, .unset] [] := by first | (simp [entryFrame, mkF, argsToLocals, Value.category, maxLocals]; done) | rfl
def Q0 (Z : State) (j0 : Int64) (j1 : Int64) (j2 : Int64) (fl : Int32) (h0 : Heap) (n0 : Nat) (v : Option Value) (h : Heap) (L : List Loc) : Prop := v = some (.int 1) ∧ Fr n0 L
def P0 (Z : State) (j0 : Int64) (j1 : Int64) (j2 : Int64) (fl : Int32) (h0 : Heap) (n0 : Nat) (s : State) (o : Outcome) (U : State) : Prop := ∃ v L, o = .returned v ∧ Q0 Z j0 j1 j2 fl h0 n0 v U.heap L ∧ FrameEnd s o U L 1 3
set_option maxRecDepth 65536 in
set_option maxHeartbeats 40000000 in
theorem rm0 (l : Launch) (Z : State) (a0 : Array Value) (hw : ∀ d ∈ tables_1, d.before a0 Z = true) (ws : List Jvm.Cond) (j0 : Int64) (j1 : Int64) (j2 : Int64) (fl : Int32) (h0 : Heap) (n0 : Nat) (Z0 : n0 ≤ h0.size)  :
    MetFree l x (head1 (Jvm.Cond.code x code maxLocals ret :: ws) room_1) (fun a U => a = #[(.long j0), (.long j1), (.long j2), (.int fl)] ∧ Z.Warmed39 U.vm ∧ U.heap = h0) (fun _ _ _ _ _ => True) (fun _ U o U' => ∃ v L, o = .returned v ∧ Q0 Z j0 j1 j2 fl h0 n0 v U'.heap L ∧ FrameEnd U o U' L 1 3) := by
  refine MetFree.of_bodySF (plainFor_of_name pn_3) hisR ?_
  intro p e s m args below meth c s₁ Bd hml0 hP hK
  obtain ⟨rfl, hZ, hh⟩ := hP
  have hx := Bd.exec
  have hby := Bd.bytes
  have hml : c.maxLocals = 16 := hml0
  have hown : s.vm.findClass "com/example/rillway/rillway/input/TimeSlideScheduledPinLaw" = some m.cls := findClass_of_methodNamed Bd.named
  have hnm := (name_of_methodNamed Bd.named Bd.method).1
  have X0 : Stand p l e room_1 s m #[(.long j0), (.long j1), (.long j2), (.int fl)] below meth c s₁ [] 0 0 := Stand.of_body Bd
  have e0 : s₁.heap = h0 := by rw [← hh, Bd.state]; rfl
  have Nf := Fr.nil n0
  have Zs : n0 ≤ h0.size := Z0
  have Kp : Keep h0 h0 [] := Keep.refl _ _
  have szr : h0.size ≤ h0.size := Nat.le_refl _
  show own_End p e below (P0 Z j0 j1 j2 fl h0 n0 s) (s₁.setTop (entryFrame m #[(.long j0), (.long j1), (.long j2), (.int fl)] maxLocals))
  rw [ef_0]
  have J17 : ∀ (sp : Int64) (T : State) (locs : List Loc) (h : Heap) (X : Stand p l e room_1 s m #[(.long j0), (.long j1), (.long j2), (.int fl)] below meth c T locs 0 0) (eT : T.heap = h) (Nf : Fr n0 locs) (Zs : n0 ≤ h.size) (Kp : Keep h0 h []) (szr : h0.size ≤ h.size)  (hsp : 0 < sp.toInt), own_End p e below (P0 Z j0 j1 j2 fl h0 n0 s) (T.setTop (mkF m 17 #[.val (.long j0), .second, .val (.long j1), .second, .val (.long j2), .second, .val (.int fl), .val (.long sp), .second, .unset, .unset, .unset, .unset, .unset, .unset, .unset] [])) := by
    intro sp T locs h X eT Nf Zs Kp szr  hsp
    obtain ⟨T1, h1, X1, e1, E1, A1, D1, -, st1⟩ := newO X hx hZ hown (hw _ (List.mem_of_getElem? (i := 1) rfl)) (hw _ (List.mem_of_getElem? (i := 2) rfl)) (hw _ (List.mem_of_getElem? (i := 3) rfl)) eT (g := (mkF m 17 #[.val (.long j0), .second, .val (.long j1), .second, .val (.long j2), .second, .val (.int fl), .val (.long sp), .second, .unset, .unset, .unset, .unset, .unset, .unset, .unset] [])) rfl (hb hby at_17) (by decide) (by decide)
    obtain ⟨ts, g1⟩ : ∃ z, z = h.size := ⟨_, rfl⟩
    rw [← g1] at A1 D1 st1
    have g_ts : n0 ≤ ts := Nat.le_trans Zs (Nat.le_of_eq g1.symm)
    have sz_ts : h0.size ≤ ts := Nat.le_trans szr (Nat.le_of_eq g1.symm)
    have Kp := Kp.ext E1
    have Zs := Nat.le_trans Zs E1.1
    have szr := Nat.le_trans szr E1.1
    have E_ts := A1
    have F_span_ts : Fld Z h1 ts "com/example/rillway/rillway/input/TimeSlide" "span" "J" (.long (0 : Int64)) := D1 (Or.inr (hw _ (List.mem_of_getElem? (i := 11) rfl))) (ty := .long) (by decide)
    have F_started_ts : Fld Z h1 ts "com/example/rillway/rillway/input/TimeSlide" "started" "Z" (.int (0 : Int32)) := D1 (Or.inl (hw _ (List.mem_of_getElem? (i := 18) rfl))) (ty := .boolean) (by decide)
    have F_slidAt_ts : Fld Z h1 ts "com/example/rillway/rillway/input/TimeSlide" "slidAt" "J" (.long (0 : Int64)) := D1 (Or.inl (hw _ (List.mem_of_getElem? (i := 20) rfl))) (ty := .long) (by decide)
    refine own_go (fun t k => st1 t k) ?_
    show own_End p e below _ (T1.setTop (mkF m 20 #[.val (.long j0), .second, .val (.long j1), .second, .val (.long j2), .second, .val (.int fl), .val (.long sp), .second, .unset, .unset, .unset, .unset, .unset, .unset, .unset] [(.ref ts)]))
    refine own_go (fun t k => XS.dup X1.here hx rfl (hb hby at_20) rfl rfl k) ?_
    show own_End p e below _ (T1.setTop (mkF m 21 #[.val (.long j0), .second, .val (.long j1), .second, .val (.long j2), .second, .val (.int fl), .val (.long sp), .second, .unset, .unset, .unset, .unset, .unset, .unset, .unset] [(.ref ts), (.ref ts)]))
    refine own_go (fun t k => XS.lload X1.here hx rfl (hb hby at_21) rfl k) ?_
    show own_End p e below _ (T1.setTop (mkF m 23 #[.val (.long j0), .second, .val (.long j1), .second, .val (.long j2), .second, .val (.int fl), .val (.long sp), .second, .unset, .unset, .unset, .unset, .unset, .unset, .unset] [(.long sp), (.ref ts), (.ref ts)]))
    obtain ⟨_, _, ⟨T2, L2, k2, n2⟩, -, X2, ⟨Lc2, hQ2, l2, y2, z2⟩, st2⟩ := X1.specialBack hx (y := (⟨"com/example/rillway/rillway/input/TimeSlide", "<init>", "(J)V"⟩ : MethodName)) rfl hown (mvT hZ (hw _ (List.mem_of_getElem? (i := 4) rfl))) (mvT hZ (hw _ (List.mem_of_getElem? (i := 5) rfl))) (mvT hZ (hw _ (List.mem_of_getElem? (i := 6) rfl))) (by decide) (backOf (W := 1) (rm1 l Z a0 hw [] ts sp h1 n0 Zs E_ts F_started_ts F_slidAt_ts F_span_ts g_ts) hZ (hw _ (List.mem_of_getElem? (i := 6) rfl)) (hw _ (List.mem_of_getElem? (i := 3) rfl)) (by decide) (by decide)) (g := (mkF m 23 #[.val (.long j0), .second, .val (.long j1), .second, .val (.long j2), .second, .val (.int fl), .val (.long sp), .second, .unset, .unset, .unset, .unset, .unset, .unset, .unset] [(.long sp), (.ref ts), (.ref ts)])) rfl (by rw [hml]; rfl) (Steps.refl _) (a := ts) (argsL := [(.long sp)]) (rest := [(.ref ts)]) (lenOf pd_1 rfl) rfl (by show 2 * 0 + _ ≤ _; exact Nat.le_of_eq rfl) (hb hby at_23) (fun _ _ => ⟨rfl, e1, (Nat.le_of_ble_eq_true rfl), (Nat.le_of_ble_eq_true rfl)⟩)
    dsimp only [Pt.U, Pt.locs, Pt.cells, Pt.slots] at X2 l2 y2 z2 st2 hQ2
    subst l2 y2 z2
    obtain ⟨rfl, N2q, K2, F_started_ts, F_slidAt_ts, F_span_ts⟩ := hQ2
    have Nf := Fr.app Nf N2q
    have E_ts := E_ts.keep K2
    have Kp := Kp.trans K2 (allS (Or.inr sz_ts) all0)
    have Zs := Nat.le_trans Zs K2.1
    have szr := Nat.le_trans szr K2.1
    refine own_go (fun t k => st2.trans k) ?_
    show own_End p e below _ (T2.setTop (mkF m 26 #[.val (.long j0), .second, .val (.long j1), .second, .val (.long j2), .second, .val (.int fl), .val (.long sp), .second, .unset, .unset, .unset, .unset, .unset, .unset, .unset] [(.ref ts)]))
    refine own_go (fun t k => XS.astore X2.here hx rfl (hb hby at_26) rfl rfl (l' := #[.val (.long j0), .second, .val (.long j1), .second, .val (.long j2), .second, .val (.int fl), .val (.long sp), .second, .val (.ref ts), .unset, .unset, .unset, .unset, .unset, .unset]) rfl k) ?_
    show own_End p e below _ (T2.setTop (mkF m 28 #[.val (.long j0), .second, .val (.long j1), .second, .val (.long j2), .second, .val (.int fl), .val (.long sp), .second, .val (.ref ts), .unset, .unset, .unset, .unset, .unset, .unset] []))
    refine own_go (fun t k => XS.iload X2.here hx rfl (hb hby at_28) rfl k) ?_
    show own_End p e below _ (T2.setTop (mkF m 30 #[.val (.long j0), .second, .val (.long j1), .second, .val (.long j2), .second, .val (.int fl), .val (.long sp), .second, .val (.ref ts), .unset, .unset, .unset, .unset, .unset, .unset] [(.int fl)]))
    refine own_go (fun t k => XS.iconst X2.here hx rfl (hb hby at_30) k) ?_
    show own_End p e below _ (T2.setTop (mkF m 31 #[.val (.long j0), .second, .val (.long j1), .second, .val (.long j2), .second, .val (.int fl), .val (.long sp), .second, .val (.ref ts), .unset, .unset, .unset, .unset, .unset, .unset] [(.int (3 : Int32)), (.int fl)]))
    refine own_go (fun t k => XS.iand X2.here hx rfl (hb hby at_31) rfl k) ?_
    show own_End p e below _ (T2.setTop (mkF m 32 #[.val (.long j0), .second, .val (.long j1), .second, .val (.long j2), .second, .val (.int fl), .val (.long sp), .second, .val (.ref ts), .unset, .unset, .unset, .unset, .unset, .unset] [(.int (fl &&& (3 : Int32)))]))
    refine own_go (fun t k => XS.istore X2.here hx rfl (hb hby at_32) rfl (l' := #[.val (.long j0), .second, .val (.long j1), .second, .val (.long j2), .second, .val (.int fl), .val (.long sp), .second, .val (.ref ts), .val (.int (fl &&& (3 : Int32))), .unset, .unset, .unset, .unset, .unset]) rfl k) ?_
    show own_End p e below _ (T2.setTop (mkF m 34 #[.val (.long j0), .second, .val (.long j1), .second, .val (.long j2), .second, .val (.int fl), .val (.long sp), .second, .val (.ref ts), .val (.int (fl &&& (3 : Int32))), .unset, .unset, .unset, .unset, .unset] []))
    refine own_go (fun t k => XS.iload X2.here hx rfl (hb hby at_34) rfl k) ?_
    show own_End p e below _ (T2.setTop (mkF m 36 #[.val (.long j0), .second, .val (.long j1), .second, .val (.long j2), .second, .val (.int fl), .val (.long sp), .second, .val (.ref ts), .val (.int (fl &&& (3 : Int32))), .unset, .unset, .unset, .unset, .unset] [(.int (fl &&& (3 : Int32)))]))
    by_cases hc36 : (fl &&& (3 : Int32)) = (0 : Int32)
    ·
      refine own_go (fun t k => XS.ifNo X2.here hx rfl (hb hby at_36) rfl ((if0 _ _).trans (teq hc36).2) k) ?_
      show own_End p e below _ (T2.setTop (mkF m 39 #[.val (.long j0), .second, .val (.long j1), .second, .val (.long j2), .second, .val (.int fl), .val (.long sp), .second, .val (.ref ts), .val (.int (fl &&& (3 : Int32))), .unset, .unset, .unset, .unset, .unset] []))
      refine own_go (fun t k => XS.iconst X2.here hx rfl (hb hby at_39) k) ?_
      show own_End p e below _ (T2.setTop (mkF m 40 #[.val (.long j0), .second, .val (.long j1), .second, .val (.long j2), .second, .val (.int fl), .val (.long sp), .second, .val (.ref ts), .val (.int (fl &&& (3 : Int32))), .unset, .unset, .unset, .unset, .unset] [(.int (0 : Int32))]))
      refine own_go (fun t k => XS.istore X2.here hx rfl (hb hby at_40) rfl (l' := #[.val (.long j0), .second, .val (.long j1), .second, .val (.long j2), .second, .val (.int fl), .val (.long sp), .second, .val (.ref ts), .val (.int (fl &&& (3 : Int32))), .unset, .unset, .val (.int (0 : Int32)), .unset, .unset]) rfl k) ?_
      show own_End p e below _ (T2.setTop (mkF m 42 #[.val (.long j0), .second, .val (.long j1), .second, .val (.long j2), .second, .val (.int fl), .val (.long sp), .second, .val (.ref ts), .val (.int (fl &&& (3 : Int32))), .unset, .unset, .val (.int (0 : Int32)), .unset, .unset] []))
      refine own_go (fun t k => XS.lconst X2.here hx rfl (hb hby at_42) k) ?_
      show own_End p e below _ (T2.setTop (mkF m 43 #[.val (.long j0), .second, .val (.long j1), .second, .val (.long j2), .second, .val (.int fl), .val (.long sp), .second, .val (.ref ts), .val (.int (fl &&& (3 : Int32))), .unset, .unset, .val (.int (0 : Int32)), .unset, .unset] [(.long (0 : Int64))]))
      refine own_go (fun t k => XS.lstore X2.here hx rfl (hb hby at_43) rfl (l' := #[.val (.long j0), .second, .val (.long j1), .second, .val (.long j2), .second, .val (.int fl), .val (.long sp), .second, .val (.ref ts), .val (.int (fl &&& (3 : Int32))), .val (.long (0 : Int64)), .second, .val (.int (0 : Int32)), .unset, .unset]) rfl k) ?_
      show own_End p e below _ (T2.setTop (mkF m 45 #[.val (.long j0), .second, .val (.long j1), .second, .val (.long j2), .second, .val (.int fl), .val (.long sp), .second, .val (.ref ts), .val (.int (fl &&& (3 : Int32))), .val (.long (0 : Int64)), .second, .val (.int (0 : Int32)), .unset, .unset] []))
      refine own_go (fun t k => XS.goto X2.here hx rfl (pc0 := 45) (pc' := 129) rfl (hb hby at_45) (by decide) (by decide) k) ?_
      show own_End p e below _ (T2.setTop (mkF m 129 #[.val (.long j0), .second, .val (.long j1), .second, .val (.long j2), .second, .val (.int fl), .val (.long sp), .second, .val (.ref ts), .val (.int (fl &&& (3 : Int32))), .val (.long (0 : Int64)), .second, .val (.int (0 : Int32)), .unset, .unset] []))
      refine own_go (fun t k => XS.iload X2.here hx rfl (hb hby at_129) rfl k) ?_
      show own_End p e below _ (T2.setTop (mkF m 131 #[.val (.long j0), .second, .val (.long j1), .second, .val (.long j2), .second, .val (.int fl), .val (.long sp), .second, .val (.ref ts), .val (.int (fl &&& (3 : Int32))), .val (.long (0 : Int64)), .second, .val (.int (0 : Int32)), .unset, .unset] [(.int (0 : Int32))]))
      refine own_go (fun t k => XS.ifYes X2.here hx rfl (pc0 := 131) (pc' := 149) rfl (hb hby at_131) rfl ((if0 _ _).trans (teq (by decide)).1) (by decide) (by decide) k) ?_
      show own_End p e below _ (T2.setTop (mkF m 149 #[.val (.long j0), .second, .val (.long j1), .second, .val (.long j2), .second, .val (.int fl), .val (.long sp), .second, .val (.ref ts), .val (.int (fl &&& (3 : Int32))), .val (.long (0 : Int64)), .second, .val (.int (0 : Int32)), .unset, .unset] []))
      refine own_go (fun t k => XS.iconst X2.here hx rfl (hb hby at_149) k) ?_
      show own_End p e below _ (T2.setTop (mkF m 150 #[.val (.long j0), .second, .val (.long j1), .second, .val (.long j2), .second, .val (.int fl), .val (.long sp), .second, .val (.ref ts), .val (.int (fl &&& (3 : Int32))), .val (.long (0 : Int64)), .second, .val (.int (0 : Int32)), .unset, .unset] [(.int (0 : Int32))]))
      refine own_go (fun t k => XS.istore X2.here hx rfl (hb hby at_150) rfl (l' := #[.val (.long j0), .second, .val (.long j1), .second, .val (.long j2), .second, .val (.int fl), .val (.long sp), .second, .val (.ref ts), .val (.int (fl &&& (3 : Int32))), .val (.long (0 : Int64)), .second, .val (.int (0 : Int32)), .val (.int (0 : Int32)), .unset]) rfl k) ?_
      show own_End p e below _ (T2.setTop (mkF m 152 #[.val (.long j0), .second, .val (.long j1), .second, .val (.long j2), .second, .val (.int fl), .val (.long sp), .second, .val (.ref ts), .val (.int (fl &&& (3 : Int32))), .val (.long (0 : Int64)), .second, .val (.int (0 : Int32)), .val (.int (0 : Int32)), .unset] []))
      refine own_go (fun t k => XS.aload X2.here hx rfl (hb hby at_152) rfl rfl k) ?_
      show own_End p e below _ (T2.setTop (mkF m 154 #[.val (.long j0), .second, .val (.long j1), .second, .val (.long j2), .second, .val (.int fl), .val (.long sp), .second, .val (.ref ts), .val (.int (fl &&& (3 : Int32))), .val (.long (0 : Int64)), .second, .val (.int (0 : Int32)), .val (.int (0 : Int32)), .unset] [(.ref ts)]))
      obtain ⟨cq3, kq3, q3a, q3b, q3c⟩ := isOf hZ rfl E_ts
      obtain ⟨_, _, ⟨T3, L3, k3, n3⟩, -, X3, ⟨Lc3, hQ3, l3, y3, z3⟩, st3⟩ := X2.virtualBack hx (y := (⟨"com/example/rillway/rillway/input/TimeSlide", "scheduled", "()Z"⟩ : MethodName)) (z := (⟨"com/example/rillway/rillway/input/TimeSlide", "scheduled", "()Z"⟩ : MethodName)) hown (mvT hZ (hw _ (List.mem_of_getElem? (i := 21) rfl))) (mvT hZ (hw _ (List.mem_of_getElem? (i := 22) rfl))) (notFace_of_selects (args := #[]) (mvT hZ (hw _ (List.mem_of_getElem? (i := 24) rfl)))) (mvT hZ (hw _ (List.mem_of_getElem? (i := 24) rfl))) (mvT hZ (hw _ (List.mem_of_getElem? (i := 23) rfl))) (by decide) (backOf (W := 0) (rm4 l Z a0 hw [] ts (0 : Int32) (0 : Int64) sp T2.heap n0 Zs F_started_ts F_slidAt_ts F_span_ts) hZ (hw _ (List.mem_of_getElem? (i := 25) rfl)) (hw _ (List.mem_of_getElem? (i := 3) rfl)) (by decide) (by decide)) q3a q3c (g := (mkF m 154 #[.val (.long j0), .second, .val (.long j1), .second, .val (.long j2), .second, .val (.int fl), .val (.long sp), .second, .val (.ref ts), .val (.int (fl &&& (3 : Int32))), .val (.long (0 : Int64)), .second, .val (.int (0 : Int32)), .val (.int (0 : Int32)), .unset] [(.ref ts)])) rfl (by rw [hml]; rfl) (Steps.refl _) (argsL := []) (rest := []) (lenOf pd_2 rfl) rfl (by show 2 * 0 + _ ≤ _; exact Nat.le_of_eq rfl) (hb hby at_154) (fun _ _ => ⟨rfl, rfl, (Nat.le_of_ble_eq_true rfl), (Nat.le_of_ble_eq_true rfl)⟩)
      dsimp only [Pt.U, Pt.locs, Pt.cells, Pt.slots] at X3 l3 y3 z3 st3 hQ3
      subst l3 y3 z3
      obtain ⟨rfl, N3q, e3⟩ := hQ3
      have Nf := Fr.app Nf N3q
      refine own_go (fun t k => st3.trans k) ?_
      show own_End p e below _ (T3.setTop (mkF m 157 #[.val (.long j0), .second, .val (.long j1), .second, .val (.long j2), .second, .val (.int fl), .val (.long sp), .second, .val (.ref ts), .val (.int (fl &&& (3 : Int32))), .val (.long (0 : Int64)), .second, .val (.int (0 : Int32)), .val (.int (0 : Int32)), .unset] [(.int (own_sched (0 : Int32) (0 : Int64) sp))]))
      refine own_go (fun t k => XS.iload X3.here hx rfl (hb hby at_157) rfl k) ?_
      show own_End p e below _ (T3.setTop (mkF m 159 #[.val (.long j0), .second, .val (.long j1), .second, .val (.long j2), .second, .val (.int fl), .val (.long sp), .second, .val (.ref ts), .val (.int (fl &&& (3 : Int32))), .val (.long (0 : Int64)), .second, .val (.int (0 : Int32)), .val (.int (0 : Int32)), .unset] [(.int (0 : Int32)), (.int (own_sched (0 : Int32) (0 : Int64) sp))]))
      refine own_go (fun t k => XS.icmpNo X3.here hx rfl (hb hby at_159) rfl (teq (own_sched0 (0 : Int64) sp)).2 k) ?_
      show own_End p e below _ (T3.setTop (mkF m 162 #[.val (.long j0), .second, .val (.long j1), .second, .val (.long j2), .second, .val (.int fl), .val (.long sp), .second, .val (.ref ts), .val (.int (fl &&& (3 : Int32))), .val (.long (0 : Int64)), .second, .val (.int (0 : Int32)), .val (.int (0 : Int32)), .unset] []))
      refine own_go (fun t k => XS.iconst X3.here hx rfl (hb hby at_162) k) ?_
      show own_End p e below _ (T3.setTop (mkF m 163 #[.val (.long j0), .second, .val (.long j1), .second, .val (.long j2), .second, .val (.int fl), .val (.long sp), .second, .val (.ref ts), .val (.int (fl &&& (3 : Int32))), .val (.long (0 : Int64)), .second, .val (.int (0 : Int32)), .val (.int (0 : Int32)), .unset] [(.int (1 : Int32))]))
      refine own_go (fun t k => XS.goto X3.here hx rfl (pc0 := 163) (pc' := 167) rfl (hb hby at_163) (by decide) (by decide) k) ?_
      show own_End p e below _ (T3.setTop (mkF m 167 #[.val (.long j0), .second, .val (.long j1), .second, .val (.long j2), .second, .val (.int fl), .val (.long sp), .second, .val (.ref ts), .val (.int (fl &&& (3 : Int32))), .val (.long (0 : Int64)), .second, .val (.int (0 : Int32)), .val (.int (0 : Int32)), .unset] [(.int (1 : Int32))]))
      obtain ⟨fs, hr, hrun, hended, hW, hsame⟩ := X3.leave (v := some (.int (1 : Int32))) (fun h => by rw [Bd.returns] at h; cases h)
      refine ⟨_, _, (retN X3 hx (t := .boolean) Bd.returns (by simp) (hb hby at_167) hr), hrun, hended, _, _, rfl, ?_, ⟨_, rfl⟩, hW, hsame.mono (by decide) (by decide)⟩
      show Q0 Z j0 j1 j2 fl h0 n0 _ T3.heap _
      rw [e3]
      exact ⟨rfl, Nf⟩
    ·
      refine own_go (fun t k => XS.ifYes X2.here hx rfl (pc0 := 36) (pc' := 48) rfl (hb hby at_36) rfl ((if0 _ _).trans (feq hc36).2) (by decide) (by decide) k) ?_
      show own_End p e below _ (T2.setTop (mkF m 48 #[.val (.long j0), .second, .val (.long j1), .second, .val (.long j2), .second, .val (.int fl), .val (.long sp), .second, .val (.ref ts), .val (.int (fl &&& (3 : Int32))), .unset, .unset, .unset, .unset, .unset] []))
      refine own_go (fun t k => XS.iload X2.here hx rfl (hb hby at_48) rfl k) ?_
      show own_End p e below _ (T2.setTop (mkF m 50 #[.val (.long j0), .second, .val (.long j1), .second, .val (.long j2), .second, .val (.int fl), .val (.long sp), .second, .val (.ref ts), .val (.int (fl &&& (3 : Int32))), .unset, .unset, .unset, .unset, .unset] [(.int (fl &&& (3 : Int32)))]))
      refine own_go (fun t k => XS.iconst X2.here hx rfl (hb hby at_50) k) ?_
      show own_End p e below _ (T2.setTop (mkF m 51 #[.val (.long j0), .second, .val (.long j1), .second, .val (.long j2), .second, .val (.int fl), .val (.long sp), .second, .val (.ref ts), .val (.int (fl &&& (3 : Int32))), .unset, .unset, .unset, .unset, .unset] [(.int (1 : Int32)), (.int (fl &&& (3 : Int32)))]))
      by_cases hc51 : (fl &&& (3 : Int32)) = (1 : Int32)
      ·
        refine own_go (fun t k => XS.icmpNo X2.here hx rfl (hb hby at_51) rfl (teq hc51).2 k) ?_
        show own_End p e below _ (T2.setTop (mkF m 54 #[.val (.long j0), .second, .val (.long j1), .second, .val (.long j2), .second, .val (.int fl), .val (.long sp), .second, .val (.ref ts), .val (.int (fl &&& (3 : Int32))), .unset, .unset, .unset, .unset, .unset] []))
        refine own_go (fun t k => XS.aload X2.here hx rfl (hb hby at_54) rfl rfl k) ?_
        show own_End p e below _ (T2.setTop (mkF m 56 #[.val (.long j0), .second, .val (.long j1), .second, .val (.long j2), .second, .val (.int fl), .val (.long sp), .second, .val (.ref ts), .val (.int (fl &&& (3 : Int32))), .unset, .unset, .unset, .unset, .unset] [(.ref ts)]))
        refine own_go (fun t k => XS.lloadN X2.here hx rfl (hb hby at_56) rfl k) ?_
        show own_End p e below _ (T2.setTop (mkF m 57 #[.val (.long j0), .second, .val (.long j1), .second, .val (.long j2), .second, .val (.int fl), .val (.long sp), .second, .val (.ref ts), .val (.int (fl &&& (3 : Int32))), .unset, .unset, .unset, .unset, .unset] [(.long j1), (.ref ts)]))
        obtain ⟨cq4, kq4, q4a, q4b, q4c⟩ := isOf hZ rfl E_ts
        obtain ⟨_, _, ⟨T4, L4, k4, n4⟩, -, X4, ⟨Lc4, hQ4, l4, y4, z4⟩, st4⟩ := X2.virtualBack hx (y := (⟨"com/example/rillway/rillway/input/TimeSlide", "start", "(J)V"⟩ : MethodName)) (z := (⟨"com/example/rillway/rillway/input/TimeSlide", "start", "(J)V"⟩ : MethodName)) hown (mvT hZ (hw _ (List.mem_of_getElem? (i := 27) rfl))) (mvT hZ (hw _ (List.mem_of_getElem? (i := 28) rfl))) (notFace_of_selects (args := #[]) (mvT hZ (hw _ (List.mem_of_getElem? (i := 30) rfl)))) (mvT hZ (hw _ (List.mem_of_getElem? (i := 30) rfl))) (mvT hZ (hw _ (List.mem_of_getElem? (i := 29) rfl))) (by decide) (backOf (W := 0) (rm5 l Z a0 hw [] ts j1 (0 : Int32) (0 : Int64) sp T2.heap n0 Zs E_ts F_started_ts F_slidAt_ts F_span_ts g_ts rfl) hZ (hw _ (List.mem_of_getElem? (i := 31) rfl)) (hw _ (List.mem_of_getElem? (i := 3) rfl)) (by decide) (by decide)) q4a q4c (g := (mkF m 57 #[.val (.long j0), .second, .val (.long j1), .second, .val (.long j2), .second, .val (.int fl), .val (.long sp), .second, .val (.ref ts), .val (.int (fl &&& (3 : Int32))), .unset, .unset, .unset, .unset, .unset] [(.long j1), (.ref ts)])) rfl (by rw [hml]; rfl) (Steps.refl _) (argsL := [(.long j1)]) (rest := []) (lenOf pd_1 rfl) rfl (by show 2 * 0 + _ ≤ _; exact Nat.le_of_eq rfl) (hb hby at_57) (fun _ _ => ⟨rfl, rfl, (Nat.le_of_ble_eq_true rfl), (Nat.le_of_ble_eq_true rfl)⟩)
        dsimp only [Pt.U, Pt.locs, Pt.cells, Pt.slots] at X4 l4 y4 z4 st4 hQ4
        subst l4 y4 z4
        obtain ⟨rfl, N4q, K4, F_started_ts, F_slidAt_ts, F_span_ts⟩ := hQ4
        have Nf := Fr.app Nf N4q
        have E_ts := E_ts.keep K4
        have Kp := Kp.trans K4 (allS (Or.inr sz_ts) all0)
        have Zs := Nat.le_trans Zs K4.1
        have szr := Nat.le_trans szr K4.1
        refine own_go (fun t k => st4.trans k) ?_
        show own_End p e below _ (T4.setTop (mkF m 60 #[.val (.long j0), .second, .val (.long j1), .second, .val (.long j2), .second, .val (.int fl), .val (.long sp), .second, .val (.ref ts), .val (.int (fl &&& (3 : Int32))), .unset, .unset, .unset, .unset, .unset] []))
        refine own_go (fun t k => XS.aload X4.here hx rfl (hb hby at_60) rfl rfl k) ?_
        show own_End p e below _ (T4.setTop (mkF m 62 #[.val (.long j0), .second, .val (.long j1), .second, .val (.long j2), .second, .val (.int fl), .val (.long sp), .second, .val (.ref ts), .val (.int (fl &&& (3 : Int32))), .unset, .unset, .unset, .unset, .unset] [(.ref ts)]))
        refine own_go (fun t k => XS.lload X4.here hx rfl (hb hby at_62) rfl k) ?_
        show own_End p e below _ (T4.setTop (mkF m 64 #[.val (.long j0), .second, .val (.long j1), .second, .val (.long j2), .second, .val (.int fl), .val (.long sp), .second, .val (.ref ts), .val (.int (fl &&& (3 : Int32))), .unset, .unset, .unset, .unset, .unset] [(.long j2), (.ref ts)]))
        obtain ⟨cq5, kq5, q5a, q5b, q5c⟩ := isOf hZ rfl E_ts
        obtain ⟨_, _, ⟨T5, L5, k5, n5⟩, -, X5, ⟨Lc5, hQ5, l5, y5, z5⟩, st5⟩ := X4.virtualBack hx (y := (⟨"com/example/rillway/rillway/input/TimeSlide", "start", "(J)V"⟩ : MethodName)) (z := (⟨"com/example/rillway/rillway/input/TimeSlide", "start", "(J)V"⟩ : MethodName)) hown (mvT hZ (hw _ (List.mem_of_getElem? (i := 27) rfl))) (mvT hZ (hw _ (List.mem_of_getElem? (i := 28) rfl))) (notFace_of_selects (args := #[]) (mvT hZ (hw _ (List.mem_of_getElem? (i := 30) rfl)))) (mvT hZ (hw _ (List.mem_of_getElem? (i := 30) rfl))) (mvT hZ (hw _ (List.mem_of_getElem? (i := 29) rfl))) (by decide) (backOf (W := 0) (rm6 l Z a0 hw [] ts j2 (1 : Int32) j1 sp T4.heap n0 Zs E_ts F_started_ts F_slidAt_ts F_span_ts g_ts (by decide)) hZ (hw _ (List.mem_of_getElem? (i := 31) rfl)) (hw _ (List.mem_of_getElem? (i := 3) rfl)) (by decide) (by decide)) q5a q5c (g := (mkF m 64 #[.val (.long j0), .second, .val (.long j1), .second, .val (.long j2), .second, .val (.int fl), .val (.long sp), .second, .val (.ref ts), .val (.int (fl &&& (3 : Int32))), .unset, .unset, .unset, .unset, .unset] [(.long j2), (.ref ts)])) rfl (by rw [hml]; rfl) (Steps.refl _) (argsL := [(.long j2)]) (rest := []) (lenOf pd_1 rfl) rfl (by show 2 * 0 + _ ≤ _; exact Nat.le_of_eq rfl) (hb hby at_64) (fun _ _ => ⟨rfl, rfl, (Nat.le_of_ble_eq_true rfl), (Nat.le_of_ble_eq_true rfl)⟩)
        dsimp only [Pt.U, Pt.locs, Pt.cells, Pt.slots] at X5 l5 y5 z5 st5 hQ5
        subst l5 y5 z5
        obtain ⟨rfl, N5q, K5, F_started_ts, F_slidAt_ts, F_span_ts⟩ := hQ5
        have Nf := Fr.app Nf N5q
        have E_ts := E_ts.keep K5
        have Kp := Kp.trans K5 (allS (Or.inr sz_ts) all0)
        have Zs := Nat.le_trans Zs K5.1
        have szr := Nat.le_trans szr K5.1
        refine own_go (fun t k => st5.trans k) ?_
        show own_End p e below _ (T5.setTop (mkF m 67 #[.val (.long j0), .second, .val (.long j1), .second, .val (.long j2), .second, .val (.int fl), .val (.long sp), .second, .val (.ref ts), .val (.int (fl &&& (3 : Int32))), .unset, .unset, .unset, .unset, .unset] []))
        refine own_go (fun t k => XS.iconst X5.here hx rfl (hb hby at_67) k) ?_
        show own_End p e below _ (T5.setTop (mkF m 68 #[.val (.long j0), .second, .val (.long j1), .second, .val (.long j2), .second, .val (.int fl), .val (.long sp), .second, .val (.ref ts), .val (.int (fl &&& (3 : Int32))), .unset, .unset, .unset, .unset, .unset] [(.int (1 : Int32))]))
        refine own_go (fun t k => XS.istore X5.here hx rfl (hb hby at_68) rfl (l' := #[.val (.long j0), .second, .val (.long j1), .second, .val (.long j2), .second, .val (.int fl), .val (.long sp), .second, .val (.ref ts), .val (.int (fl &&& (3 : Int32))), .unset, .unset, .val (.int (1 : Int32)), .unset, .unset]) rfl k) ?_
        show own_End p e below _ (T5.setTop (mkF m 70 #[.val (.long j0), .second, .val (.long j1), .second, .val (.long j2), .second, .val (.int fl), .val (.long sp), .second, .val (.ref ts), .val (.int (fl &&& (3 : Int32))), .unset, .unset, .val (.int (1 : Int32)), .unset, .unset] []))
        refine own_go (fun t k => XS.lloadN X5.here hx rfl (hb hby at_70) rfl k) ?_
        show own_End p e below _ (T5.setTop (mkF m 71 #[.val (.long j0), .second, .val (.long j1), .second, .val (.long j2), .second, .val (.int fl), .val (.long sp), .second, .val (.ref ts), .val (.int (fl &&& (3 : Int32))), .unset, .unset, .val (.int (1 : Int32)), .unset, .unset] [(.long j1)]))
        refine own_go (fun t k => XS.lstore X5.here hx rfl (hb hby at_71) rfl (l' := #[.val (.long j0), .second, .val (.long j1), .second, .val (.long j2), .second, .val (.int fl), .val (.long sp), .second, .val (.ref ts), .val (.int (fl &&& (3 : Int32))), .val (.long j1), .second, .val (.int (1 : Int32)), .unset, .unset]) rfl k) ?_
        show own_End p e below _ (T5.setTop (mkF m 73 #[.val (.long j0), .second, .val (.long j1), .second, .val (.long j2), .second, .val (.int fl), .val (.long sp), .second, .val (.ref ts), .val (.int (fl &&& (3 : Int32))), .val (.long j1), .second, .val (.int (1 : Int32)), .unset, .unset] []))
        refine own_go (fun t k => XS.goto X5.here hx rfl (pc0 := 73) (pc' := 129) rfl (hb hby at_73) (by decide) (by decide) k) ?_
        show own_End p e below _ (T5.setTop (mkF m 129 #[.val (.long j0), .second, .val (.long j1), .second, .val (.long j2), .second, .val (.int fl), .val (.long sp), .second, .val (.ref ts), .val (.int (fl &&& (3 : Int32))), .val (.long j1), .second, .val (.int (1 : Int32)), .unset, .unset] []))
        refine own_go (fun t k => XS.iload X5.here hx rfl (hb hby at_129) rfl k) ?_
        show own_End p e below _ (T5.setTop (mkF m 131 #[.val (.long j0), .second, .val (.long j1), .second, .val (.long j2), .second, .val (.int fl), .val (.long sp), .second, .val (.ref ts), .val (.int (fl &&& (3 : Int32))), .val (.long j1), .second, .val (.int (1 : Int32)), .unset, .unset] [(.int (1 : Int32))]))
        refine own_go (fun t k => XS.ifNo X5.here hx rfl (hb hby at_131) rfl ((if0 _ _).trans (feq (by decide)).1) k) ?_
        show own_End p e below _ (T5.setTop (mkF m 134 #[.val (.long j0), .second, .val (.long j1), .second, .val (.long j2), .second, .val (.int fl), .val (.long sp), .second, .val (.ref ts), .val (.int (fl &&& (3 : Int32))), .val (.long j1), .second, .val (.int (1 : Int32)), .unset, .unset] []))
        refine own_go (fun t k => XS.lload X5.here hx rfl (hb hby at_134) rfl k) ?_
        show own_End p e below _ (T5.setTop (mkF m 136 #[.val (.long j0), .second, .val (.long j1), .second, .val (.long j2), .second, .val (.int fl), .val (.long sp), .second, .val (.ref ts), .val (.int (fl &&& (3 : Int32))), .val (.long j1), .second, .val (.int (1 : Int32)), .unset, .unset] [(.long j1)]))
        refine own_go (fun t k => XS.lload X5.here hx rfl (hb hby at_136) rfl k) ?_
        show own_End p e below _ (T5.setTop (mkF m 138 #[.val (.long j0), .second, .val (.long j1), .second, .val (.long j2), .second, .val (.int fl), .val (.long sp), .second, .val (.ref ts), .val (.int (fl &&& (3 : Int32))), .val (.long j1), .second, .val (.int (1 : Int32)), .unset, .unset] [(.long sp), (.long j1)]))
        refine own_go (fun t k => XS.ladd X5.here hx rfl (hb hby at_138) rfl k) ?_
        show own_End p e below _ (T5.setTop (mkF m 139 #[.val (.long j0), .second, .val (.long j1), .second, .val (.long j2), .second, .val (.int fl), .val (.long sp), .second, .val (.ref ts), .val (.int (fl &&& (3 : Int32))), .val (.long j1), .second, .val (.int (1 : Int32)), .unset, .unset] [(.long (j1 + sp))]))
        refine own_go (fun t k => XS.lload X5.here hx rfl (hb hby at_139) rfl k) ?_
        show own_End p e below _ (T5.setTop (mkF m 141 #[.val (.long j0), .second, .val (.long j1), .second, .val (.long j2), .second, .val (.int fl), .val (.long sp), .second, .val (.ref ts), .val (.int (fl &&& (3 : Int32))), .val (.long j1), .second, .val (.int (1 : Int32)), .unset, .unset] [(.long j1), (.long (j1 + sp))]))
        refine own_go (fun t k => XS.lcmp X5.here hx rfl (hb hby at_141) rfl k) ?_
        show own_End p e below _ (T5.setTop (mkF m 142 #[.val (.long j0), .second, .val (.long j1), .second, .val (.long j2), .second, .val (.int fl), .val (.long sp), .second, .val (.ref ts), .val (.int (fl &&& (3 : Int32))), .val (.long j1), .second, .val (.int (1 : Int32)), .unset, .unset] [(.int (lcmpW (j1 + sp) j1))]))
        by_cases hc142 : j1 < (j1 + sp)
        ·
          refine own_go (fun t k => XS.ifNo X5.here hx rfl (hb hby at_142) rfl ((if0 _ _).trans (tlt ((lw_gt (j1 + sp) j1).mpr hc142)).2.2.2) k) ?_
          show own_End p e below _ (T5.setTop (mkF m 145 #[.val (.long j0), .second, .val (.long j1), .second, .val (.long j2), .second, .val (.int fl), .val (.long sp), .second, .val (.ref ts), .val (.int (fl &&& (3 : Int32))), .val (.long j1), .second, .val (.int (1 : Int32)), .unset, .unset] []))
          refine own_go (fun t k => XS.iconst X5.here hx rfl (hb hby at_145) k) ?_
          show own_End p e below _ (T5.setTop (mkF m 146 #[.val (.long j0), .second, .val (.long j1), .second, .val (.long j2), .second, .val (.int fl), .val (.long sp), .second, .val (.ref ts), .val (.int (fl &&& (3 : Int32))), .val (.long j1), .second, .val (.int (1 : Int32)), .unset, .unset] [(.int (1 : Int32))]))
          refine own_go (fun t k => XS.goto X5.here hx rfl (pc0 := 146) (pc' := 150) rfl (hb hby at_146) (by decide) (by decide) k) ?_
          show own_End p e below _ (T5.setTop (mkF m 150 #[.val (.long j0), .second, .val (.long j1), .second, .val (.long j2), .second, .val (.int fl), .val (.long sp), .second, .val (.ref ts), .val (.int (fl &&& (3 : Int32))), .val (.long j1), .second, .val (.int (1 : Int32)), .unset, .unset] [(.int (1 : Int32))]))
          refine own_go (fun t k => XS.istore X5.here hx rfl (hb hby at_150) rfl (l' := #[.val (.long j0), .second, .val (.long j1), .second, .val (.long j2), .second, .val (.int fl), .val (.long sp), .second, .val (.ref ts), .val (.int (fl &&& (3 : Int32))), .val (.long j1), .second, .val (.int (1 : Int32)), .val (.int (1 : Int32)), .unset]) rfl k) ?_
          show own_End p e below _ (T5.setTop (mkF m 152 #[.val (.long j0), .second, .val (.long j1), .second, .val (.long j2), .second, .val (.int fl), .val (.long sp), .second, .val (.ref ts), .val (.int (fl &&& (3 : Int32))), .val (.long j1), .second, .val (.int (1 : Int32)), .val (.int (1 : Int32)), .unset] []))
          refine own_go (fun t k => XS.aload X5.here hx rfl (hb hby at_152) rfl rfl k) ?_
          show own_End p e below _ (T5.setTop (mkF m 154 #[.val (.long j0), .second, .val (.long j1), .second, .val (.long j2), .second, .val (.int fl), .val (.long sp), .second, .val (.ref ts), .val (.int (fl &&& (3 : Int32))), .val (.long j1), .second, .val (.int (1 : Int32)), .val (.int (1 : Int32)), .unset] [(.ref ts)]))
          obtain ⟨cq6, kq6, q6a, q6b, q6c⟩ := isOf hZ rfl E_ts
          obtain ⟨_, _, ⟨T6, L6, k6, n6⟩, -, X6, ⟨Lc6, hQ6, l6, y6, z6⟩, st6⟩ := X5.virtualBack hx (y := (⟨"com/example/rillway/rillway/input/TimeSlide", "scheduled", "()Z"⟩ : MethodName)) (z := (⟨"com/example/rillway/rillway/input/TimeSlide", "scheduled", "()Z"⟩ : MethodName)) hown (mvT hZ (hw _ (List.mem_of_getElem? (i := 21) rfl))) (mvT hZ (hw _ (List.mem_of_getElem? (i := 22) rfl))) (notFace_of_selects (args := #[]) (mvT hZ (hw _ (List.mem_of_getElem? (i := 24) rfl)))) (mvT hZ (hw _ (List.mem_of_getElem? (i := 24) rfl))) (mvT hZ (hw _ (List.mem_of_getElem? (i := 23) rfl))) (by decide) (backOf (W := 0) (rm4 l Z a0 hw [] ts (1 : Int32) j1 sp T5.heap n0 Zs F_started_ts F_slidAt_ts F_span_ts) hZ (hw _ (List.mem_of_getElem? (i := 25) rfl)) (hw _ (List.mem_of_getElem? (i := 3) rfl)) (by decide) (by decide)) q6a q6c (g := (mkF m 154 #[.val (.long j0), .second, .val (.long j1), .second, .val (.long j2), .second, .val (.int fl), .val (.long sp), .second, .val (.ref ts), .val (.int (fl &&& (3 : Int32))), .val (.long j1), .second, .val (.int (1 : Int32)), .val (.int (1 : Int32)), .unset] [(.ref ts)])) rfl (by rw [hml]; rfl) (Steps.refl _) (argsL := []) (rest := []) (lenOf pd_2 rfl) rfl (by show 2 * 0 + _ ≤ _; exact Nat.le_of_eq rfl) (hb hby at_154) (fun _ _ => ⟨rfl, rfl, (Nat.le_of_ble_eq_true rfl), (Nat.le_of_ble_eq_true rfl)⟩)
          dsimp only [Pt.U, Pt.locs, Pt.cells, Pt.slots] at X6 l6 y6 z6 st6 hQ6
          subst l6 y6 z6
          obtain ⟨rfl, N6q, e6⟩ := hQ6
          have Nf := Fr.app Nf N6q
          refine own_go (fun t k => st6.trans k) ?_
          show own_End p e below _ (T6.setTop (mkF m 157 #[.val (.long j0), .second, .val (.long j1), .second, .val (.long j2), .second, .val (.int fl), .val (.long sp), .second, .val (.ref ts), .val (.int (fl &&& (3 : Int32))), .val (.long j1), .second, .val (.int (1 : Int32)), .val (.int (1 : Int32)), .unset] [(.int (own_sched (1 : Int32) j1 sp))]))
          refine own_go (fun t k => XS.iload X6.here hx rfl (hb hby at_157) rfl k) ?_
          show own_End p e below _ (T6.setTop (mkF m 159 #[.val (.long j0), .second, .val (.long j1), .second, .val (.long j2), .second, .val (.int fl), .val (.long sp), .second, .val (.ref ts), .val (.int (fl &&& (3 : Int32))), .val (.long j1), .second, .val (.int (1 : Int32)), .val (.int (1 : Int32)), .unset] [(.int (1 : Int32)), (.int (own_sched (1 : Int32) j1 sp))]))
          refine own_go (fun t k => XS.icmpNo X6.here hx rfl (hb hby at_159) rfl (teq (own_schedY j1 sp hsp hc142)).2 k) ?_
          show own_End p e below _ (T6.setTop (mkF m 162 #[.val (.long j0), .second, .val (.long j1), .second, .val (.long j2), .second, .val (.int fl), .val (.long sp), .second, .val (.ref ts), .val (.int (fl &&& (3 : Int32))), .val (.long j1), .second, .val (.int (1 : Int32)), .val (.int (1 : Int32)), .unset] []))
          refine own_go (fun t k => XS.iconst X6.here hx rfl (hb hby at_162) k) ?_
          show own_End p e below _ (T6.setTop (mkF m 163 #[.val (.long j0), .second, .val (.long j1), .second, .val (.long j2), .second, .val (.int fl), .val (.long sp), .second, .val (.ref ts), .val (.int (fl &&& (3 : Int32))), .val (.long j1), .second, .val (.int (1 : Int32)), .val (.int (1 : Int32)), .unset] [(.int (1 : Int32))]))
          refine own_go (fun t k => XS.goto X6.here hx rfl (pc0 := 163) (pc' := 167) rfl (hb hby at_163) (by decide) (by decide) k) ?_
          show own_End p e below _ (T6.setTop (mkF m 167 #[.val (.long j0), .second, .val (.long j1), .second, .val (.long j2), .second, .val (.int fl), .val (.long sp), .second, .val (.ref ts), .val (.int (fl &&& (3 : Int32))), .val (.long j1), .second, .val (.int (1 : Int32)), .val (.int (1 : Int32)), .unset] [(.int (1 : Int32))]))
          obtain ⟨fs, hr, hrun, hended, hW, hsame⟩ := X6.leave (v := some (.int (1 : Int32))) (fun h => by rw [Bd.returns] at h; cases h)
          refine ⟨_, _, (retN X6 hx (t := .boolean) Bd.returns (by simp) (hb hby at_167) hr), hrun, hended, _, _, rfl, ?_, ⟨_, rfl⟩, hW, hsame.mono (by decide) (by decide)⟩
          show Q0 Z j0 j1 j2 fl h0 n0 _ T6.heap _
          rw [e6]
          exact ⟨rfl, Nf⟩
        ·
          refine own_go (fun t k => XS.ifYes X5.here hx rfl (pc0 := 142) (pc' := 149) rfl (hb hby at_142) rfl ((if0 _ _).trans (flt (fun q => hc142 ((lw_gt (j1 + sp) j1).mp q))).2.2.2) (by decide) (by decide) k) ?_
          show own_End p e below _ (T5.setTop (mkF m 149 #[.val (.long j0), .second, .val (.long j1), .second, .val (.long j2), .second, .val (.int fl), .val (.long sp), .second, .val (.ref ts), .val (.int (fl &&& (3 : Int32))), .val (.long j1), .second, .val (.int (1 : Int32)), .unset, .unset] []))
          refine own_go (fun t k => XS.iconst X5.here hx rfl (hb hby at_149) k) ?_
          show own_End p e below _ (T5.setTop (mkF m 150 #[.val (.long j0), .second, .val (.long j1), .second, .val (.long j2), .second, .val (.int fl), .val (.long sp), .second, .val (.ref ts), .val (.int (fl &&& (3 : Int32))), .val (.long j1), .second, .val (.int (1 : Int32)), .unset, .unset] [(.int (0 : Int32))]))
          refine own_go (fun t k => XS.istore X5.here hx rfl (hb hby at_150) rfl (l' := #[.val (.long j0), .second, .val (.long j1), .second, .val (.long j2), .second, .val (.int fl), .val (.long sp), .second, .val (.ref ts), .val (.int (fl &&& (3 : Int32))), .val (.long j1), .second, .val (.int (1 : Int32)), .val (.int (0 : Int32)), .unset]) rfl k) ?_
          show own_End p e below _ (T5.setTop (mkF m 152 #[.val (.long j0), .second, .val (.long j1), .second, .val (.long j2), .second, .val (.int fl), .val (.long sp), .second, .val (.ref ts), .val (.int (fl &&& (3 : Int32))), .val (.long j1), .second, .val (.int (1 : Int32)), .val (.int (0 : Int32)), .unset] []))
          refine own_go (fun t k => XS.aload X5.here hx rfl (hb hby at_152) rfl rfl k) ?_
          show own_End p e below _ (T5.setTop (mkF m 154 #[.val (.long j0), .second, .val (.long j1), .second, .val (.long j2), .second, .val (.int fl), .val (.long sp), .second, .val (.ref ts), .val (.int (fl &&& (3 : Int32))), .val (.long j1), .second, .val (.int (1 : Int32)), .val (.int (0 : Int32)), .unset] [(.ref ts)]))
          obtain ⟨cq7, kq7, q7a, q7b, q7c⟩ := isOf hZ rfl E_ts
          obtain ⟨_, _, ⟨T7, L7, k7, n7⟩, -, X7, ⟨Lc7, hQ7, l7, y7, z7⟩, st7⟩ := X5.virtualBack hx (y := (⟨"com/example/rillway/rillway/input/TimeSlide", "scheduled", "()Z"⟩ : MethodName)) (z := (⟨"com/example/rillway/rillway/input/TimeSlide", "scheduled", "()Z"⟩ : MethodName)) hown (mvT hZ (hw _ (List.mem_of_getElem? (i := 21) rfl))) (mvT hZ (hw _ (List.mem_of_getElem? (i := 22) rfl))) (notFace_of_selects (args := #[]) (mvT hZ (hw _ (List.mem_of_getElem? (i := 24) rfl)))) (mvT hZ (hw _ (List.mem_of_getElem? (i := 24) rfl))) (mvT hZ (hw _ (List.mem_of_getElem? (i := 23) rfl))) (by decide) (backOf (W := 0) (rm4 l Z a0 hw [] ts (1 : Int32) j1 sp T5.heap n0 Zs F_started_ts F_slidAt_ts F_span_ts) hZ (hw _ (List.mem_of_getElem? (i := 25) rfl)) (hw _ (List.mem_of_getElem? (i := 3) rfl)) (by decide) (by decide)) q7a q7c (g := (mkF m 154 #[.val (.long j0), .second, .val (.long j1), .second, .val (.long j2), .second, .val (.int fl), .val (.long sp), .second, .val (.ref ts), .val (.int (fl &&& (3 : Int32))), .val (.long j1), .second, .val (.int (1 : Int32)), .val (.int (0 : Int32)), .unset] [(.ref ts)])) rfl (by rw [hml]; rfl) (Steps.refl _) (argsL := []) (rest := []) (lenOf pd_2 rfl) rfl (by show 2 * 0 + _ ≤ _; exact Nat.le_of_eq rfl) (hb hby at_154) (fun _ _ => ⟨rfl, rfl, (Nat.le_of_ble_eq_true rfl), (Nat.le_of_ble_eq_true rfl)⟩)
          dsimp only [Pt.U, Pt.locs, Pt.cells, Pt.slots] at X7 l7 y7 z7 st7 hQ7
          subst l7 y7 z7
          obtain ⟨rfl, N7q, e7⟩ := hQ7
          have Nf := Fr.app Nf N7q
          refine own_go (fun t k => st7.trans k) ?_
          show own_End p e below _ (T7.setTop (mkF m 157 #[.val (.long j0), .second, .val (.long j1), .second, .val (.long j2), .second, .val (.int fl), .val (.long sp), .second, .val (.ref ts), .val (.int (fl &&& (3 : Int32))), .val (.long j1), .second, .val (.int (1 : Int32)), .val (.int (0 : Int32)), .unset] [(.int (own_sched (1 : Int32) j1 sp))]))
          refine own_go (fun t k => XS.iload X7.here hx rfl (hb hby at_157) rfl k) ?_
          show own_End p e below _ (T7.setTop (mkF m 159 #[.val (.long j0), .second, .val (.long j1), .second, .val (.long j2), .second, .val (.int fl), .val (.long sp), .second, .val (.ref ts), .val (.int (fl &&& (3 : Int32))), .val (.long j1), .second, .val (.int (1 : Int32)), .val (.int (0 : Int32)), .unset] [(.int (0 : Int32)), (.int (own_sched (1 : Int32) j1 sp))]))
          refine own_go (fun t k => XS.icmpNo X7.here hx rfl (hb hby at_159) rfl (teq (own_schedN j1 sp hsp hc142)).2 k) ?_
          show own_End p e below _ (T7.setTop (mkF m 162 #[.val (.long j0), .second, .val (.long j1), .second, .val (.long j2), .second, .val (.int fl), .val (.long sp), .second, .val (.ref ts), .val (.int (fl &&& (3 : Int32))), .val (.long j1), .second, .val (.int (1 : Int32)), .val (.int (0 : Int32)), .unset] []))
          refine own_go (fun t k => XS.iconst X7.here hx rfl (hb hby at_162) k) ?_
          show own_End p e below _ (T7.setTop (mkF m 163 #[.val (.long j0), .second, .val (.long j1), .second, .val (.long j2), .second, .val (.int fl), .val (.long sp), .second, .val (.ref ts), .val (.int (fl &&& (3 : Int32))), .val (.long j1), .second, .val (.int (1 : Int32)), .val (.int (0 : Int32)), .unset] [(.int (1 : Int32))]))
          refine own_go (fun t k => XS.goto X7.here hx rfl (pc0 := 163) (pc' := 167) rfl (hb hby at_163) (by decide) (by decide) k) ?_
          show own_End p e below _ (T7.setTop (mkF m 167 #[.val (.long j0), .second, .val (.long j1), .second, .val (.long j2), .second, .val (.int fl), .val (.long sp), .second, .val (.ref ts), .val (.int (fl &&& (3 : Int32))), .val (.long j1), .second, .val (.int (1 : Int32)), .val (.int (0 : Int32)), .unset] [(.int (1 : Int32))]))
          obtain ⟨fs, hr, hrun, hended, hW, hsame⟩ := X7.leave (v := some (.int (1 : Int32))) (fun h => by rw [Bd.returns] at h; cases h)
          refine ⟨_, _, (retN X7 hx (t := .boolean) Bd.returns (by simp) (hb hby at_167) hr), hrun, hended, _, _, rfl, ?_, ⟨_, rfl⟩, hW, hsame.mono (by decide) (by decide)⟩
          show Q0 Z j0 j1 j2 fl h0 n0 _ T7.heap _
          rw [e7]
          exact ⟨rfl, Nf⟩
      ·
        refine own_go (fun t k => XS.icmpYes X2.here hx rfl (pc0 := 51) (pc' := 76) rfl (hb hby at_51) rfl (feq hc51).2 (by decide) (by decide) k) ?_
        show own_End p e below _ (T2.setTop (mkF m 76 #[.val (.long j0), .second, .val (.long j1), .second, .val (.long j2), .second, .val (.int fl), .val (.long sp), .second, .val (.ref ts), .val (.int (fl &&& (3 : Int32))), .unset, .unset, .unset, .unset, .unset] []))
        refine own_go (fun t k => XS.iload X2.here hx rfl (hb hby at_76) rfl k) ?_
        show own_End p e below _ (T2.setTop (mkF m 78 #[.val (.long j0), .second, .val (.long j1), .second, .val (.long j2), .second, .val (.int fl), .val (.long sp), .second, .val (.ref ts), .val (.int (fl &&& (3 : Int32))), .unset, .unset, .unset, .unset, .unset] [(.int (fl &&& (3 : Int32)))]))
        refine own_go (fun t k => XS.iconst X2.here hx rfl (hb hby at_78) k) ?_
        show own_End p e below _ (T2.setTop (mkF m 79 #[.val (.long j0), .second, .val (.long j1), .second, .val (.long j2), .second, .val (.int fl), .val (.long sp), .second, .val (.ref ts), .val (.int (fl &&& (3 : Int32))), .unset, .unset, .unset, .unset, .unset] [(.int (2 : Int32)), (.int (fl &&& (3 : Int32)))]))
        by_cases hc79 : (fl &&& (3 : Int32)) = (2 : Int32)
        ·
          refine own_go (fun t k => XS.icmpNo X2.here hx rfl (hb hby at_79) rfl (teq hc79).2 k) ?_
          show own_End p e below _ (T2.setTop (mkF m 82 #[.val (.long j0), .second, .val (.long j1), .second, .val (.long j2), .second, .val (.int fl), .val (.long sp), .second, .val (.ref ts), .val (.int (fl &&& (3 : Int32))), .unset, .unset, .unset, .unset, .unset] []))
          refine own_go (fun t k => XS.aload X2.here hx rfl (hb hby at_82) rfl rfl k) ?_
          show own_End p e below _ (T2.setTop (mkF m 84 #[.val (.long j0), .second, .val (.long j1), .second, .val (.long j2), .second, .val (.int fl), .val (.long sp), .second, .val (.ref ts), .val (.int (fl &&& (3 : Int32))), .unset, .unset, .unset, .unset, .unset] [(.ref ts)]))
          refine own_go (fun t k => XS.lloadN X2.here hx rfl (hb hby at_84) rfl k) ?_
          show own_End p e below _ (T2.setTop (mkF m 85 #[.val (.long j0), .second, .val (.long j1), .second, .val (.long j2), .second, .val (.int fl), .val (.long sp), .second, .val (.ref ts), .val (.int (fl &&& (3 : Int32))), .unset, .unset, .unset, .unset, .unset] [(.long j1), (.ref ts)]))
          obtain ⟨cq8, kq8, q8a, q8b, q8c⟩ := isOf hZ rfl E_ts
          obtain ⟨_, _, ⟨T8, L8, k8, n8⟩, -, X8, ⟨Lc8, hQ8, l8, y8, z8⟩, st8⟩ := X2.virtualBack hx (y := (⟨"com/example/rillway/rillway/input/TimeSlide", "resume", "(J)V"⟩ : MethodName)) (z := (⟨"com/example/rillway/rillway/input/TimeSlide", "resume", "(J)V"⟩ : MethodName)) hown (mvT hZ (hw _ (List.mem_of_getElem? (i := 12) rfl))) (mvT hZ (hw _ (List.mem_of_getElem? (i := 13) rfl))) (notFace_of_selects (args := #[]) (mvT hZ (hw _ (List.mem_of_getElem? (i := 15) rfl)))) (mvT hZ (hw _ (List.mem_of_getElem? (i := 15) rfl))) (mvT hZ (hw _ (List.mem_of_getElem? (i := 14) rfl))) (by decide) (backOf (W := 0) (rm3 l Z a0 hw [] ts j1 (0 : Int32) (0 : Int64) sp T2.heap n0 Zs E_ts F_started_ts F_slidAt_ts F_span_ts g_ts) hZ (hw _ (List.mem_of_getElem? (i := 16) rfl)) (hw _ (List.mem_of_getElem? (i := 3) rfl)) (by decide) (by decide)) q8a q8c (g := (mkF m 85 #[.val (.long j0), .second, .val (.long j1), .second, .val (.long j2), .second, .val (.int fl), .val (.long sp), .second, .val (.ref ts), .val (.int (fl &&& (3 : Int32))), .unset, .unset, .unset, .unset, .unset] [(.long j1), (.ref ts)])) rfl (by rw [hml]; rfl) (Steps.refl _) (argsL := [(.long j1)]) (rest := []) (lenOf pd_1 rfl) rfl (by show 2 * 0 + _ ≤ _; exact Nat.le_of_eq rfl) (hb hby at_85) (fun _ _ => ⟨rfl, rfl, (Nat.le_of_ble_eq_true rfl), (Nat.le_of_ble_eq_true rfl)⟩)
          dsimp only [Pt.U, Pt.locs, Pt.cells, Pt.slots] at X8 l8 y8 z8 st8 hQ8
          subst l8 y8 z8
          obtain ⟨rfl, N8q, K8, F_started_ts, F_slidAt_ts, F_span_ts⟩ := hQ8
          have Nf := Fr.app Nf N8q
          have E_ts := E_ts.keep K8
          have Kp := Kp.trans K8 (allS (Or.inr sz_ts) all0)
          have Zs := Nat.le_trans Zs K8.1
          have szr := Nat.le_trans szr K8.1
          refine own_go (fun t k => st8.trans k) ?_
          show own_End p e below _ (T8.setTop (mkF m 88 #[.val (.long j0), .second, .val (.long j1), .second, .val (.long j2), .second, .val (.int fl), .val (.long sp), .second, .val (.ref ts), .val (.int (fl &&& (3 : Int32))), .unset, .unset, .unset, .unset, .unset] []))
          refine own_go (fun t k => XS.iconst X8.here hx rfl (hb hby at_88) k) ?_
          show own_End p e below _ (T8.setTop (mkF m 89 #[.val (.long j0), .second, .val (.long j1), .second, .val (.long j2), .second, .val (.int fl), .val (.long sp), .second, .val (.ref ts), .val (.int (fl &&& (3 : Int32))), .unset, .unset, .unset, .unset, .unset] [(.int (1 : Int32))]))
          refine own_go (fun t k => XS.istore X8.here hx rfl (hb hby at_89) rfl (l' := #[.val (.long j0), .second, .val (.long j1), .second, .val (.long j2), .second, .val (.int fl), .val (.long sp), .second, .val (.ref ts), .val (.int (fl &&& (3 : Int32))), .unset, .unset, .val (.int (1 : Int32)), .unset, .unset]) rfl k) ?_
          show own_End p e below _ (T8.setTop (mkF m 91 #[.val (.long j0), .second, .val (.long j1), .second, .val (.long j2), .second, .val (.int fl), .val (.long sp), .second, .val (.ref ts), .val (.int (fl &&& (3 : Int32))), .unset, .unset, .val (.int (1 : Int32)), .unset, .unset] []))
          refine own_go (fun t k => XS.lloadN X8.here hx rfl (hb hby at_91) rfl k) ?_
          show own_End p e below _ (T8.setTop (mkF m 92 #[.val (.long j0), .second, .val (.long j1), .second, .val (.long j2), .second, .val (.int fl), .val (.long sp), .second, .val (.ref ts), .val (.int (fl &&& (3 : Int32))), .unset, .unset, .val (.int (1 : Int32)), .unset, .unset] [(.long j1)]))
          refine own_go (fun t k => XS.lstore X8.here hx rfl (hb hby at_92) rfl (l' := #[.val (.long j0), .second, .val (.long j1), .second, .val (.long j2), .second, .val (.int fl), .val (.long sp), .second, .val (.ref ts), .val (.int (fl &&& (3 : Int32))), .val (.long j1), .second, .val (.int (1 : Int32)), .unset, .unset]) rfl k) ?_
          show own_End p e below _ (T8.setTop (mkF m 94 #[.val (.long j0), .second, .val (.long j1), .second, .val (.long j2), .second, .val (.int fl), .val (.long sp), .second, .val (.ref ts), .val (.int (fl &&& (3 : Int32))), .val (.long j1), .second, .val (.int (1 : Int32)), .unset, .unset] []))
          refine own_go (fun t k => XS.goto X8.here hx rfl (pc0 := 94) (pc' := 129) rfl (hb hby at_94) (by decide) (by decide) k) ?_
          show own_End p e below _ (T8.setTop (mkF m 129 #[.val (.long j0), .second, .val (.long j1), .second, .val (.long j2), .second, .val (.int fl), .val (.long sp), .second, .val (.ref ts), .val (.int (fl &&& (3 : Int32))), .val (.long j1), .second, .val (.int (1 : Int32)), .unset, .unset] []))
          refine own_go (fun t k => XS.iload X8.here hx rfl (hb hby at_129) rfl k) ?_
          show own_End p e below _ (T8.setTop (mkF m 131 #[.val (.long j0), .second, .val (.long j1), .second, .val (.long j2), .second, .val (.int fl), .val (.long sp), .second, .val (.ref ts), .val (.int (fl &&& (3 : Int32))), .val (.long j1), .second, .val (.int (1 : Int32)), .unset, .unset] [(.int (1 : Int32))]))
          refine own_go (fun t k => XS.ifNo X8.here hx rfl (hb hby at_131) rfl ((if0 _ _).trans (feq (by decide)).1) k) ?_
          show own_End p e below _ (T8.setTop (mkF m 134 #[.val (.long j0), .second, .val (.long j1), .second, .val (.long j2), .second, .val (.int fl), .val (.long sp), .second, .val (.ref ts), .val (.int (fl &&& (3 : Int32))), .val (.long j1), .second, .val (.int (1 : Int32)), .unset, .unset] []))
          refine own_go (fun t k => XS.lload X8.here hx rfl (hb hby at_134) rfl k) ?_
          show own_End p e below _ (T8.setTop (mkF m 136 #[.val (.long j0), .second, .val (.long j1), .second, .val (.long j2), .second, .val (.int fl), .val (.long sp), .second, .val (.ref ts), .val (.int (fl &&& (3 : Int32))), .val (.long j1), .second, .val (.int (1 : Int32)), .unset, .unset] [(.long j1)]))
          refine own_go (fun t k => XS.lload X8.here hx rfl (hb hby at_136) rfl k) ?_
          show own_End p e below _ (T8.setTop (mkF m 138 #[.val (.long j0), .second, .val (.long j1), .second, .val (.long j2), .second, .val (.int fl), .val (.long sp), .second, .val (.ref ts), .val (.int (fl &&& (3 : Int32))), .val (.long j1), .second, .val (.int (1 : Int32)), .unset, .unset] [(.long sp), (.long j1)]))
          refine own_go (fun t k => XS.ladd X8.here hx rfl (hb hby at_138) rfl k) ?_
          show own_End p e below _ (T8.setTop (mkF m 139 #[.val (.long j0), .second, .val (.long j1), .second, .val (.long j2), .second, .val (.int fl), .val (.long sp), .second, .val (.ref ts), .val (.int (fl &&& (3 : Int32))), .val (.long j1), .second, .val (.int (1 : Int32)), .unset, .unset] [(.long (j1 + sp))]))
          refine own_go (fun t k => XS.lload X8.here hx rfl (hb hby at_139) rfl k) ?_
          show own_End p e below _ (T8.setTop (mkF m 141 #[.val (.long j0), .second, .val (.long j1), .second, .val (.long j2), .second, .val (.int fl), .val (.long sp), .second, .val (.ref ts), .val (.int (fl &&& (3 : Int32))), .val (.long j1), .second, .val (.int (1 : Int32)), .unset, .unset] [(.long j1), (.long (j1 + sp))]))
          refine own_go (fun t k => XS.lcmp X8.here hx rfl (hb hby at_141) rfl k) ?_
          show own_End p e below _ (T8.setTop (mkF m 142 #[.val (.long j0), .second, .val (.long j1), .second, .val (.long j2), .second, .val (.int fl), .val (.long sp), .second, .val (.ref ts), .val (.int (fl &&& (3 : Int32))), .val (.long j1), .second, .val (.int (1 : Int32)), .unset, .unset] [(.int (lcmpW (j1 + sp) j1))]))
          by_cases hc142 : j1 < (j1 + sp)
          ·
            refine own_go (fun t k => XS.ifNo X8.here hx rfl (hb hby at_142) rfl ((if0 _ _).trans (tlt ((lw_gt (j1 + sp) j1).mpr hc142)).2.2.2) k) ?_
            show own_End p e below _ (T8.setTop (mkF m 145 #[.val (.long j0), .second, .val (.long j1), .second, .val (.long j2), .second, .val (.int fl), .val (.long sp), .second, .val (.ref ts), .val (.int (fl &&& (3 : Int32))), .val (.long j1), .second, .val (.int (1 : Int32)), .unset, .unset] []))
            refine own_go (fun t k => XS.iconst X8.here hx rfl (hb hby at_145) k) ?_
            show own_End p e below _ (T8.setTop (mkF m 146 #[.val (.long j0), .second, .val (.long j1), .second, .val (.long j2), .second, .val (.int fl), .val (.long sp), .second, .val (.ref ts), .val (.int (fl &&& (3 : Int32))), .val (.long j1), .second, .val (.int (1 : Int32)), .unset, .unset] [(.int (1 : Int32))]))
            refine own_go (fun t k => XS.goto X8.here hx rfl (pc0 := 146) (pc' := 150) rfl (hb hby at_146) (by decide) (by decide) k) ?_
            show own_End p e below _ (T8.setTop (mkF m 150 #[.val (.long j0), .second, .val (.long j1), .second, .val (.long j2), .second, .val (.int fl), .val (.long sp), .second, .val (.ref ts), .val (.int (fl &&& (3 : Int32))), .val (.long j1), .second, .val (.int (1 : Int32)), .unset, .unset] [(.int (1 : Int32))]))
            refine own_go (fun t k => XS.istore X8.here hx rfl (hb hby at_150) rfl (l' := #[.val (.long j0), .second, .val (.long j1), .second, .val (.long j2), .second, .val (.int fl), .val (.long sp), .second, .val (.ref ts), .val (.int (fl &&& (3 : Int32))), .val (.long j1), .second, .val (.int (1 : Int32)), .val (.int (1 : Int32)), .unset]) rfl k) ?_
            show own_End p e below _ (T8.setTop (mkF m 152 #[.val (.long j0), .second, .val (.long j1), .second, .val (.long j2), .second, .val (.int fl), .val (.long sp), .second, .val (.ref ts), .val (.int (fl &&& (3 : Int32))), .val (.long j1), .second, .val (.int (1 : Int32)), .val (.int (1 : Int32)), .unset] []))
            refine own_go (fun t k => XS.aload X8.here hx rfl (hb hby at_152) rfl rfl k) ?_
            show own_End p e below _ (T8.setTop (mkF m 154 #[.val (.long j0), .second, .val (.long j1), .second, .val (.long j2), .second, .val (.int fl), .val (.long sp), .second, .val (.ref ts), .val (.int (fl &&& (3 : Int32))), .val (.long j1), .second, .val (.int (1 : Int32)), .val (.int (1 : Int32)), .unset] [(.ref ts)]))
            obtain ⟨cq9, kq9, q9a, q9b, q9c⟩ := isOf hZ rfl E_ts
            obtain ⟨_, _, ⟨T9, L9, k9, n9⟩, -, X9, ⟨Lc9, hQ9, l9, y9, z9⟩, st9⟩ := X8.virtualBack hx (y := (⟨"com/example/rillway/rillway/input/TimeSlide", "scheduled", "()Z"⟩ : MethodName)) (z := (⟨"com/example/rillway/rillway/input/TimeSlide", "scheduled", "()Z"⟩ : MethodName)) hown (mvT hZ (hw _ (List.mem_of_getElem? (i := 21) rfl))) (mvT hZ (hw _ (List.mem_of_getElem? (i := 22) rfl))) (notFace_of_selects (args := #[]) (mvT hZ (hw _ (List.mem_of_getElem? (i := 24) rfl)))) (mvT hZ (hw _ (List.mem_of_getElem? (i := 24) rfl))) (mvT hZ (hw _ (List.mem_of_getElem? (i := 23) rfl))) (by decide) (backOf (W := 0) (rm4 l Z a0 hw [] ts (1 : Int32) j1 sp T8.heap n0 Zs F_started_ts F_slidAt_ts F_span_ts) hZ (hw _ (List.mem_of_getElem? (i := 25) rfl)) (hw _ (List.mem_of_getElem? (i := 3) rfl)) (by decide) (by decide)) q9a q9c (g := (mkF m 154 #[.val (.long j0), .second, .val (.long j1), .second, .val (.long j2), .second, .val (.int fl), .val (.long sp), .second, .val (.ref ts), .val (.int (fl &&& (3 : Int32))), .val (.long j1), .second, .val (.int (1 : Int32)), .val (.int (1 : Int32)), .unset] [(.ref ts)])) rfl (by rw [hml]; rfl) (Steps.refl _) (argsL := []) (rest := []) (lenOf pd_2 rfl) rfl (by show 2 * 0 + _ ≤ _; exact Nat.le_of_eq rfl) (hb hby at_154) (fun _ _ => ⟨rfl, rfl, (Nat.le_of_ble_eq_true rfl), (Nat.le_of_ble_eq_true rfl)⟩)
            dsimp only [Pt.U, Pt.locs, Pt.cells, Pt.slots] at X9 l9 y9 z9 st9 hQ9
            subst l9 y9 z9
            obtain ⟨rfl, N9q, e9⟩ := hQ9
            have Nf := Fr.app Nf N9q
            refine own_go (fun t k => st9.trans k) ?_
            show own_End p e below _ (T9.setTop (mkF m 157 #[.val (.long j0), .second, .val (.long j1), .second, .val (.long j2), .second, .val (.int fl), .val (.long sp), .second, .val (.ref ts), .val (.int (fl &&& (3 : Int32))), .val (.long j1), .second, .val (.int (1 : Int32)), .val (.int (1 : Int32)), .unset] [(.int (own_sched (1 : Int32) j1 sp))]))
            refine own_go (fun t k => XS.iload X9.here hx rfl (hb hby at_157) rfl k) ?_
            show own_End p e below _ (T9.setTop (mkF m 159 #[.val (.long j0), .second, .val (.long j1), .second, .val (.long j2), .second, .val (.int fl), .val (.long sp), .second, .val (.ref ts), .val (.int (fl &&& (3 : Int32))), .val (.long j1), .second, .val (.int (1 : Int32)), .val (.int (1 : Int32)), .unset] [(.int (1 : Int32)), (.int (own_sched (1 : Int32) j1 sp))]))
            refine own_go (fun t k => XS.icmpNo X9.here hx rfl (hb hby at_159) rfl (teq (own_schedY j1 sp hsp hc142)).2 k) ?_
            show own_End p e below _ (T9.setTop (mkF m 162 #[.val (.long j0), .second, .val (.long j1), .second, .val (.long j2), .second, .val (.int fl), .val (.long sp), .second, .val (.ref ts), .val (.int (fl &&& (3 : Int32))), .val (.long j1), .second, .val (.int (1 : Int32)), .val (.int (1 : Int32)), .unset] []))
            refine own_go (fun t k => XS.iconst X9.here hx rfl (hb hby at_162) k) ?_
            show own_End p e below _ (T9.setTop (mkF m 163 #[.val (.long j0), .second, .val (.long j1), .second, .val (.long j2), .second, .val (.int fl), .val (.long sp), .second, .val (.ref ts), .val (.int (fl &&& (3 : Int32))), .val (.long j1), .second, .val (.int (1 : Int32)), .val (.int (1 : Int32)), .unset] [(.int (1 : Int32))]))
            refine own_go (fun t k => XS.goto X9.here hx rfl (pc0 := 163) (pc' := 167) rfl (hb hby at_163) (by decide) (by decide) k) ?_
            show own_End p e below _ (T9.setTop (mkF m 167 #[.val (.long j0), .second, .val (.long j1), .second, .val (.long j2), .second, .val (.int fl), .val (.long sp), .second, .val (.ref ts), .val (.int (fl &&& (3 : Int32))), .val (.long j1), .second, .val (.int (1 : Int32)), .val (.int (1 : Int32)), .unset] [(.int (1 : Int32))]))
            obtain ⟨fs, hr, hrun, hended, hW, hsame⟩ := X9.leave (v := some (.int (1 : Int32))) (fun h => by rw [Bd.returns] at h; cases h)
            refine ⟨_, _, (retN X9 hx (t := .boolean) Bd.returns (by simp) (hb hby at_167) hr), hrun, hended, _, _, rfl, ?_, ⟨_, rfl⟩, hW, hsame.mono (by decide) (by decide)⟩
            show Q0 Z j0 j1 j2 fl h0 n0 _ T9.heap _
            rw [e9]
            exact ⟨rfl, Nf⟩
          ·
            refine own_go (fun t k => XS.ifYes X8.here hx rfl (pc0 := 142) (pc' := 149) rfl (hb hby at_142) rfl ((if0 _ _).trans (flt (fun q => hc142 ((lw_gt (j1 + sp) j1).mp q))).2.2.2) (by decide) (by decide) k) ?_
            show own_End p e below _ (T8.setTop (mkF m 149 #[.val (.long j0), .second, .val (.long j1), .second, .val (.long j2), .second, .val (.int fl), .val (.long sp), .second, .val (.ref ts), .val (.int (fl &&& (3 : Int32))), .val (.long j1), .second, .val (.int (1 : Int32)), .unset, .unset] []))
            refine own_go (fun t k => XS.iconst X8.here hx rfl (hb hby at_149) k) ?_
            show own_End p e below _ (T8.setTop (mkF m 150 #[.val (.long j0), .second, .val (.long j1), .second, .val (.long j2), .second, .val (.int fl), .val (.long sp), .second, .val (.ref ts), .val (.int (fl &&& (3 : Int32))), .val (.long j1), .second, .val (.int (1 : Int32)), .unset, .unset] [(.int (0 : Int32))]))
            refine own_go (fun t k => XS.istore X8.here hx rfl (hb hby at_150) rfl (l' := #[.val (.long j0), .second, .val (.long j1), .second, .val (.long j2), .second, .val (.int fl), .val (.long sp), .second, .val (.ref ts), .val (.int (fl &&& (3 : Int32))), .val (.long j1), .second, .val (.int (1 : Int32)), .val (.int (0 : Int32)), .unset]) rfl k) ?_
            show own_End p e below _ (T8.setTop (mkF m 152 #[.val (.long j0), .second, .val (.long j1), .second, .val (.long j2), .second, .val (.int fl), .val (.long sp), .second, .val (.ref ts), .val (.int (fl &&& (3 : Int32))), .val (.long j1), .second, .val (.int (1 : Int32)), .val (.int (0 : Int32)), .unset] []))
            refine own_go (fun t k => XS.aload X8.here hx rfl (hb hby at_152) rfl rfl k) ?_
            show own_End p e below _ (T8.setTop (mkF m 154 #[.val (.long j0), .second, .val (.long j1), .second, .val (.long j2), .second, .val (.int fl), .val (.long sp), .second, .val (.ref ts), .val (.int (fl &&& (3 : Int32))), .val (.long j1), .second, .val (.int (1 : Int32)), .val (.int (0 : Int32)), .unset] [(.ref ts)]))
            obtain ⟨cq10, kq10, q10a, q10b, q10c⟩ := isOf hZ rfl E_ts
            obtain ⟨_, _, ⟨T10, L10, k10, n10⟩, -, X10, ⟨Lc10, hQ10, l10, y10, z10⟩, st10⟩ := X8.virtualBack hx (y := (⟨"com/example/rillway/rillway/input/TimeSlide", "scheduled", "()Z"⟩ : MethodName)) (z := (⟨"com/example/rillway/rillway/input/TimeSlide", "scheduled", "()Z"⟩ : MethodName)) hown (mvT hZ (hw _ (List.mem_of_getElem? (i := 21) rfl))) (mvT hZ (hw _ (List.mem_of_getElem? (i := 22) rfl))) (notFace_of_selects (args := #[]) (mvT hZ (hw _ (List.mem_of_getElem? (i := 24) rfl)))) (mvT hZ (hw _ (List.mem_of_getElem? (i := 24) rfl))) (mvT hZ (hw _ (List.mem_of_getElem? (i := 23) rfl))) (by decide) (backOf (W := 0) (rm4 l Z a0 hw [] ts (1 : Int32) j1 sp T8.heap n0 Zs F_started_ts F_slidAt_ts F_span_ts) hZ (hw _ (List.mem_of_getElem? (i := 25) rfl)) (hw _ (List.mem_of_getElem? (i := 3) rfl)) (by decide) (by decide)) q10a q10c (g := (mkF m 154 #[.val (.long j0), .second, .val (.long j1), .second, .val (.long j2), .second, .val (.int fl), .val (.long sp), .second, .val (.ref ts), .val (.int (fl &&& (3 : Int32))), .val (.long j1), .second, .val (.int (1 : Int32)), .val (.int (0 : Int32)), .unset] [(.ref ts)])) rfl (by rw [hml]; rfl) (Steps.refl _) (argsL := []) (rest := []) (lenOf pd_2 rfl) rfl (by show 2 * 0 + _ ≤ _; exact Nat.le_of_eq rfl) (hb hby at_154) (fun _ _ => ⟨rfl, rfl, (Nat.le_of_ble_eq_true rfl), (Nat.le_of_ble_eq_true rfl)⟩)
            dsimp only [Pt.U, Pt.locs, Pt.cells, Pt.slots] at X10 l10 y10 z10 st10 hQ10
            subst l10 y10 z10
            obtain ⟨rfl, N10q, e10⟩ := hQ10
            have Nf := Fr.app Nf N10q
            refine own_go (fun t k => st10.trans k) ?_
            show own_End p e below _ (T10.setTop (mkF m 157 #[.val (.long j0), .second, .val (.long j1), .second, .val (.long j2), .second, .val (.int fl), .val (.long sp), .second, .val (.ref ts), .val (.int (fl &&& (3 : Int32))), .val (.long j1), .second, .val (.int (1 : Int32)), .val (.int (0 : Int32)), .unset] [(.int (own_sched (1 : Int32) j1 sp))]))
            refine own_go (fun t k => XS.iload X10.here hx rfl (hb hby at_157) rfl k) ?_
            show own_End p e below _ (T10.setTop (mkF m 159 #[.val (.long j0), .second, .val (.long j1), .second, .val (.long j2), .second, .val (.int fl), .val (.long sp), .second, .val (.ref ts), .val (.int (fl &&& (3 : Int32))), .val (.long j1), .second, .val (.int (1 : Int32)), .val (.int (0 : Int32)), .unset] [(.int (0 : Int32)), (.int (own_sched (1 : Int32) j1 sp))]))
            refine own_go (fun t k => XS.icmpNo X10.here hx rfl (hb hby at_159) rfl (teq (own_schedN j1 sp hsp hc142)).2 k) ?_
            show own_End p e below _ (T10.setTop (mkF m 162 #[.val (.long j0), .second, .val (.long j1), .second, .val (.long j2), .second, .val (.int fl), .val (.long sp), .second, .val (.ref ts), .val (.int (fl &&& (3 : Int32))), .val (.long j1), .second, .val (.int (1 : Int32)), .val (.int (0 : Int32)), .unset] []))
            refine own_go (fun t k => XS.iconst X10.here hx rfl (hb hby at_162) k) ?_
            show own_End p e below _ (T10.setTop (mkF m 163 #[.val (.long j0), .second, .val (.long j1), .second, .val (.long j2), .second, .val (.int fl), .val (.long sp), .second, .val (.ref ts), .val (.int (fl &&& (3 : Int32))), .val (.long j1), .second, .val (.int (1 : Int32)), .val (.int (0 : Int32)), .unset] [(.int (1 : Int32))]))
            refine own_go (fun t k => XS.goto X10.here hx rfl (pc0 := 163) (pc' := 167) rfl (hb hby at_163) (by decide) (by decide) k) ?_
            show own_End p e below _ (T10.setTop (mkF m 167 #[.val (.long j0), .second, .val (.long j1), .second, .val (.long j2), .second, .val (.int fl), .val (.long sp), .second, .val (.ref ts), .val (.int (fl &&& (3 : Int32))), .val (.long j1), .second, .val (.int (1 : Int32)), .val (.int (0 : Int32)), .unset] [(.int (1 : Int32))]))
            obtain ⟨fs, hr, hrun, hended, hW, hsame⟩ := X10.leave (v := some (.int (1 : Int32))) (fun h => by rw [Bd.returns] at h; cases h)
            refine ⟨_, _, (retN X10 hx (t := .boolean) Bd.returns (by simp) (hb hby at_167) hr), hrun, hended, _, _, rfl, ?_, ⟨_, rfl⟩, hW, hsame.mono (by decide) (by decide)⟩
            show Q0 Z j0 j1 j2 fl h0 n0 _ T10.heap _
            rw [e10]
            exact ⟨rfl, Nf⟩
        ·
          refine own_go (fun t k => XS.icmpYes X2.here hx rfl (pc0 := 79) (pc' := 97) rfl (hb hby at_79) rfl (feq hc79).2 (by decide) (by decide) k) ?_
          show own_End p e below _ (T2.setTop (mkF m 97 #[.val (.long j0), .second, .val (.long j1), .second, .val (.long j2), .second, .val (.int fl), .val (.long sp), .second, .val (.ref ts), .val (.int (fl &&& (3 : Int32))), .unset, .unset, .unset, .unset, .unset] []))
          refine own_go (fun t k => XS.iload X2.here hx rfl (hb hby at_97) rfl k) ?_
          show own_End p e below _ (T2.setTop (mkF m 99 #[.val (.long j0), .second, .val (.long j1), .second, .val (.long j2), .second, .val (.int fl), .val (.long sp), .second, .val (.ref ts), .val (.int (fl &&& (3 : Int32))), .unset, .unset, .unset, .unset, .unset] [(.int fl)]))
          refine own_go (fun t k => XS.iconst X2.here hx rfl (hb hby at_99) k) ?_
          show own_End p e below _ (T2.setTop (mkF m 100 #[.val (.long j0), .second, .val (.long j1), .second, .val (.long j2), .second, .val (.int fl), .val (.long sp), .second, .val (.ref ts), .val (.int (fl &&& (3 : Int32))), .unset, .unset, .unset, .unset, .unset] [(.int (2 : Int32)), (.int fl)]))
          refine own_go (fun t k => XS.ishr X2.here hx rfl (hb hby at_100) rfl k) ?_
          show own_End p e below _ (T2.setTop (mkF m 101 #[.val (.long j0), .second, .val (.long j1), .second, .val (.long j2), .second, .val (.int fl), .val (.long sp), .second, .val (.ref ts), .val (.int (fl &&& (3 : Int32))), .unset, .unset, .unset, .unset, .unset] [(.int (fl >>> ((2 : Int32) &&& 31)))]))
          refine own_go (fun t k => XS.iconst X2.here hx rfl (hb hby at_101) k) ?_
          show own_End p e below _ (T2.setTop (mkF m 102 #[.val (.long j0), .second, .val (.long j1), .second, .val (.long j2), .second, .val (.int fl), .val (.long sp), .second, .val (.ref ts), .val (.int (fl &&& (3 : Int32))), .unset, .unset, .unset, .unset, .unset] [(.int (3 : Int32)), (.int (fl >>> ((2 : Int32) &&& 31)))]))
          refine own_go (fun t k => XS.iand X2.here hx rfl (hb hby at_102) rfl k) ?_
          show own_End p e below _ (T2.setTop (mkF m 103 #[.val (.long j0), .second, .val (.long j1), .second, .val (.long j2), .second, .val (.int fl), .val (.long sp), .second, .val (.ref ts), .val (.int (fl &&& (3 : Int32))), .unset, .unset, .unset, .unset, .unset] [(.int ((fl >>> ((2 : Int32) &&& 31)) &&& (3 : Int32)))]))
          refine own_go (fun t k => XS.i2l X2.here hx rfl (hb hby at_103) rfl k) ?_
          show own_End p e below _ (T2.setTop (mkF m 104 #[.val (.long j0), .second, .val (.long j1), .second, .val (.long j2), .second, .val (.int fl), .val (.long sp), .second, .val (.ref ts), .val (.int (fl &&& (3 : Int32))), .unset, .unset, .unset, .unset, .unset] [(.long (((fl >>> ((2 : Int32) &&& 31)) &&& (3 : Int32)).toInt64))]))
          refine own_go (fun t k => XS.lconst X2.here hx rfl (hb hby at_104) k) ?_
          show own_End p e below _ (T2.setTop (mkF m 105 #[.val (.long j0), .second, .val (.long j1), .second, .val (.long j2), .second, .val (.int fl), .val (.long sp), .second, .val (.ref ts), .val (.int (fl &&& (3 : Int32))), .unset, .unset, .unset, .unset, .unset] [(.long (1 : Int64)), (.long (((fl >>> ((2 : Int32) &&& 31)) &&& (3 : Int32)).toInt64))]))
          refine own_go (fun t k => XS.lsub X2.here hx rfl (hb hby at_105) rfl k) ?_
          show own_End p e below _ (T2.setTop (mkF m 106 #[.val (.long j0), .second, .val (.long j1), .second, .val (.long j2), .second, .val (.int fl), .val (.long sp), .second, .val (.ref ts), .val (.int (fl &&& (3 : Int32))), .unset, .unset, .unset, .unset, .unset] [(.long ((((fl >>> ((2 : Int32) &&& 31)) &&& (3 : Int32)).toInt64) - (1 : Int64)))]))
          refine own_go (fun t k => XS.lstore X2.here hx rfl (hb hby at_106) rfl (l' := #[.val (.long j0), .second, .val (.long j1), .second, .val (.long j2), .second, .val (.int fl), .val (.long sp), .second, .val (.ref ts), .val (.int (fl &&& (3 : Int32))), .unset, .unset, .unset, .val (.long ((((fl >>> ((2 : Int32) &&& 31)) &&& (3 : Int32)).toInt64) - (1 : Int64))), .second]) rfl k) ?_
          show own_End p e below _ (T2.setTop (mkF m 108 #[.val (.long j0), .second, .val (.long j1), .second, .val (.long j2), .second, .val (.int fl), .val (.long sp), .second, .val (.ref ts), .val (.int (fl &&& (3 : Int32))), .unset, .unset, .unset, .val (.long ((((fl >>> ((2 : Int32) &&& 31)) &&& (3 : Int32)).toInt64) - (1 : Int64))), .second] []))
          refine own_go (fun t k => X2.ldc2Long hx hown (mvT hZ (hw _ (List.mem_of_getElem? (i := 0) rfl))) (g := (mkF m 108 #[.val (.long j0), .second, .val (.long j1), .second, .val (.long j2), .second, .val (.int fl), .val (.long sp), .second, .val (.ref ts), .val (.int (fl &&& (3 : Int32))), .unset, .unset, .unset, .val (.long ((((fl >>> ((2 : Int32) &&& 31)) &&& (3 : Int32)).toInt64) - (1 : Int64))), .second] [])) rfl (hb hby at_108) _ k) ?_
          show own_End p e below _ (T2.setTop (mkF m 111 #[.val (.long j0), .second, .val (.long j1), .second, .val (.long j2), .second, .val (.int fl), .val (.long sp), .second, .val (.ref ts), .val (.int (fl &&& (3 : Int32))), .unset, .unset, .unset, .val (.long ((((fl >>> ((2 : Int32) &&& 31)) &&& (3 : Int32)).toInt64) - (1 : Int64))), .second] [(.long (9223372036854775807 : Int64))]))
          refine own_go (fun t k => XS.lload X2.here hx rfl (hb hby at_111) rfl k) ?_
          show own_End p e below _ (T2.setTop (mkF m 113 #[.val (.long j0), .second, .val (.long j1), .second, .val (.long j2), .second, .val (.int fl), .val (.long sp), .second, .val (.ref ts), .val (.int (fl &&& (3 : Int32))), .unset, .unset, .unset, .val (.long ((((fl >>> ((2 : Int32) &&& 31)) &&& (3 : Int32)).toInt64) - (1 : Int64))), .second] [(.long sp), (.long (9223372036854775807 : Int64))]))
          refine own_go (fun t k => XS.lsub X2.here hx rfl (hb hby at_113) rfl k) ?_
          show own_End p e below _ (T2.setTop (mkF m 114 #[.val (.long j0), .second, .val (.long j1), .second, .val (.long j2), .second, .val (.int fl), .val (.long sp), .second, .val (.ref ts), .val (.int (fl &&& (3 : Int32))), .unset, .unset, .unset, .val (.long ((((fl >>> ((2 : Int32) &&& 31)) &&& (3 : Int32)).toInt64) - (1 : Int64))), .second] [(.long ((9223372036854775807 : Int64) - sp))]))
          refine own_go (fun t k => XS.lload X2.here hx rfl (hb hby at_114) rfl k) ?_
          show own_End p e below _ (T2.setTop (mkF m 116 #[.val (.long j0), .second, .val (.long j1), .second, .val (.long j2), .second, .val (.int fl), .val (.long sp), .second, .val (.ref ts), .val (.int (fl &&& (3 : Int32))), .unset, .unset, .unset, .val (.long ((((fl >>> ((2 : Int32) &&& 31)) &&& (3 : Int32)).toInt64) - (1 : Int64))), .second] [(.long ((((fl >>> ((2 : Int32) &&& 31)) &&& (3 : Int32)).toInt64) - (1 : Int64))), (.long ((9223372036854775807 : Int64) - sp))]))
          refine own_go (fun t k => XS.ladd X2.here hx rfl (hb hby at_116) rfl k) ?_
          show own_End p e below _ (T2.setTop (mkF m 117 #[.val (.long j0), .second, .val (.long j1), .second, .val (.long j2), .second, .val (.int fl), .val (.long sp), .second, .val (.ref ts), .val (.int (fl &&& (3 : Int32))), .unset, .unset, .unset, .val (.long ((((fl >>> ((2 : Int32) &&& 31)) &&& (3 : Int32)).toInt64) - (1 : Int64))), .second] [(.long (((9223372036854775807 : Int64) - sp) + ((((fl >>> ((2 : Int32) &&& 31)) &&& (3 : Int32)).toInt64) - (1 : Int64))))]))
          generalize (((9223372036854775807 : Int64) - sp) + ((((fl >>> ((2 : Int32) &&& 31)) &&& (3 : Int32)).toInt64) - (1 : Int64))) = at3
          show own_End p e below _ (T2.setTop (mkF m 117 #[.val (.long j0), .second, .val (.long j1), .second, .val (.long j2), .second, .val (.int fl), .val (.long sp), .second, .val (.ref ts), .val (.int (fl &&& (3 : Int32))), .unset, .unset, .unset, .val (.long ((((fl >>> ((2 : Int32) &&& 31)) &&& (3 : Int32)).toInt64) - (1 : Int64))), .second] [(.long at3)]))
          refine own_go (fun t k => XS.lstore X2.here hx rfl (hb hby at_117) rfl (l' := #[.val (.long j0), .second, .val (.long j1), .second, .val (.long j2), .second, .val (.int fl), .val (.long sp), .second, .val (.ref ts), .val (.int (fl &&& (3 : Int32))), .val (.long at3), .second, .unset, .val (.long ((((fl >>> ((2 : Int32) &&& 31)) &&& (3 : Int32)).toInt64) - (1 : Int64))), .second]) rfl k) ?_
          show own_End p e below _ (T2.setTop (mkF m 119 #[.val (.long j0), .second, .val (.long j1), .second, .val (.long j2), .second, .val (.int fl), .val (.long sp), .second, .val (.ref ts), .val (.int (fl &&& (3 : Int32))), .val (.long at3), .second, .unset, .val (.long ((((fl >>> ((2 : Int32) &&& 31)) &&& (3 : Int32)).toInt64) - (1 : Int64))), .second] []))
          refine own_go (fun t k => XS.aload X2.here hx rfl (hb hby at_119) rfl rfl k) ?_
          show own_End p e below _ (T2.setTop (mkF m 121 #[.val (.long j0), .second, .val (.long j1), .second, .val (.long j2), .second, .val (.int fl), .val (.long sp), .second, .val (.ref ts), .val (.int (fl &&& (3 : Int32))), .val (.long at3), .second, .unset, .val (.long ((((fl >>> ((2 : Int32) &&& 31)) &&& (3 : Int32)).toInt64) - (1 : Int64))), .second] [(.ref ts)]))
          refine own_go (fun t k => XS.lload X2.here hx rfl (hb hby at_121) rfl k) ?_
          show own_End p e below _ (T2.setTop (mkF m 123 #[.val (.long j0), .second, .val (.long j1), .second, .val (.long j2), .second, .val (.int fl), .val (.long sp), .second, .val (.ref ts), .val (.int (fl &&& (3 : Int32))), .val (.long at3), .second, .unset, .val (.long ((((fl >>> ((2 : Int32) &&& 31)) &&& (3 : Int32)).toInt64) - (1 : Int64))), .second] [(.long at3), (.ref ts)]))
          obtain ⟨cq11, kq11, q11a, q11b, q11c⟩ := isOf hZ rfl E_ts
          obtain ⟨_, _, ⟨T11, L11, k11, n11⟩, -, X11, ⟨Lc11, hQ11, l11, y11, z11⟩, st11⟩ := X2.virtualBack hx (y := (⟨"com/example/rillway/rillway/input/TimeSlide", "resume", "(J)V"⟩ : MethodName)) (z := (⟨"com/example/rillway/rillway/input/TimeSlide", "resume", "(J)V"⟩ : MethodName)) hown (mvT hZ (hw _ (List.mem_of_getElem? (i := 12) rfl))) (mvT hZ (hw _ (List.mem_of_getElem? (i := 13) rfl))) (notFace_of_selects (args := #[]) (mvT hZ (hw _ (List.mem_of_getElem? (i := 15) rfl)))) (mvT hZ (hw _ (List.mem_of_getElem? (i := 15) rfl))) (mvT hZ (hw _ (List.mem_of_getElem? (i := 14) rfl))) (by decide) (backOf (W := 0) (rm3 l Z a0 hw [] ts at3 (0 : Int32) (0 : Int64) sp T2.heap n0 Zs E_ts F_started_ts F_slidAt_ts F_span_ts g_ts) hZ (hw _ (List.mem_of_getElem? (i := 16) rfl)) (hw _ (List.mem_of_getElem? (i := 3) rfl)) (by decide) (by decide)) q11a q11c (g := (mkF m 123 #[.val (.long j0), .second, .val (.long j1), .second, .val (.long j2), .second, .val (.int fl), .val (.long sp), .second, .val (.ref ts), .val (.int (fl &&& (3 : Int32))), .val (.long at3), .second, .unset, .val (.long ((((fl >>> ((2 : Int32) &&& 31)) &&& (3 : Int32)).toInt64) - (1 : Int64))), .second] [(.long at3), (.ref ts)])) rfl (by rw [hml]; rfl) (Steps.refl _) (argsL := [(.long at3)]) (rest := []) (lenOf pd_1 rfl) rfl (by show 2 * 0 + _ ≤ _; exact Nat.le_of_eq rfl) (hb hby at_123) (fun _ _ => ⟨rfl, rfl, (Nat.le_of_ble_eq_true rfl), (Nat.le_of_ble_eq_true rfl)⟩)
          dsimp only [Pt.U, Pt.locs, Pt.cells, Pt.slots] at X11 l11 y11 z11 st11 hQ11
          subst l11 y11 z11
          obtain ⟨rfl, N11q, K11, F_started_ts, F_slidAt_ts, F_span_ts⟩ := hQ11
          have Nf := Fr.app Nf N11q
          have E_ts := E_ts.keep K11
          have Kp := Kp.trans K11 (allS (Or.inr sz_ts) all0)
          have Zs := Nat.le_trans Zs K11.1
          have szr := Nat.le_trans szr K11.1
          refine own_go (fun t k => st11.trans k) ?_
          show own_End p e below _ (T11.setTop (mkF m 126 #[.val (.long j0), .second, .val (.long j1), .second, .val (.long j2), .second, .val (.int fl), .val (.long sp), .second, .val (.ref ts), .val (.int (fl &&& (3 : Int32))), .val (.long at3), .second, .unset, .val (.long ((((fl >>> ((2 : Int32) &&& 31)) &&& (3 : Int32)).toInt64) - (1 : Int64))), .second] []))
          refine own_go (fun t k => XS.iconst X11.here hx rfl (hb hby at_126) k) ?_
          show own_End p e below _ (T11.setTop (mkF m 127 #[.val (.long j0), .second, .val (.long j1), .second, .val (.long j2), .second, .val (.int fl), .val (.long sp), .second, .val (.ref ts), .val (.int (fl &&& (3 : Int32))), .val (.long at3), .second, .unset, .val (.long ((((fl >>> ((2 : Int32) &&& 31)) &&& (3 : Int32)).toInt64) - (1 : Int64))), .second] [(.int (1 : Int32))]))
          refine own_go (fun t k => XS.istore X11.here hx rfl (hb hby at_127) rfl (l' := #[.val (.long j0), .second, .val (.long j1), .second, .val (.long j2), .second, .val (.int fl), .val (.long sp), .second, .val (.ref ts), .val (.int (fl &&& (3 : Int32))), .val (.long at3), .second, .val (.int (1 : Int32)), .val (.long ((((fl >>> ((2 : Int32) &&& 31)) &&& (3 : Int32)).toInt64) - (1 : Int64))), .second]) rfl k) ?_
          show own_End p e below _ (T11.setTop (mkF m 129 #[.val (.long j0), .second, .val (.long j1), .second, .val (.long j2), .second, .val (.int fl), .val (.long sp), .second, .val (.ref ts), .val (.int (fl &&& (3 : Int32))), .val (.long at3), .second, .val (.int (1 : Int32)), .val (.long ((((fl >>> ((2 : Int32) &&& 31)) &&& (3 : Int32)).toInt64) - (1 : Int64))), .second] []))
          refine own_go (fun t k => XS.iload X11.here hx rfl (hb hby at_129) rfl k) ?_
          show own_End p e below _ (T11.setTop (mkF m 131 #[.val (.long j0), .second, .val (.long j1), .second, .val (.long j2), .second, .val (.int fl), .val (.long sp), .second, .val (.ref ts), .val (.int (fl &&& (3 : Int32))), .val (.long at3), .second, .val (.int (1 : Int32)), .val (.long ((((fl >>> ((2 : Int32) &&& 31)) &&& (3 : Int32)).toInt64) - (1 : Int64))), .second] [(.int (1 : Int32))]))
          refine own_go (fun t k => XS.ifNo X11.here hx rfl (hb hby at_131) rfl ((if0 _ _).trans (feq (by decide)).1) k) ?_
          show own_End p e below _ (T11.setTop (mkF m 134 #[.val (.long j0), .second, .val (.long j1), .second, .val (.long j2), .second, .val (.int fl), .val (.long sp), .second, .val (.ref ts), .val (.int (fl &&& (3 : Int32))), .val (.long at3), .second, .val (.int (1 : Int32)), .val (.long ((((fl >>> ((2 : Int32) &&& 31)) &&& (3 : Int32)).toInt64) - (1 : Int64))), .second] []))
          refine own_go (fun t k => XS.lload X11.here hx rfl (hb hby at_134) rfl k) ?_
          show own_End p e below _ (T11.setTop (mkF m 136 #[.val (.long j0), .second, .val (.long j1), .second, .val (.long j2), .second, .val (.int fl), .val (.long sp), .second, .val (.ref ts), .val (.int (fl &&& (3 : Int32))), .val (.long at3), .second, .val (.int (1 : Int32)), .val (.long ((((fl >>> ((2 : Int32) &&& 31)) &&& (3 : Int32)).toInt64) - (1 : Int64))), .second] [(.long at3)]))
          refine own_go (fun t k => XS.lload X11.here hx rfl (hb hby at_136) rfl k) ?_
          show own_End p e below _ (T11.setTop (mkF m 138 #[.val (.long j0), .second, .val (.long j1), .second, .val (.long j2), .second, .val (.int fl), .val (.long sp), .second, .val (.ref ts), .val (.int (fl &&& (3 : Int32))), .val (.long at3), .second, .val (.int (1 : Int32)), .val (.long ((((fl >>> ((2 : Int32) &&& 31)) &&& (3 : Int32)).toInt64) - (1 : Int64))), .second] [(.long sp), (.long at3)]))
          refine own_go (fun t k => XS.ladd X11.here hx rfl (hb hby at_138) rfl k) ?_
          show own_End p e below _ (T11.setTop (mkF m 139 #[.val (.long j0), .second, .val (.long j1), .second, .val (.long j2), .second, .val (.int fl), .val (.long sp), .second, .val (.ref ts), .val (.int (fl &&& (3 : Int32))), .val (.long at3), .second, .val (.int (1 : Int32)), .val (.long ((((fl >>> ((2 : Int32) &&& 31)) &&& (3 : Int32)).toInt64) - (1 : Int64))), .second] [(.long (at3 + sp))]))
          refine own_go (fun t k => XS.lload X11.here hx rfl (hb hby at_139) rfl k) ?_
          show own_End p e below _ (T11.setTop (mkF m 141 #[.val (.long j0), .second, .val (.long j1), .second, .val (.long j2), .second, .val (.int fl), .val (.long sp), .second, .val (.ref ts), .val (.int (fl &&& (3 : Int32))), .val (.long at3), .second, .val (.int (1 : Int32)), .val (.long ((((fl >>> ((2 : Int32) &&& 31)) &&& (3 : Int32)).toInt64) - (1 : Int64))), .second] [(.long at3), (.long (at3 + sp))]))
          refine own_go (fun t k => XS.lcmp X11.here hx rfl (hb hby at_141) rfl k) ?_
          show own_End p e below _ (T11.setTop (mkF m 142 #[.val (.long j0), .second, .val (.long j1), .second, .val (.long j2), .second, .val (.int fl), .val (.long sp), .second, .val (.ref ts), .val (.int (fl &&& (3 : Int32))), .val (.long at3), .second, .val (.int (1 : Int32)), .val (.long ((((fl >>> ((2 : Int32) &&& 31)) &&& (3 : Int32)).toInt64) - (1 : Int64))), .second] [(.int (lcmpW (at3 + sp) at3))]))
          by_cases hc142 : at3 < (at3 + sp)
          ·
            refine own_go (fun t k => XS.ifNo X11.here hx rfl (hb hby at_142) rfl ((if0 _ _).trans (tlt ((lw_gt (at3 + sp) at3).mpr hc142)).2.2.2) k) ?_
            show own_End p e below _ (T11.setTop (mkF m 145 #[.val (.long j0), .second, .val (.long j1), .second, .val (.long j2), .second, .val (.int fl), .val (.long sp), .second, .val (.ref ts), .val (.int (fl &&& (3 : Int32))), .val (.long at3), .second, .val (.int (1 : Int32)), .val (.long ((((fl >>> ((2 : Int32) &&& 31)) &&& (3 : Int32)).toInt64) - (1 : Int64))), .second] []))
            refine own_go (fun t k => XS.iconst X11.here hx rfl (hb hby at_145) k) ?_
            show own_End p e below _ (T11.setTop (mkF m 146 #[.val (.long j0), .second, .val (.long j1), .second, .val (.long j2), .second, .val (.int fl), .val (.long sp), .second, .val (.ref ts), .val (.int (fl &&& (3 : Int32))), .val (.long at3), .second, .val (.int (1 : Int32)), .val (.long ((((fl >>> ((2 : Int32) &&& 31)) &&& (3 : Int32)).toInt64) - (1 : Int64))), .second] [(.int (1 : Int32))]))
            refine own_go (fun t k => XS.goto X11.here hx rfl (pc0 := 146) (pc' := 150) rfl (hb hby at_146) (by decide) (by decide) k) ?_
            show own_End p e below _ (T11.setTop (mkF m 150 #[.val (.long j0), .second, .val (.long j1), .second, .val (.long j2), .second, .val (.int fl), .val (.long sp), .second, .val (.ref ts), .val (.int (fl &&& (3 : Int32))), .val (.long at3), .second, .val (.int (1 : Int32)), .val (.long ((((fl >>> ((2 : Int32) &&& 31)) &&& (3 : Int32)).toInt64) - (1 : Int64))), .second] [(.int (1 : Int32))]))
            refine own_go (fun t k => XS.istore X11.here hx rfl (hb hby at_150) rfl (l' := #[.val (.long j0), .second, .val (.long j1), .second, .val (.long j2), .second, .val (.int fl), .val (.long sp), .second, .val (.ref ts), .val (.int (fl &&& (3 : Int32))), .val (.long at3), .second, .val (.int (1 : Int32)), .val (.int (1 : Int32)), .unset]) rfl k) ?_
            show own_End p e below _ (T11.setTop (mkF m 152 #[.val (.long j0), .second, .val (.long j1), .second, .val (.long j2), .second, .val (.int fl), .val (.long sp), .second, .val (.ref ts), .val (.int (fl &&& (3 : Int32))), .val (.long at3), .second, .val (.int (1 : Int32)), .val (.int (1 : Int32)), .unset] []))
            refine own_go (fun t k => XS.aload X11.here hx rfl (hb hby at_152) rfl rfl k) ?_
            show own_End p e below _ (T11.setTop (mkF m 154 #[.val (.long j0), .second, .val (.long j1), .second, .val (.long j2), .second, .val (.int fl), .val (.long sp), .second, .val (.ref ts), .val (.int (fl &&& (3 : Int32))), .val (.long at3), .second, .val (.int (1 : Int32)), .val (.int (1 : Int32)), .unset] [(.ref ts)]))
            obtain ⟨cq12, kq12, q12a, q12b, q12c⟩ := isOf hZ rfl E_ts
            obtain ⟨_, _, ⟨T12, L12, k12, n12⟩, -, X12, ⟨Lc12, hQ12, l12, y12, z12⟩, st12⟩ := X11.virtualBack hx (y := (⟨"com/example/rillway/rillway/input/TimeSlide", "scheduled", "()Z"⟩ : MethodName)) (z := (⟨"com/example/rillway/rillway/input/TimeSlide", "scheduled", "()Z"⟩ : MethodName)) hown (mvT hZ (hw _ (List.mem_of_getElem? (i := 21) rfl))) (mvT hZ (hw _ (List.mem_of_getElem? (i := 22) rfl))) (notFace_of_selects (args := #[]) (mvT hZ (hw _ (List.mem_of_getElem? (i := 24) rfl)))) (mvT hZ (hw _ (List.mem_of_getElem? (i := 24) rfl))) (mvT hZ (hw _ (List.mem_of_getElem? (i := 23) rfl))) (by decide) (backOf (W := 0) (rm4 l Z a0 hw [] ts (1 : Int32) at3 sp T11.heap n0 Zs F_started_ts F_slidAt_ts F_span_ts) hZ (hw _ (List.mem_of_getElem? (i := 25) rfl)) (hw _ (List.mem_of_getElem? (i := 3) rfl)) (by decide) (by decide)) q12a q12c (g := (mkF m 154 #[.val (.long j0), .second, .val (.long j1), .second, .val (.long j2), .second, .val (.int fl), .val (.long sp), .second, .val (.ref ts), .val (.int (fl &&& (3 : Int32))), .val (.long at3), .second, .val (.int (1 : Int32)), .val (.int (1 : Int32)), .unset] [(.ref ts)])) rfl (by rw [hml]; rfl) (Steps.refl _) (argsL := []) (rest := []) (lenOf pd_2 rfl) rfl (by show 2 * 0 + _ ≤ _; exact Nat.le_of_eq rfl) (hb hby at_154) (fun _ _ => ⟨rfl, rfl, (Nat.le_of_ble_eq_true rfl), (Nat.le_of_ble_eq_true rfl)⟩)
            dsimp only [Pt.U, Pt.locs, Pt.cells, Pt.slots] at X12 l12 y12 z12 st12 hQ12
            subst l12 y12 z12
            obtain ⟨rfl, N12q, e12⟩ := hQ12
            have Nf := Fr.app Nf N12q
            refine own_go (fun t k => st12.trans k) ?_
            show own_End p e below _ (T12.setTop (mkF m 157 #[.val (.long j0), .second, .val (.long j1), .second, .val (.long j2), .second, .val (.int fl), .val (.long sp), .second, .val (.ref ts), .val (.int (fl &&& (3 : Int32))), .val (.long at3), .second, .val (.int (1 : Int32)), .val (.int (1 : Int32)), .unset] [(.int (own_sched (1 : Int32) at3 sp))]))
            refine own_go (fun t k => XS.iload X12.here hx rfl (hb hby at_157) rfl k) ?_
            show own_End p e below _ (T12.setTop (mkF m 159 #[.val (.long j0), .second, .val (.long j1), .second, .val (.long j2), .second, .val (.int fl), .val (.long sp), .second, .val (.ref ts), .val (.int (fl &&& (3 : Int32))), .val (.long at3), .second, .val (.int (1 : Int32)), .val (.int (1 : Int32)), .unset] [(.int (1 : Int32)), (.int (own_sched (1 : Int32) at3 sp))]))
            refine own_go (fun t k => XS.icmpNo X12.here hx rfl (hb hby at_159) rfl (teq (own_schedY at3 sp hsp hc142)).2 k) ?_
            show own_End p e below _ (T12.setTop (mkF m 162 #[.val (.long j0), .second, .val (.long j1), .second, .val (.long j2), .second, .val (.int fl), .val (.long sp), .second, .val (.ref ts), .val (.int (fl &&& (3 : Int32))), .val (.long at3), .second, .val (.int (1 : Int32)), .val (.int (1 : Int32)), .unset] []))
            refine own_go (fun t k => XS.iconst X12.here hx rfl (hb hby at_162) k) ?_
            show own_End p e below _ (T12.setTop (mkF m 163 #[.val (.long j0), .second, .val (.long j1), .second, .val (.long j2), .second, .val (.int fl), .val (.long sp), .second, .val (.ref ts), .val (.int (fl &&& (3 : Int32))), .val (.long at3), .second, .val (.int (1 : Int32)), .val (.int (1 : Int32)), .unset] [(.int (1 : Int32))]))
            refine own_go (fun t k => XS.goto X12.here hx rfl (pc0 := 163) (pc' := 167) rfl (hb hby at_163) (by decide) (by decide) k) ?_
            show own_End p e below _ (T12.setTop (mkF m 167 #[.val (.long j0), .second, .val (.long j1), .second, .val (.long j2), .second, .val (.int fl), .val (.long sp), .second, .val (.ref ts), .val (.int (fl &&& (3 : Int32))), .val (.long at3), .second, .val (.int (1 : Int32)), .val (.int (1 : Int32)), .unset] [(.int (1 : Int32))]))
            obtain ⟨fs, hr, hrun, hended, hW, hsame⟩ := X12.leave (v := some (.int (1 : Int32))) (fun h => by rw [Bd.returns] at h; cases h)
            refine ⟨_, _, (retN X12 hx (t := .boolean) Bd.returns (by simp) (hb hby at_167) hr), hrun, hended, _, _, rfl, ?_, ⟨_, rfl⟩, hW, hsame.mono (by decide) (by decide)⟩
            show Q0 Z j0 j1 j2 fl h0 n0 _ T12.heap _
            rw [e12]
            exact ⟨rfl, Nf⟩
          ·
            refine own_go (fun t k => XS.ifYes X11.here hx rfl (pc0 := 142) (pc' := 149) rfl (hb hby at_142) rfl ((if0 _ _).trans (flt (fun q => hc142 ((lw_gt (at3 + sp) at3).mp q))).2.2.2) (by decide) (by decide) k) ?_
            show own_End p e below _ (T11.setTop (mkF m 149 #[.val (.long j0), .second, .val (.long j1), .second, .val (.long j2), .second, .val (.int fl), .val (.long sp), .second, .val (.ref ts), .val (.int (fl &&& (3 : Int32))), .val (.long at3), .second, .val (.int (1 : Int32)), .val (.long ((((fl >>> ((2 : Int32) &&& 31)) &&& (3 : Int32)).toInt64) - (1 : Int64))), .second] []))
            refine own_go (fun t k => XS.iconst X11.here hx rfl (hb hby at_149) k) ?_
            show own_End p e below _ (T11.setTop (mkF m 150 #[.val (.long j0), .second, .val (.long j1), .second, .val (.long j2), .second, .val (.int fl), .val (.long sp), .second, .val (.ref ts), .val (.int (fl &&& (3 : Int32))), .val (.long at3), .second, .val (.int (1 : Int32)), .val (.long ((((fl >>> ((2 : Int32) &&& 31)) &&& (3 : Int32)).toInt64) - (1 : Int64))), .second] [(.int (0 : Int32))]))
            refine own_go (fun t k => XS.istore X11.here hx rfl (hb hby at_150) rfl (l' := #[.val (.long j0), .second, .val (.long j1), .second, .val (.long j2), .second, .val (.int fl), .val (.long sp), .second, .val (.ref ts), .val (.int (fl &&& (3 : Int32))), .val (.long at3), .second, .val (.int (1 : Int32)), .val (.int (0 : Int32)), .unset]) rfl k) ?_
            show own_End p e below _ (T11.setTop (mkF m 152 #[.val (.long j0), .second, .val (.long j1), .second, .val (.long j2), .second, .val (.int fl), .val (.long sp), .second, .val (.ref ts), .val (.int (fl &&& (3 : Int32))), .val (.long at3), .second, .val (.int (1 : Int32)), .val (.int (0 : Int32)), .unset] []))
            refine own_go (fun t k => XS.aload X11.here hx rfl (hb hby at_152) rfl rfl k) ?_
            show own_End p e below _ (T11.setTop (mkF m 154 #[.val (.long j0), .second, .val (.long j1), .second, .val (.long j2), .second, .val (.int fl), .val (.long sp), .second, .val (.ref ts), .val (.int (fl &&& (3 : Int32))), .val (.long at3), .second, .val (.int (1 : Int32)), .val (.int (0 : Int32)), .unset] [(.ref ts)]))
            obtain ⟨cq13, kq13, q13a, q13b, q13c⟩ := isOf hZ rfl E_ts
            obtain ⟨_, _, ⟨T13, L13, k13, n13⟩, -, X13, ⟨Lc13, hQ13, l13, y13, z13⟩, st13⟩ := X11.virtualBack hx (y := (⟨"com/example/rillway/rillway/input/TimeSlide", "scheduled", "()Z"⟩ : MethodName)) (z := (⟨"com/example/rillway/rillway/input/TimeSlide", "scheduled", "()Z"⟩ : MethodName)) hown (mvT hZ (hw _ (List.mem_of_getElem? (i := 21) rfl))) (mvT hZ (hw _ (List.mem_of_getElem? (i := 22) rfl))) (notFace_of_selects (args := #[]) (mvT hZ (hw _ (List.mem_of_getElem? (i := 24) rfl)))) (mvT hZ (hw _ (List.mem_of_getElem? (i := 24) rfl))) (mvT hZ (hw _ (List.mem_of_getElem? (i := 23) rfl))) (by decide) (backOf (W := 0) (rm4 l Z a0 hw [] ts (1 : Int32) at3 sp T11.heap n0 Zs F_started_ts F_slidAt_ts F_span_ts) hZ (hw _ (List.mem_of_getElem? (i := 25) rfl)) (hw _ (List.mem_of_getElem? (i := 3) rfl)) (by decide) (by decide)) q13a q13c (g := (mkF m 154 #[.val (.long j0), .second, .val (.long j1), .second, .val (.long j2), .second, .val (.int fl), .val (.long sp), .second, .val (.ref ts), .val (.int (fl &&& (3 : Int32))), .val (.long at3), .second, .val (.int (1 : Int32)), .val (.int (0 : Int32)), .unset] [(.ref ts)])) rfl (by rw [hml]; rfl) (Steps.refl _) (argsL := []) (rest := []) (lenOf pd_2 rfl) rfl (by show 2 * 0 + _ ≤ _; exact Nat.le_of_eq rfl) (hb hby at_154) (fun _ _ => ⟨rfl, rfl, (Nat.le_of_ble_eq_true rfl), (Nat.le_of_ble_eq_true rfl)⟩)
            dsimp only [Pt.U, Pt.locs, Pt.cells, Pt.slots] at X13 l13 y13 z13 st13 hQ13
            subst l13 y13 z13
            obtain ⟨rfl, N13q, e13⟩ := hQ13
            have Nf := Fr.app Nf N13q
            refine own_go (fun t k => st13.trans k) ?_
            show own_End p e below _ (T13.setTop (mkF m 157 #[.val (.long j0), .second, .val (.long j1), .second, .val (.long j2), .second, .val (.int fl), .val (.long sp), .second, .val (.ref ts), .val (.int (fl &&& (3 : Int32))), .val (.long at3), .second, .val (.int (1 : Int32)), .val (.int (0 : Int32)), .unset] [(.int (own_sched (1 : Int32) at3 sp))]))
            refine own_go (fun t k => XS.iload X13.here hx rfl (hb hby at_157) rfl k) ?_
            show own_End p e below _ (T13.setTop (mkF m 159 #[.val (.long j0), .second, .val (.long j1), .second, .val (.long j2), .second, .val (.int fl), .val (.long sp), .second, .val (.ref ts), .val (.int (fl &&& (3 : Int32))), .val (.long at3), .second, .val (.int (1 : Int32)), .val (.int (0 : Int32)), .unset] [(.int (0 : Int32)), (.int (own_sched (1 : Int32) at3 sp))]))
            refine own_go (fun t k => XS.icmpNo X13.here hx rfl (hb hby at_159) rfl (teq (own_schedN at3 sp hsp hc142)).2 k) ?_
            show own_End p e below _ (T13.setTop (mkF m 162 #[.val (.long j0), .second, .val (.long j1), .second, .val (.long j2), .second, .val (.int fl), .val (.long sp), .second, .val (.ref ts), .val (.int (fl &&& (3 : Int32))), .val (.long at3), .second, .val (.int (1 : Int32)), .val (.int (0 : Int32)), .unset] []))
            refine own_go (fun t k => XS.iconst X13.here hx rfl (hb hby at_162) k) ?_
            show own_End p e below _ (T13.setTop (mkF m 163 #[.val (.long j0), .second, .val (.long j1), .second, .val (.long j2), .second, .val (.int fl), .val (.long sp), .second, .val (.ref ts), .val (.int (fl &&& (3 : Int32))), .val (.long at3), .second, .val (.int (1 : Int32)), .val (.int (0 : Int32)), .unset] [(.int (1 : Int32))]))
            refine own_go (fun t k => XS.goto X13.here hx rfl (pc0 := 163) (pc' := 167) rfl (hb hby at_163) (by decide) (by decide) k) ?_
            show own_End p e below _ (T13.setTop (mkF m 167 #[.val (.long j0), .second, .val (.long j1), .second, .val (.long j2), .second, .val (.int fl), .val (.long sp), .second, .val (.ref ts), .val (.int (fl &&& (3 : Int32))), .val (.long at3), .second, .val (.int (1 : Int32)), .val (.int (0 : Int32)), .unset] [(.int (1 : Int32))]))
            obtain ⟨fs, hr, hrun, hended, hW, hsame⟩ := X13.leave (v := some (.int (1 : Int32))) (fun h => by rw [Bd.returns] at h; cases h)
            refine ⟨_, _, (retN X13 hx (t := .boolean) Bd.returns (by simp) (hb hby at_167) hr), hrun, hended, _, _, rfl, ?_, ⟨_, rfl⟩, hW, hsame.mono (by decide) (by decide)⟩
            show Q0 Z j0 j1 j2 fl h0 n0 _ T13.heap _
            rw [e13]
            exact ⟨rfl, Nf⟩
  refine own_go (fun t k => XS.lloadN X0.here hx rfl (hb hby at_0) rfl k) ?_
  show own_End p e below _ (s₁.setTop (mkF m 1 #[.val (.long j0), .second, .val (.long j1), .second, .val (.long j2), .second, .val (.int fl), .unset, .unset, .unset, .unset, .unset, .unset, .unset, .unset, .unset] [(.long j0)]))
  refine own_go (fun t k => X0.ldc2Long hx hown (mvT hZ (hw _ (List.mem_of_getElem? (i := 0) rfl))) (g := (mkF m 1 #[.val (.long j0), .second, .val (.long j1), .second, .val (.long j2), .second, .val (.int fl), .unset, .unset, .unset, .unset, .unset, .unset, .unset, .unset, .unset] [(.long j0)])) rfl (hb hby at_1) _ k) ?_
  show own_End p e below _ (s₁.setTop (mkF m 4 #[.val (.long j0), .second, .val (.long j1), .second, .val (.long j2), .second, .val (.int fl), .unset, .unset, .unset, .unset, .unset, .unset, .unset, .unset, .unset] [(.long (9223372036854775807 : Int64)), (.long j0)]))
  refine own_go (fun t k => XS.land X0.here hx rfl (hb hby at_4) rfl k) ?_
  show own_End p e below _ (s₁.setTop (mkF m 5 #[.val (.long j0), .second, .val (.long j1), .second, .val (.long j2), .second, .val (.int fl), .unset, .unset, .unset, .unset, .unset, .unset, .unset, .unset, .unset] [(.long (j0 &&& (9223372036854775807 : Int64)))]))
  refine own_go (fun t k => XS.lstore X0.here hx rfl (hb hby at_5) rfl (l' := #[.val (.long j0), .second, .val (.long j1), .second, .val (.long j2), .second, .val (.int fl), .val (.long (j0 &&& (9223372036854775807 : Int64))), .second, .unset, .unset, .unset, .unset, .unset, .unset, .unset]) rfl k) ?_
  show own_End p e below _ (s₁.setTop (mkF m 7 #[.val (.long j0), .second, .val (.long j1), .second, .val (.long j2), .second, .val (.int fl), .val (.long (j0 &&& (9223372036854775807 : Int64))), .second, .unset, .unset, .unset, .unset, .unset, .unset, .unset] []))
  refine own_go (fun t k => XS.lload X0.here hx rfl (hb hby at_7) rfl k) ?_
  show own_End p e below _ (s₁.setTop (mkF m 9 #[.val (.long j0), .second, .val (.long j1), .second, .val (.long j2), .second, .val (.int fl), .val (.long (j0 &&& (9223372036854775807 : Int64))), .second, .unset, .unset, .unset, .unset, .unset, .unset, .unset] [(.long (j0 &&& (9223372036854775807 : Int64)))]))
  refine own_go (fun t k => XS.lconst X0.here hx rfl (hb hby at_9) k) ?_
  show own_End p e below _ (s₁.setTop (mkF m 10 #[.val (.long j0), .second, .val (.long j1), .second, .val (.long j2), .second, .val (.int fl), .val (.long (j0 &&& (9223372036854775807 : Int64))), .second, .unset, .unset, .unset, .unset, .unset, .unset, .unset] [(.long (0 : Int64)), (.long (j0 &&& (9223372036854775807 : Int64)))]))
  refine own_go (fun t k => XS.lcmp X0.here hx rfl (hb hby at_10) rfl k) ?_
  show own_End p e below _ (s₁.setTop (mkF m 11 #[.val (.long j0), .second, .val (.long j1), .second, .val (.long j2), .second, .val (.int fl), .val (.long (j0 &&& (9223372036854775807 : Int64))), .second, .unset, .unset, .unset, .unset, .unset, .unset, .unset] [(.int (lcmpW (j0 &&& (9223372036854775807 : Int64)) (0 : Int64)))]))
  by_cases hc11 : (j0 &&& (9223372036854775807 : Int64)) = (0 : Int64)
  ·
    refine own_go (fun t k => XS.ifNo X0.here hx rfl (hb hby at_11) rfl ((if0 _ _).trans (teq ((lw_eq (j0 &&& (9223372036854775807 : Int64)) (0 : Int64)).mpr hc11)).2) k) ?_
    show own_End p e below _ (s₁.setTop (mkF m 14 #[.val (.long j0), .second, .val (.long j1), .second, .val (.long j2), .second, .val (.int fl), .val (.long (j0 &&& (9223372036854775807 : Int64))), .second, .unset, .unset, .unset, .unset, .unset, .unset, .unset] []))
    refine own_go (fun t k => XS.lconst X0.here hx rfl (hb hby at_14) k) ?_
    show own_End p e below _ (s₁.setTop (mkF m 15 #[.val (.long j0), .second, .val (.long j1), .second, .val (.long j2), .second, .val (.int fl), .val (.long (j0 &&& (9223372036854775807 : Int64))), .second, .unset, .unset, .unset, .unset, .unset, .unset, .unset] [(.long (1 : Int64))]))
    refine own_go (fun t k => XS.lstore X0.here hx rfl (hb hby at_15) rfl (l' := #[.val (.long j0), .second, .val (.long j1), .second, .val (.long j2), .second, .val (.int fl), .val (.long (1 : Int64)), .second, .unset, .unset, .unset, .unset, .unset, .unset, .unset]) rfl k) ?_
    show own_End p e below _ (s₁.setTop (mkF m 17 #[.val (.long j0), .second, .val (.long j1), .second, .val (.long j2), .second, .val (.int fl), .val (.long (1 : Int64)), .second, .unset, .unset, .unset, .unset, .unset, .unset, .unset] []))
    exact J17 (1 : Int64) s₁ _ h0 X0 e0 Nf Zs Kp szr  (by decide)
  ·
    refine own_go (fun t k => XS.ifYes X0.here hx rfl (pc0 := 11) (pc' := 17) rfl (hb hby at_11) rfl ((if0 _ _).trans (feq (fun q => hc11 ((lw_eq (j0 &&& (9223372036854775807 : Int64)) (0 : Int64)).mp q))).2) (by decide) (by decide) k) ?_
    show own_End p e below _ (s₁.setTop (mkF m 17 #[.val (.long j0), .second, .val (.long j1), .second, .val (.long j2), .second, .val (.int fl), .val (.long (j0 &&& (9223372036854775807 : Int64))), .second, .unset, .unset, .unset, .unset, .unset, .unset, .unset] []))
    exact J17 (j0 &&& (9223372036854775807 : Int64)) s₁ _ h0 X0 e0 Nf Zs Kp szr  (own_span j0 hc11)
set_option maxRecDepth 65536 in
set_option maxHeartbeats 40000000 in
theorem comes_1 {Post : Tables → Env → Array Value → State → Outcome → State → Prop} (hpost : ∀ tb e args s v u, (limb_1_1.after args s (.returned v) u = true ∧ limb_1_2.after args s (.returned v) u = true ∧ True) → FrameEnd s (.returned v) u (Jvm.fieldLocs frame_1_writes args s ++ Jvm.arrayLocs frame_1_arrays args s ++ Jvm.staticLocs frame_1_statics s) 16 128 → Post tb e args s (.returned v) u) :
    ArmFor flags0 classFile x code maxLocals ret World_1 tables_1 room_1 Calls_1 rest_1 Pre_1 Post := by
  intro l hfl _ _ p e ha hc hk s m args below hf hA hF happ hP
  obtain ⟨hcalls, hrest, hpre⟩ := hP
  obtain ⟨-, -, -, hnamed, -, -, -, hat⟩ := (Spec.applies_iff hf).mp happ
  obtain ⟨hg, hn⟩ := and_e (Cond.before_iff.mp (show (Jvm.Cond.and given_1 narrow_1).before args s = true from hpre))
  obtain ⟨h1, g0⟩ := and_e hg
  obtain ⟨k0, g1⟩ := and_e g0
  obtain ⟨k1, g2⟩ := and_e g1
  obtain ⟨k2, g3⟩ := and_e g2
  obtain ⟨w0, w1, w2, w3, rfl⟩ : ∃ w0 w1 w2 w3 : Value, args = #[w0, w1, w2, w3] := by
    have hs : args.size = 4 := by simpa [Cond.value, given_1] using h1
    obtain ⟨L⟩ := args
    match L, hs with
    | [w0, w1, w2, w3], _ => exact ⟨w0, w1, w2, w3, rfl⟩
  have hw := fun d (hd : d ∈ tables_1) => atoms_spec (ws := Jvm.Cond.code x code maxLocals ret :: tables_1) hat d (List.mem_cons_of_mem _ hd)
  have hfit : Fit s := fun {y c} hc i hi => by
    obtain ⟨ha, rfl⟩ := Array.getElem?_eq_some_iff.mp hc
    have q := List.all_eq_true.mp ((Array.all_eq_true_iff_forall_mem.mp hF) _ (Array.getElem_mem ha)) i (List.mem_range.mpr hi)
    simpa [Array.getElem?_eq_getElem hi] using q
  obtain ⟨v0, e0⟩ := isL_v k0
  obtain rfl : w0 = (.long v0) := Option.some.inj e0
  obtain ⟨v1, e1⟩ := isL_v k1
  obtain rfl : w1 = (.long v1) := Option.some.inj e1
  obtain ⟨v2, e2⟩ := isL_v k2
  obtain rfl : w2 = (.long v2) := Option.some.inj e2
  obtain ⟨v3, e3⟩ := is_v g3
  obtain rfl : w3 = (.int v3) := Option.some.inj e3
  obtain ⟨n, o, h1, h2, h3, _, L, rfl, ⟨rfl, N⟩, hq⟩ := rm0 l s _ hw tables_1 v0 v1 v2 v3 s.heap s.heap.size (Nat.le_refl _) p e ha hc hk s m _ below hf ((Spec.applies_iff_loose hf).mp happ).1 ⟨rfl, State.Warmed39.refl s, rfl⟩ trivial
  refine ⟨n, _, h1, h2, h3, hpost _ _ _ _ _ _ ⟨Cond.after_iff.mpr rfl, Cond.after_iff.mpr (eq_i res_at (Term.int_eval (1)) rfl), trivial⟩ ⟨hq.1, hq.2.1, (hq.2.2.sift fun y hy => Or.inr (N y hy)).mono (by decide) (by decide)⟩⟩
theorem main_1_1 : Claimed_1_1 := comes_1 fun _ _ _ _ _ _ h hF => ⟨h.1, hF⟩
theorem main_1_2 : Claimed_1_2 := comes_1 fun _ _ _ _ _ _ h hF => ⟨h.2.1, hF⟩
end Jvm.Pilot.@@N@@
namespace Jvm.Pilot.@@N@@
open Jvm Jvm.ClassFile Sem Op Lib Jvm.Free Jvm.Stand Jvm.Pilot.@@N@@.Jvm.D
/-! MADE BY PROGRAM (witnessworld.py) out of the Statement's table words and the real class files: 9 classes; the members and pool entries that the words name. The judged class is class 1, her method 1. -/
namespace start1
open Jvm.ClassFile
def u (s : String) : CpInfo := .utf8 (stringToUtf16 s)
/-- a pool by its gaps: so many unusable entries, then the entry; so many at the end -/
def gap : Nat → List CpInfo → List CpInfo
  | 0, r => r
  | n + 1, r => .unusable :: gap n r
def poolList (es : List (Nat × CpInfo)) (last : Nat) : List CpInfo := es.foldr (fun e r => gap e.1 (e.2 :: r)) (gap last [])
def pool (es : List (Nat × CpInfo)) (last : Nat) : Array CpInfo := ⟨poolList es last⟩
def fileOf (pool : Array CpInfo) (this : Nat) (attrs : Array Attribute := #[]) (ms : Array MethodInfo := #[]) (fl : Nat := 33) (sup : Nat := 0) (ifs : Array Nat := #[]) (fds : Array FieldInfo := #[]) : ClassFile where
  minorVersion := 0
  majorVersion := 65
  constantPool := pool
  accessFlags := fl
  thisClass := this
  superClass := sup
  interfaces := ifs
  fields := fds
  methods := ms
  attributes := attrs
def plain (name : String) (sup : Option ClassId) : Class where
  name := name
  kind := .ordinary
  loader := none
  accessFlags := 33
  super := sup
  interfaces := #[]
  cf := none
  fields := #[]
  methods := #[]
  instanceTypes := #[]
  staticTypes := #[]
  resolved := #[]
  callSites := []
  init := .initialized
  statics := none
  mirror := none

def pool0 : Array CpInfo := pool [(5, u "<init>"), (0, u "()V"), (1, .class_ 10), (1, u "java/lang/Object")] 113

def k0c0 : Code := { maxStack := 0, maxLocals := 1, code := object_method_1_code, exceptionTable := #[], attributes := #[] }
def k0m0 : Method := { name := "<init>", desc := "()V", sig := { parameters := [], returnType := none }, accessFlags := 1, code := some k0c0 }
/-- java/lang/Object -/
def k0 : Class := { plain "java/lang/Object" none with
  accessFlags := 33
  interfaces := #[]
  cf := some (fileOf pool0 8 #[] #[{ accessFlags := 1, nameIndex := 5, descriptorIndex := 6, attributes := #[] }] 33 0 #[] #[])
  fields := #[]
  methods := #[k0m0]
  instanceTypes := #[]
  staticTypes := #[]
  resolved := Array.replicate 124 none
  statics := none }

def pool1 : Array CpInfo := pool [(2, .class_ 4), (1, u "java/lang/Object"), (0, u "<init>"), (0, u "()V"), (2, .long 9223372036854775807), (1, .class_ 12), (0, u "com/example/rillway/rillway/input/TimeSlide"), (0, .methodref 11 14), (0, .nameAndType 5 15), (0, u "(J)V"), (0, .methodref 11 17), (0, .nameAndType 18 15), (0, u "start"), (0, .methodref 11 20), (0, .nameAndType 21 15), (0, u "resume"), (0, .methodref 11 23), (0, .nameAndType 24 25), (0, u "scheduled"), (0, u "()Z"), (0, .class_ 27), (0, u "com/example/rillway/rillway/input/TimeSlideScheduledPinLaw"), (2, u "law"), (0, u "(JJJI)Z")] 3

def k1m0 : Method := { name := "<init>", desc := "()V", sig := { parameters := [], returnType := none }, accessFlags := 1, code := none }
def k1c1 : Code := { maxStack := 4, maxLocals := 16, code := code, exceptionTable := #[], attributes := #[] }
def k1m1 : Method := { name := "law", desc := "(JJJI)Z", sig := { parameters := [.long, .long, .long, .int], returnType := some .boolean }, accessFlags := 9, code := some k1c1 }
/-- com/example/rillway/rillway/input/TimeSlideScheduledPinLaw -/
def k1 : Class := { plain "com/example/rillway/rillway/input/TimeSlideScheduledPinLaw" (some 0) with
  accessFlags := 49
  interfaces := #[]
  cf := some (fileOf pool1 26 #[] #[{ accessFlags := 1, nameIndex := 5, descriptorIndex := 6, attributes := #[] }, { accessFlags := 9, nameIndex := 30, descriptorIndex := 31, attributes := #[] }] 49 2 #[] #[])
  fields := #[]
  methods := #[k1m0, k1m1]
  instanceTypes := #[]
  staticTypes := #[]
  resolved := Array.replicate 35 none
  statics := none }

def pool2 : Array CpInfo := pool [(1, .methodref 2 3), (0, .class_ 4), (0, .nameAndType 5 6), (0, u "java/lang/Object"), (0, u "<init>"), (0, u "()V"), (0, .fieldref 8 9), (0, .class_ 10), (0, .nameAndType 11 12), (0, u "com/example/rillway/rillway/input/TimeSlide"), (0, u "span"), (0, u "J"), (0, .fieldref 8 14), (0, .nameAndType 15 16), (0, u "started"), (0, u "Z"), (0, .fieldref 8 18), (0, .nameAndType 19 12), (0, u "slidAt"), (2, .long 9223372036854775807), (11, u "start"), (0, u "(J)V"), (2, u "scheduled"), (0, u "()Z"), (2, u "resume")] 9

def k2c0 : Code := { maxStack := 3, maxLocals := 3, code := prog_72_method_1_code, exceptionTable := #[], attributes := #[] }
def k2m0 : Method := { name := "<init>", desc := "(J)V", sig := { parameters := [.long], returnType := none }, accessFlags := 1, code := some k2c0 }
def k2c1 : Code := { maxStack := 3, maxLocals := 3, code := prog_72_method_2_code, exceptionTable := #[], attributes := #[] }
def k2m1 : Method := { name := "resume", desc := "(J)V", sig := { parameters := [.long], returnType := none }, accessFlags := 0, code := some k2c1 }
def k2c2 : Code := { maxStack := 3, maxLocals := 3, code := prog_72_method_3_code, exceptionTable := #[], attributes := #[] }
def k2m2 : Method := { name := "start", desc := "(J)V", sig := { parameters := [.long], returnType := none }, accessFlags := 0, code := some k2c2 }
def k2c3 : Code := { maxStack := 6, maxLocals := 1, code := prog_72_method_5_code, exceptionTable := #[], attributes := #[] }
def k2m3 : Method := { name := "scheduled", desc := "()Z", sig := { parameters := [], returnType := some .boolean }, accessFlags := 0, code := some k2c3 }
/-- com/example/rillway/rillway/input/TimeSlide -/
def k2 : Class := { plain "com/example/rillway/rillway/input/TimeSlide" (some 0) with
  accessFlags := 49
  interfaces := #[]
  cf := some (fileOf pool2 8 #[] #[{ accessFlags := 1, nameIndex := 5, descriptorIndex := 35, attributes := #[] }, { accessFlags := 0, nameIndex := 42, descriptorIndex := 35, attributes := #[] }, { accessFlags := 0, nameIndex := 34, descriptorIndex := 35, attributes := #[] }, { accessFlags := 0, nameIndex := 38, descriptorIndex := 39, attributes := #[] }] 49 2 #[] #[{ accessFlags := 18, nameIndex := 11, descriptorIndex := 12, attributes := #[] }, { accessFlags := 2, nameIndex := 15, descriptorIndex := 16, attributes := #[] }, { accessFlags := 2, nameIndex := 19, descriptorIndex := 12, attributes := #[] }])
  fields := #[{ name := "span", type := .long, accessFlags := 18, slot := 0, constantValue := 0 }, { name := "started", type := .boolean, accessFlags := 2, slot := 1, constantValue := 0 }, { name := "slidAt", type := .long, accessFlags := 2, slot := 2, constantValue := 0 }]
  methods := #[k2m0, k2m1, k2m2, k2m3]
  instanceTypes := #[.long, .boolean, .long]
  staticTypes := #[]
  resolved := Array.replicate 52 none
  statics := none }

def pool3 : Array CpInfo := pool [(1, u "java/lang/Cloneable"), (0, .class_ 1), (0, u "java/lang/Object"), (0, .class_ 3)] 3

/-- java/lang/Cloneable -/
def k3 : Class := { plain "java/lang/Cloneable" (some 0) with
  accessFlags := 1537
  interfaces := #[]
  cf := some (fileOf pool3 2 #[] #[] 1537 4 #[] #[])
  fields := #[]
  methods := #[]
  instanceTypes := #[]
  staticTypes := #[]
  resolved := Array.replicate 8 none
  statics := none }

def pool4 : Array CpInfo := pool [(1, u "java/io/Serializable"), (0, .class_ 1), (0, u "java/lang/Object"), (0, .class_ 3)] 3

/-- java/io/Serializable -/
def k4 : Class := { plain "java/io/Serializable" (some 0) with
  accessFlags := 1537
  interfaces := #[]
  cf := some (fileOf pool4 2 #[] #[] 1537 4 #[] #[])
  fields := #[]
  methods := #[]
  instanceTypes := #[]
  staticTypes := #[]
  resolved := Array.replicate 8 none
  statics := none }

/-- the primitive byte -/
def k5 : Class := { plain "byte" none with kind := .primitive 'B', accessFlags := 0x411 }
/-- [B -/
def k6 : Class := { plain "[B" (some 0) with kind := .array 5 .byte, interfaces := #[3, 4], accessFlags := 1041 }

/-- the primitive int -/
def k7 : Class := { plain "int" none with kind := .primitive 'I', accessFlags := 0x411 }
/-- [I -/
def k8 : Class := { plain "[I" (some 0) with kind := .array 7 .int, interfaces := #[3, 4], accessFlags := 1041 }

def heap : Heap := #[]
def classes : Array Class := #[k0, k1, k2, k3, k4, k5, k6, k7, k8]
def interned : List (Array UInt16 × Addr) := []
def slotsUsed : Nat := 0
def theMethod : MethodId := ⟨1, 1⟩
def args0 : Array Value := #[.long 5, .long 5, .long 5, .int 5]
def aboutOver (below : List Frame) : State where
  vm := { classes := classes, interned := interned.toArray }
  heap := heap
  slotsUsed := slotsUsed
  threads := #[{ frames := .invoking theMethod args0 :: below }]
def below0 : List Frame := [.native { method := ⟨0, 0⟩, args := #[] }]
def about1 : State := aboutOver below0
def p0 : Program := .bare "" "" ""
def e0 : Env := launch0.env 0 0 0
theorem w_frames : about1.frames = Frame.invoking theMethod args0 :: below0 := rfl
set_option maxRecDepth 65536 in
theorem w_args : argsFit about1.vm theMethod args0 = true := by decide +kernel
set_option maxRecDepth 65536 in
theorem w_heap : heapFits about1 = true := by decide +kernel
set_option maxRecDepth 65536 in
theorem w_runnable : about1.curStatus? = some .runnable := by decide +kernel
set_option maxRecDepth 65536 in
theorem w_alone : about1.alone = true := by decide +kernel
set_option maxRecDepth 65536 in
theorem w_named : about1.methodNamed? x = some theMethod := by decide +kernel
set_option maxRecDepth 65536 in
theorem w_hears : about1.hears theMethod below0 = true := by decide +kernel
set_option maxRecDepth 65536 in
theorem w_ripe : about1.ripe theMethod args0 below0 = true := by decide +kernel
theorem w_running : about1.status = .running := rfl
set_option maxRecDepth 65536 in
theorem w_room : about1.hasRoom e0.platform room_1 = true :=
  launch0.hasRoom_least _ room_1 (by decide +kernel) (by decide +kernel) (by decide +kernel) (by decide +kernel) (by decide +kernel) (by decide +kernel)
theorem allAtoms_all (ts : List Jvm.Cond) (a : Array Jvm.Value) (st : Jvm.State) : (allAtoms ts).before a st = ts.all (fun c => c.before a st) := by
  induction ts with
  | nil => rfl
  | cons c t ih =>
    show (Jvm.Cond.and c (allAtoms t)).before a st = _
    rw [Jvm.Cond.before_and, ih, List.all_cons]
def words1 : List Jvm.Cond := Jvm.Cond.code x code maxLocals ret :: tables_1
/-- a 'code' word, met by the world's own term for the bytes: nothing is compared byte by byte -/
theorem code_word {y : MethodName} {bytes : ByteArray} {mx : Nat} {rt : Option FieldType} {a : Array Value} {s : State} {m : MethodId} {meth : Method} {c : Code} (h1 : s.methodNamed? y = some m) (h2 : s.vm.method? m = some meth) (h3 : meth.code = some c) (h4 : c.code = bytes)
    (h5 : (c.maxLocals == mx && c.exceptionTable.isEmpty && decide (c.maxStack ≤ mostOperands) && decide (meth.sig.returnType = rt) && !meth.locks && decide (parseMethodDescriptor y.desc = some meth.sig)) = true) : (Jvm.Cond.code y bytes mx rt).before a s = true := by
  simp only [Bool.and_eq_true, beq_iff_eq, Bool.not_eq_true', decide_eq_true_eq] at h5
  obtain ⟨⟨⟨⟨⟨g1, g2⟩, g3⟩, g4⟩, g5⟩, g6⟩ := h5
  simp [Cond.before, Cond.holds, Cond.value, h1, h2, h3, h4, g1, g2, g3, g4, g5, g6]
def isCode : Jvm.Cond → Bool
  | .code _ _ _ _ => true
  | _ => false
theorem all_split {L : List Jvm.Cond} {P : Jvm.Cond → Bool} (h1 : L.all (fun c => isCode c || P c) = true) (h2 : ∀ c ∈ L.filter isCode, P c = true) : L.all P = true := by
  refine List.all_eq_true.mpr fun c hc => ?_
  have h := List.all_eq_true.mp h1 c hc
  rcases Bool.eq_false_or_eq_true (isCode c) with hi | hi
  · exact h2 c (List.mem_filter.mpr ⟨hc, hi⟩)
  · simpa [hi] using h
set_option maxRecDepth 65536 in
theorem w_c0 : (Jvm.Cond.code x code maxLocals ret).before args0 about1 = true := code_word (m := ⟨1, 1⟩) (meth := k1m1) (c := k1c1) (by decide +kernel) rfl rfl rfl (by decide +kernel)
set_option maxRecDepth 65536 in
theorem w_c1 : (Jvm.Cond.code ({ cls := "com/example/rillway/rillway/input/TimeSlide", name := "<init>", desc := "(J)V" } : Jvm.MethodName) prog_72_method_1_code (3 : Nat) (Option.none : Option Jvm.ClassFile.FieldType)).before args0 about1 = true := code_word (m := ⟨2, 0⟩) (meth := k2m0) (c := k2c0) (by decide +kernel) rfl rfl rfl (by decide +kernel)
set_option maxRecDepth 65536 in
theorem w_c2 : (Jvm.Cond.code ({ cls := "java/lang/Object", name := "<init>", desc := "()V" } : Jvm.MethodName) object_method_1_code (1 : Nat) (Option.none : Option Jvm.ClassFile.FieldType)).before args0 about1 = true := code_word (m := ⟨0, 0⟩) (meth := k0m0) (c := k0c0) (by decide +kernel) rfl rfl rfl (by decide +kernel)
set_option maxRecDepth 65536 in
theorem w_c3 : (Jvm.Cond.code ({ cls := "com/example/rillway/rillway/input/TimeSlide", name := "resume", desc := "(J)V" } : Jvm.MethodName) prog_72_method_2_code (3 : Nat) (Option.none : Option Jvm.ClassFile.FieldType)).before args0 about1 = true := code_word (m := ⟨2, 1⟩) (meth := k2m1) (c := k2c1) (by decide +kernel) rfl rfl rfl (by decide +kernel)
set_option maxRecDepth 65536 in
theorem w_c4 : (Jvm.Cond.code ({ cls := "com/example/rillway/rillway/input/TimeSlide", name := "scheduled", desc := "()Z" } : Jvm.MethodName) prog_72_method_5_code (1 : Nat) (Option.some Jvm.ClassFile.FieldType.boolean)).before args0 about1 = true := code_word (m := ⟨2, 3⟩) (meth := k2m3) (c := k2c3) (by decide +kernel) rfl rfl rfl (by decide +kernel)
set_option maxRecDepth 65536 in
theorem w_c5 : (Jvm.Cond.code ({ cls := "com/example/rillway/rillway/input/TimeSlide", name := "start", desc := "(J)V" } : Jvm.MethodName) prog_72_method_3_code (3 : Nat) (Option.none : Option Jvm.ClassFile.FieldType)).before args0 about1 = true := code_word (m := ⟨2, 2⟩) (meth := k2m2) (c := k2c2) (by decide +kernel) rfl rfl rfl (by decide +kernel)
def codes1 : List Jvm.Cond := [Jvm.Cond.code x code maxLocals ret, Jvm.Cond.code ({ cls := "com/example/rillway/rillway/input/TimeSlide", name := "<init>", desc := "(J)V" } : Jvm.MethodName) prog_72_method_1_code (3 : Nat) (Option.none : Option Jvm.ClassFile.FieldType), Jvm.Cond.code ({ cls := "java/lang/Object", name := "<init>", desc := "()V" } : Jvm.MethodName) object_method_1_code (1 : Nat) (Option.none : Option Jvm.ClassFile.FieldType), Jvm.Cond.code ({ cls := "com/example/rillway/rillway/input/TimeSlide", name := "resume", desc := "(J)V" } : Jvm.MethodName) prog_72_method_2_code (3 : Nat) (Option.none : Option Jvm.ClassFile.FieldType), Jvm.Cond.code ({ cls := "com/example/rillway/rillway/input/TimeSlide", name := "scheduled", desc := "()Z" } : Jvm.MethodName) prog_72_method_5_code (1 : Nat) (Option.some Jvm.ClassFile.FieldType.boolean), Jvm.Cond.code ({ cls := "com/example/rillway/rillway/input/TimeSlide", name := "start", desc := "(J)V" } : Jvm.MethodName) prog_72_method_3_code (3 : Nat) (Option.none : Option Jvm.ClassFile.FieldType)]
set_option maxRecDepth 65536 in
theorem codes_eq : words1.filter isCode = codes1 := rfl
theorem w_codes : ∀ c ∈ words1.filter isCode, c.before args0 about1 = true := by
  rw [codes_eq]
  intro c hc
  simp only [codes1, List.mem_cons, List.not_mem_nil, or_false] at hc
  rcases hc with rfl | rfl | rfl | rfl | rfl | rfl
  · exact w_c0
  · exact w_c1
  · exact w_c2
  · exact w_c3
  · exact w_c4
  · exact w_c5
set_option maxRecDepth 65536 in
theorem w_t1 : (words1.take 24).all (fun c => isCode c || c.before args0 about1) = true := by decide +kernel
set_option maxRecDepth 65536 in
theorem w_t2 : (words1.drop 24).all (fun c => isCode c || c.before args0 about1) = true := by decide +kernel
theorem w_tables : (allAtoms (Jvm.Cond.code x code maxLocals ret :: tables_1)).before args0 about1 = true := by
  rw [allAtoms_all]
  show words1.all (fun c => c.before args0 about1) = true
  refine all_split ?_ w_codes
  rw [← List.take_append_drop 24 words1, List.all_append, w_t1, w_t2]
  rfl
set_option maxRecDepth 65536 in
theorem w_case : (Jvm.Cond.and given_1 narrow_1).before args0 about1 = true := by decide +kernel
theorem w_applies : (headSpec (Jvm.Cond.code x code maxLocals ret :: tables_1) room_1).applies x e0.platform about1 = true :=
  (Spec.applies_iff w_frames).mpr ⟨w_running, w_runnable, w_alone, w_named, w_hears, w_ripe, w_room, w_tables⟩
theorem atStart : AtStart classFile x code maxLocals ret World_1 tables_1 room_1 Calls_1 rest_1 Pre_1 launch0 p0 e0 about1 theMethod args0 below0 :=
  ⟨lists_1, trivial, launch0.admits_env _ _ _, launch0.least_env, fairChoices_fair.cas, fairChoices_fair.clock, w_frames, w_args, w_heap, w_applies, trivial, trivial, w_case⟩
end start1
theorem witness_1 : WitnessClaimed_1 := ⟨start1.p0, start1.e0, start1.about1, start1.theMethod, start1.args0, start1.below0, start1.atStart⟩
end Jvm.Pilot.@@N@@
