import JvmDerived
import JvmDerived.Pilot.@@N@@Statement
import JvmDerived.Pilot.@@N@@Code
set_option linter.unusedVariables false
set_option linter.unusedSimpArgs false
@@BLOCK:NumsL.lean.txt@@
namespace Jvm.Pilot.@@N@@
open Jvm Jvm.ClassFile Sem Op Lib Jvm.Free Jvm.Stand Jvm.LawKit Jvm.RoadKit Bundle Jvm.Pilot.@@N@@.Jvm.D
def Goes (tb : Tables) (e : Env) (below : List Frame) (G : State → Outcome → Prop) (A : State) : Prop := ∃ s₂ o, Steps tb e below A s₂ ∧ s₂.status = .running ∧ Ended s₂ below o ∧ G s₂ o
theorem go {tb : Tables} {e : Env} {below : List Frame} {G : State → Outcome → Prop} {A B : State} (h : ∀ t, Steps tb e below B t → Steps tb e below A t) (k : Goes tb e below G B) : Goes tb e below G A := by
  obtain ⟨s₂, o, h1, h2⟩ := k; exact ⟨s₂, o, h _ h1, h2⟩
theorem goEnd {tb : Tables} {e : Env} {below : List Frame} {G : State → Outcome → Prop} {A B : State} (h : ∀ t, Steps tb e below B t → Steps tb e below A t) (k : Goes tb e below G B) : ∃ s₂ o, Steps tb e below A s₂ ∧ s₂.status = .running ∧ Ended s₂ below o ∧ G s₂ o := go h k
theorem own_sta_keep {Z : State} {h h' : Heap} {C n d K : String} {v : Value} {a : Addr} (S : Sta Z h C n d v) (E : Exa Z h a K) (Kp : Keep h h' [a]) : Sta Z h' C n d v := by
  obtain ⟨cf, i, k, f, st, cell, h1, h2, h3, h4, h5, h6, h7⟩ := S
  obtain ⟨c', k', e1, -, -, e4, -⟩ := E
  refine ⟨cf, i, k, f, st, cell, h1, h2, h3, h4, Kp.2.1 st cell h5 (fun q => ?_), h6, h7⟩
  have q' : st = a := by simpa using q
  subst q'
  cases h5.symm.trans e1
  rw [e4] at h6; cases h6
abbrev iv (x : Int32) : Slot := .val (.int x)
abbrev jv (x : Int64) : Slot := .val (.long x)
abbrev rv (x : Addr) : Slot := .val (.ref x)
abbrev Go (p : Program) (e : Env) (below : List Frame) (G : State → Outcome → Prop) (m : MethodId) (T : State) (pc : Nat) (L : Array Slot) (S : List Value) : Prop := Goes p.tables e below G (T.setTop (mkF m pc L S))
theorem d1_0 : decode jdk_29_method_69_code 0 = .ok (.iload_n 0, 1) := by decide +kernel
theorem d1_1 : decode jdk_29_method_69_code 1 = .ok (.iload_n 1, 1) := by decide +kernel
theorem d1_2 : decode jdk_29_method_69_code 2 = .ok (.if_icmp .gt 7, 3) := by decide +kernel
theorem d1_9 : decode jdk_29_method_69_code 9 = .ok (.iload_n 1, 1) := by decide +kernel
theorem d1_10 : decode jdk_29_method_69_code 10 = .ok (.ireturn, 1) := by decide +kernel
theorem d1_5 : decode jdk_29_method_69_code 5 = .ok (.iload_n 0, 1) := by decide +kernel
theorem d1_6 : decode jdk_29_method_69_code 6 = .ok (.goto 4, 3) := by decide +kernel
def own_min (p0 : Int32) (p1 : Int32) : Int32 := (if p1 < p0 then p1 else p0)
theorem ef_1 (m : MethodId) (p0 : Int32) (p1 : Int32) : entryFrame m #[(.int p0), (.int p1)] 2 = mkF m 0 #[.val (.int p0), .val (.int p1)] [] := by first | (simp [entryFrame, mkF, argsToLocals, Value.category]; done) | rfl
def Q1 (Z : State) (p0 : Int32) (p1 : Int32) (h0 : Heap) (n0 : Nat) (v : Option Value) (h : Heap) (L : List Loc) : Prop := v = some (.int (own_min p0 p1)) ∧ Fr n0 L ∧ h = h0
set_option maxRecDepth 65536 in
set_option maxHeartbeats 40000000 in
theorem rm1 (l : Launch) (Z : State) (a0 : Array Value) (hw : ∀ d ∈ tables_1, d.before a0 Z = true) (ws : List Jvm.Cond) (p0 : Int32) (p1 : Int32) (h0 : Heap) (n0 : Nat) (Z0 : n0 ≤ h0.size)  :
    MetFree l (⟨"java/lang/Math", "min", "(II)I"⟩ : MethodName) (head1 (Jvm.Cond.code (⟨"java/lang/Math", "min", "(II)I"⟩ : MethodName) jdk_29_method_69_code 2 (some .int) :: ws) ({ frames := 0, cells := 0, slots := 0, locals := 0 } : Room)) (fun a U => a = #[(.int p0), (.int p1)] ∧ Z.Warmed39 U.vm ∧ U.heap = h0) (fun _ _ _ _ _ => True) (fun _ U o U' => ∃ v L, o = .returned v ∧ Q1 Z p0 p1 h0 n0 v U'.heap L ∧ FrameEnd U o U' L ({ frames := 0, cells := 0, slots := 0, locals := 0 } : Room).cells ({ frames := 0, cells := 0, slots := 0, locals := 0 } : Room).slots) := by
  refine MetFree.of_bodySF (Jvm.Free.JP.mathPlain rfl (by decide +kernel)) hisR ?_
  intro p e s m args below meth c s₁ Bd hml0 hP hK
  obtain ⟨rfl, hZ, hh⟩ := hP
  have hx := Bd.exec
  have hby := Bd.bytes
  have hml : c.maxLocals = 2 := hml0
  have hown : s.vm.findClass "java/lang/Math" = some m.cls := findClass_of_methodNamed Bd.named
  have hnm := (name_of_methodNamed Bd.named Bd.method).1
  have X0 : Stand p l e ({ frames := 0, cells := 0, slots := 0, locals := 0 } : Room) s m #[(.int p0), (.int p1)] below meth c s₁ [] 0 0 := Stand.of_body Bd
  have e0 : s₁.heap = h0 := by rw [← hh, Bd.state]; rfl
  have N0 := Fr.nil n0
  have K0 := Keep.refl h0 []
  suffices hgo : Goes p.tables e below (fun s₂ o => ∃ v L, o = .returned v ∧ Q1 Z p0 p1 h0 n0 v s₂.heap L ∧ FrameEnd s o s₂ L ({ frames := 0, cells := 0, slots := 0, locals := 0 } : Room).cells ({ frames := 0, cells := 0, slots := 0, locals := 0 } : Room).slots) (s₁.setTop (mkF m 0 #[.val (.int p0), .val (.int p1)] [])) from goEnd (fun t k => castTop (ef_1 m p0 p1) k) hgo
  refine go (fun t kt => XS.iloadN X0.here hx rfl (hb hby d1_0) rfl kt) ?_
  show Goes p.tables e below _ (s₁.setTop (mkF m 1 #[.val (.int p0), .val (.int p1)] [(.int p0)]))
  refine go (fun t kt => XS.iloadN X0.here hx rfl (hb hby d1_1) rfl kt) ?_
  show Goes p.tables e below _ (s₁.setTop (mkF m 2 #[.val (.int p0), .val (.int p1)] [(.int p1), (.int p0)]))
  by_cases hc1 : p1 < p0
  ·
    refine go (fun t kt => XS.icmpYes X0.here hx rfl (pc0 := 2) (pc' := 9) rfl (hb hby d1_2) rfl (tlt hc1).2.2.1 (by decide) (by decide) kt) ?_
    show Goes p.tables e below _ (s₁.setTop (mkF m 9 #[.val (.int p0), .val (.int p1)] []))
    refine go (fun t kt => XS.iloadN X0.here hx rfl (hb hby d1_9) rfl kt) ?_
    show Goes p.tables e below _ (s₁.setTop (mkF m 10 #[.val (.int p0), .val (.int p1)] [(.int p1)]))
    obtain ⟨fs, hr, hrun, hended, hW, hsame⟩ := X0.leave (v := some (.int p1)) (fun h => by rw [Bd.returns] at h; cases h)
    refine ⟨_, _, retOut X0 hx (i := .ireturn) Bd.returns rfl (Or.inl ⟨rfl, Or.inl rfl, _, rfl⟩) (hb hby d1_10) hr, hrun, hended, _, _, rfl, ?_, ⟨_, rfl⟩, hW, hsame.mono (by decide) (by decide)⟩
    show Q1 Z p0 p1 h0 n0 _ s₁.heap _
    rw [e0]
    exact ⟨(by unfold own_min; rw [if_pos hc1]), N0, rfl⟩
  ·
    refine go (fun t kt => XS.icmpNo X0.here hx rfl (hb hby d1_2) rfl (flt hc1).2.2.1 kt) ?_
    show Goes p.tables e below _ (s₁.setTop (mkF m 5 #[.val (.int p0), .val (.int p1)] []))
    refine go (fun t kt => XS.iloadN X0.here hx rfl (hb hby d1_5) rfl kt) ?_
    show Goes p.tables e below _ (s₁.setTop (mkF m 6 #[.val (.int p0), .val (.int p1)] [(.int p0)]))
    refine go (fun t kt => XS.goto X0.here hx rfl (pc0 := 6) (pc' := 10) rfl (hb hby d1_6) (by decide) (by decide) kt) ?_
    show Goes p.tables e below _ (s₁.setTop (mkF m 10 #[.val (.int p0), .val (.int p1)] [(.int p0)]))
    obtain ⟨fs, hr, hrun, hended, hW, hsame⟩ := X0.leave (v := some (.int p0)) (fun h => by rw [Bd.returns] at h; cases h)
    refine ⟨_, _, retOut X0 hx (i := .ireturn) Bd.returns rfl (Or.inl ⟨rfl, Or.inl rfl, _, rfl⟩) (hb hby d1_10) hr, hrun, hended, _, _, rfl, ?_, ⟨_, rfl⟩, hW, hsame.mono (by decide) (by decide)⟩
    show Q1 Z p0 p1 h0 n0 _ s₁.heap _
    rw [e0]
    exact ⟨(by unfold own_min; rw [if_neg hc1]), N0, rfl⟩
theorem d2_0 : decode jdk_29_method_65_code 0 = .ok (.iload_n 0, 1) := by decide +kernel
theorem d2_1 : decode jdk_29_method_65_code 1 = .ok (.iload_n 1, 1) := by decide +kernel
theorem d2_2 : decode jdk_29_method_65_code 2 = .ok (.if_icmp .lt 7, 3) := by decide +kernel
theorem d2_9 : decode jdk_29_method_65_code 9 = .ok (.iload_n 1, 1) := by decide +kernel
theorem d2_10 : decode jdk_29_method_65_code 10 = .ok (.ireturn, 1) := by decide +kernel
theorem d2_5 : decode jdk_29_method_65_code 5 = .ok (.iload_n 0, 1) := by decide +kernel
theorem d2_6 : decode jdk_29_method_65_code 6 = .ok (.goto 4, 3) := by decide +kernel
def own_max (p0 : Int32) (p1 : Int32) : Int32 := (if p0 < p1 then p1 else p0)
theorem ef_2 (m : MethodId) (p0 : Int32) (p1 : Int32) : entryFrame m #[(.int p0), (.int p1)] 2 = mkF m 0 #[.val (.int p0), .val (.int p1)] [] := by first | (simp [entryFrame, mkF, argsToLocals, Value.category]; done) | rfl
def Q2 (Z : State) (p0 : Int32) (p1 : Int32) (h0 : Heap) (n0 : Nat) (v : Option Value) (h : Heap) (L : List Loc) : Prop := v = some (.int (own_max p0 p1)) ∧ Fr n0 L ∧ h = h0
set_option maxRecDepth 65536 in
set_option maxHeartbeats 40000000 in
theorem rm2 (l : Launch) (Z : State) (a0 : Array Value) (hw : ∀ d ∈ tables_1, d.before a0 Z = true) (ws : List Jvm.Cond) (p0 : Int32) (p1 : Int32) (h0 : Heap) (n0 : Nat) (Z0 : n0 ≤ h0.size)  :
    MetFree l (⟨"java/lang/Math", "max", "(II)I"⟩ : MethodName) (head1 (Jvm.Cond.code (⟨"java/lang/Math", "max", "(II)I"⟩ : MethodName) jdk_29_method_65_code 2 (some .int) :: ws) ({ frames := 0, cells := 0, slots := 0, locals := 0 } : Room)) (fun a U => a = #[(.int p0), (.int p1)] ∧ Z.Warmed39 U.vm ∧ U.heap = h0) (fun _ _ _ _ _ => True) (fun _ U o U' => ∃ v L, o = .returned v ∧ Q2 Z p0 p1 h0 n0 v U'.heap L ∧ FrameEnd U o U' L ({ frames := 0, cells := 0, slots := 0, locals := 0 } : Room).cells ({ frames := 0, cells := 0, slots := 0, locals := 0 } : Room).slots) := by
  refine MetFree.of_bodySF (Jvm.Free.JP.mathPlain rfl (by decide +kernel)) hisR ?_
  intro p e s m args below meth c s₁ Bd hml0 hP hK
  obtain ⟨rfl, hZ, hh⟩ := hP
  have hx := Bd.exec
  have hby := Bd.bytes
  have hml : c.maxLocals = 2 := hml0
  have hown : s.vm.findClass "java/lang/Math" = some m.cls := findClass_of_methodNamed Bd.named
  have hnm := (name_of_methodNamed Bd.named Bd.method).1
  have X0 : Stand p l e ({ frames := 0, cells := 0, slots := 0, locals := 0 } : Room) s m #[(.int p0), (.int p1)] below meth c s₁ [] 0 0 := Stand.of_body Bd
  have e0 : s₁.heap = h0 := by rw [← hh, Bd.state]; rfl
  have N0 := Fr.nil n0
  have K0 := Keep.refl h0 []
  suffices hgo : Goes p.tables e below (fun s₂ o => ∃ v L, o = .returned v ∧ Q2 Z p0 p1 h0 n0 v s₂.heap L ∧ FrameEnd s o s₂ L ({ frames := 0, cells := 0, slots := 0, locals := 0 } : Room).cells ({ frames := 0, cells := 0, slots := 0, locals := 0 } : Room).slots) (s₁.setTop (mkF m 0 #[.val (.int p0), .val (.int p1)] [])) from goEnd (fun t k => castTop (ef_2 m p0 p1) k) hgo
  refine go (fun t kt => XS.iloadN X0.here hx rfl (hb hby d2_0) rfl kt) ?_
  show Goes p.tables e below _ (s₁.setTop (mkF m 1 #[.val (.int p0), .val (.int p1)] [(.int p0)]))
  refine go (fun t kt => XS.iloadN X0.here hx rfl (hb hby d2_1) rfl kt) ?_
  show Goes p.tables e below _ (s₁.setTop (mkF m 2 #[.val (.int p0), .val (.int p1)] [(.int p1), (.int p0)]))
  by_cases hc1 : p0 < p1
  ·
    refine go (fun t kt => XS.icmpYes X0.here hx rfl (pc0 := 2) (pc' := 9) rfl (hb hby d2_2) rfl (tlt hc1).1 (by decide) (by decide) kt) ?_
    show Goes p.tables e below _ (s₁.setTop (mkF m 9 #[.val (.int p0), .val (.int p1)] []))
    refine go (fun t kt => XS.iloadN X0.here hx rfl (hb hby d2_9) rfl kt) ?_
    show Goes p.tables e below _ (s₁.setTop (mkF m 10 #[.val (.int p0), .val (.int p1)] [(.int p1)]))
    obtain ⟨fs, hr, hrun, hended, hW, hsame⟩ := X0.leave (v := some (.int p1)) (fun h => by rw [Bd.returns] at h; cases h)
    refine ⟨_, _, retOut X0 hx (i := .ireturn) Bd.returns rfl (Or.inl ⟨rfl, Or.inl rfl, _, rfl⟩) (hb hby d2_10) hr, hrun, hended, _, _, rfl, ?_, ⟨_, rfl⟩, hW, hsame.mono (by decide) (by decide)⟩
    show Q2 Z p0 p1 h0 n0 _ s₁.heap _
    rw [e0]
    exact ⟨(by unfold own_max; rw [if_pos hc1]), N0, rfl⟩
  ·
    refine go (fun t kt => XS.icmpNo X0.here hx rfl (hb hby d2_2) rfl (flt hc1).1 kt) ?_
    show Goes p.tables e below _ (s₁.setTop (mkF m 5 #[.val (.int p0), .val (.int p1)] []))
    refine go (fun t kt => XS.iloadN X0.here hx rfl (hb hby d2_5) rfl kt) ?_
    show Goes p.tables e below _ (s₁.setTop (mkF m 6 #[.val (.int p0), .val (.int p1)] [(.int p0)]))
    refine go (fun t kt => XS.goto X0.here hx rfl (pc0 := 6) (pc' := 10) rfl (hb hby d2_6) (by decide) (by decide) kt) ?_
    show Goes p.tables e below _ (s₁.setTop (mkF m 10 #[.val (.int p0), .val (.int p1)] [(.int p0)]))
    obtain ⟨fs, hr, hrun, hended, hW, hsame⟩ := X0.leave (v := some (.int p0)) (fun h => by rw [Bd.returns] at h; cases h)
    refine ⟨_, _, retOut X0 hx (i := .ireturn) Bd.returns rfl (Or.inl ⟨rfl, Or.inl rfl, _, rfl⟩) (hb hby d2_10) hr, hrun, hended, _, _, rfl, ?_, ⟨_, rfl⟩, hW, hsame.mono (by decide) (by decide)⟩
    show Q2 Z p0 p1 h0 n0 _ s₁.heap _
    rw [e0]
    exact ⟨(by unfold own_max; rw [if_neg hc1]), N0, rfl⟩
theorem d4_0 : decode prog_22_method_1_code 0 = .ok (.aload_n 0, 1) := by decide +kernel
theorem d4_1 : decode prog_22_method_1_code 1 = .ok (.invokespecial 1, 3) := by decide +kernel
theorem d4_4 : decode prog_22_method_1_code 4 = .ok (.aload_n 0, 1) := by decide +kernel
theorem d4_5 : decode prog_22_method_1_code 5 = .ok (.iload_n 1, 1) := by decide +kernel
theorem d4_6 : decode prog_22_method_1_code 6 = .ok (.putfield 7, 3) := by decide +kernel
theorem d4_9 : decode prog_22_method_1_code 9 = .ok (.aload_n 0, 1) := by decide +kernel
theorem d4_10 : decode prog_22_method_1_code 10 = .ok (.iload_n 2, 1) := by decide +kernel
theorem d4_11 : decode prog_22_method_1_code 11 = .ok (.putfield 13, 3) := by decide +kernel
theorem d4_14 : decode prog_22_method_1_code 14 = .ok (.return_, 1) := by decide +kernel
theorem pn_3 : plainName "com/example/terraschema/terraschema/model/Multiplicity" = true := by first | (simp [plainName, overriddenIn]; done) | decide +kernel
theorem ef_4 (m : MethodId) (o0 : Addr) (p1 : Int32) (p2 : Int32) : entryFrame m #[(.ref o0), (.int p1), (.int p2)] 3 = mkF m 0 #[.val (.ref o0), .val (.int p1), .val (.int p2)] [] := by first | (simp [entryFrame, mkF, argsToLocals, Value.category]; done) | rfl
def Q4 (Z : State) (o0 : Addr) (p1 : Int32) (p2 : Int32) (u1 : Value) (u2 : Value) (h0 : Heap) (n0 : Nat) (v : Option Value) (h : Heap) (L : List Loc) : Prop := v = none ∧ Fr n0 L ∧ Keep h0 h [o0] ∧ Exa Z h o0 "com/example/terraschema/terraschema/model/Multiplicity" ∧ Fld Z h o0 "com/example/terraschema/terraschema/model/Multiplicity" "lower" "I" (.int p1) ∧ Fld Z h o0 "com/example/terraschema/terraschema/model/Multiplicity" "upper" "I" (.int p2)
set_option maxRecDepth 65536 in
set_option maxHeartbeats 40000000 in
theorem rm4 (l : Launch) (Z : State) (a0 : Array Value) (hw : ∀ d ∈ tables_1, d.before a0 Z = true) (ws : List Jvm.Cond) (o0 : Addr) (p1 : Int32) (p2 : Int32) (u1 : Value) (u2 : Value) (h0 : Heap) (n0 : Nat) (Z0 : n0 ≤ h0.size) (E_o0 : Exa Z h0 o0 "com/example/terraschema/terraschema/model/Multiplicity") (F_lower_o0 : Fld Z h0 o0 "com/example/terraschema/terraschema/model/Multiplicity" "lower" "I" u1) (F_upper_o0 : Fld Z h0 o0 "com/example/terraschema/terraschema/model/Multiplicity" "upper" "I" u2) (g_o0 : n0 ≤ o0) :
    MetFree l (⟨"com/example/terraschema/terraschema/model/Multiplicity", "<init>", "(II)V"⟩ : MethodName) (head1 (Jvm.Cond.code (⟨"com/example/terraschema/terraschema/model/Multiplicity", "<init>", "(II)V"⟩ : MethodName) prog_22_method_1_code 3 none :: ws) ({ frames := 1, cells := 0, slots := 0, locals := 12 } : Room)) (fun a U => a = #[(.ref o0), (.int p1), (.int p2)] ∧ Z.Warmed39 U.vm ∧ U.heap = h0) (fun _ _ _ _ _ => True) (fun _ U o U' => ∃ v L, o = .returned v ∧ Q4 Z o0 p1 p2 u1 u2 h0 n0 v U'.heap L ∧ FrameEnd U o U' L ({ frames := 1, cells := 0, slots := 0, locals := 12 } : Room).cells ({ frames := 1, cells := 0, slots := 0, locals := 12 } : Room).slots) := by
  refine MetFree.of_bodySF (plainFor_of_name pn_3) hisR ?_
  intro p e s m args below meth c s₁ Bd hml0 hP hK
  obtain ⟨rfl, hZ, hh⟩ := hP
  have hx := Bd.exec
  have hby := Bd.bytes
  have hml : c.maxLocals = 3 := hml0
  have hown : s.vm.findClass "com/example/terraschema/terraschema/model/Multiplicity" = some m.cls := findClass_of_methodNamed Bd.named
  have hnm := (name_of_methodNamed Bd.named Bd.method).1
  have X0 : Stand p l e ({ frames := 1, cells := 0, slots := 0, locals := 12 } : Room) s m #[(.ref o0), (.int p1), (.int p2)] below meth c s₁ [] 0 0 := Stand.of_body Bd
  have e0 : s₁.heap = h0 := by rw [← hh, Bd.state]; rfl
  have N0 := Fr.nil n0
  have K0 := Keep.refl h0 [o0]
  suffices hgo : Goes p.tables e below (fun s₂ o => ∃ v L, o = .returned v ∧ Q4 Z o0 p1 p2 u1 u2 h0 n0 v s₂.heap L ∧ FrameEnd s o s₂ L ({ frames := 1, cells := 0, slots := 0, locals := 12 } : Room).cells ({ frames := 1, cells := 0, slots := 0, locals := 12 } : Room).slots) (s₁.setTop (mkF m 0 #[.val (.ref o0), .val (.int p1), .val (.int p2)] [])) from goEnd (fun t k => castTop (ef_4 m o0 p1 p2) k) hgo
  refine go (fun t kt => XS.aloadN X0.here hx rfl (hb hby d4_0) rfl rfl kt) ?_
  show Goes p.tables e below _ (s₁.setTop (mkF m 1 #[.val (.ref o0), .val (.int p1), .val (.int p2)] [(.ref o0)]))
  obtain ⟨T1, X1, e1, st1⟩ := initO X0 hx hZ hown (hw _ (List.mem_of_getElem? (i := 17) rfl)) (hw _ (List.mem_of_getElem? (i := 18) rfl)) (hw _ (List.mem_of_getElem? (i := 19) rfl)) e0 (g := (mkF m 1 #[.val (.ref o0), .val (.int p1), .val (.int p2)] [(.ref o0)])) rfl (by rw [hml]; rfl) rfl (hb hby d4_1) (by decide) (W := 0) (by show 2 * 0 + _ ≤ _; exact Nat.le_of_eq rfl) (by decide)
  refine go st1 ?_
  show Goes p.tables e below _ (T1.setTop (mkF m 4 #[.val (.ref o0), .val (.int p1), .val (.int p2)] []))
  refine go (fun t kt => XS.aloadN X1.here hx rfl (hb hby d4_4) rfl rfl kt) ?_
  show Goes p.tables e below _ (T1.setTop (mkF m 5 #[.val (.ref o0), .val (.int p1), .val (.int p2)] [(.ref o0)]))
  refine go (fun t kt => XS.iloadN X1.here hx rfl (hb hby d4_5) rfl kt) ?_
  show Goes p.tables e below _ (T1.setTop (mkF m 6 #[.val (.ref o0), .val (.int p1), .val (.int p2)] [(.int p1), (.ref o0)]))
  obtain ⟨T2, h2, X2, e2, W2, st2⟩ := putF X1 hx hZ hown (host := "") (Or.inl (hw _ (List.mem_of_getElem? (i := 20) rfl))) Via.refl e1 F_lower_o0 E_o0 (Or.inr ⟨(hw _ (List.mem_of_getElem? (i := 21) rfl)), rfl, hnm⟩) (hw _ (List.mem_of_getElem? (i := 13) rfl)) (ty := .int) (by decide) rfl rfl (g := (mkF m 6 #[.val (.ref o0), .val (.int p1), .val (.int p2)] [(.int p1), (.ref o0)])) rfl rfl (hb hby d4_6)
  replace F_lower_o0 := F_lower_o0.same W2
  replace E_o0 := E_o0.wr W2
  replace F_upper_o0 := F_upper_o0.other W2 (Or.inr (slot_ne (Or.inr (hw _ (List.mem_of_getElem? (i := 23) rfl))) (Or.inr (hw _ (List.mem_of_getElem? (i := 21) rfl))) (by decide) (t := .int) (t' := .int) (by decide) (by decide)))
  have Zz2 := Nat.le_trans Z0 (Keep.of_wr W2).1
  have Kk2 := K0.wr W2 (Or.inl (List.mem_of_getElem? (i := 0) rfl))
  have N2 := Fr.snoc X2 N0 g_o0
  refine go st2 ?_
  show Goes p.tables e below _ (T2.setTop (mkF m 9 #[.val (.ref o0), .val (.int p1), .val (.int p2)] []))
  refine go (fun t kt => XS.aloadN X2.here hx rfl (hb hby d4_9) rfl rfl kt) ?_
  show Goes p.tables e below _ (T2.setTop (mkF m 10 #[.val (.ref o0), .val (.int p1), .val (.int p2)] [(.ref o0)]))
  refine go (fun t kt => XS.iloadN X2.here hx rfl (hb hby d4_10) rfl kt) ?_
  show Goes p.tables e below _ (T2.setTop (mkF m 11 #[.val (.ref o0), .val (.int p1), .val (.int p2)] [(.int p2), (.ref o0)]))
  obtain ⟨T3, h3, X3, e3, W3, st3⟩ := putF X2 hx hZ hown (host := "") (Or.inl (hw _ (List.mem_of_getElem? (i := 22) rfl))) Via.refl e2 F_upper_o0 E_o0 (Or.inr ⟨(hw _ (List.mem_of_getElem? (i := 23) rfl)), rfl, hnm⟩) (hw _ (List.mem_of_getElem? (i := 13) rfl)) (ty := .int) (by decide) rfl rfl (g := (mkF m 11 #[.val (.ref o0), .val (.int p1), .val (.int p2)] [(.int p2), (.ref o0)])) rfl rfl (hb hby d4_11)
  replace F_upper_o0 := F_upper_o0.same W3
  replace E_o0 := E_o0.wr W3
  replace F_lower_o0 := F_lower_o0.other W3 (Or.inr (slot_ne (Or.inr (hw _ (List.mem_of_getElem? (i := 21) rfl))) (Or.inr (hw _ (List.mem_of_getElem? (i := 23) rfl))) (by decide) (t := .int) (t' := .int) (by decide) (by decide)))
  have Zz3 := Nat.le_trans Zz2 (Keep.of_wr W3).1
  have Kk3 := Kk2.wr W3 (Or.inl (List.mem_of_getElem? (i := 0) rfl))
  have N3 := Fr.snoc X3 N2 g_o0
  refine go st3 ?_
  show Goes p.tables e below _ (T3.setTop (mkF m 14 #[.val (.ref o0), .val (.int p1), .val (.int p2)] []))
  obtain ⟨fs, hr, hrun, hended, hW, hsame⟩ := X3.leave (v := none) (fun _ => rfl)
  refine ⟨_, _, X3.returnOut hx Bd.returns (hb hby d4_14) hr, hrun, hended, _, _, rfl, ?_, ⟨_, rfl⟩, hW, hsame.mono (by decide) (by decide)⟩
  show Q4 Z o0 p1 p2 u1 u2 h0 n0 _ T3.heap _
  rw [e3]
  exact ⟨rfl, N3, Kk3, E_o0, F_lower_o0, F_upper_o0⟩
theorem d3_0 : decode prog_22_method_2_code 0 = .ok (.iload_n 0, 1) := by decide +kernel
theorem d3_1 : decode prog_22_method_2_code 1 = .ok (.ifCond .lt 8, 3) := by decide +kernel
theorem d3_4 : decode prog_22_method_2_code 4 = .ok (.iload_n 1, 1) := by decide +kernel
theorem d3_5 : decode prog_22_method_2_code 5 = .ok (.iload_n 0, 1) := by decide +kernel
theorem d3_6 : decode prog_22_method_2_code 6 = .ok (.if_icmp .ge 18, 3) := by decide +kernel
theorem d3_24 : decode prog_22_method_2_code 24 = .ok (.new 8, 3) := by decide +kernel
theorem d3_27 : decode prog_22_method_2_code 27 = .ok (.dup, 1) := by decide +kernel
theorem d3_28 : decode prog_22_method_2_code 28 = .ok (.iload_n 0, 1) := by decide +kernel
theorem d3_29 : decode prog_22_method_2_code 29 = .ok (.iload_n 1, 1) := by decide +kernel
theorem pd_0 : parseMethodDescriptor "(II)V" = some ⟨[.int, .int], none⟩ := by decide +kernel
theorem d3_30 : decode prog_22_method_2_code 30 = .ok (.invokespecial 25, 3) := by decide +kernel
theorem d3_33 : decode prog_22_method_2_code 33 = .ok (.areturn, 1) := by decide +kernel
theorem ef_3 (m : MethodId) (p0 : Int32) (p1 : Int32) : entryFrame m #[(.int p0), (.int p1)] 2 = mkF m 0 #[.val (.int p0), .val (.int p1)] [] := by first | (simp [entryFrame, mkF, argsToLocals, Value.category]; done) | rfl
def Q3 (Z : State) (p0 : Int32) (p1 : Int32) (h0 : Heap) (n0 : Nat) (v : Option Value) (h : Heap) (L : List Loc) : Prop := v = some (.ref h0.size) ∧ Fr n0 L ∧ Keep h0 h [] ∧ Exa Z h h0.size "com/example/terraschema/terraschema/model/Multiplicity" ∧ Fld Z h h0.size "com/example/terraschema/terraschema/model/Multiplicity" "lower" "I" (.int p0) ∧ Fld Z h h0.size "com/example/terraschema/terraschema/model/Multiplicity" "upper" "I" (.int p1)
set_option maxRecDepth 65536 in
set_option maxHeartbeats 40000000 in
theorem rm3 (l : Launch) (Z : State) (a0 : Array Value) (hw : ∀ d ∈ tables_1, d.before a0 Z = true) (ws : List Jvm.Cond) (p0 : Int32) (p1 : Int32) (h0 : Heap) (n0 : Nat) (Z0 : n0 ≤ h0.size) (hp : ¬ p0 < 0) (hq : ¬ p1 < p0) :
    MetFree l (⟨"com/example/terraschema/terraschema/model/Multiplicity", "bounded", "(II)Lcom/example/terraschema/terraschema/model/Multiplicity;"⟩ : MethodName) (head1 (Jvm.Cond.code (⟨"com/example/terraschema/terraschema/model/Multiplicity", "bounded", "(II)Lcom/example/terraschema/terraschema/model/Multiplicity;"⟩ : MethodName) prog_22_method_2_code 2 (some (.object "com/example/terraschema/terraschema/model/Multiplicity")) :: ws) ({ frames := 2, cells := 1, slots := 2, locals := 27 } : Room)) (fun a U => a = #[(.int p0), (.int p1)] ∧ Z.Warmed39 U.vm ∧ U.heap = h0) (fun _ _ _ _ _ => True) (fun _ U o U' => ∃ v L, o = .returned v ∧ Q3 Z p0 p1 h0 n0 v U'.heap L ∧ FrameEnd U o U' L ({ frames := 2, cells := 1, slots := 2, locals := 27 } : Room).cells ({ frames := 2, cells := 1, slots := 2, locals := 27 } : Room).slots) := by
  refine MetFree.of_bodySF (plainFor_of_name pn_3) hisR ?_
  intro p e s m args below meth c s₁ Bd hml0 hP hK
  obtain ⟨rfl, hZ, hh⟩ := hP
  have hx := Bd.exec
  have hby := Bd.bytes
  have hml : c.maxLocals = 2 := hml0
  have hown : s.vm.findClass "com/example/terraschema/terraschema/model/Multiplicity" = some m.cls := findClass_of_methodNamed Bd.named
  have hnm := (name_of_methodNamed Bd.named Bd.method).1
  have X0 : Stand p l e ({ frames := 2, cells := 1, slots := 2, locals := 27 } : Room) s m #[(.int p0), (.int p1)] below meth c s₁ [] 0 0 := Stand.of_body Bd
  have e0 : s₁.heap = h0 := by rw [← hh, Bd.state]; rfl
  have N0 := Fr.nil n0
  have K0 := Keep.refl h0 []
  suffices hgo : Goes p.tables e below (fun s₂ o => ∃ v L, o = .returned v ∧ Q3 Z p0 p1 h0 n0 v s₂.heap L ∧ FrameEnd s o s₂ L ({ frames := 2, cells := 1, slots := 2, locals := 27 } : Room).cells ({ frames := 2, cells := 1, slots := 2, locals := 27 } : Room).slots) (s₁.setTop (mkF m 0 #[.val (.int p0), .val (.int p1)] [])) from goEnd (fun t k => castTop (ef_3 m p0 p1) k) hgo
  refine go (fun t kt => XS.iloadN X0.here hx rfl (hb hby d3_0) rfl kt) ?_
  show Goes p.tables e below _ (s₁.setTop (mkF m 1 #[.val (.int p0), .val (.int p1)] [(.int p0)]))
  refine go (fun t kt => XS.ifNo X0.here hx rfl (hb hby d3_1) rfl ((if0 _ _).trans (flt hp).1) kt) ?_
  show Goes p.tables e below _ (s₁.setTop (mkF m 4 #[.val (.int p0), .val (.int p1)] []))
  refine go (fun t kt => XS.iloadN X0.here hx rfl (hb hby d3_4) rfl kt) ?_
  show Goes p.tables e below _ (s₁.setTop (mkF m 5 #[.val (.int p0), .val (.int p1)] [(.int p1)]))
  refine go (fun t kt => XS.iloadN X0.here hx rfl (hb hby d3_5) rfl kt) ?_
  show Goes p.tables e below _ (s₁.setTop (mkF m 6 #[.val (.int p0), .val (.int p1)] [(.int p0), (.int p1)]))
  refine go (fun t kt => XS.icmpYes X0.here hx rfl (pc0 := 6) (pc' := 24) rfl (hb hby d3_6) rfl (flt hq).2.1 (by decide) (by decide) kt) ?_
  show Goes p.tables e below _ (s₁.setTop (mkF m 24 #[.val (.int p0), .val (.int p1)] []))
  obtain ⟨T1, h1, X1, e1, E1, A1, D1, -, st1⟩ := newO X0 hx hZ hown (hw _ (List.mem_of_getElem? (i := 12) rfl)) (hw _ (List.mem_of_getElem? (i := 13) rfl)) (hw _ (List.mem_of_getElem? (i := 10) rfl)) e0 (g := (mkF m 24 #[.val (.int p0), .val (.int p1)] [])) rfl (hb hby d3_24) (by decide) (by decide)
  obtain ⟨b1, g1⟩ : ∃ z, z = h0.size := ⟨_, rfl⟩
  rw [← g1] at A1 D1 st1
  have g_b1 : n0 ≤ b1 := Nat.le_trans Z0 (Nat.le_of_eq g1.symm)
  have sz_b1 : h0.size ≤ b1 := Nat.le_trans K0.1 (Nat.le_of_eq g1.symm)
  have Zz1 := Nat.le_trans Z0 E1.1
  have Kk1 := K0.ext E1
  have E_b1 := A1
  have F_lower_b1 : Fld Z h1 b1 "com/example/terraschema/terraschema/model/Multiplicity" "lower" "I" (.int (0 : Int32)) := D1 (Or.inr (hw _ (List.mem_of_getElem? (i := 21) rfl))) (ty := .int) (by decide)
  have F_upper_b1 : Fld Z h1 b1 "com/example/terraschema/terraschema/model/Multiplicity" "upper" "I" (.int (0 : Int32)) := D1 (Or.inr (hw _ (List.mem_of_getElem? (i := 23) rfl))) (ty := .int) (by decide)
  refine go st1 ?_
  show Goes p.tables e below _ (T1.setTop (mkF m 27 #[.val (.int p0), .val (.int p1)] [(.ref b1)]))
  refine go (fun t kt => XS.dup X1.here hx rfl (hb hby d3_27) rfl rfl kt) ?_
  show Goes p.tables e below _ (T1.setTop (mkF m 28 #[.val (.int p0), .val (.int p1)] [(.ref b1), (.ref b1)]))
  refine go (fun t kt => XS.iloadN X1.here hx rfl (hb hby d3_28) rfl kt) ?_
  show Goes p.tables e below _ (T1.setTop (mkF m 29 #[.val (.int p0), .val (.int p1)] [(.int p0), (.ref b1), (.ref b1)]))
  refine go (fun t kt => XS.iloadN X1.here hx rfl (hb hby d3_29) rfl kt) ?_
  show Goes p.tables e below _ (T1.setTop (mkF m 30 #[.val (.int p0), .val (.int p1)] [(.int p1), (.int p0), (.ref b1), (.ref b1)]))
  obtain ⟨_, _, ⟨T2, L2, k2, n2⟩, -, X2, ⟨Lc2, hQ2, l2, y2, z2⟩, st2⟩ := X1.specialBack hx (y := (⟨"com/example/terraschema/terraschema/model/Multiplicity", "<init>", "(II)V"⟩ : MethodName)) rfl hown (mvT hZ (hw _ (List.mem_of_getElem? (i := 14) rfl))) (mvT hZ (hw _ (List.mem_of_getElem? (i := 15) rfl))) (mvT hZ (hw _ (List.mem_of_getElem? (i := 16) rfl))) (by decide) (backOf (W := 1) (rm4 l Z a0 hw [] b1 p0 p1 (.int (0 : Int32)) (.int (0 : Int32)) h1 n0 Zz1 E_b1 F_lower_b1 F_upper_b1 g_b1) hZ (hw _ (List.mem_of_getElem? (i := 16) rfl)) (hw _ (List.mem_of_getElem? (i := 10) rfl)) (by decide) (by decide)) (g := (mkF m 30 #[.val (.int p0), .val (.int p1)] [(.int p1), (.int p0), (.ref b1), (.ref b1)])) rfl (by rw [hml]; rfl) (Steps.refl _) (a := b1) (argsL := [(.int p0), (.int p1)]) (rest := [(.ref b1)]) (lenOf pd_0 rfl) rfl (by show 2 * 0 + _ ≤ _; exact Nat.le_of_eq rfl) (hb hby d3_30) (fun _ _ => ⟨rfl, e1, (by decide : 1 + 0 ≤ _), (by decide : 2 + 0 ≤ _)⟩)
  dsimp only [Pt.U, Pt.locs, Pt.cells, Pt.slots] at X2 l2 y2 z2 st2 hQ2
  subst l2 y2 z2
  obtain ⟨rfl, Nq2, Kq2, Eq2_o0, Fq2_lower_o0, Fq2_upper_o0⟩ := hQ2
  replace E_b1 := E_b1.keep Kq2
  clear F_lower_b1
  clear F_upper_b1
  have Zz2 := Nat.le_trans Zz1 Kq2.1
  have Kk2 := Kk1.trans Kq2 (allS (Or.inr sz_b1) all0)
  have E_b1 := Eq2_o0
  have F_lower_b1 := Fq2_lower_o0
  have F_upper_b1 := Fq2_upper_o0
  have N2 := Fr.app N0 Nq2
  refine go (fun t kt => st2.trans kt) ?_
  show Goes p.tables e below _ (T2.setTop (mkF m 33 #[.val (.int p0), .val (.int p1)] [(.ref b1)]))
  obtain ⟨fs, hr, hrun, hended, hW, hsame⟩ := X2.leave (v := some (.ref b1)) (fun h => by rw [Bd.returns] at h; cases h)
  refine ⟨_, _, retOut X2 hx (i := .areturn) Bd.returns rfl (Or.inr (Or.inr (Or.inr (Or.inr ⟨rfl, rfl, rfl⟩)))) (hb hby d3_33) hr, hrun, hended, _, _, rfl, ?_, ⟨_, rfl⟩, hW, hsame.mono (by decide) (by decide)⟩
  show Q3 Z p0 p1 h0 n0 _ T2.heap _
  subst g1
  exact ⟨rfl, N2, Kk2, E_b1, F_lower_b1, F_upper_b1⟩
theorem d6_0 : decode prog_22_method_4_code 0 = .ok (.aload_n 0, 1) := by decide +kernel
theorem d6_1 : decode prog_22_method_4_code 1 = .ok (.getfield 7, 3) := by decide +kernel
theorem d6_4 : decode prog_22_method_4_code 4 = .ok (.ireturn, 1) := by decide +kernel
def own_lower (w1 : Int32) : Int32 := w1
theorem ef_6 (m : MethodId) (o0 : Addr) : entryFrame m #[(.ref o0)] 1 = mkF m 0 #[.val (.ref o0)] [] := by first | (simp [entryFrame, mkF, argsToLocals, Value.category]; done) | rfl
def Q6 (Z : State) (o0 : Addr) (w1 : Int32) (h0 : Heap) (n0 : Nat) (v : Option Value) (h : Heap) (L : List Loc) : Prop := v = some (.int (own_lower w1)) ∧ Fr n0 L ∧ h = h0
set_option maxRecDepth 65536 in
set_option maxHeartbeats 40000000 in
theorem rm6 (l : Launch) (Z : State) (a0 : Array Value) (hw : ∀ d ∈ tables_1, d.before a0 Z = true) (ws : List Jvm.Cond) (o0 : Addr) (w1 : Int32) (h0 : Heap) (n0 : Nat) (Z0 : n0 ≤ h0.size) (F_lower_o0 : Fld Z h0 o0 "com/example/terraschema/terraschema/model/Multiplicity" "lower" "I" (.int w1)) :
    MetFree l (⟨"com/example/terraschema/terraschema/model/Multiplicity", "lower", "()I"⟩ : MethodName) (head1 (Jvm.Cond.code (⟨"com/example/terraschema/terraschema/model/Multiplicity", "lower", "()I"⟩ : MethodName) prog_22_method_4_code 1 (some .int) :: ws) ({ frames := 0, cells := 0, slots := 0, locals := 0 } : Room)) (fun a U => a = #[(.ref o0)] ∧ Z.Warmed39 U.vm ∧ U.heap = h0) (fun _ _ _ _ _ => True) (fun _ U o U' => ∃ v L, o = .returned v ∧ Q6 Z o0 w1 h0 n0 v U'.heap L ∧ FrameEnd U o U' L ({ frames := 0, cells := 0, slots := 0, locals := 0 } : Room).cells ({ frames := 0, cells := 0, slots := 0, locals := 0 } : Room).slots) := by
  refine MetFree.of_bodySF (plainFor_of_name pn_3) hisR ?_
  intro p e s m args below meth c s₁ Bd hml0 hP hK
  obtain ⟨rfl, hZ, hh⟩ := hP
  have hx := Bd.exec
  have hby := Bd.bytes
  have hml : c.maxLocals = 1 := hml0
  have hown : s.vm.findClass "com/example/terraschema/terraschema/model/Multiplicity" = some m.cls := findClass_of_methodNamed Bd.named
  have hnm := (name_of_methodNamed Bd.named Bd.method).1
  have X0 : Stand p l e ({ frames := 0, cells := 0, slots := 0, locals := 0 } : Room) s m #[(.ref o0)] below meth c s₁ [] 0 0 := Stand.of_body Bd
  have e0 : s₁.heap = h0 := by rw [← hh, Bd.state]; rfl
  have N0 := Fr.nil n0
  have K0 := Keep.refl h0 []
  suffices hgo : Goes p.tables e below (fun s₂ o => ∃ v L, o = .returned v ∧ Q6 Z o0 w1 h0 n0 v s₂.heap L ∧ FrameEnd s o s₂ L ({ frames := 0, cells := 0, slots := 0, locals := 0 } : Room).cells ({ frames := 0, cells := 0, slots := 0, locals := 0 } : Room).slots) (s₁.setTop (mkF m 0 #[.val (.ref o0)] [])) from goEnd (fun t k => castTop (ef_6 m o0) k) hgo
  refine go (fun t kt => XS.aloadN X0.here hx rfl (hb hby d6_0) rfl rfl kt) ?_
  show Goes p.tables e below _ (s₁.setTop (mkF m 1 #[.val (.ref o0)] [(.ref o0)]))
  obtain ⟨T1, X1, e1, st1⟩ := getF X0 hx hZ hown (host := "") (Or.inl (hw _ (List.mem_of_getElem? (i := 20) rfl))) Via.refl e0 F_lower_o0 (g := (mkF m 1 #[.val (.ref o0)] [(.ref o0)])) rfl rfl (hb hby d6_1)
  refine go st1 ?_
  show Goes p.tables e below _ (T1.setTop (mkF m 4 #[.val (.ref o0)] [(.int w1)]))
  obtain ⟨fs, hr, hrun, hended, hW, hsame⟩ := X1.leave (v := some (.int w1)) (fun h => by rw [Bd.returns] at h; cases h)
  refine ⟨_, _, retOut X1 hx (i := .ireturn) Bd.returns rfl (Or.inl ⟨rfl, Or.inl rfl, _, rfl⟩) (hb hby d6_4) hr, hrun, hended, _, _, rfl, ?_, ⟨_, rfl⟩, hW, hsame.mono (by decide) (by decide)⟩
  show Q6 Z o0 w1 h0 n0 _ T1.heap _
  rw [e1]
  exact ⟨rfl, N0, rfl⟩
theorem d7_0 : decode prog_22_method_5_code 0 = .ok (.aload_n 0, 1) := by decide +kernel
theorem d7_1 : decode prog_22_method_5_code 1 = .ok (.getfield 13, 3) := by decide +kernel
theorem d7_4 : decode prog_22_method_5_code 4 = .ok (.iconst (-1), 1) := by decide +kernel
theorem d7_5 : decode prog_22_method_5_code 5 = .ok (.if_icmp .ne 7, 3) := by decide +kernel
theorem d7_8 : decode prog_22_method_5_code 8 = .ok (.iconst 1, 1) := by decide +kernel
theorem d7_9 : decode prog_22_method_5_code 9 = .ok (.goto 4, 3) := by decide +kernel
theorem d7_13 : decode prog_22_method_5_code 13 = .ok (.ireturn, 1) := by decide +kernel
theorem d7_12 : decode prog_22_method_5_code 12 = .ok (.iconst 0, 1) := by decide +kernel
def own_isUnb (w1 : Int32) : Int32 := (if w1 = (-1 : Int32) then (1 : Int32) else (0 : Int32))
theorem ef_7 (m : MethodId) (o0 : Addr) : entryFrame m #[(.ref o0)] 1 = mkF m 0 #[.val (.ref o0)] [] := by first | (simp [entryFrame, mkF, argsToLocals, Value.category]; done) | rfl
def Q7 (Z : State) (o0 : Addr) (w1 : Int32) (h0 : Heap) (n0 : Nat) (v : Option Value) (h : Heap) (L : List Loc) : Prop := v = some (.int (own_isUnb w1)) ∧ Fr n0 L ∧ h = h0
set_option maxRecDepth 65536 in
set_option maxHeartbeats 40000000 in
theorem rm7 (l : Launch) (Z : State) (a0 : Array Value) (hw : ∀ d ∈ tables_1, d.before a0 Z = true) (ws : List Jvm.Cond) (o0 : Addr) (w1 : Int32) (h0 : Heap) (n0 : Nat) (Z0 : n0 ≤ h0.size) (F_upper_o0 : Fld Z h0 o0 "com/example/terraschema/terraschema/model/Multiplicity" "upper" "I" (.int w1)) :
    MetFree l (⟨"com/example/terraschema/terraschema/model/Multiplicity", "isUnbounded", "()Z"⟩ : MethodName) (head1 (Jvm.Cond.code (⟨"com/example/terraschema/terraschema/model/Multiplicity", "isUnbounded", "()Z"⟩ : MethodName) prog_22_method_5_code 1 (some .boolean) :: ws) ({ frames := 0, cells := 0, slots := 0, locals := 0 } : Room)) (fun a U => a = #[(.ref o0)] ∧ Z.Warmed39 U.vm ∧ U.heap = h0) (fun _ _ _ _ _ => True) (fun _ U o U' => ∃ v L, o = .returned v ∧ Q7 Z o0 w1 h0 n0 v U'.heap L ∧ FrameEnd U o U' L ({ frames := 0, cells := 0, slots := 0, locals := 0 } : Room).cells ({ frames := 0, cells := 0, slots := 0, locals := 0 } : Room).slots) := by
  refine MetFree.of_bodySF (plainFor_of_name pn_3) hisR ?_
  intro p e s m args below meth c s₁ Bd hml0 hP hK
  obtain ⟨rfl, hZ, hh⟩ := hP
  have hx := Bd.exec
  have hby := Bd.bytes
  have hml : c.maxLocals = 1 := hml0
  have hown : s.vm.findClass "com/example/terraschema/terraschema/model/Multiplicity" = some m.cls := findClass_of_methodNamed Bd.named
  have hnm := (name_of_methodNamed Bd.named Bd.method).1
  have X0 : Stand p l e ({ frames := 0, cells := 0, slots := 0, locals := 0 } : Room) s m #[(.ref o0)] below meth c s₁ [] 0 0 := Stand.of_body Bd
  have e0 : s₁.heap = h0 := by rw [← hh, Bd.state]; rfl
  have N0 := Fr.nil n0
  have K0 := Keep.refl h0 []
  suffices hgo : Goes p.tables e below (fun s₂ o => ∃ v L, o = .returned v ∧ Q7 Z o0 w1 h0 n0 v s₂.heap L ∧ FrameEnd s o s₂ L ({ frames := 0, cells := 0, slots := 0, locals := 0 } : Room).cells ({ frames := 0, cells := 0, slots := 0, locals := 0 } : Room).slots) (s₁.setTop (mkF m 0 #[.val (.ref o0)] [])) from goEnd (fun t k => castTop (ef_7 m o0) k) hgo
  refine go (fun t kt => XS.aloadN X0.here hx rfl (hb hby d7_0) rfl rfl kt) ?_
  show Goes p.tables e below _ (s₁.setTop (mkF m 1 #[.val (.ref o0)] [(.ref o0)]))
  obtain ⟨T1, X1, e1, st1⟩ := getF X0 hx hZ hown (host := "") (Or.inl (hw _ (List.mem_of_getElem? (i := 22) rfl))) Via.refl e0 F_upper_o0 (g := (mkF m 1 #[.val (.ref o0)] [(.ref o0)])) rfl rfl (hb hby d7_1)
  refine go st1 ?_
  show Goes p.tables e below _ (T1.setTop (mkF m 4 #[.val (.ref o0)] [(.int w1)]))
  refine go (fun t kt => XS.iconst X1.here hx rfl (hb hby d7_4) kt) ?_
  show Goes p.tables e below _ (T1.setTop (mkF m 5 #[.val (.ref o0)] [(.int (-1 : Int32)), (.int w1)]))
  by_cases hc2 : w1 = (-1 : Int32)
  ·
    refine go (fun t kt => XS.icmpNo X1.here hx rfl (hb hby d7_5) rfl (teq hc2).2 kt) ?_
    show Goes p.tables e below _ (T1.setTop (mkF m 8 #[.val (.ref o0)] []))
    refine go (fun t kt => XS.iconst X1.here hx rfl (hb hby d7_8) kt) ?_
    show Goes p.tables e below _ (T1.setTop (mkF m 9 #[.val (.ref o0)] [(.int (1 : Int32))]))
    refine go (fun t kt => XS.goto X1.here hx rfl (pc0 := 9) (pc' := 13) rfl (hb hby d7_9) (by decide) (by decide) kt) ?_
    show Goes p.tables e below _ (T1.setTop (mkF m 13 #[.val (.ref o0)] [(.int (1 : Int32))]))
    obtain ⟨fs, hr, hrun, hended, hW, hsame⟩ := X1.leave (v := some (.int (1 : Int32))) (fun h => by rw [Bd.returns] at h; cases h)
    refine ⟨_, _, retN X1 hx (t := .boolean) Bd.returns (by simp) (hb hby d7_13) hr, hrun, hended, _, _, rfl, ?_, ⟨_, rfl⟩, hW, hsame.mono (by decide) (by decide)⟩
    show Q7 Z o0 w1 h0 n0 _ T1.heap _
    rw [e1]
    exact ⟨(by unfold own_isUnb; rw [if_pos hc2]), N0, rfl⟩
  ·
    refine go (fun t kt => XS.icmpYes X1.here hx rfl (pc0 := 5) (pc' := 12) rfl (hb hby d7_5) rfl (feq hc2).2 (by decide) (by decide) kt) ?_
    show Goes p.tables e below _ (T1.setTop (mkF m 12 #[.val (.ref o0)] []))
    refine go (fun t kt => XS.iconst X1.here hx rfl (hb hby d7_12) kt) ?_
    show Goes p.tables e below _ (T1.setTop (mkF m 13 #[.val (.ref o0)] [(.int (0 : Int32))]))
    obtain ⟨fs, hr, hrun, hended, hW, hsame⟩ := X1.leave (v := some (.int (0 : Int32))) (fun h => by rw [Bd.returns] at h; cases h)
    refine ⟨_, _, retN X1 hx (t := .boolean) Bd.returns (by simp) (hb hby d7_13) hr, hrun, hended, _, _, rfl, ?_, ⟨_, rfl⟩, hW, hsame.mono (by decide) (by decide)⟩
    show Q7 Z o0 w1 h0 n0 _ T1.heap _
    rw [e1]
    exact ⟨(by unfold own_isUnb; rw [if_neg hc2]), N0, rfl⟩
theorem own_u0 (w : Int32) (h : ¬ w = -1) : own_isUnb w = 0 := by unfold own_isUnb; rw [if_neg h]
theorem d8_0 : decode prog_22_method_6_code 0 = .ok (.aload_n 0, 1) := by decide +kernel
theorem pd_1 : parseMethodDescriptor "()Z" = some ⟨[], some .boolean⟩ := by decide +kernel
theorem d8_1 : decode prog_22_method_6_code 1 = .ok (.invokevirtual 31, 3) := by decide +kernel
theorem d8_4 : decode prog_22_method_6_code 4 = .ok (.ifCond .eq 13, 3) := by decide +kernel
theorem d8_17 : decode prog_22_method_6_code 17 = .ok (.aload_n 0, 1) := by decide +kernel
theorem d8_18 : decode prog_22_method_6_code 18 = .ok (.getfield 13, 3) := by decide +kernel
theorem d8_21 : decode prog_22_method_6_code 21 = .ok (.ireturn, 1) := by decide +kernel
def own_upper (w1 : Int32) : Int32 := w1
theorem ef_8 (m : MethodId) (o0 : Addr) : entryFrame m #[(.ref o0)] 1 = mkF m 0 #[.val (.ref o0)] [] := by first | (simp [entryFrame, mkF, argsToLocals, Value.category]; done) | rfl
def Q8 (Z : State) (o0 : Addr) (w1 : Int32) (h0 : Heap) (n0 : Nat) (v : Option Value) (h : Heap) (L : List Loc) : Prop := v = some (.int (own_upper w1)) ∧ Fr n0 L ∧ h = h0
set_option maxRecDepth 65536 in
set_option maxHeartbeats 40000000 in
theorem rm8 (l : Launch) (Z : State) (a0 : Array Value) (hw : ∀ d ∈ tables_1, d.before a0 Z = true) (ws : List Jvm.Cond) (o0 : Addr) (w1 : Int32) (h0 : Heap) (n0 : Nat) (Z0 : n0 ≤ h0.size) (E_o0 : Exa Z h0 o0 "com/example/terraschema/terraschema/model/Multiplicity") (F_upper_o0 : Fld Z h0 o0 "com/example/terraschema/terraschema/model/Multiplicity" "upper" "I" (.int w1)) (hu : ¬ w1 = -1) :
    MetFree l (⟨"com/example/terraschema/terraschema/model/Multiplicity", "upper", "()I"⟩ : MethodName) (head1 (Jvm.Cond.code (⟨"com/example/terraschema/terraschema/model/Multiplicity", "upper", "()I"⟩ : MethodName) prog_22_method_6_code 1 (some .int) :: ws) ({ frames := 1, cells := 0, slots := 0, locals := 12 } : Room)) (fun a U => a = #[(.ref o0)] ∧ Z.Warmed39 U.vm ∧ U.heap = h0) (fun _ _ _ _ _ => True) (fun _ U o U' => ∃ v L, o = .returned v ∧ Q8 Z o0 w1 h0 n0 v U'.heap L ∧ FrameEnd U o U' L ({ frames := 1, cells := 0, slots := 0, locals := 12 } : Room).cells ({ frames := 1, cells := 0, slots := 0, locals := 12 } : Room).slots) := by
  refine MetFree.of_bodySF (plainFor_of_name pn_3) hisR ?_
  intro p e s m args below meth c s₁ Bd hml0 hP hK
  obtain ⟨rfl, hZ, hh⟩ := hP
  have hx := Bd.exec
  have hby := Bd.bytes
  have hml : c.maxLocals = 1 := hml0
  have hown : s.vm.findClass "com/example/terraschema/terraschema/model/Multiplicity" = some m.cls := findClass_of_methodNamed Bd.named
  have hnm := (name_of_methodNamed Bd.named Bd.method).1
  have X0 : Stand p l e ({ frames := 1, cells := 0, slots := 0, locals := 12 } : Room) s m #[(.ref o0)] below meth c s₁ [] 0 0 := Stand.of_body Bd
  have e0 : s₁.heap = h0 := by rw [← hh, Bd.state]; rfl
  have N0 := Fr.nil n0
  have K0 := Keep.refl h0 []
  suffices hgo : Goes p.tables e below (fun s₂ o => ∃ v L, o = .returned v ∧ Q8 Z o0 w1 h0 n0 v s₂.heap L ∧ FrameEnd s o s₂ L ({ frames := 1, cells := 0, slots := 0, locals := 12 } : Room).cells ({ frames := 1, cells := 0, slots := 0, locals := 12 } : Room).slots) (s₁.setTop (mkF m 0 #[.val (.ref o0)] [])) from goEnd (fun t k => castTop (ef_8 m o0) k) hgo
  refine go (fun t kt => XS.aloadN X0.here hx rfl (hb hby d8_0) rfl rfl kt) ?_
  show Goes p.tables e below _ (s₁.setTop (mkF m 1 #[.val (.ref o0)] [(.ref o0)]))
  obtain ⟨cq1, kq1, q1a, q1b, q1c⟩ := isOf hZ e0 E_o0
  obtain ⟨_, _, ⟨T1, L1, k1, n1⟩, -, X1, ⟨Lc1, hQ1, l1, y1, z1⟩, st1⟩ := X0.virtualBack hx (y := (⟨"com/example/terraschema/terraschema/model/Multiplicity", "isUnbounded", "()Z"⟩ : MethodName)) (z := (⟨"com/example/terraschema/terraschema/model/Multiplicity", "isUnbounded", "()Z"⟩ : MethodName)) hown (mvT hZ (hw _ (List.mem_of_getElem? (i := 39) rfl))) (mvT hZ (hw _ (List.mem_of_getElem? (i := 30) rfl))) (notFace_of_selects (args := #[]) (mvT hZ (hw _ (List.mem_of_getElem? (i := 32) rfl)))) (mvT hZ (hw _ (List.mem_of_getElem? (i := 32) rfl))) (mvT hZ (hw _ (List.mem_of_getElem? (i := 31) rfl))) (by decide) (backOf (W := 0) (rm7 l Z a0 hw [] o0 w1 h0 n0 Z0 F_upper_o0) hZ (hw _ (List.mem_of_getElem? (i := 33) rfl)) (hw _ (List.mem_of_getElem? (i := 10) rfl)) (by decide) (by decide)) q1a q1c (g := (mkF m 1 #[.val (.ref o0)] [(.ref o0)])) rfl (by rw [hml]; rfl) (Steps.refl _) (argsL := []) (rest := []) (lenOf pd_1 rfl) rfl (by show 2 * 0 + _ ≤ _; exact Nat.le_of_eq rfl) (hb hby d8_1) (fun _ _ => ⟨rfl, e0, (by decide : 0 + 0 ≤ _), (by decide : 0 + 0 ≤ _)⟩)
  dsimp only [Pt.U, Pt.locs, Pt.cells, Pt.slots] at X1 l1 y1 z1 st1 hQ1
  subst l1 y1 z1
  obtain ⟨rfl, Nq1, e1⟩ := hQ1
  have N1 := Fr.app N0 Nq1
  refine go (fun t kt => st1.trans kt) ?_
  show Goes p.tables e below _ (T1.setTop (mkF m 4 #[.val (.ref o0)] [(.int (own_isUnb w1))]))
  refine go (fun t kt => XS.ifYes X1.here hx rfl (pc0 := 4) (pc' := 17) rfl (hb hby d8_4) rfl ((if0 _ _).trans (teq (own_u0 w1 hu)).1) (by decide) (by decide) kt) ?_
  show Goes p.tables e below _ (T1.setTop (mkF m 17 #[.val (.ref o0)] []))
  refine go (fun t kt => XS.aloadN X1.here hx rfl (hb hby d8_17) rfl rfl kt) ?_
  show Goes p.tables e below _ (T1.setTop (mkF m 18 #[.val (.ref o0)] [(.ref o0)]))
  obtain ⟨T2, X2, e2, st2⟩ := getF X1 hx hZ hown (host := "") (Or.inl (hw _ (List.mem_of_getElem? (i := 22) rfl))) Via.refl e1 F_upper_o0 (g := (mkF m 18 #[.val (.ref o0)] [(.ref o0)])) rfl rfl (hb hby d8_18)
  refine go st2 ?_
  show Goes p.tables e below _ (T2.setTop (mkF m 21 #[.val (.ref o0)] [(.int w1)]))
  obtain ⟨fs, hr, hrun, hended, hW, hsame⟩ := X2.leave (v := some (.int w1)) (fun h => by rw [Bd.returns] at h; cases h)
  refine ⟨_, _, retOut X2 hx (i := .ireturn) Bd.returns rfl (Or.inl ⟨rfl, Or.inl rfl, _, rfl⟩) (hb hby d8_21) hr, hrun, hended, _, _, rfl, ?_, ⟨_, rfl⟩, hW, hsame.mono (by decide) (by decide)⟩
  show Q8 Z o0 w1 h0 n0 _ T2.heap _
  rw [e2]
  exact ⟨rfl, N1, rfl⟩
theorem d9_0 : decode prog_22_method_7_code 0 = .ok (.aload_n 0, 1) := by decide +kernel
theorem d9_1 : decode prog_22_method_7_code 1 = .ok (.invokevirtual 31, 3) := by decide +kernel
theorem d9_4 : decode prog_22_method_7_code 4 = .ok (.ifCond .ne 11, 3) := by decide +kernel
theorem d9_7 : decode prog_22_method_7_code 7 = .ok (.aload_n 0, 1) := by decide +kernel
theorem d9_8 : decode prog_22_method_7_code 8 = .ok (.getfield 13, 3) := by decide +kernel
theorem d9_11 : decode prog_22_method_7_code 11 = .ok (.iconst 1, 1) := by decide +kernel
theorem d9_12 : decode prog_22_method_7_code 12 = .ok (.if_icmp .le 7, 3) := by decide +kernel
theorem d9_15 : decode prog_22_method_7_code 15 = .ok (.iconst 1, 1) := by decide +kernel
theorem d9_16 : decode prog_22_method_7_code 16 = .ok (.goto 4, 3) := by decide +kernel
theorem d9_20 : decode prog_22_method_7_code 20 = .ok (.ireturn, 1) := by decide +kernel
theorem d9_19 : decode prog_22_method_7_code 19 = .ok (.iconst 0, 1) := by decide +kernel
def own_isMany (w1 : Int32) : Int32 := (if (own_isUnb w1) = (0 : Int32) then (if (1 : Int32) < w1 then (1 : Int32) else (0 : Int32)) else (1 : Int32))
theorem ef_9 (m : MethodId) (o0 : Addr) : entryFrame m #[(.ref o0)] 1 = mkF m 0 #[.val (.ref o0)] [] := by first | (simp [entryFrame, mkF, argsToLocals, Value.category]; done) | rfl
def Q9 (Z : State) (o0 : Addr) (w1 : Int32) (h0 : Heap) (n0 : Nat) (v : Option Value) (h : Heap) (L : List Loc) : Prop := v = some (.int (own_isMany w1)) ∧ Fr n0 L ∧ h = h0
set_option maxRecDepth 65536 in
set_option maxHeartbeats 40000000 in
theorem rm9 (l : Launch) (Z : State) (a0 : Array Value) (hw : ∀ d ∈ tables_1, d.before a0 Z = true) (ws : List Jvm.Cond) (o0 : Addr) (w1 : Int32) (h0 : Heap) (n0 : Nat) (Z0 : n0 ≤ h0.size) (E_o0 : Exa Z h0 o0 "com/example/terraschema/terraschema/model/Multiplicity") (F_upper_o0 : Fld Z h0 o0 "com/example/terraschema/terraschema/model/Multiplicity" "upper" "I" (.int w1)) :
    MetFree l (⟨"com/example/terraschema/terraschema/model/Multiplicity", "isMany", "()Z"⟩ : MethodName) (head1 (Jvm.Cond.code (⟨"com/example/terraschema/terraschema/model/Multiplicity", "isMany", "()Z"⟩ : MethodName) prog_22_method_7_code 1 (some .boolean) :: ws) ({ frames := 1, cells := 0, slots := 0, locals := 12 } : Room)) (fun a U => a = #[(.ref o0)] ∧ Z.Warmed39 U.vm ∧ U.heap = h0) (fun _ _ _ _ _ => True) (fun _ U o U' => ∃ v L, o = .returned v ∧ Q9 Z o0 w1 h0 n0 v U'.heap L ∧ FrameEnd U o U' L ({ frames := 1, cells := 0, slots := 0, locals := 12 } : Room).cells ({ frames := 1, cells := 0, slots := 0, locals := 12 } : Room).slots) := by
  refine MetFree.of_bodySF (plainFor_of_name pn_3) hisR ?_
  intro p e s m args below meth c s₁ Bd hml0 hP hK
  obtain ⟨rfl, hZ, hh⟩ := hP
  have hx := Bd.exec
  have hby := Bd.bytes
  have hml : c.maxLocals = 1 := hml0
  have hown : s.vm.findClass "com/example/terraschema/terraschema/model/Multiplicity" = some m.cls := findClass_of_methodNamed Bd.named
  have hnm := (name_of_methodNamed Bd.named Bd.method).1
  have X0 : Stand p l e ({ frames := 1, cells := 0, slots := 0, locals := 12 } : Room) s m #[(.ref o0)] below meth c s₁ [] 0 0 := Stand.of_body Bd
  have e0 : s₁.heap = h0 := by rw [← hh, Bd.state]; rfl
  have N0 := Fr.nil n0
  have K0 := Keep.refl h0 []
  suffices hgo : Goes p.tables e below (fun s₂ o => ∃ v L, o = .returned v ∧ Q9 Z o0 w1 h0 n0 v s₂.heap L ∧ FrameEnd s o s₂ L ({ frames := 1, cells := 0, slots := 0, locals := 12 } : Room).cells ({ frames := 1, cells := 0, slots := 0, locals := 12 } : Room).slots) (s₁.setTop (mkF m 0 #[.val (.ref o0)] [])) from goEnd (fun t k => castTop (ef_9 m o0) k) hgo
  refine go (fun t kt => XS.aloadN X0.here hx rfl (hb hby d9_0) rfl rfl kt) ?_
  show Goes p.tables e below _ (s₁.setTop (mkF m 1 #[.val (.ref o0)] [(.ref o0)]))
  obtain ⟨cq1, kq1, q1a, q1b, q1c⟩ := isOf hZ e0 E_o0
  obtain ⟨_, _, ⟨T1, L1, k1, n1⟩, -, X1, ⟨Lc1, hQ1, l1, y1, z1⟩, st1⟩ := X0.virtualBack hx (y := (⟨"com/example/terraschema/terraschema/model/Multiplicity", "isUnbounded", "()Z"⟩ : MethodName)) (z := (⟨"com/example/terraschema/terraschema/model/Multiplicity", "isUnbounded", "()Z"⟩ : MethodName)) hown (mvT hZ (hw _ (List.mem_of_getElem? (i := 39) rfl))) (mvT hZ (hw _ (List.mem_of_getElem? (i := 30) rfl))) (notFace_of_selects (args := #[]) (mvT hZ (hw _ (List.mem_of_getElem? (i := 32) rfl)))) (mvT hZ (hw _ (List.mem_of_getElem? (i := 32) rfl))) (mvT hZ (hw _ (List.mem_of_getElem? (i := 31) rfl))) (by decide) (backOf (W := 0) (rm7 l Z a0 hw [] o0 w1 h0 n0 Z0 F_upper_o0) hZ (hw _ (List.mem_of_getElem? (i := 33) rfl)) (hw _ (List.mem_of_getElem? (i := 10) rfl)) (by decide) (by decide)) q1a q1c (g := (mkF m 1 #[.val (.ref o0)] [(.ref o0)])) rfl (by rw [hml]; rfl) (Steps.refl _) (argsL := []) (rest := []) (lenOf pd_1 rfl) rfl (by show 2 * 0 + _ ≤ _; exact Nat.le_of_eq rfl) (hb hby d9_1) (fun _ _ => ⟨rfl, e0, (by decide : 0 + 0 ≤ _), (by decide : 0 + 0 ≤ _)⟩)
  dsimp only [Pt.U, Pt.locs, Pt.cells, Pt.slots] at X1 l1 y1 z1 st1 hQ1
  subst l1 y1 z1
  obtain ⟨rfl, Nq1, e1⟩ := hQ1
  have N1 := Fr.app N0 Nq1
  refine go (fun t kt => st1.trans kt) ?_
  show Goes p.tables e below _ (T1.setTop (mkF m 4 #[.val (.ref o0)] [(.int (own_isUnb w1))]))
  by_cases hc2 : (own_isUnb w1) = (0 : Int32)
  ·
    refine go (fun t kt => XS.ifNo X1.here hx rfl (hb hby d9_4) rfl ((if0 _ _).trans (teq hc2).2) kt) ?_
    show Goes p.tables e below _ (T1.setTop (mkF m 7 #[.val (.ref o0)] []))
    refine go (fun t kt => XS.aloadN X1.here hx rfl (hb hby d9_7) rfl rfl kt) ?_
    show Goes p.tables e below _ (T1.setTop (mkF m 8 #[.val (.ref o0)] [(.ref o0)]))
    obtain ⟨T3, X3, e3, st3⟩ := getF X1 hx hZ hown (host := "") (Or.inl (hw _ (List.mem_of_getElem? (i := 22) rfl))) Via.refl e1 F_upper_o0 (g := (mkF m 8 #[.val (.ref o0)] [(.ref o0)])) rfl rfl (hb hby d9_8)
    refine go st3 ?_
    show Goes p.tables e below _ (T3.setTop (mkF m 11 #[.val (.ref o0)] [(.int w1)]))
    refine go (fun t kt => XS.iconst X3.here hx rfl (hb hby d9_11) kt) ?_
    show Goes p.tables e below _ (T3.setTop (mkF m 12 #[.val (.ref o0)] [(.int (1 : Int32)), (.int w1)]))
    by_cases hc4 : (1 : Int32) < w1
    ·
      refine go (fun t kt => XS.icmpNo X3.here hx rfl (hb hby d9_12) rfl (tlt hc4).2.2.2 kt) ?_
      show Goes p.tables e below _ (T3.setTop (mkF m 15 #[.val (.ref o0)] []))
      refine go (fun t kt => XS.iconst X3.here hx rfl (hb hby d9_15) kt) ?_
      show Goes p.tables e below _ (T3.setTop (mkF m 16 #[.val (.ref o0)] [(.int (1 : Int32))]))
      refine go (fun t kt => XS.goto X3.here hx rfl (pc0 := 16) (pc' := 20) rfl (hb hby d9_16) (by decide) (by decide) kt) ?_
      show Goes p.tables e below _ (T3.setTop (mkF m 20 #[.val (.ref o0)] [(.int (1 : Int32))]))
      obtain ⟨fs, hr, hrun, hended, hW, hsame⟩ := X3.leave (v := some (.int (1 : Int32))) (fun h => by rw [Bd.returns] at h; cases h)
      refine ⟨_, _, retN X3 hx (t := .boolean) Bd.returns (by simp) (hb hby d9_20) hr, hrun, hended, _, _, rfl, ?_, ⟨_, rfl⟩, hW, hsame.mono (by decide) (by decide)⟩
      show Q9 Z o0 w1 h0 n0 _ T3.heap _
      rw [e3]
      exact ⟨(by unfold own_isMany; rw [if_pos hc2, if_pos hc4]), N1, rfl⟩
    ·
      refine go (fun t kt => XS.icmpYes X3.here hx rfl (pc0 := 12) (pc' := 19) rfl (hb hby d9_12) rfl (flt hc4).2.2.2 (by decide) (by decide) kt) ?_
      show Goes p.tables e below _ (T3.setTop (mkF m 19 #[.val (.ref o0)] []))
      refine go (fun t kt => XS.iconst X3.here hx rfl (hb hby d9_19) kt) ?_
      show Goes p.tables e below _ (T3.setTop (mkF m 20 #[.val (.ref o0)] [(.int (0 : Int32))]))
      obtain ⟨fs, hr, hrun, hended, hW, hsame⟩ := X3.leave (v := some (.int (0 : Int32))) (fun h => by rw [Bd.returns] at h; cases h)
      refine ⟨_, _, retN X3 hx (t := .boolean) Bd.returns (by simp) (hb hby d9_20) hr, hrun, hended, _, _, rfl, ?_, ⟨_, rfl⟩, hW, hsame.mono (by decide) (by decide)⟩
      show Q9 Z o0 w1 h0 n0 _ T3.heap _
      rw [e3]
      exact ⟨(by unfold own_isMany; rw [if_pos hc2, if_neg hc4]), N1, rfl⟩
  ·
    refine go (fun t kt => XS.ifYes X1.here hx rfl (pc0 := 4) (pc' := 15) rfl (hb hby d9_4) rfl ((if0 _ _).trans (feq hc2).2) (by decide) (by decide) kt) ?_
    show Goes p.tables e below _ (T1.setTop (mkF m 15 #[.val (.ref o0)] []))
    refine go (fun t kt => XS.iconst X1.here hx rfl (hb hby d9_15) kt) ?_
    show Goes p.tables e below _ (T1.setTop (mkF m 16 #[.val (.ref o0)] [(.int (1 : Int32))]))
    refine go (fun t kt => XS.goto X1.here hx rfl (pc0 := 16) (pc' := 20) rfl (hb hby d9_16) (by decide) (by decide) kt) ?_
    show Goes p.tables e below _ (T1.setTop (mkF m 20 #[.val (.ref o0)] [(.int (1 : Int32))]))
    obtain ⟨fs, hr, hrun, hended, hW, hsame⟩ := X1.leave (v := some (.int (1 : Int32))) (fun h => by rw [Bd.returns] at h; cases h)
    refine ⟨_, _, retN X1 hx (t := .boolean) Bd.returns (by simp) (hb hby d9_20) hr, hrun, hended, _, _, rfl, ?_, ⟨_, rfl⟩, hW, hsame.mono (by decide) (by decide)⟩
    show Q9 Z o0 w1 h0 n0 _ T1.heap _
    rw [e1]
    exact ⟨(by unfold own_isMany; rw [if_neg hc2]), N1, rfl⟩
theorem own_nn (x : Int32) : 0 ≤ (x &&& 2147483647).toInt := by
  rw [Jvm.Kit.i32_mask x 2147483647 (k := 31) (by decide) (by decide)]
  omega
theorem own_lo (x y : Int32) (hx : 0 ≤ x.toInt) (hy : 0 ≤ y.toInt) : ¬ own_min x y < 0 := by
  have e : (0 : Int32).toInt = 0 := rfl
  unfold own_min; split <;> rw [Int32.lt_iff_toInt_lt] <;> omega
theorem own_lh (x y : Int32) : ¬ own_max x y < own_min x y := by
  unfold own_min own_max; split <;> split <;> simp only [Int32.lt_iff_toInt_lt] at * <;> omega
theorem own_hi (x y : Int32) (hx : 0 ≤ x.toInt) (hy : 0 ≤ y.toInt) : ¬ own_max x y = -1 := by
  have e : (-1 : Int32).toInt = -1 := rfl
  unfold own_max; split <;> rw [← Int32.toInt_inj] <;> omega
theorem own_many1 (w : Int32) (h : 1 < w) : own_isMany w = 1 := by unfold own_isMany; rw [if_pos h]; split <;> rfl
theorem own_many0 (w : Int32) (hu : ¬ w = -1) (h : ¬ 1 < w) : own_isMany w = 0 := by unfold own_isMany; rw [own_u0 w hu, if_pos rfl, if_neg h]
theorem pd_2 : parseMethodDescriptor "(II)I" = some ⟨[.int, .int], some .int⟩ := by decide +kernel
theorem pd_3 : parseMethodDescriptor "(II)Lcom/example/terraschema/terraschema/model/Multiplicity;" = some ⟨[.int, .int], some (.object "com/example/terraschema/terraschema/model/Multiplicity")⟩ := by decide +kernel
theorem pd_4 : parseMethodDescriptor "()I" = some ⟨[], some .int⟩ := by decide +kernel
theorem pn_0 : plainName "com/example/terraschema/terraschema/model/MultiplicityBoundedPinLaw" = true := by first | (simp [plainName, overriddenIn]; done) | decide +kernel
theorem ef_0 (m : MethodId) (p0 : Int32) (p1 : Int32) : entryFrame m #[(.int p0), (.int p1)] maxLocals = mkF m 0 #[.val (.int p0), .val (.int p1), .unset, .unset, .unset, .unset, .unset, .unset] [] := by first | (simp [entryFrame, mkF, argsToLocals, Value.category, maxLocals]; done) | rfl
def Q0 (Z : State) (p0 : Int32) (p1 : Int32) (h0 : Heap) (n0 : Nat) (v : Option Value) (h : Heap) (L : List Loc) : Prop := v = some (.int (1 : Int32)) ∧ Fr n0 L
set_option maxRecDepth 65536 in
set_option maxHeartbeats 40000000 in
theorem rm0 (l : Launch) (Z : State) (a0 : Array Value) (hw : ∀ d ∈ tables_1, d.before a0 Z = true) (ws : List Jvm.Cond) (p0 : Int32) (p1 : Int32) (h0 : Heap) (n0 : Nat) (Z0 : n0 ≤ h0.size)  :
    MetFree l x (head1 (Jvm.Cond.code x code maxLocals ret :: ws) room_1) (fun a U => a = #[(.int p0), (.int p1)] ∧ Z.Warmed39 U.vm ∧ U.heap = h0) (fun _ _ _ _ _ => True) (fun _ U o U' => ∃ v L, o = .returned v ∧ Q0 Z p0 p1 h0 n0 v U'.heap L ∧ FrameEnd U o U' L 1 2) := by
  refine MetFree.of_bodySF (plainFor_of_name pn_0) hisR ?_
  intro p e s m args below meth c s₁ Bd hml0 hP hK
  obtain ⟨rfl, hZ, hh⟩ := hP
  have hx := Bd.exec
  have hby := Bd.bytes
  have hml : c.maxLocals = 8 := hml0
  have hown : s.vm.findClass "com/example/terraschema/terraschema/model/MultiplicityBoundedPinLaw" = some m.cls := findClass_of_methodNamed Bd.named
  have hnm := (name_of_methodNamed Bd.named Bd.method).1
  have X0 : Stand p l e room_1 s m #[(.int p0), (.int p1)] below meth c s₁ [] 0 0 := Stand.of_body Bd
  have e0 : s₁.heap = h0 := by rw [← hh, Bd.state]; rfl
  have N0 := Fr.nil n0
  have K0 := Keep.refl h0 []
  suffices hgo : Goes p.tables e below (fun s₂ o => ∃ v L, o = .returned v ∧ Q0 Z p0 p1 h0 n0 v s₂.heap L ∧ FrameEnd s o s₂ L 1 2) (s₁.setTop (mkF m 0 #[.val (.int p0), .val (.int p1), .unset, .unset, .unset, .unset, .unset, .unset] [])) from goEnd (fun t k => castTop (ef_0 m p0 p1) k) hgo
  refine go (fun t kt => XS.iloadN X0.here hx rfl (hb hby at_0) rfl kt) ?_
  show Goes p.tables e below _ (s₁.setTop (mkF m 1 #[.val (.int p0), .val (.int p1), .unset, .unset, .unset, .unset, .unset, .unset] [(.int p0)]))
  refine go (X0.ldcInt hx hown (mvT hZ (hw _ (List.mem_of_getElem? (i := 0) rfl))) (g := (mkF m 1 #[.val (.int p0), .val (.int p1), .unset, .unset, .unset, .unset, .unset, .unset] [(.int p0)])) rfl (hb hby at_1)) ?_
  show Goes p.tables e below _ (s₁.setTop (mkF m 3 #[.val (.int p0), .val (.int p1), .unset, .unset, .unset, .unset, .unset, .unset] [(.int (2147483647 : Int32)), (.int p0)]))
  refine go (fun t kt => XS.iand X0.here hx rfl (hb hby at_3) rfl kt) ?_
  show Goes p.tables e below _ (s₁.setTop (mkF m 4 #[.val (.int p0), .val (.int p1), .unset, .unset, .unset, .unset, .unset, .unset] [(.int (p0 &&& (2147483647 : Int32)))]))
  refine go (fun t kt => XS.istoreN X0.here hx rfl (hb hby at_4) rfl (l' := #[.val (.int p0), .val (.int p1), .val (.int (p0 &&& (2147483647 : Int32))), .unset, .unset, .unset, .unset, .unset]) rfl kt) ?_
  show Goes p.tables e below _ (s₁.setTop (mkF m 5 #[.val (.int p0), .val (.int p1), .val (.int (p0 &&& (2147483647 : Int32))), .unset, .unset, .unset, .unset, .unset] []))
  refine go (fun t kt => XS.iloadN X0.here hx rfl (hb hby at_5) rfl kt) ?_
  show Goes p.tables e below _ (s₁.setTop (mkF m 6 #[.val (.int p0), .val (.int p1), .val (.int (p0 &&& (2147483647 : Int32))), .unset, .unset, .unset, .unset, .unset] [(.int p1)]))
  refine go (X0.ldcInt hx hown (mvT hZ (hw _ (List.mem_of_getElem? (i := 0) rfl))) (g := (mkF m 6 #[.val (.int p0), .val (.int p1), .val (.int (p0 &&& (2147483647 : Int32))), .unset, .unset, .unset, .unset, .unset] [(.int p1)])) rfl (hb hby at_6)) ?_
  show Goes p.tables e below _ (s₁.setTop (mkF m 8 #[.val (.int p0), .val (.int p1), .val (.int (p0 &&& (2147483647 : Int32))), .unset, .unset, .unset, .unset, .unset] [(.int (2147483647 : Int32)), (.int p1)]))
  refine go (fun t kt => XS.iand X0.here hx rfl (hb hby at_8) rfl kt) ?_
  show Goes p.tables e below _ (s₁.setTop (mkF m 9 #[.val (.int p0), .val (.int p1), .val (.int (p0 &&& (2147483647 : Int32))), .unset, .unset, .unset, .unset, .unset] [(.int (p1 &&& (2147483647 : Int32)))]))
  refine go (fun t kt => XS.istoreN X0.here hx rfl (hb hby at_9) rfl (l' := #[.val (.int p0), .val (.int p1), .val (.int (p0 &&& (2147483647 : Int32))), .val (.int (p1 &&& (2147483647 : Int32))), .unset, .unset, .unset, .unset]) rfl kt) ?_
  show Goes p.tables e below _ (s₁.setTop (mkF m 10 #[.val (.int p0), .val (.int p1), .val (.int (p0 &&& (2147483647 : Int32))), .val (.int (p1 &&& (2147483647 : Int32))), .unset, .unset, .unset, .unset] []))
  refine go (fun t kt => XS.iloadN X0.here hx rfl (hb hby at_10) rfl kt) ?_
  show Goes p.tables e below _ (s₁.setTop (mkF m 11 #[.val (.int p0), .val (.int p1), .val (.int (p0 &&& (2147483647 : Int32))), .val (.int (p1 &&& (2147483647 : Int32))), .unset, .unset, .unset, .unset] [(.int (p0 &&& (2147483647 : Int32)))]))
  refine go (fun t kt => XS.iloadN X0.here hx rfl (hb hby at_11) rfl kt) ?_
  show Goes p.tables e below _ (s₁.setTop (mkF m 12 #[.val (.int p0), .val (.int p1), .val (.int (p0 &&& (2147483647 : Int32))), .val (.int (p1 &&& (2147483647 : Int32))), .unset, .unset, .unset, .unset] [(.int (p1 &&& (2147483647 : Int32))), (.int (p0 &&& (2147483647 : Int32)))]))
  obtain ⟨_, _, ⟨T1, L1, k1, n1⟩, -, X1, ⟨Lc1, hQ1, l1, y1, z1⟩, st1⟩ := Jvm.LawKit.callS X0 hx (y := (⟨"java/lang/Math", "min", "(II)I"⟩ : MethodName)) hown (mvT hZ (hw _ (List.mem_of_getElem? (i := 1) rfl))) (mvT hZ (hw _ (List.mem_of_getElem? (i := 2) rfl))) (mvT hZ (hw _ (List.mem_of_getElem? (i := 3) rfl))) (mvT hZ (hw _ (List.mem_of_getElem? (i := 4) rfl))) (by decide) (backOf (W := 0) (rm1 l Z a0 hw [] (p0 &&& (2147483647 : Int32)) (p1 &&& (2147483647 : Int32)) h0 n0 Z0 ) hZ (hw _ (List.mem_of_getElem? (i := 4) rfl)) (hw _ (List.mem_of_getElem? (i := 3) rfl)) (by decide) (by decide)) (g := (mkF m 12 #[.val (.int p0), .val (.int p1), .val (.int (p0 &&& (2147483647 : Int32))), .val (.int (p1 &&& (2147483647 : Int32))), .unset, .unset, .unset, .unset] [(.int (p1 &&& (2147483647 : Int32))), (.int (p0 &&& (2147483647 : Int32)))])) rfl (by rw [hml]; rfl) (argsL := [(.int (p0 &&& (2147483647 : Int32))), (.int (p1 &&& (2147483647 : Int32)))]) (rest := []) (lenOf pd_2 rfl) rfl (by show 2 * 0 + _ ≤ _; exact Nat.le_of_eq rfl) (hb hby at_12) (fun _ _ => ⟨rfl, e0, (by decide : 0 + 0 ≤ _), (by decide : 0 + 0 ≤ _)⟩)
  dsimp only [Pt.U, Pt.locs, Pt.cells, Pt.slots] at X1 l1 y1 z1 st1 hQ1
  subst l1 y1 z1
  obtain ⟨rfl, Nq1, e1⟩ := hQ1
  have N1 := Fr.app N0 Nq1
  refine go st1 ?_
  show Goes p.tables e below _ (T1.setTop (mkF m 15 #[.val (.int p0), .val (.int p1), .val (.int (p0 &&& (2147483647 : Int32))), .val (.int (p1 &&& (2147483647 : Int32))), .unset, .unset, .unset, .unset] [(.int (own_min (p0 &&& (2147483647 : Int32)) (p1 &&& (2147483647 : Int32))))]))
  refine go (fun t kt => XS.istore X1.here hx rfl (hb hby at_15) rfl (l' := #[.val (.int p0), .val (.int p1), .val (.int (p0 &&& (2147483647 : Int32))), .val (.int (p1 &&& (2147483647 : Int32))), .val (.int (own_min (p0 &&& (2147483647 : Int32)) (p1 &&& (2147483647 : Int32)))), .unset, .unset, .unset]) rfl kt) ?_
  show Goes p.tables e below _ (T1.setTop (mkF m 17 #[.val (.int p0), .val (.int p1), .val (.int (p0 &&& (2147483647 : Int32))), .val (.int (p1 &&& (2147483647 : Int32))), .val (.int (own_min (p0 &&& (2147483647 : Int32)) (p1 &&& (2147483647 : Int32)))), .unset, .unset, .unset] []))
  refine go (fun t kt => XS.iloadN X1.here hx rfl (hb hby at_17) rfl kt) ?_
  show Goes p.tables e below _ (T1.setTop (mkF m 18 #[.val (.int p0), .val (.int p1), .val (.int (p0 &&& (2147483647 : Int32))), .val (.int (p1 &&& (2147483647 : Int32))), .val (.int (own_min (p0 &&& (2147483647 : Int32)) (p1 &&& (2147483647 : Int32)))), .unset, .unset, .unset] [(.int (p0 &&& (2147483647 : Int32)))]))
  refine go (fun t kt => XS.iloadN X1.here hx rfl (hb hby at_18) rfl kt) ?_
  show Goes p.tables e below _ (T1.setTop (mkF m 19 #[.val (.int p0), .val (.int p1), .val (.int (p0 &&& (2147483647 : Int32))), .val (.int (p1 &&& (2147483647 : Int32))), .val (.int (own_min (p0 &&& (2147483647 : Int32)) (p1 &&& (2147483647 : Int32)))), .unset, .unset, .unset] [(.int (p1 &&& (2147483647 : Int32))), (.int (p0 &&& (2147483647 : Int32)))]))
  obtain ⟨_, _, ⟨T2, L2, k2, n2⟩, -, X2, ⟨Lc2, hQ2, l2, y2, z2⟩, st2⟩ := Jvm.LawKit.callS X1 hx (y := (⟨"java/lang/Math", "max", "(II)I"⟩ : MethodName)) hown (mvT hZ (hw _ (List.mem_of_getElem? (i := 5) rfl))) (mvT hZ (hw _ (List.mem_of_getElem? (i := 6) rfl))) (mvT hZ (hw _ (List.mem_of_getElem? (i := 3) rfl))) (mvT hZ (hw _ (List.mem_of_getElem? (i := 7) rfl))) (by decide) (backOf (W := 0) (rm2 l Z a0 hw [] (p0 &&& (2147483647 : Int32)) (p1 &&& (2147483647 : Int32)) h0 n0 Z0 ) hZ (hw _ (List.mem_of_getElem? (i := 7) rfl)) (hw _ (List.mem_of_getElem? (i := 3) rfl)) (by decide) (by decide)) (g := (mkF m 19 #[.val (.int p0), .val (.int p1), .val (.int (p0 &&& (2147483647 : Int32))), .val (.int (p1 &&& (2147483647 : Int32))), .val (.int (own_min (p0 &&& (2147483647 : Int32)) (p1 &&& (2147483647 : Int32)))), .unset, .unset, .unset] [(.int (p1 &&& (2147483647 : Int32))), (.int (p0 &&& (2147483647 : Int32)))])) rfl (by rw [hml]; rfl) (argsL := [(.int (p0 &&& (2147483647 : Int32))), (.int (p1 &&& (2147483647 : Int32)))]) (rest := []) (lenOf pd_2 rfl) rfl (by show 2 * 0 + _ ≤ _; exact Nat.le_of_eq rfl) (hb hby at_19) (fun _ _ => ⟨rfl, e1, (by decide : 0 + 0 ≤ _), (by decide : 0 + 0 ≤ _)⟩)
  dsimp only [Pt.U, Pt.locs, Pt.cells, Pt.slots] at X2 l2 y2 z2 st2 hQ2
  subst l2 y2 z2
  obtain ⟨rfl, Nq2, e2⟩ := hQ2
  have N2 := Fr.app N1 Nq2
  refine go st2 ?_
  show Goes p.tables e below _ (T2.setTop (mkF m 22 #[.val (.int p0), .val (.int p1), .val (.int (p0 &&& (2147483647 : Int32))), .val (.int (p1 &&& (2147483647 : Int32))), .val (.int (own_min (p0 &&& (2147483647 : Int32)) (p1 &&& (2147483647 : Int32)))), .unset, .unset, .unset] [(.int (own_max (p0 &&& (2147483647 : Int32)) (p1 &&& (2147483647 : Int32))))]))
  refine go (fun t kt => XS.istore X2.here hx rfl (hb hby at_22) rfl (l' := #[.val (.int p0), .val (.int p1), .val (.int (p0 &&& (2147483647 : Int32))), .val (.int (p1 &&& (2147483647 : Int32))), .val (.int (own_min (p0 &&& (2147483647 : Int32)) (p1 &&& (2147483647 : Int32)))), .val (.int (own_max (p0 &&& (2147483647 : Int32)) (p1 &&& (2147483647 : Int32)))), .unset, .unset]) rfl kt) ?_
  show Goes p.tables e below _ (T2.setTop (mkF m 24 #[.val (.int p0), .val (.int p1), .val (.int (p0 &&& (2147483647 : Int32))), .val (.int (p1 &&& (2147483647 : Int32))), .val (.int (own_min (p0 &&& (2147483647 : Int32)) (p1 &&& (2147483647 : Int32)))), .val (.int (own_max (p0 &&& (2147483647 : Int32)) (p1 &&& (2147483647 : Int32)))), .unset, .unset] []))
  refine go (fun t kt => XS.iload X2.here hx rfl (hb hby at_24) rfl kt) ?_
  show Goes p.tables e below _ (T2.setTop (mkF m 26 #[.val (.int p0), .val (.int p1), .val (.int (p0 &&& (2147483647 : Int32))), .val (.int (p1 &&& (2147483647 : Int32))), .val (.int (own_min (p0 &&& (2147483647 : Int32)) (p1 &&& (2147483647 : Int32)))), .val (.int (own_max (p0 &&& (2147483647 : Int32)) (p1 &&& (2147483647 : Int32)))), .unset, .unset] [(.int (own_min (p0 &&& (2147483647 : Int32)) (p1 &&& (2147483647 : Int32))))]))
  refine go (fun t kt => XS.iload X2.here hx rfl (hb hby at_26) rfl kt) ?_
  show Goes p.tables e below _ (T2.setTop (mkF m 28 #[.val (.int p0), .val (.int p1), .val (.int (p0 &&& (2147483647 : Int32))), .val (.int (p1 &&& (2147483647 : Int32))), .val (.int (own_min (p0 &&& (2147483647 : Int32)) (p1 &&& (2147483647 : Int32)))), .val (.int (own_max (p0 &&& (2147483647 : Int32)) (p1 &&& (2147483647 : Int32)))), .unset, .unset] [(.int (own_max (p0 &&& (2147483647 : Int32)) (p1 &&& (2147483647 : Int32)))), (.int (own_min (p0 &&& (2147483647 : Int32)) (p1 &&& (2147483647 : Int32))))]))
  obtain ⟨_, _, ⟨T3, L3, k3, n3⟩, -, X3, ⟨Lc3, hQ3, l3, y3, z3⟩, st3⟩ := Jvm.LawKit.callS X2 hx (y := (⟨"com/example/terraschema/terraschema/model/Multiplicity", "bounded", "(II)Lcom/example/terraschema/terraschema/model/Multiplicity;"⟩ : MethodName)) hown (mvT hZ (hw _ (List.mem_of_getElem? (i := 8) rfl))) (mvT hZ (hw _ (List.mem_of_getElem? (i := 9) rfl))) (mvT hZ (hw _ (List.mem_of_getElem? (i := 10) rfl))) (mvT hZ (hw _ (List.mem_of_getElem? (i := 11) rfl))) (by decide) (backOf (W := 0) (rm3 l Z a0 hw [] (own_min (p0 &&& (2147483647 : Int32)) (p1 &&& (2147483647 : Int32))) (own_max (p0 &&& (2147483647 : Int32)) (p1 &&& (2147483647 : Int32))) h0 n0 Z0 (own_lo (p0 &&& 2147483647) (p1 &&& 2147483647) (own_nn p0) (own_nn p1)) (own_lh (p0 &&& 2147483647) (p1 &&& 2147483647))) hZ (hw _ (List.mem_of_getElem? (i := 11) rfl)) (hw _ (List.mem_of_getElem? (i := 10) rfl)) (by decide) (by decide)) (g := (mkF m 28 #[.val (.int p0), .val (.int p1), .val (.int (p0 &&& (2147483647 : Int32))), .val (.int (p1 &&& (2147483647 : Int32))), .val (.int (own_min (p0 &&& (2147483647 : Int32)) (p1 &&& (2147483647 : Int32)))), .val (.int (own_max (p0 &&& (2147483647 : Int32)) (p1 &&& (2147483647 : Int32)))), .unset, .unset] [(.int (own_max (p0 &&& (2147483647 : Int32)) (p1 &&& (2147483647 : Int32)))), (.int (own_min (p0 &&& (2147483647 : Int32)) (p1 &&& (2147483647 : Int32))))])) rfl (by rw [hml]; rfl) (argsL := [(.int (own_min (p0 &&& (2147483647 : Int32)) (p1 &&& (2147483647 : Int32)))), (.int (own_max (p0 &&& (2147483647 : Int32)) (p1 &&& (2147483647 : Int32))))]) (rest := []) (lenOf pd_3 rfl) rfl (by show 2 * 0 + _ ≤ _; exact Nat.le_of_eq rfl) (hb hby at_28) (fun _ _ => ⟨rfl, e2, (by decide : 0 + 1 ≤ _), (by decide : 0 + 2 ≤ _)⟩)
  dsimp only [Pt.U, Pt.locs, Pt.cells, Pt.slots] at X3 l3 y3 z3 st3 hQ3
  subst l3 y3 z3
  obtain ⟨b3, g3⟩ : ∃ z, z = h0.size := ⟨_, rfl⟩
  have g_b3 : n0 ≤ b3 := Nat.le_trans Z0 (Nat.le_of_eq g3.symm)
  have sz_b3 : h0.size ≤ b3 := Nat.le_trans K0.1 (Nat.le_of_eq g3.symm)
  obtain ⟨rfl, Nq3, Kq3, Eq3, Fq3_lower, Fq3_upper⟩ := hQ3
  rw [← g3] at Eq3 Fq3_lower Fq3_upper st3
  have Zz3 := Nat.le_trans Z0 Kq3.1
  have Kk3 := K0.trans Kq3 all0
  have E_b3 := Eq3
  have F_lower_b3 := Fq3_lower
  have F_upper_b3 := Fq3_upper
  have N3 := Fr.app N2 Nq3
  refine go st3 ?_
  show Goes p.tables e below _ (T3.setTop (mkF m 31 #[.val (.int p0), .val (.int p1), .val (.int (p0 &&& (2147483647 : Int32))), .val (.int (p1 &&& (2147483647 : Int32))), .val (.int (own_min (p0 &&& (2147483647 : Int32)) (p1 &&& (2147483647 : Int32)))), .val (.int (own_max (p0 &&& (2147483647 : Int32)) (p1 &&& (2147483647 : Int32)))), .unset, .unset] [(.ref b3)]))
  refine go (fun t kt => XS.astore X3.here hx rfl (hb hby at_31) rfl rfl (l' := #[.val (.int p0), .val (.int p1), .val (.int (p0 &&& (2147483647 : Int32))), .val (.int (p1 &&& (2147483647 : Int32))), .val (.int (own_min (p0 &&& (2147483647 : Int32)) (p1 &&& (2147483647 : Int32)))), .val (.int (own_max (p0 &&& (2147483647 : Int32)) (p1 &&& (2147483647 : Int32)))), .val (.ref b3), .unset]) rfl kt) ?_
  show Goes p.tables e below _ (T3.setTop (mkF m 33 #[.val (.int p0), .val (.int p1), .val (.int (p0 &&& (2147483647 : Int32))), .val (.int (p1 &&& (2147483647 : Int32))), .val (.int (own_min (p0 &&& (2147483647 : Int32)) (p1 &&& (2147483647 : Int32)))), .val (.int (own_max (p0 &&& (2147483647 : Int32)) (p1 &&& (2147483647 : Int32)))), .val (.ref b3), .unset] []))
  refine go (fun t kt => XS.aload X3.here hx rfl (hb hby at_33) rfl rfl kt) ?_
  show Goes p.tables e below _ (T3.setTop (mkF m 35 #[.val (.int p0), .val (.int p1), .val (.int (p0 &&& (2147483647 : Int32))), .val (.int (p1 &&& (2147483647 : Int32))), .val (.int (own_min (p0 &&& (2147483647 : Int32)) (p1 &&& (2147483647 : Int32)))), .val (.int (own_max (p0 &&& (2147483647 : Int32)) (p1 &&& (2147483647 : Int32)))), .val (.ref b3), .unset] [(.ref b3)]))
  obtain ⟨cq4, kq4, q4a, q4b, q4c⟩ := isOf hZ rfl E_b3
  obtain ⟨_, _, ⟨T4, L4, k4, n4⟩, -, X4, ⟨Lc4, hQ4, l4, y4, z4⟩, st4⟩ := X3.virtualBack hx (y := (⟨"com/example/terraschema/terraschema/model/Multiplicity", "lower", "()I"⟩ : MethodName)) (z := (⟨"com/example/terraschema/terraschema/model/Multiplicity", "lower", "()I"⟩ : MethodName)) hown (mvT hZ (hw _ (List.mem_of_getElem? (i := 24) rfl))) (mvT hZ (hw _ (List.mem_of_getElem? (i := 25) rfl))) (notFace_of_selects (args := #[]) (mvT hZ (hw _ (List.mem_of_getElem? (i := 27) rfl)))) (mvT hZ (hw _ (List.mem_of_getElem? (i := 27) rfl))) (mvT hZ (hw _ (List.mem_of_getElem? (i := 26) rfl))) (by decide) (backOf (W := 0) (rm6 l Z a0 hw [] b3 (own_min (p0 &&& (2147483647 : Int32)) (p1 &&& (2147483647 : Int32))) T3.heap n0 Zz3 F_lower_b3) hZ (hw _ (List.mem_of_getElem? (i := 28) rfl)) (hw _ (List.mem_of_getElem? (i := 10) rfl)) (by decide) (by decide)) q4a q4c (g := (mkF m 35 #[.val (.int p0), .val (.int p1), .val (.int (p0 &&& (2147483647 : Int32))), .val (.int (p1 &&& (2147483647 : Int32))), .val (.int (own_min (p0 &&& (2147483647 : Int32)) (p1 &&& (2147483647 : Int32)))), .val (.int (own_max (p0 &&& (2147483647 : Int32)) (p1 &&& (2147483647 : Int32)))), .val (.ref b3), .unset] [(.ref b3)])) rfl (by rw [hml]; rfl) (Steps.refl _) (argsL := []) (rest := []) (lenOf pd_4 rfl) rfl (by show 2 * 0 + _ ≤ _; exact Nat.le_of_eq rfl) (hb hby at_35) (fun _ _ => ⟨rfl, rfl, (by decide : 1 + 0 ≤ _), (by decide : 2 + 0 ≤ _)⟩)
  dsimp only [Pt.U, Pt.locs, Pt.cells, Pt.slots] at X4 l4 y4 z4 st4 hQ4
  subst l4 y4 z4
  obtain ⟨rfl, Nq4, e4⟩ := hQ4
  have N4 := Fr.app N3 Nq4
  refine go (fun t kt => st4.trans kt) ?_
  show Goes p.tables e below _ (T4.setTop (mkF m 38 #[.val (.int p0), .val (.int p1), .val (.int (p0 &&& (2147483647 : Int32))), .val (.int (p1 &&& (2147483647 : Int32))), .val (.int (own_min (p0 &&& (2147483647 : Int32)) (p1 &&& (2147483647 : Int32)))), .val (.int (own_max (p0 &&& (2147483647 : Int32)) (p1 &&& (2147483647 : Int32)))), .val (.ref b3), .unset] [(.int (own_lower (own_min (p0 &&& (2147483647 : Int32)) (p1 &&& (2147483647 : Int32)))))]))
  refine go (fun t kt => XS.iload X4.here hx rfl (hb hby at_38) rfl kt) ?_
  show Goes p.tables e below _ (T4.setTop (mkF m 40 #[.val (.int p0), .val (.int p1), .val (.int (p0 &&& (2147483647 : Int32))), .val (.int (p1 &&& (2147483647 : Int32))), .val (.int (own_min (p0 &&& (2147483647 : Int32)) (p1 &&& (2147483647 : Int32)))), .val (.int (own_max (p0 &&& (2147483647 : Int32)) (p1 &&& (2147483647 : Int32)))), .val (.ref b3), .unset] [(.int (own_min (p0 &&& (2147483647 : Int32)) (p1 &&& (2147483647 : Int32)))), (.int (own_lower (own_min (p0 &&& (2147483647 : Int32)) (p1 &&& (2147483647 : Int32)))))]))
  refine go (fun t kt => XS.icmpYes X4.here hx rfl (pc0 := 40) (pc' := 45) rfl (hb hby at_40) rfl (teq (rfl : (own_lower (own_min (p0 &&& (2147483647 : Int32)) (p1 &&& (2147483647 : Int32)))) = (own_min (p0 &&& (2147483647 : Int32)) (p1 &&& (2147483647 : Int32))))).1 (by decide) (by decide) kt) ?_
  show Goes p.tables e below _ (T4.setTop (mkF m 45 #[.val (.int p0), .val (.int p1), .val (.int (p0 &&& (2147483647 : Int32))), .val (.int (p1 &&& (2147483647 : Int32))), .val (.int (own_min (p0 &&& (2147483647 : Int32)) (p1 &&& (2147483647 : Int32)))), .val (.int (own_max (p0 &&& (2147483647 : Int32)) (p1 &&& (2147483647 : Int32)))), .val (.ref b3), .unset] []))
  refine go (fun t kt => XS.aload X4.here hx rfl (hb hby at_45) rfl rfl kt) ?_
  show Goes p.tables e below _ (T4.setTop (mkF m 47 #[.val (.int p0), .val (.int p1), .val (.int (p0 &&& (2147483647 : Int32))), .val (.int (p1 &&& (2147483647 : Int32))), .val (.int (own_min (p0 &&& (2147483647 : Int32)) (p1 &&& (2147483647 : Int32)))), .val (.int (own_max (p0 &&& (2147483647 : Int32)) (p1 &&& (2147483647 : Int32)))), .val (.ref b3), .unset] [(.ref b3)]))
  obtain ⟨cq5, kq5, q5a, q5b, q5c⟩ := isOf hZ e4 E_b3
  obtain ⟨_, _, ⟨T5, L5, k5, n5⟩, -, X5, ⟨Lc5, hQ5, l5, y5, z5⟩, st5⟩ := X4.virtualBack hx (y := (⟨"com/example/terraschema/terraschema/model/Multiplicity", "isUnbounded", "()Z"⟩ : MethodName)) (z := (⟨"com/example/terraschema/terraschema/model/Multiplicity", "isUnbounded", "()Z"⟩ : MethodName)) hown (mvT hZ (hw _ (List.mem_of_getElem? (i := 29) rfl))) (mvT hZ (hw _ (List.mem_of_getElem? (i := 30) rfl))) (notFace_of_selects (args := #[]) (mvT hZ (hw _ (List.mem_of_getElem? (i := 32) rfl)))) (mvT hZ (hw _ (List.mem_of_getElem? (i := 32) rfl))) (mvT hZ (hw _ (List.mem_of_getElem? (i := 31) rfl))) (by decide) (backOf (W := 0) (rm7 l Z a0 hw [] b3 (own_max (p0 &&& (2147483647 : Int32)) (p1 &&& (2147483647 : Int32))) T3.heap n0 Zz3 F_upper_b3) hZ (hw _ (List.mem_of_getElem? (i := 33) rfl)) (hw _ (List.mem_of_getElem? (i := 10) rfl)) (by decide) (by decide)) q5a q5c (g := (mkF m 47 #[.val (.int p0), .val (.int p1), .val (.int (p0 &&& (2147483647 : Int32))), .val (.int (p1 &&& (2147483647 : Int32))), .val (.int (own_min (p0 &&& (2147483647 : Int32)) (p1 &&& (2147483647 : Int32)))), .val (.int (own_max (p0 &&& (2147483647 : Int32)) (p1 &&& (2147483647 : Int32)))), .val (.ref b3), .unset] [(.ref b3)])) rfl (by rw [hml]; rfl) (Steps.refl _) (argsL := []) (rest := []) (lenOf pd_1 rfl) rfl (by show 2 * 0 + _ ≤ _; exact Nat.le_of_eq rfl) (hb hby at_47) (fun _ _ => ⟨rfl, e4, (by decide : 1 + 0 ≤ _), (by decide : 2 + 0 ≤ _)⟩)
  dsimp only [Pt.U, Pt.locs, Pt.cells, Pt.slots] at X5 l5 y5 z5 st5 hQ5
  subst l5 y5 z5
  obtain ⟨rfl, Nq5, e5⟩ := hQ5
  have N5 := Fr.app N4 Nq5
  refine go (fun t kt => st5.trans kt) ?_
  show Goes p.tables e below _ (T5.setTop (mkF m 50 #[.val (.int p0), .val (.int p1), .val (.int (p0 &&& (2147483647 : Int32))), .val (.int (p1 &&& (2147483647 : Int32))), .val (.int (own_min (p0 &&& (2147483647 : Int32)) (p1 &&& (2147483647 : Int32)))), .val (.int (own_max (p0 &&& (2147483647 : Int32)) (p1 &&& (2147483647 : Int32)))), .val (.ref b3), .unset] [(.int (own_isUnb (own_max (p0 &&& (2147483647 : Int32)) (p1 &&& (2147483647 : Int32)))))]))
  refine go (fun t kt => XS.ifYes X5.here hx rfl (pc0 := 50) (pc' := 55) rfl (hb hby at_50) rfl ((if0 _ _).trans (teq (own_u0 _ (own_hi (p0 &&& 2147483647) (p1 &&& 2147483647) (own_nn p0) (own_nn p1)))).1) (by decide) (by decide) kt) ?_
  show Goes p.tables e below _ (T5.setTop (mkF m 55 #[.val (.int p0), .val (.int p1), .val (.int (p0 &&& (2147483647 : Int32))), .val (.int (p1 &&& (2147483647 : Int32))), .val (.int (own_min (p0 &&& (2147483647 : Int32)) (p1 &&& (2147483647 : Int32)))), .val (.int (own_max (p0 &&& (2147483647 : Int32)) (p1 &&& (2147483647 : Int32)))), .val (.ref b3), .unset] []))
  refine go (fun t kt => XS.aload X5.here hx rfl (hb hby at_55) rfl rfl kt) ?_
  show Goes p.tables e below _ (T5.setTop (mkF m 57 #[.val (.int p0), .val (.int p1), .val (.int (p0 &&& (2147483647 : Int32))), .val (.int (p1 &&& (2147483647 : Int32))), .val (.int (own_min (p0 &&& (2147483647 : Int32)) (p1 &&& (2147483647 : Int32)))), .val (.int (own_max (p0 &&& (2147483647 : Int32)) (p1 &&& (2147483647 : Int32)))), .val (.ref b3), .unset] [(.ref b3)]))
  obtain ⟨cq6, kq6, q6a, q6b, q6c⟩ := isOf hZ e5 E_b3
  obtain ⟨_, _, ⟨T6, L6, k6, n6⟩, -, X6, ⟨Lc6, hQ6, l6, y6, z6⟩, st6⟩ := X5.virtualBack hx (y := (⟨"com/example/terraschema/terraschema/model/Multiplicity", "upper", "()I"⟩ : MethodName)) (z := (⟨"com/example/terraschema/terraschema/model/Multiplicity", "upper", "()I"⟩ : MethodName)) hown (mvT hZ (hw _ (List.mem_of_getElem? (i := 34) rfl))) (mvT hZ (hw _ (List.mem_of_getElem? (i := 35) rfl))) (notFace_of_selects (args := #[]) (mvT hZ (hw _ (List.mem_of_getElem? (i := 37) rfl)))) (mvT hZ (hw _ (List.mem_of_getElem? (i := 37) rfl))) (mvT hZ (hw _ (List.mem_of_getElem? (i := 36) rfl))) (by decide) (backOf (W := 0) (rm8 l Z a0 hw [] b3 (own_max (p0 &&& (2147483647 : Int32)) (p1 &&& (2147483647 : Int32))) T3.heap n0 Zz3 E_b3 F_upper_b3 (own_hi (p0 &&& 2147483647) (p1 &&& 2147483647) (own_nn p0) (own_nn p1))) hZ (hw _ (List.mem_of_getElem? (i := 38) rfl)) (hw _ (List.mem_of_getElem? (i := 10) rfl)) (by decide) (by decide)) q6a q6c (g := (mkF m 57 #[.val (.int p0), .val (.int p1), .val (.int (p0 &&& (2147483647 : Int32))), .val (.int (p1 &&& (2147483647 : Int32))), .val (.int (own_min (p0 &&& (2147483647 : Int32)) (p1 &&& (2147483647 : Int32)))), .val (.int (own_max (p0 &&& (2147483647 : Int32)) (p1 &&& (2147483647 : Int32)))), .val (.ref b3), .unset] [(.ref b3)])) rfl (by rw [hml]; rfl) (Steps.refl _) (argsL := []) (rest := []) (lenOf pd_4 rfl) rfl (by show 2 * 0 + _ ≤ _; exact Nat.le_of_eq rfl) (hb hby at_57) (fun _ _ => ⟨rfl, e5, (by decide : 1 + 0 ≤ _), (by decide : 2 + 0 ≤ _)⟩)
  dsimp only [Pt.U, Pt.locs, Pt.cells, Pt.slots] at X6 l6 y6 z6 st6 hQ6
  subst l6 y6 z6
  obtain ⟨rfl, Nq6, e6⟩ := hQ6
  have N6 := Fr.app N5 Nq6
  refine go (fun t kt => st6.trans kt) ?_
  show Goes p.tables e below _ (T6.setTop (mkF m 60 #[.val (.int p0), .val (.int p1), .val (.int (p0 &&& (2147483647 : Int32))), .val (.int (p1 &&& (2147483647 : Int32))), .val (.int (own_min (p0 &&& (2147483647 : Int32)) (p1 &&& (2147483647 : Int32)))), .val (.int (own_max (p0 &&& (2147483647 : Int32)) (p1 &&& (2147483647 : Int32)))), .val (.ref b3), .unset] [(.int (own_upper (own_max (p0 &&& (2147483647 : Int32)) (p1 &&& (2147483647 : Int32)))))]))
  refine go (fun t kt => XS.iload X6.here hx rfl (hb hby at_60) rfl kt) ?_
  show Goes p.tables e below _ (T6.setTop (mkF m 62 #[.val (.int p0), .val (.int p1), .val (.int (p0 &&& (2147483647 : Int32))), .val (.int (p1 &&& (2147483647 : Int32))), .val (.int (own_min (p0 &&& (2147483647 : Int32)) (p1 &&& (2147483647 : Int32)))), .val (.int (own_max (p0 &&& (2147483647 : Int32)) (p1 &&& (2147483647 : Int32)))), .val (.ref b3), .unset] [(.int (own_max (p0 &&& (2147483647 : Int32)) (p1 &&& (2147483647 : Int32)))), (.int (own_upper (own_max (p0 &&& (2147483647 : Int32)) (p1 &&& (2147483647 : Int32)))))]))
  refine go (fun t kt => XS.icmpYes X6.here hx rfl (pc0 := 62) (pc' := 67) rfl (hb hby at_62) rfl (teq (rfl : (own_upper (own_max (p0 &&& (2147483647 : Int32)) (p1 &&& (2147483647 : Int32)))) = (own_max (p0 &&& (2147483647 : Int32)) (p1 &&& (2147483647 : Int32))))).1 (by decide) (by decide) kt) ?_
  show Goes p.tables e below _ (T6.setTop (mkF m 67 #[.val (.int p0), .val (.int p1), .val (.int (p0 &&& (2147483647 : Int32))), .val (.int (p1 &&& (2147483647 : Int32))), .val (.int (own_min (p0 &&& (2147483647 : Int32)) (p1 &&& (2147483647 : Int32)))), .val (.int (own_max (p0 &&& (2147483647 : Int32)) (p1 &&& (2147483647 : Int32)))), .val (.ref b3), .unset] []))
  refine go (fun t kt => XS.iload X6.here hx rfl (hb hby at_67) rfl kt) ?_
  show Goes p.tables e below _ (T6.setTop (mkF m 69 #[.val (.int p0), .val (.int p1), .val (.int (p0 &&& (2147483647 : Int32))), .val (.int (p1 &&& (2147483647 : Int32))), .val (.int (own_min (p0 &&& (2147483647 : Int32)) (p1 &&& (2147483647 : Int32)))), .val (.int (own_max (p0 &&& (2147483647 : Int32)) (p1 &&& (2147483647 : Int32)))), .val (.ref b3), .unset] [(.int (own_max (p0 &&& (2147483647 : Int32)) (p1 &&& (2147483647 : Int32))))]))
  refine go (fun t kt => XS.iconst X6.here hx rfl (hb hby at_69) kt) ?_
  show Goes p.tables e below _ (T6.setTop (mkF m 70 #[.val (.int p0), .val (.int p1), .val (.int (p0 &&& (2147483647 : Int32))), .val (.int (p1 &&& (2147483647 : Int32))), .val (.int (own_min (p0 &&& (2147483647 : Int32)) (p1 &&& (2147483647 : Int32)))), .val (.int (own_max (p0 &&& (2147483647 : Int32)) (p1 &&& (2147483647 : Int32)))), .val (.ref b3), .unset] [(.int (1 : Int32)), (.int (own_max (p0 &&& (2147483647 : Int32)) (p1 &&& (2147483647 : Int32))))]))
  by_cases hc7 : (1 : Int32) < (own_max (p0 &&& (2147483647 : Int32)) (p1 &&& (2147483647 : Int32)))
  ·
    refine go (fun t kt => XS.icmpNo X6.here hx rfl (hb hby at_70) rfl (tlt hc7).2.2.2 kt) ?_
    show Goes p.tables e below _ (T6.setTop (mkF m 73 #[.val (.int p0), .val (.int p1), .val (.int (p0 &&& (2147483647 : Int32))), .val (.int (p1 &&& (2147483647 : Int32))), .val (.int (own_min (p0 &&& (2147483647 : Int32)) (p1 &&& (2147483647 : Int32)))), .val (.int (own_max (p0 &&& (2147483647 : Int32)) (p1 &&& (2147483647 : Int32)))), .val (.ref b3), .unset] []))
    refine go (fun t kt => XS.iconst X6.here hx rfl (hb hby at_73) kt) ?_
    show Goes p.tables e below _ (T6.setTop (mkF m 74 #[.val (.int p0), .val (.int p1), .val (.int (p0 &&& (2147483647 : Int32))), .val (.int (p1 &&& (2147483647 : Int32))), .val (.int (own_min (p0 &&& (2147483647 : Int32)) (p1 &&& (2147483647 : Int32)))), .val (.int (own_max (p0 &&& (2147483647 : Int32)) (p1 &&& (2147483647 : Int32)))), .val (.ref b3), .unset] [(.int (1 : Int32))]))
    refine go (fun t kt => XS.goto X6.here hx rfl (pc0 := 74) (pc' := 78) rfl (hb hby at_74) (by decide) (by decide) kt) ?_
    show Goes p.tables e below _ (T6.setTop (mkF m 78 #[.val (.int p0), .val (.int p1), .val (.int (p0 &&& (2147483647 : Int32))), .val (.int (p1 &&& (2147483647 : Int32))), .val (.int (own_min (p0 &&& (2147483647 : Int32)) (p1 &&& (2147483647 : Int32)))), .val (.int (own_max (p0 &&& (2147483647 : Int32)) (p1 &&& (2147483647 : Int32)))), .val (.ref b3), .unset] [(.int (1 : Int32))]))
    refine go (fun t kt => XS.istore X6.here hx rfl (hb hby at_78) rfl (l' := #[.val (.int p0), .val (.int p1), .val (.int (p0 &&& (2147483647 : Int32))), .val (.int (p1 &&& (2147483647 : Int32))), .val (.int (own_min (p0 &&& (2147483647 : Int32)) (p1 &&& (2147483647 : Int32)))), .val (.int (own_max (p0 &&& (2147483647 : Int32)) (p1 &&& (2147483647 : Int32)))), .val (.ref b3), .val (.int (1 : Int32))]) rfl kt) ?_
    show Goes p.tables e below _ (T6.setTop (mkF m 80 #[.val (.int p0), .val (.int p1), .val (.int (p0 &&& (2147483647 : Int32))), .val (.int (p1 &&& (2147483647 : Int32))), .val (.int (own_min (p0 &&& (2147483647 : Int32)) (p1 &&& (2147483647 : Int32)))), .val (.int (own_max (p0 &&& (2147483647 : Int32)) (p1 &&& (2147483647 : Int32)))), .val (.ref b3), .val (.int (1 : Int32))] []))
    refine go (fun t kt => XS.aload X6.here hx rfl (hb hby at_80) rfl rfl kt) ?_
    show Goes p.tables e below _ (T6.setTop (mkF m 82 #[.val (.int p0), .val (.int p1), .val (.int (p0 &&& (2147483647 : Int32))), .val (.int (p1 &&& (2147483647 : Int32))), .val (.int (own_min (p0 &&& (2147483647 : Int32)) (p1 &&& (2147483647 : Int32)))), .val (.int (own_max (p0 &&& (2147483647 : Int32)) (p1 &&& (2147483647 : Int32)))), .val (.ref b3), .val (.int (1 : Int32))] [(.ref b3)]))
    obtain ⟨cq8, kq8, q8a, q8b, q8c⟩ := isOf hZ e6 E_b3
    obtain ⟨_, _, ⟨T8, L8, k8, n8⟩, -, X8, ⟨Lc8, hQ8, l8, y8, z8⟩, st8⟩ := X6.virtualBack hx (y := (⟨"com/example/terraschema/terraschema/model/Multiplicity", "isMany", "()Z"⟩ : MethodName)) (z := (⟨"com/example/terraschema/terraschema/model/Multiplicity", "isMany", "()Z"⟩ : MethodName)) hown (mvT hZ (hw _ (List.mem_of_getElem? (i := 40) rfl))) (mvT hZ (hw _ (List.mem_of_getElem? (i := 41) rfl))) (notFace_of_selects (args := #[]) (mvT hZ (hw _ (List.mem_of_getElem? (i := 43) rfl)))) (mvT hZ (hw _ (List.mem_of_getElem? (i := 43) rfl))) (mvT hZ (hw _ (List.mem_of_getElem? (i := 42) rfl))) (by decide) (backOf (W := 0) (rm9 l Z a0 hw [] b3 (own_max (p0 &&& (2147483647 : Int32)) (p1 &&& (2147483647 : Int32))) T3.heap n0 Zz3 E_b3 F_upper_b3) hZ (hw _ (List.mem_of_getElem? (i := 44) rfl)) (hw _ (List.mem_of_getElem? (i := 10) rfl)) (by decide) (by decide)) q8a q8c (g := (mkF m 82 #[.val (.int p0), .val (.int p1), .val (.int (p0 &&& (2147483647 : Int32))), .val (.int (p1 &&& (2147483647 : Int32))), .val (.int (own_min (p0 &&& (2147483647 : Int32)) (p1 &&& (2147483647 : Int32)))), .val (.int (own_max (p0 &&& (2147483647 : Int32)) (p1 &&& (2147483647 : Int32)))), .val (.ref b3), .val (.int (1 : Int32))] [(.ref b3)])) rfl (by rw [hml]; rfl) (Steps.refl _) (argsL := []) (rest := []) (lenOf pd_1 rfl) rfl (by show 2 * 0 + _ ≤ _; exact Nat.le_of_eq rfl) (hb hby at_82) (fun _ _ => ⟨rfl, e6, (by decide : 1 + 0 ≤ _), (by decide : 2 + 0 ≤ _)⟩)
    dsimp only [Pt.U, Pt.locs, Pt.cells, Pt.slots] at X8 l8 y8 z8 st8 hQ8
    subst l8 y8 z8
    obtain ⟨rfl, Nq8, e8⟩ := hQ8
    have N8 := Fr.app N6 Nq8
    refine go (fun t kt => st8.trans kt) ?_
    show Goes p.tables e below _ (T8.setTop (mkF m 85 #[.val (.int p0), .val (.int p1), .val (.int (p0 &&& (2147483647 : Int32))), .val (.int (p1 &&& (2147483647 : Int32))), .val (.int (own_min (p0 &&& (2147483647 : Int32)) (p1 &&& (2147483647 : Int32)))), .val (.int (own_max (p0 &&& (2147483647 : Int32)) (p1 &&& (2147483647 : Int32)))), .val (.ref b3), .val (.int (1 : Int32))] [(.int (own_isMany (own_max (p0 &&& (2147483647 : Int32)) (p1 &&& (2147483647 : Int32)))))]))
    refine go (fun t kt => XS.iload X8.here hx rfl (hb hby at_85) rfl kt) ?_
    show Goes p.tables e below _ (T8.setTop (mkF m 87 #[.val (.int p0), .val (.int p1), .val (.int (p0 &&& (2147483647 : Int32))), .val (.int (p1 &&& (2147483647 : Int32))), .val (.int (own_min (p0 &&& (2147483647 : Int32)) (p1 &&& (2147483647 : Int32)))), .val (.int (own_max (p0 &&& (2147483647 : Int32)) (p1 &&& (2147483647 : Int32)))), .val (.ref b3), .val (.int (1 : Int32))] [(.int (1 : Int32)), (.int (own_isMany (own_max (p0 &&& (2147483647 : Int32)) (p1 &&& (2147483647 : Int32)))))]))
    refine go (fun t kt => XS.icmpNo X8.here hx rfl (hb hby at_87) rfl (teq (own_many1 _ hc7)).2 kt) ?_
    show Goes p.tables e below _ (T8.setTop (mkF m 90 #[.val (.int p0), .val (.int p1), .val (.int (p0 &&& (2147483647 : Int32))), .val (.int (p1 &&& (2147483647 : Int32))), .val (.int (own_min (p0 &&& (2147483647 : Int32)) (p1 &&& (2147483647 : Int32)))), .val (.int (own_max (p0 &&& (2147483647 : Int32)) (p1 &&& (2147483647 : Int32)))), .val (.ref b3), .val (.int (1 : Int32))] []))
    refine go (fun t kt => XS.iconst X8.here hx rfl (hb hby at_90) kt) ?_
    show Goes p.tables e below _ (T8.setTop (mkF m 91 #[.val (.int p0), .val (.int p1), .val (.int (p0 &&& (2147483647 : Int32))), .val (.int (p1 &&& (2147483647 : Int32))), .val (.int (own_min (p0 &&& (2147483647 : Int32)) (p1 &&& (2147483647 : Int32)))), .val (.int (own_max (p0 &&& (2147483647 : Int32)) (p1 &&& (2147483647 : Int32)))), .val (.ref b3), .val (.int (1 : Int32))] [(.int (1 : Int32))]))
    refine go (fun t kt => XS.goto X8.here hx rfl (pc0 := 91) (pc' := 95) rfl (hb hby at_91) (by decide) (by decide) kt) ?_
    show Goes p.tables e below _ (T8.setTop (mkF m 95 #[.val (.int p0), .val (.int p1), .val (.int (p0 &&& (2147483647 : Int32))), .val (.int (p1 &&& (2147483647 : Int32))), .val (.int (own_min (p0 &&& (2147483647 : Int32)) (p1 &&& (2147483647 : Int32)))), .val (.int (own_max (p0 &&& (2147483647 : Int32)) (p1 &&& (2147483647 : Int32)))), .val (.ref b3), .val (.int (1 : Int32))] [(.int (1 : Int32))]))
    obtain ⟨fs, hr, hrun, hended, hW, hsame⟩ := X8.leave (v := some (.int (1 : Int32))) (fun h => by rw [Bd.returns] at h; cases h)
    refine ⟨_, _, retN X8 hx (t := .boolean) Bd.returns (by simp) (hb hby at_95) hr, hrun, hended, _, _, rfl, ?_, ⟨_, rfl⟩, hW, hsame.mono (by decide) (by decide)⟩
    show Q0 Z p0 p1 h0 n0 _ T8.heap _
    rw [e8]
    exact ⟨rfl, N8⟩
  ·
    refine go (fun t kt => XS.icmpYes X6.here hx rfl (pc0 := 70) (pc' := 77) rfl (hb hby at_70) rfl (flt hc7).2.2.2 (by decide) (by decide) kt) ?_
    show Goes p.tables e below _ (T6.setTop (mkF m 77 #[.val (.int p0), .val (.int p1), .val (.int (p0 &&& (2147483647 : Int32))), .val (.int (p1 &&& (2147483647 : Int32))), .val (.int (own_min (p0 &&& (2147483647 : Int32)) (p1 &&& (2147483647 : Int32)))), .val (.int (own_max (p0 &&& (2147483647 : Int32)) (p1 &&& (2147483647 : Int32)))), .val (.ref b3), .unset] []))
    refine go (fun t kt => XS.iconst X6.here hx rfl (hb hby at_77) kt) ?_
    show Goes p.tables e below _ (T6.setTop (mkF m 78 #[.val (.int p0), .val (.int p1), .val (.int (p0 &&& (2147483647 : Int32))), .val (.int (p1 &&& (2147483647 : Int32))), .val (.int (own_min (p0 &&& (2147483647 : Int32)) (p1 &&& (2147483647 : Int32)))), .val (.int (own_max (p0 &&& (2147483647 : Int32)) (p1 &&& (2147483647 : Int32)))), .val (.ref b3), .unset] [(.int (0 : Int32))]))
    refine go (fun t kt => XS.istore X6.here hx rfl (hb hby at_78) rfl (l' := #[.val (.int p0), .val (.int p1), .val (.int (p0 &&& (2147483647 : Int32))), .val (.int (p1 &&& (2147483647 : Int32))), .val (.int (own_min (p0 &&& (2147483647 : Int32)) (p1 &&& (2147483647 : Int32)))), .val (.int (own_max (p0 &&& (2147483647 : Int32)) (p1 &&& (2147483647 : Int32)))), .val (.ref b3), .val (.int (0 : Int32))]) rfl kt) ?_
    show Goes p.tables e below _ (T6.setTop (mkF m 80 #[.val (.int p0), .val (.int p1), .val (.int (p0 &&& (2147483647 : Int32))), .val (.int (p1 &&& (2147483647 : Int32))), .val (.int (own_min (p0 &&& (2147483647 : Int32)) (p1 &&& (2147483647 : Int32)))), .val (.int (own_max (p0 &&& (2147483647 : Int32)) (p1 &&& (2147483647 : Int32)))), .val (.ref b3), .val (.int (0 : Int32))] []))
    refine go (fun t kt => XS.aload X6.here hx rfl (hb hby at_80) rfl rfl kt) ?_
    show Goes p.tables e below _ (T6.setTop (mkF m 82 #[.val (.int p0), .val (.int p1), .val (.int (p0 &&& (2147483647 : Int32))), .val (.int (p1 &&& (2147483647 : Int32))), .val (.int (own_min (p0 &&& (2147483647 : Int32)) (p1 &&& (2147483647 : Int32)))), .val (.int (own_max (p0 &&& (2147483647 : Int32)) (p1 &&& (2147483647 : Int32)))), .val (.ref b3), .val (.int (0 : Int32))] [(.ref b3)]))
    obtain ⟨cq10, kq10, q10a, q10b, q10c⟩ := isOf hZ e6 E_b3
    obtain ⟨_, _, ⟨T10, L10, k10, n10⟩, -, X10, ⟨Lc10, hQ10, l10, y10, z10⟩, st10⟩ := X6.virtualBack hx (y := (⟨"com/example/terraschema/terraschema/model/Multiplicity", "isMany", "()Z"⟩ : MethodName)) (z := (⟨"com/example/terraschema/terraschema/model/Multiplicity", "isMany", "()Z"⟩ : MethodName)) hown (mvT hZ (hw _ (List.mem_of_getElem? (i := 40) rfl))) (mvT hZ (hw _ (List.mem_of_getElem? (i := 41) rfl))) (notFace_of_selects (args := #[]) (mvT hZ (hw _ (List.mem_of_getElem? (i := 43) rfl)))) (mvT hZ (hw _ (List.mem_of_getElem? (i := 43) rfl))) (mvT hZ (hw _ (List.mem_of_getElem? (i := 42) rfl))) (by decide) (backOf (W := 0) (rm9 l Z a0 hw [] b3 (own_max (p0 &&& (2147483647 : Int32)) (p1 &&& (2147483647 : Int32))) T3.heap n0 Zz3 E_b3 F_upper_b3) hZ (hw _ (List.mem_of_getElem? (i := 44) rfl)) (hw _ (List.mem_of_getElem? (i := 10) rfl)) (by decide) (by decide)) q10a q10c (g := (mkF m 82 #[.val (.int p0), .val (.int p1), .val (.int (p0 &&& (2147483647 : Int32))), .val (.int (p1 &&& (2147483647 : Int32))), .val (.int (own_min (p0 &&& (2147483647 : Int32)) (p1 &&& (2147483647 : Int32)))), .val (.int (own_max (p0 &&& (2147483647 : Int32)) (p1 &&& (2147483647 : Int32)))), .val (.ref b3), .val (.int (0 : Int32))] [(.ref b3)])) rfl (by rw [hml]; rfl) (Steps.refl _) (argsL := []) (rest := []) (lenOf pd_1 rfl) rfl (by show 2 * 0 + _ ≤ _; exact Nat.le_of_eq rfl) (hb hby at_82) (fun _ _ => ⟨rfl, e6, (by decide : 1 + 0 ≤ _), (by decide : 2 + 0 ≤ _)⟩)
    dsimp only [Pt.U, Pt.locs, Pt.cells, Pt.slots] at X10 l10 y10 z10 st10 hQ10
    subst l10 y10 z10
    obtain ⟨rfl, Nq10, e10⟩ := hQ10
    have N10 := Fr.app N6 Nq10
    refine go (fun t kt => st10.trans kt) ?_
    show Goes p.tables e below _ (T10.setTop (mkF m 85 #[.val (.int p0), .val (.int p1), .val (.int (p0 &&& (2147483647 : Int32))), .val (.int (p1 &&& (2147483647 : Int32))), .val (.int (own_min (p0 &&& (2147483647 : Int32)) (p1 &&& (2147483647 : Int32)))), .val (.int (own_max (p0 &&& (2147483647 : Int32)) (p1 &&& (2147483647 : Int32)))), .val (.ref b3), .val (.int (0 : Int32))] [(.int (own_isMany (own_max (p0 &&& (2147483647 : Int32)) (p1 &&& (2147483647 : Int32)))))]))
    refine go (fun t kt => XS.iload X10.here hx rfl (hb hby at_85) rfl kt) ?_
    show Goes p.tables e below _ (T10.setTop (mkF m 87 #[.val (.int p0), .val (.int p1), .val (.int (p0 &&& (2147483647 : Int32))), .val (.int (p1 &&& (2147483647 : Int32))), .val (.int (own_min (p0 &&& (2147483647 : Int32)) (p1 &&& (2147483647 : Int32)))), .val (.int (own_max (p0 &&& (2147483647 : Int32)) (p1 &&& (2147483647 : Int32)))), .val (.ref b3), .val (.int (0 : Int32))] [(.int (0 : Int32)), (.int (own_isMany (own_max (p0 &&& (2147483647 : Int32)) (p1 &&& (2147483647 : Int32)))))]))
    refine go (fun t kt => XS.icmpNo X10.here hx rfl (hb hby at_87) rfl (teq (own_many0 _ (own_hi (p0 &&& 2147483647) (p1 &&& 2147483647) (own_nn p0) (own_nn p1)) hc7)).2 kt) ?_
    show Goes p.tables e below _ (T10.setTop (mkF m 90 #[.val (.int p0), .val (.int p1), .val (.int (p0 &&& (2147483647 : Int32))), .val (.int (p1 &&& (2147483647 : Int32))), .val (.int (own_min (p0 &&& (2147483647 : Int32)) (p1 &&& (2147483647 : Int32)))), .val (.int (own_max (p0 &&& (2147483647 : Int32)) (p1 &&& (2147483647 : Int32)))), .val (.ref b3), .val (.int (0 : Int32))] []))
    refine go (fun t kt => XS.iconst X10.here hx rfl (hb hby at_90) kt) ?_
    show Goes p.tables e below _ (T10.setTop (mkF m 91 #[.val (.int p0), .val (.int p1), .val (.int (p0 &&& (2147483647 : Int32))), .val (.int (p1 &&& (2147483647 : Int32))), .val (.int (own_min (p0 &&& (2147483647 : Int32)) (p1 &&& (2147483647 : Int32)))), .val (.int (own_max (p0 &&& (2147483647 : Int32)) (p1 &&& (2147483647 : Int32)))), .val (.ref b3), .val (.int (0 : Int32))] [(.int (1 : Int32))]))
    refine go (fun t kt => XS.goto X10.here hx rfl (pc0 := 91) (pc' := 95) rfl (hb hby at_91) (by decide) (by decide) kt) ?_
    show Goes p.tables e below _ (T10.setTop (mkF m 95 #[.val (.int p0), .val (.int p1), .val (.int (p0 &&& (2147483647 : Int32))), .val (.int (p1 &&& (2147483647 : Int32))), .val (.int (own_min (p0 &&& (2147483647 : Int32)) (p1 &&& (2147483647 : Int32)))), .val (.int (own_max (p0 &&& (2147483647 : Int32)) (p1 &&& (2147483647 : Int32)))), .val (.ref b3), .val (.int (0 : Int32))] [(.int (1 : Int32))]))
    obtain ⟨fs, hr, hrun, hended, hW, hsame⟩ := X10.leave (v := some (.int (1 : Int32))) (fun h => by rw [Bd.returns] at h; cases h)
    refine ⟨_, _, retN X10 hx (t := .boolean) Bd.returns (by simp) (hb hby at_95) hr, hrun, hended, _, _, rfl, ?_, ⟨_, rfl⟩, hW, hsame.mono (by decide) (by decide)⟩
    show Q0 Z p0 p1 h0 n0 _ T10.heap _
    rw [e10]
    exact ⟨rfl, N10⟩
set_option maxRecDepth 65536 in
set_option maxHeartbeats 40000000 in
theorem comes_1 {Post : Tables → Env → Array Value → State → Outcome → State → Prop} (hpost : ∀ tb e args s v u, (limb_1_1.after args s (.returned v) u = true ∧ limb_1_2.after args s (.returned v) u = true ∧ True) → FrameEnd s (.returned v) u (Jvm.fieldLocs frame_1_writes args s ++ Jvm.arrayLocs frame_1_arrays args s ++ Jvm.staticLocs frame_1_statics s) 16 128 → Post tb e args s (.returned v) u) :
    ArmFor flags0 classFile x code maxLocals ret World_1 tables_1 room_1 Calls_1 rest_1 Pre_1 Post := by
  intro l hfl _ _ p e ha hc hk s m args below hf hA hF happ hP
  obtain ⟨hcalls, hrest, hpre⟩ := hP
  obtain ⟨-, -, -, hnamed, -, -, -, hat⟩ := (Spec.applies_iff hf).mp happ
  obtain ⟨hg, hn⟩ := and_e (Cond.before_iff.mp (show (Jvm.Cond.and given_1 narrow_1).before args s = true from hpre))
  obtain ⟨u1, u2⟩ := and_e hg
  obtain ⟨u3, u4⟩ := and_e u2
  obtain ⟨w0, w1, rfl⟩ : ∃ w0 w1 : Value, args = #[w0, w1] := by
    have hs : args.size = 2 := by simpa [Cond.value, given_1] using u1
    obtain ⟨L⟩ := args
    match L, hs with
    | [w0, w1], _ => exact ⟨w0, w1, rfl⟩
  have hw := fun d (hd : d ∈ tables_1) => atoms_spec (ws := Jvm.Cond.code x code maxLocals ret :: tables_1) hat d (List.mem_cons_of_mem _ hd)
  obtain ⟨i0, ei0⟩ := is_v u3
  obtain rfl : w0 = (.int i0) := Option.some.inj ei0
  obtain ⟨i1, ei1⟩ := is_v u4
  obtain rfl : w1 = (.int i1) := Option.some.inj ei1
  obtain ⟨n, o, h1, h2, h3, _, L, rfl, ⟨rfl, N⟩, hq⟩ := rm0 l s _ hw tables_1 i0 i1  s.heap s.heap.size (Nat.le_refl _)  p e ha hc hk s m _ below hf ((Spec.applies_iff_loose hf).mp happ).1 ⟨rfl, State.Warmed39.refl s, rfl⟩ trivial
  refine ⟨n, _, h1, h2, h3, hpost _ _ _ _ _ _ ⟨Cond.after_iff.mpr rfl, Cond.after_iff.mpr (eq_i res_at (Term.int_eval (1)) rfl), trivial⟩ ⟨hq.1, hq.2.1, (hq.2.2.sift fun y hy => Or.inr (N y hy)).mono (by decide) (by decide)⟩⟩
theorem main_1_1 : Claimed_1_1 := comes_1 fun _ _ _ _ _ _ h hF => ⟨h.1, hF⟩
theorem main_1_2 : Claimed_1_2 := comes_1 fun _ _ _ _ _ _ h hF => ⟨h.2.1, hF⟩
end Jvm.Pilot.@@N@@
namespace Jvm.Pilot.@@N@@
open Jvm Jvm.ClassFile Sem Op Lib Jvm.Free Jvm.Stand Jvm.Pilot.@@N@@.Jvm.D
/-! MADE BY PROGRAM (witnessworld.py) out of the Statement's table words and the real class files: 10 classes; the members and pool entries that the words name. The judged class is class 1, her method 1. -/
namespace start1
open Jvm.ClassFile
def u (s : String) : CpInfo := .utf8 (stringToUtf16 s)
/-- a pool by its gaps: so many unusable entries, then the entry; so many at the end -/
def gap : Nat → List CpInfo → List CpInfo
  | 0, r => r
  | n + 1, r => .unusable :: gap n r
def poolList (es : List (Nat × CpInfo)) (last : Nat) : List CpInfo := es.foldr (fun e r => gap e.1 (e.2 :: r)) (gap last [])
def pool (es : List (Nat × CpInfo)) (last : Nat) : Array CpInfo := ⟨poolList es last⟩
def fileOf (pool : Array CpInfo) (this : Nat) (attrs : Array Attribute := #[]) (ms : Array MethodInfo := #[]) (fl : Nat := 33) (sup : Nat := 0) (ifs : Array Nat := #[]) (fds : Array FieldInfo := #[]) : ClassFile where
  minorVersion := 0
  majorVersion := 65
  constantPool := pool
  accessFlags := fl
  thisClass := this
  superClass := sup
  interfaces := ifs
  fields := fds
  methods := ms
  attributes := attrs
def plain (name : String) (sup : Option ClassId) : Class where
  name := name
  kind := .ordinary
  loader := none
  accessFlags := 33
  super := sup
  interfaces := #[]
  cf := none
  fields := #[]
  methods := #[]
  instanceTypes := #[]
  staticTypes := #[]
  resolved := #[]
  callSites := []
  init := .initialized
  statics := none
  mirror := none

def pool0 : Array CpInfo := pool [(5, u "<init>"), (0, u "()V"), (1, .class_ 10), (1, u "java/lang/Object")] 113

def k0c0 : Code := { maxStack := 0, maxLocals := 1, code := object_method_1_code, exceptionTable := #[], attributes := #[] }
def k0m0 : Method := { name := "<init>", desc := "()V", sig := { parameters := [], returnType := none }, accessFlags := 1, code := some k0c0 }
/-- java/lang/Object -/
def k0 : Class := { plain "java/lang/Object" none with
  accessFlags := 33
  interfaces := #[]
  cf := some (fileOf pool0 8 #[] #[{ accessFlags := 1, nameIndex := 5, descriptorIndex := 6, attributes := #[] }] 33 0 #[] #[])
  fields := #[]
  methods := #[k0m0]
  instanceTypes := #[]
  staticTypes := #[]
  resolved := Array.replicate 124 none
  statics := none }

def pool1 : Array CpInfo := pool [(2, .class_ 4), (1, u "java/lang/Object"), (0, u "<init>"), (0, u "()V"), (0, .integer 2147483647), (0, .methodref 9 10), (0, .class_ 11), (0, .nameAndType 12 13), (0, u "java/lang/Math"), (0, u "min"), (0, u "(II)I"), (0, .methodref 9 15), (0, .nameAndType 16 13), (0, u "max"), (0, .methodref 18 19), (0, .class_ 20), (0, .nameAndType 21 22), (0, u "com/example/terraschema/terraschema/model/Multiplicity"), (0, u "bounded"), (0, u "(II)Lcom/example/terraschema/terraschema/model/Multiplicity;"), (0, .methodref 18 24), (0, .nameAndType 25 26), (0, u "lower"), (0, u "()I"), (0, .methodref 18 28), (0, .nameAndType 29 30), (0, u "isUnbounded"), (0, u "()Z"), (0, .methodref 18 32), (0, .nameAndType 33 26), (0, u "upper"), (0, .methodref 18 35), (0, .nameAndType 36 30), (0, u "isMany"), (0, .class_ 38), (0, u "com/example/terraschema/terraschema/model/MultiplicityBoundedPinLaw"), (2, u "law"), (0, u "(II)Z")] 3

def k1m0 : Method := { name := "<init>", desc := "()V", sig := { parameters := [], returnType := none }, accessFlags := 1, code := none }
def k1c1 : Code := { maxStack := 2, maxLocals := 8, code := code, exceptionTable := #[], attributes := #[] }
def k1m1 : Method := { name := "law", desc := "(II)Z", sig := { parameters := [.int, .int], returnType := some .boolean }, accessFlags := 9, code := some k1c1 }
/-- com/example/terraschema/terraschema/model/MultiplicityBoundedPinLaw -/
def k1 : Class := { plain "com/example/terraschema/terraschema/model/MultiplicityBoundedPinLaw" (some 0) with
  accessFlags := 49
  interfaces := #[]
  cf := some (fileOf pool1 37 #[] #[{ accessFlags := 1, nameIndex := 5, descriptorIndex := 6, attributes := #[] }, { accessFlags := 9, nameIndex := 41, descriptorIndex := 42, attributes := #[] }] 49 2 #[] #[])
  fields := #[]
  methods := #[k1m0, k1m1]
  instanceTypes := #[]
  staticTypes := #[]
  resolved := Array.replicate 46 none
  statics := none }

def pool2 : Array CpInfo := pool [(1, .class_ 2), (0, u "java/lang/Math"), (1, .class_ 6), (1, u "java/lang/Object"), (0, u "<init>"), (0, u "()V"), (89, .class_ 100), (1, u "java/lang/Math$RandomNumberGeneratorHolder"), (71, u "negativeZeroFloatBits"), (0, u "J"), (2, u "negativeZeroDoubleBits"), (21, u "max"), (2, u "min"), (43, u "$assertionsDisabled"), (0, u "Z"), (88, u "(II)I"), (2, u "twoToTheDoubleScaleDown"), (0, u "D"), (4, u "twoToTheDoubleScaleUp"), (9, u "E"), (3, u "PI"), (2, u "TAU"), (2, u "DEGREES_TO_RADIANS"), (0, u "RADIANS_TO_DEGREES")] 94

def k2m0 : Method := { name := "<init>", desc := "()V", sig := { parameters := [], returnType := none }, accessFlags := 2, code := none }
def k2c1 : Code := { maxStack := 2, maxLocals := 2, code := jdk_29_method_65_code, exceptionTable := #[], attributes := #[] }
def k2m1 : Method := { name := "max", desc := "(II)I", sig := { parameters := [.int, .int], returnType := some .int }, accessFlags := 9, code := some k2c1 }
def k2c2 : Code := { maxStack := 2, maxLocals := 2, code := jdk_29_method_69_code, exceptionTable := #[], attributes := #[] }
def k2m2 : Method := { name := "min", desc := "(II)I", sig := { parameters := [.int, .int], returnType := some .int }, accessFlags := 9, code := some k2c2 }
/-- java/lang/Math -/
def k2 : Class := { plain "java/lang/Math" (some 0) with
  accessFlags := 49
  interfaces := #[]
  cf := some (fileOf pool2 1 #[.nestMembers #[98]] #[{ accessFlags := 2, nameIndex := 7, descriptorIndex := 8, attributes := #[] }, { accessFlags := 9, nameIndex := 198, descriptorIndex := 335, attributes := #[] }, { accessFlags := 9, nameIndex := 201, descriptorIndex := 335, attributes := #[] }] 49 4 #[] #[{ accessFlags := 25, nameIndex := 354, descriptorIndex := 339, attributes := #[] }, { accessFlags := 25, nameIndex := 358, descriptorIndex := 339, attributes := #[] }, { accessFlags := 25, nameIndex := 361, descriptorIndex := 339, attributes := #[] }, { accessFlags := 26, nameIndex := 364, descriptorIndex := 339, attributes := #[] }, { accessFlags := 26, nameIndex := 365, descriptorIndex := 339, attributes := #[] }, { accessFlags := 26, nameIndex := 172, descriptorIndex := 173, attributes := #[] }, { accessFlags := 26, nameIndex := 176, descriptorIndex := 173, attributes := #[] }, { accessFlags := 8, nameIndex := 344, descriptorIndex := 339, attributes := #[] }, { accessFlags := 8, nameIndex := 338, descriptorIndex := 339, attributes := #[] }, { accessFlags := 4120, nameIndex := 245, descriptorIndex := 246, attributes := #[] }])
  fields := #[{ name := "E", type := .double, accessFlags := 25, slot := 0, constantValue := 0 }, { name := "PI", type := .double, accessFlags := 25, slot := 1, constantValue := 0 }, { name := "TAU", type := .double, accessFlags := 25, slot := 2, constantValue := 0 }, { name := "DEGREES_TO_RADIANS", type := .double, accessFlags := 26, slot := 3, constantValue := 0 }, { name := "RADIANS_TO_DEGREES", type := .double, accessFlags := 26, slot := 4, constantValue := 0 }, { name := "negativeZeroFloatBits", type := .long, accessFlags := 26, slot := 5, constantValue := 0 }, { name := "negativeZeroDoubleBits", type := .long, accessFlags := 26, slot := 6, constantValue := 0 }, { name := "twoToTheDoubleScaleUp", type := .double, accessFlags := 8, slot := 7, constantValue := 0 }, { name := "twoToTheDoubleScaleDown", type := .double, accessFlags := 8, slot := 8, constantValue := 0 }, { name := "$assertionsDisabled", type := .boolean, accessFlags := 4120, slot := 9, constantValue := 0 }]
  methods := #[k2m0, k2m1, k2m2]
  instanceTypes := #[]
  staticTypes := #[.double, .double, .double, .double, .double, .long, .long, .double, .double, .boolean]
  resolved := Array.replicate 460 none
  statics := none }

def pool3 : Array CpInfo := pool [(1, .methodref 2 3), (0, .class_ 4), (0, .nameAndType 5 6), (0, u "java/lang/Object"), (0, u "<init>"), (0, u "()V"), (0, .fieldref 8 9), (0, .class_ 10), (0, .nameAndType 11 12), (0, u "com/example/terraschema/terraschema/model/Multiplicity"), (0, u "lower"), (0, u "I"), (0, .fieldref 8 14), (0, .nameAndType 15 12), (0, u "upper"), (9, .methodref 8 26), (0, .nameAndType 5 27), (0, u "(II)V"), (3, .methodref 8 32), (0, .nameAndType 33 34), (0, u "isUnbounded"), (0, u "()Z"), (7, u "ONE"), (0, u "Lcom/example/terraschema/terraschema/model/Multiplicity;"), (0, u "UNBOUNDED"), (4, u "bounded"), (0, u "(II)Lcom/example/terraschema/terraschema/model/Multiplicity;"), (3, u "()I"), (0, u "isMany")] 20

def k3c0 : Code := { maxStack := 2, maxLocals := 3, code := prog_22_method_1_code, exceptionTable := #[], attributes := #[] }
def k3m0 : Method := { name := "<init>", desc := "(II)V", sig := { parameters := [.int, .int], returnType := none }, accessFlags := 2, code := some k3c0 }
def k3c1 : Code := { maxStack := 4, maxLocals := 2, code := prog_22_method_2_code, exceptionTable := #[], attributes := #[] }
def k3m1 : Method := { name := "bounded", desc := "(II)Lcom/example/terraschema/terraschema/model/Multiplicity;", sig := { parameters := [.int, .int], returnType := some (.object "com/example/terraschema/terraschema/model/Multiplicity") }, accessFlags := 9, code := some k3c1 }
def k3c2 : Code := { maxStack := 1, maxLocals := 1, code := prog_22_method_4_code, exceptionTable := #[], attributes := #[] }
def k3m2 : Method := { name := "lower", desc := "()I", sig := { parameters := [], returnType := some .int }, accessFlags := 1, code := some k3c2 }
def k3c3 : Code := { maxStack := 2, maxLocals := 1, code := prog_22_method_5_code, exceptionTable := #[], attributes := #[] }
def k3m3 : Method := { name := "isUnbounded", desc := "()Z", sig := { parameters := [], returnType := some .boolean }, accessFlags := 1, code := some k3c3 }
def k3c4 : Code := { maxStack := 3, maxLocals := 1, code := prog_22_method_6_code, exceptionTable := #[], attributes := #[] }
def k3m4 : Method := { name := "upper", desc := "()I", sig := { parameters := [], returnType := some .int }, accessFlags := 1, code := some k3c4 }
def k3c5 : Code := { maxStack := 2, maxLocals := 1, code := prog_22_method_7_code, exceptionTable := #[], attributes := #[] }
def k3m5 : Method := { name := "isMany", desc := "()Z", sig := { parameters := [], returnType := some .boolean }, accessFlags := 1, code := some k3c5 }
/-- com/example/terraschema/terraschema/model/Multiplicity -/
def k3 : Class := { plain "com/example/terraschema/terraschema/model/Multiplicity" (some 0) with
  accessFlags := 33
  interfaces := #[]
  cf := some (fileOf pool3 8 #[] #[{ accessFlags := 2, nameIndex := 5, descriptorIndex := 27, attributes := #[] }, { accessFlags := 9, nameIndex := 49, descriptorIndex := 50, attributes := #[] }, { accessFlags := 1, nameIndex := 11, descriptorIndex := 54, attributes := #[] }, { accessFlags := 1, nameIndex := 33, descriptorIndex := 34, attributes := #[] }, { accessFlags := 1, nameIndex := 15, descriptorIndex := 54, attributes := #[] }, { accessFlags := 1, nameIndex := 55, descriptorIndex := 34, attributes := #[] }] 33 2 #[] #[{ accessFlags := 25, nameIndex := 42, descriptorIndex := 43, attributes := #[] }, { accessFlags := 26, nameIndex := 44, descriptorIndex := 12, attributes := #[] }, { accessFlags := 18, nameIndex := 11, descriptorIndex := 12, attributes := #[] }, { accessFlags := 18, nameIndex := 15, descriptorIndex := 12, attributes := #[] }])
  fields := #[{ name := "ONE", type := (.object "com/example/terraschema/terraschema/model/Multiplicity"), accessFlags := 25, slot := 0, constantValue := 0 }, { name := "UNBOUNDED", type := .int, accessFlags := 26, slot := 1, constantValue := 0 }, { name := "lower", type := .int, accessFlags := 18, slot := 0, constantValue := 0 }, { name := "upper", type := .int, accessFlags := 18, slot := 1, constantValue := 0 }]
  methods := #[k3m0, k3m1, k3m2, k3m3, k3m4, k3m5]
  instanceTypes := #[.int, .int]
  staticTypes := #[(.object "com/example/terraschema/terraschema/model/Multiplicity"), .int]
  resolved := Array.replicate 76 none
  statics := none }

def pool4 : Array CpInfo := pool [(1, u "java/lang/Cloneable"), (0, .class_ 1), (0, u "java/lang/Object"), (0, .class_ 3)] 3

/-- java/lang/Cloneable -/
def k4 : Class := { plain "java/lang/Cloneable" (some 0) with
  accessFlags := 1537
  interfaces := #[]
  cf := some (fileOf pool4 2 #[] #[] 1537 4 #[] #[])
  fields := #[]
  methods := #[]
  instanceTypes := #[]
  staticTypes := #[]
  resolved := Array.replicate 8 none
  statics := none }

def pool5 : Array CpInfo := pool [(1, u "java/io/Serializable"), (0, .class_ 1), (0, u "java/lang/Object"), (0, .class_ 3)] 3

/-- java/io/Serializable -/
def k5 : Class := { plain "java/io/Serializable" (some 0) with
  accessFlags := 1537
  interfaces := #[]
  cf := some (fileOf pool5 2 #[] #[] 1537 4 #[] #[])
  fields := #[]
  methods := #[]
  instanceTypes := #[]
  staticTypes := #[]
  resolved := Array.replicate 8 none
  statics := none }

/-- the primitive byte -/
def k6 : Class := { plain "byte" none with kind := .primitive 'B', accessFlags := 0x411 }
/-- [B -/
def k7 : Class := { plain "[B" (some 0) with kind := .array 6 .byte, interfaces := #[4, 5], accessFlags := 1041 }

/-- the primitive int -/
def k8 : Class := { plain "int" none with kind := .primitive 'I', accessFlags := 0x411 }
/-- [I -/
def k9 : Class := { plain "[I" (some 0) with kind := .array 8 .int, interfaces := #[4, 5], accessFlags := 1041 }

def heap : Heap := #[]
def classes : Array Class := #[k0, k1, k2, k3, k4, k5, k6, k7, k8, k9]
def interned : List (Array UInt16 × Addr) := []
def slotsUsed : Nat := 0
def theMethod : MethodId := ⟨1, 1⟩
def args0 : Array Value := #[.int 5, .int 7]
def aboutOver (below : List Frame) : State where
  vm := { classes := classes, interned := interned.toArray }
  heap := heap
  slotsUsed := slotsUsed
  threads := #[{ frames := .invoking theMethod args0 :: below }]
def below0 : List Frame := [.native { method := ⟨0, 0⟩, args := #[] }]
def about1 : State := aboutOver below0
def p0 : Program := .bare "" "" ""
def e0 : Env := launch0.env 0 0 0
theorem w_frames : about1.frames = Frame.invoking theMethod args0 :: below0 := rfl
set_option maxRecDepth 65536 in
theorem w_args : argsFit about1.vm theMethod args0 = true := by decide +kernel
set_option maxRecDepth 65536 in
theorem w_heap : heapFits about1 = true := by decide +kernel
set_option maxRecDepth 65536 in
theorem w_runnable : about1.curStatus? = some .runnable := by decide +kernel
set_option maxRecDepth 65536 in
theorem w_alone : about1.alone = true := by decide +kernel
set_option maxRecDepth 65536 in
theorem w_named : about1.methodNamed? x = some theMethod := by decide +kernel
set_option maxRecDepth 65536 in
theorem w_hears : about1.hears theMethod below0 = true := by decide +kernel
set_option maxRecDepth 65536 in
theorem w_ripe : about1.ripe theMethod args0 below0 = true := by decide +kernel
theorem w_running : about1.status = .running := rfl
set_option maxRecDepth 65536 in
theorem w_room : about1.hasRoom e0.platform room_1 = true :=
  launch0.hasRoom_least _ room_1 (by decide +kernel) (by decide +kernel) (by decide +kernel) (by decide +kernel) (by decide +kernel) (by decide +kernel)
theorem allAtoms_all (ts : List Jvm.Cond) (a : Array Jvm.Value) (st : Jvm.State) : (allAtoms ts).before a st = ts.all (fun c => c.before a st) := by
  induction ts with
  | nil => rfl
  | cons c t ih =>
    show (Jvm.Cond.and c (allAtoms t)).before a st = _
    rw [Jvm.Cond.before_and, ih, List.all_cons]
def words1 : List Jvm.Cond := Jvm.Cond.code x code maxLocals ret :: tables_1
/-- a 'code' word, met by the world's own term for the bytes: nothing is compared byte by byte -/
theorem code_word {y : MethodName} {bytes : ByteArray} {mx : Nat} {rt : Option FieldType} {a : Array Value} {s : State} {m : MethodId} {meth : Method} {c : Code} (h1 : s.methodNamed? y = some m) (h2 : s.vm.method? m = some meth) (h3 : meth.code = some c) (h4 : c.code = bytes)
    (h5 : (c.maxLocals == mx && c.exceptionTable.isEmpty && decide (c.maxStack ≤ mostOperands) && decide (meth.sig.returnType = rt) && !meth.locks && decide (parseMethodDescriptor y.desc = some meth.sig)) = true) : (Jvm.Cond.code y bytes mx rt).before a s = true := by
  simp only [Bool.and_eq_true, beq_iff_eq, Bool.not_eq_true', decide_eq_true_eq] at h5
  obtain ⟨⟨⟨⟨⟨g1, g2⟩, g3⟩, g4⟩, g5⟩, g6⟩ := h5
  simp [Cond.before, Cond.holds, Cond.value, h1, h2, h3, h4, g1, g2, g3, g4, g5, g6]
def isCode : Jvm.Cond → Bool
  | .code _ _ _ _ => true
  | _ => false
theorem all_split {L : List Jvm.Cond} {P : Jvm.Cond → Bool} (h1 : L.all (fun c => isCode c || P c) = true) (h2 : ∀ c ∈ L.filter isCode, P c = true) : L.all P = true := by
  refine List.all_eq_true.mpr fun c hc => ?_
  have h := List.all_eq_true.mp h1 c hc
  rcases Bool.eq_false_or_eq_true (isCode c) with hi | hi
  · exact h2 c (List.mem_filter.mpr ⟨hc, hi⟩)
  · simpa [hi] using h
set_option maxRecDepth 65536 in
theorem w_c0 : (Jvm.Cond.code x code maxLocals ret).before args0 about1 = true := code_word (m := ⟨1, 1⟩) (meth := k1m1) (c := k1c1) (by decide +kernel) rfl rfl rfl (by decide +kernel)
set_option maxRecDepth 65536 in
theorem w_c1 : (Jvm.Cond.code ({ cls := "java/lang/Math", name := "min", desc := "(II)I" } : Jvm.MethodName) jdk_29_method_69_code (2 : Nat) (Option.some Jvm.ClassFile.FieldType.int)).before args0 about1 = true := code_word (m := ⟨2, 2⟩) (meth := k2m2) (c := k2c2) (by decide +kernel) rfl rfl rfl (by decide +kernel)
set_option maxRecDepth 65536 in
theorem w_c2 : (Jvm.Cond.code ({ cls := "java/lang/Math", name := "max", desc := "(II)I" } : Jvm.MethodName) jdk_29_method_65_code (2 : Nat) (Option.some Jvm.ClassFile.FieldType.int)).before args0 about1 = true := code_word (m := ⟨2, 1⟩) (meth := k2m1) (c := k2c1) (by decide +kernel) rfl rfl rfl (by decide +kernel)
set_option maxRecDepth 65536 in
theorem w_c3 : (Jvm.Cond.code ({ cls := "com/example/terraschema/terraschema/model/Multiplicity", name := "bounded", desc := "(II)Lcom/example/terraschema/terraschema/model/Multiplicity;" } : Jvm.MethodName) prog_22_method_2_code (2 : Nat) (Option.some (Jvm.ClassFile.FieldType.object "com/example/terraschema/terraschema/model/Multiplicity"))).before args0 about1 = true := code_word (m := ⟨3, 1⟩) (meth := k3m1) (c := k3c1) (by decide +kernel) rfl rfl rfl (by decide +kernel)
set_option maxRecDepth 65536 in
theorem w_c4 : (Jvm.Cond.code ({ cls := "com/example/terraschema/terraschema/model/Multiplicity", name := "<init>", desc := "(II)V" } : Jvm.MethodName) prog_22_method_1_code (3 : Nat) (Option.none : Option Jvm.ClassFile.FieldType)).before args0 about1 = true := code_word (m := ⟨3, 0⟩) (meth := k3m0) (c := k3c0) (by decide +kernel) rfl rfl rfl (by decide +kernel)
set_option maxRecDepth 65536 in
theorem w_c5 : (Jvm.Cond.code ({ cls := "java/lang/Object", name := "<init>", desc := "()V" } : Jvm.MethodName) object_method_1_code (1 : Nat) (Option.none : Option Jvm.ClassFile.FieldType)).before args0 about1 = true := code_word (m := ⟨0, 0⟩) (meth := k0m0) (c := k0c0) (by decide +kernel) rfl rfl rfl (by decide +kernel)
set_option maxRecDepth 65536 in
theorem w_c6 : (Jvm.Cond.code ({ cls := "com/example/terraschema/terraschema/model/Multiplicity", name := "lower", desc := "()I" } : Jvm.MethodName) prog_22_method_4_code (1 : Nat) (Option.some Jvm.ClassFile.FieldType.int)).before args0 about1 = true := code_word (m := ⟨3, 2⟩) (meth := k3m2) (c := k3c2) (by decide +kernel) rfl rfl rfl (by decide +kernel)
set_option maxRecDepth 65536 in
theorem w_c7 : (Jvm.Cond.code ({ cls := "com/example/terraschema/terraschema/model/Multiplicity", name := "isUnbounded", desc := "()Z" } : Jvm.MethodName) prog_22_method_5_code (1 : Nat) (Option.some Jvm.ClassFile.FieldType.boolean)).before args0 about1 = true := code_word (m := ⟨3, 3⟩) (meth := k3m3) (c := k3c3) (by decide +kernel) rfl rfl rfl (by decide +kernel)
set_option maxRecDepth 65536 in
theorem w_c8 : (Jvm.Cond.code ({ cls := "com/example/terraschema/terraschema/model/Multiplicity", name := "upper", desc := "()I" } : Jvm.MethodName) prog_22_method_6_code (1 : Nat) (Option.some Jvm.ClassFile.FieldType.int)).before args0 about1 = true := code_word (m := ⟨3, 4⟩) (meth := k3m4) (c := k3c4) (by decide +kernel) rfl rfl rfl (by decide +kernel)
set_option maxRecDepth 65536 in
theorem w_c9 : (Jvm.Cond.code ({ cls := "com/example/terraschema/terraschema/model/Multiplicity", name := "isMany", desc := "()Z" } : Jvm.MethodName) prog_22_method_7_code (1 : Nat) (Option.some Jvm.ClassFile.FieldType.boolean)).before args0 about1 = true := code_word (m := ⟨3, 5⟩) (meth := k3m5) (c := k3c5) (by decide +kernel) rfl rfl rfl (by decide +kernel)
def codes1 : List Jvm.Cond := [Jvm.Cond.code x code maxLocals ret, Jvm.Cond.code ({ cls := "java/lang/Math", name := "min", desc := "(II)I" } : Jvm.MethodName) jdk_29_method_69_code (2 : Nat) (Option.some Jvm.ClassFile.FieldType.int), Jvm.Cond.code ({ cls := "java/lang/Math", name := "max", desc := "(II)I" } : Jvm.MethodName) jdk_29_method_65_code (2 : Nat) (Option.some Jvm.ClassFile.FieldType.int), Jvm.Cond.code ({ cls := "com/example/terraschema/terraschema/model/Multiplicity", name := "bounded", desc := "(II)Lcom/example/terraschema/terraschema/model/Multiplicity;" } : Jvm.MethodName) prog_22_method_2_code (2 : Nat) (Option.some (Jvm.ClassFile.FieldType.object "com/example/terraschema/terraschema/model/Multiplicity")), Jvm.Cond.code ({ cls := "com/example/terraschema/terraschema/model/Multiplicity", name := "<init>", desc := "(II)V" } : Jvm.MethodName) prog_22_method_1_code (3 : Nat) (Option.none : Option Jvm.ClassFile.FieldType), Jvm.Cond.code ({ cls := "java/lang/Object", name := "<init>", desc := "()V" } : Jvm.MethodName) object_method_1_code (1 : Nat) (Option.none : Option Jvm.ClassFile.FieldType), Jvm.Cond.code ({ cls := "com/example/terraschema/terraschema/model/Multiplicity", name := "lower", desc := "()I" } : Jvm.MethodName) prog_22_method_4_code (1 : Nat) (Option.some Jvm.ClassFile.FieldType.int), Jvm.Cond.code ({ cls := "com/example/terraschema/terraschema/model/Multiplicity", name := "isUnbounded", desc := "()Z" } : Jvm.MethodName) prog_22_method_5_code (1 : Nat) (Option.some Jvm.ClassFile.FieldType.boolean), Jvm.Cond.code ({ cls := "com/example/terraschema/terraschema/model/Multiplicity", name := "upper", desc := "()I" } : Jvm.MethodName) prog_22_method_6_code (1 : Nat) (Option.some Jvm.ClassFile.FieldType.int), Jvm.Cond.code ({ cls := "com/example/terraschema/terraschema/model/Multiplicity", name := "isMany", desc := "()Z" } : Jvm.MethodName) prog_22_method_7_code (1 : Nat) (Option.some Jvm.ClassFile.FieldType.boolean)]
set_option maxRecDepth 65536 in
theorem codes_eq : words1.filter isCode = codes1 := rfl
theorem w_codes : ∀ c ∈ words1.filter isCode, c.before args0 about1 = true := by
  rw [codes_eq]
  intro c hc
  simp only [codes1, List.mem_cons, List.not_mem_nil, or_false] at hc
  rcases hc with rfl | rfl | rfl | rfl | rfl | rfl | rfl | rfl | rfl | rfl
  · exact w_c0
  · exact w_c1
  · exact w_c2
  · exact w_c3
  · exact w_c4
  · exact w_c5
  · exact w_c6
  · exact w_c7
  · exact w_c8
  · exact w_c9
set_option maxRecDepth 65536 in
theorem w_t1 : (words1.take 24).all (fun c => isCode c || c.before args0 about1) = true := by decide +kernel
set_option maxRecDepth 65536 in
theorem w_t2 : (words1.drop 24).all (fun c => isCode c || c.before args0 about1) = true := by decide +kernel
theorem w_tables : (allAtoms (Jvm.Cond.code x code maxLocals ret :: tables_1)).before args0 about1 = true := by
  rw [allAtoms_all]
  show words1.all (fun c => c.before args0 about1) = true
  refine all_split ?_ w_codes
  rw [← List.take_append_drop 24 words1, List.all_append, w_t1, w_t2]
  rfl
set_option maxRecDepth 65536 in
theorem w_case : (Jvm.Cond.and given_1 narrow_1).before args0 about1 = true := by decide +kernel
theorem w_applies : (headSpec (Jvm.Cond.code x code maxLocals ret :: tables_1) room_1).applies x e0.platform about1 = true :=
  (Spec.applies_iff w_frames).mpr ⟨w_running, w_runnable, w_alone, w_named, w_hears, w_ripe, w_room, w_tables⟩
theorem atStart : AtStart classFile x code maxLocals ret World_1 tables_1 room_1 Calls_1 rest_1 Pre_1 launch0 p0 e0 about1 theMethod args0 below0 :=
  ⟨lists_1, trivial, launch0.admits_env _ _ _, launch0.least_env, fairChoices_fair.cas, fairChoices_fair.clock, w_frames, w_args, w_heap, w_applies, trivial, trivial, w_case⟩
end start1
theorem witness_1 : WitnessClaimed_1 := ⟨start1.p0, start1.e0, start1.about1, start1.theMethod, start1.args0, start1.below0, start1.atStart⟩
end Jvm.Pilot.@@N@@
