import JvmDerived
import JvmDerived.Pilot.@@N@@Statement
import JvmDerived.Pilot.@@N@@Code
set_option linter.unusedVariables false
set_option linter.unusedSimpArgs false
@@BLOCK:NumsL.lean.txt@@
namespace Jvm.Pilot.@@N@@
open Jvm Jvm.ClassFile Sem Op Lib Jvm.Free Jvm.Stand Jvm.LawKit Jvm.RoadKit Bundle Jvm.Pilot.@@N@@.Jvm.D
def Goes (tb : Tables) (e : Env) (below : List Frame) (G : State → Outcome → Prop) (A : State) : Prop := ∃ s₂ o, Steps tb e below A s₂ ∧ s₂.status = .running ∧ Ended s₂ below o ∧ G s₂ o
theorem go {tb : Tables} {e : Env} {below : List Frame} {G : State → Outcome → Prop} {A B : State} (h : ∀ t, Steps tb e below B t → Steps tb e below A t) (k : Goes tb e below G B) : Goes tb e below G A := by
  obtain ⟨s₂, o, h1, h2⟩ := k; exact ⟨s₂, o, h _ h1, h2⟩
theorem goEnd {tb : Tables} {e : Env} {below : List Frame} {G : State → Outcome → Prop} {A B : State} (h : ∀ t, Steps tb e below B t → Steps tb e below A t) (k : Goes tb e below G B) : ∃ s₂ o, Steps tb e below A s₂ ∧ s₂.status = .running ∧ Ended s₂ below o ∧ G s₂ o := go h k
theorem own_sta_keep {Z : State} {h h' : Heap} {C n d K : String} {v : Value} {a : Addr} (S : Sta Z h C n d v) (E : Exa Z h a K) (Kp : Keep h h' [a]) : Sta Z h' C n d v := by
  obtain ⟨cf, i, k, f, st, cell, h1, h2, h3, h4, h5, h6, h7⟩ := S
  obtain ⟨c', k', e1, -, -, e4, -⟩ := E
  refine ⟨cf, i, k, f, st, cell, h1, h2, h3, h4, Kp.2.1 st cell h5 (fun q => ?_), h6, h7⟩
  have q' : st = a := by simpa using q
  subst q'
  cases h5.symm.trans e1
  rw [e4] at h6; cases h6
abbrev iv (x : Int32) : Slot := .val (.int x)
abbrev jv (x : Int64) : Slot := .val (.long x)
abbrev rv (x : Addr) : Slot := .val (.ref x)
abbrev Go (p : Program) (e : Env) (below : List Frame) (G : State → Outcome → Prop) (m : MethodId) (T : State) (pc : Nat) (L : Array Slot) (S : List Value) : Prop := Goes p.tables e below G (T.setTop (mkF m pc L S))
theorem d1_0 : decode jdk_29_method_70_code 0 = .ok (.lload_n 0, 1) := by decide +kernel
theorem d1_1 : decode jdk_29_method_70_code 1 = .ok (.lload_n 2, 1) := by decide +kernel
theorem d1_2 : decode jdk_29_method_70_code 2 = .ok (.lcmp, 1) := by decide +kernel
theorem d1_3 : decode jdk_29_method_70_code 3 = .ok (.ifCond .gt 7, 3) := by decide +kernel
theorem d1_10 : decode jdk_29_method_70_code 10 = .ok (.lload_n 2, 1) := by decide +kernel
theorem d1_11 : decode jdk_29_method_70_code 11 = .ok (.lreturn, 1) := by decide +kernel
theorem d1_6 : decode jdk_29_method_70_code 6 = .ok (.lload_n 0, 1) := by decide +kernel
theorem d1_7 : decode jdk_29_method_70_code 7 = .ok (.goto 4, 3) := by decide +kernel
def own_min (q0 : Int64) (q1 : Int64) : Int64 := (if q1 < q0 then q1 else q0)
theorem ef_1 (m : MethodId) (q0 : Int64) (q1 : Int64) : entryFrame m #[(.long q0), (.long q1)] 4 = mkF m 0 #[.val (.long q0), .second, .val (.long q1), .second] [] := by first | (simp [entryFrame, mkF, argsToLocals, Value.category]; done) | rfl
def Q1 (Z : State) (q0 : Int64) (q1 : Int64) (h0 : Heap) (n0 : Nat) (v : Option Value) (h : Heap) (L : List Loc) : Prop := v = some (.long (own_min q0 q1)) ∧ Fr n0 L ∧ h = h0
set_option maxRecDepth 65536 in
set_option maxHeartbeats 40000000 in
theorem rm1 (l : Launch) (Z : State) (a0 : Array Value) (hw : ∀ d ∈ tables_1, d.before a0 Z = true) (ws : List Jvm.Cond) (q0 : Int64) (q1 : Int64) (h0 : Heap) (n0 : Nat) (Z0 : n0 ≤ h0.size)  :
    MetFree l (⟨"java/lang/Math", "min", "(JJ)J"⟩ : MethodName) (head1 (Jvm.Cond.code (⟨"java/lang/Math", "min", "(JJ)J"⟩ : MethodName) jdk_29_method_70_code 4 (some .long) :: ws) ({ frames := 0, cells := 0, slots := 0, locals := 0 } : Room)) (fun a U => a = #[(.long q0), (.long q1)] ∧ Z.Warmed39 U.vm ∧ U.heap = h0) (fun _ _ _ _ _ => True) (fun _ U o U' => ∃ v L, o = .returned v ∧ Q1 Z q0 q1 h0 n0 v U'.heap L ∧ FrameEnd U o U' L ({ frames := 0, cells := 0, slots := 0, locals := 0 } : Room).cells ({ frames := 0, cells := 0, slots := 0, locals := 0 } : Room).slots) := by
  refine MetFree.of_bodySF (Jvm.Free.JP.mathPlain rfl (by decide +kernel)) hisR ?_
  intro p e s m args below meth c s₁ Bd hml0 hP hK
  obtain ⟨rfl, hZ, hh⟩ := hP
  have hx := Bd.exec
  have hby := Bd.bytes
  have hml : c.maxLocals = 4 := hml0
  have hown : s.vm.findClass "java/lang/Math" = some m.cls := findClass_of_methodNamed Bd.named
  have hnm := (name_of_methodNamed Bd.named Bd.method).1
  have X0 : Stand p l e ({ frames := 0, cells := 0, slots := 0, locals := 0 } : Room) s m #[(.long q0), (.long q1)] below meth c s₁ [] 0 0 := Stand.of_body Bd
  have e0 : s₁.heap = h0 := by rw [← hh, Bd.state]; rfl
  have N0 := Fr.nil n0
  have K0 := Keep.refl h0 []
  suffices hgo : Goes p.tables e below (fun s₂ o => ∃ v L, o = .returned v ∧ Q1 Z q0 q1 h0 n0 v s₂.heap L ∧ FrameEnd s o s₂ L ({ frames := 0, cells := 0, slots := 0, locals := 0 } : Room).cells ({ frames := 0, cells := 0, slots := 0, locals := 0 } : Room).slots) (s₁.setTop (mkF m 0 #[.val (.long q0), .second, .val (.long q1), .second] [])) from goEnd (fun t k => castTop (ef_1 m q0 q1) k) hgo
  refine go (fun t kt => XS.lloadN X0.here hx rfl (hb hby d1_0) rfl kt) ?_
  show Goes p.tables e below _ (s₁.setTop (mkF m 1 #[.val (.long q0), .second, .val (.long q1), .second] [(.long q0)]))
  refine go (fun t kt => XS.lloadN X0.here hx rfl (hb hby d1_1) rfl kt) ?_
  show Goes p.tables e below _ (s₁.setTop (mkF m 2 #[.val (.long q0), .second, .val (.long q1), .second] [(.long q1), (.long q0)]))
  refine go (fun t kt => XS.lcmp X0.here hx rfl (hb hby d1_2) rfl kt) ?_
  show Goes p.tables e below _ (s₁.setTop (mkF m 3 #[.val (.long q0), .second, .val (.long q1), .second] [(.int (lcmpW q0 q1))]))
  by_cases hc1 : q1 < q0
  ·
    refine go (fun t kt => XS.ifYes X0.here hx rfl (pc0 := 3) (pc' := 10) rfl (hb hby d1_3) rfl ((if0 _ _).trans (tlt ((lw_gt q0 q1).mpr hc1)).2.2.1) (by decide) (by decide) kt) ?_
    show Goes p.tables e below _ (s₁.setTop (mkF m 10 #[.val (.long q0), .second, .val (.long q1), .second] []))
    refine go (fun t kt => XS.lloadN X0.here hx rfl (hb hby d1_10) rfl kt) ?_
    show Goes p.tables e below _ (s₁.setTop (mkF m 11 #[.val (.long q0), .second, .val (.long q1), .second] [(.long q1)]))
    obtain ⟨fs, hr, hrun, hended, hW, hsame⟩ := X0.leave (v := some (.long q1)) (fun h => by rw [Bd.returns] at h; cases h)
    refine ⟨_, _, retOut X0 hx (i := .lreturn) Bd.returns rfl (Or.inr (Or.inl ⟨rfl, rfl, _, rfl⟩)) (hb hby d1_11) hr, hrun, hended, _, _, rfl, ?_, ⟨_, rfl⟩, hW, hsame.mono (by decide) (by decide)⟩
    show Q1 Z q0 q1 h0 n0 _ s₁.heap _
    rw [e0]
    exact ⟨(by unfold own_min; rw [if_pos hc1]), N0, rfl⟩
  ·
    refine go (fun t kt => XS.ifNo X0.here hx rfl (hb hby d1_3) rfl ((if0 _ _).trans (flt (fun q => hc1 ((lw_gt q0 q1).mp q))).2.2.1) kt) ?_
    show Goes p.tables e below _ (s₁.setTop (mkF m 6 #[.val (.long q0), .second, .val (.long q1), .second] []))
    refine go (fun t kt => XS.lloadN X0.here hx rfl (hb hby d1_6) rfl kt) ?_
    show Goes p.tables e below _ (s₁.setTop (mkF m 7 #[.val (.long q0), .second, .val (.long q1), .second] [(.long q0)]))
    refine go (fun t kt => XS.goto X0.here hx rfl (pc0 := 7) (pc' := 11) rfl (hb hby d1_7) (by decide) (by decide) kt) ?_
    show Goes p.tables e below _ (s₁.setTop (mkF m 11 #[.val (.long q0), .second, .val (.long q1), .second] [(.long q0)]))
    obtain ⟨fs, hr, hrun, hended, hW, hsame⟩ := X0.leave (v := some (.long q0)) (fun h => by rw [Bd.returns] at h; cases h)
    refine ⟨_, _, retOut X0 hx (i := .lreturn) Bd.returns rfl (Or.inr (Or.inl ⟨rfl, rfl, _, rfl⟩)) (hb hby d1_11) hr, hrun, hended, _, _, rfl, ?_, ⟨_, rfl⟩, hW, hsame.mono (by decide) (by decide)⟩
    show Q1 Z q0 q1 h0 n0 _ s₁.heap _
    rw [e0]
    exact ⟨(by unfold own_min; rw [if_neg hc1]), N0, rfl⟩
theorem d2_0 : decode jdk_29_method_66_code 0 = .ok (.lload_n 0, 1) := by decide +kernel
theorem d2_1 : decode jdk_29_method_66_code 1 = .ok (.lload_n 2, 1) := by decide +kernel
theorem d2_2 : decode jdk_29_method_66_code 2 = .ok (.lcmp, 1) := by decide +kernel
theorem d2_3 : decode jdk_29_method_66_code 3 = .ok (.ifCond .lt 7, 3) := by decide +kernel
theorem d2_10 : decode jdk_29_method_66_code 10 = .ok (.lload_n 2, 1) := by decide +kernel
theorem d2_11 : decode jdk_29_method_66_code 11 = .ok (.lreturn, 1) := by decide +kernel
theorem d2_6 : decode jdk_29_method_66_code 6 = .ok (.lload_n 0, 1) := by decide +kernel
theorem d2_7 : decode jdk_29_method_66_code 7 = .ok (.goto 4, 3) := by decide +kernel
def own_max (q0 : Int64) (q1 : Int64) : Int64 := (if q0 < q1 then q1 else q0)
theorem ef_2 (m : MethodId) (q0 : Int64) (q1 : Int64) : entryFrame m #[(.long q0), (.long q1)] 4 = mkF m 0 #[.val (.long q0), .second, .val (.long q1), .second] [] := by first | (simp [entryFrame, mkF, argsToLocals, Value.category]; done) | rfl
def Q2 (Z : State) (q0 : Int64) (q1 : Int64) (h0 : Heap) (n0 : Nat) (v : Option Value) (h : Heap) (L : List Loc) : Prop := v = some (.long (own_max q0 q1)) ∧ Fr n0 L ∧ h = h0
set_option maxRecDepth 65536 in
set_option maxHeartbeats 40000000 in
theorem rm2 (l : Launch) (Z : State) (a0 : Array Value) (hw : ∀ d ∈ tables_1, d.before a0 Z = true) (ws : List Jvm.Cond) (q0 : Int64) (q1 : Int64) (h0 : Heap) (n0 : Nat) (Z0 : n0 ≤ h0.size)  :
    MetFree l (⟨"java/lang/Math", "max", "(JJ)J"⟩ : MethodName) (head1 (Jvm.Cond.code (⟨"java/lang/Math", "max", "(JJ)J"⟩ : MethodName) jdk_29_method_66_code 4 (some .long) :: ws) ({ frames := 0, cells := 0, slots := 0, locals := 0 } : Room)) (fun a U => a = #[(.long q0), (.long q1)] ∧ Z.Warmed39 U.vm ∧ U.heap = h0) (fun _ _ _ _ _ => True) (fun _ U o U' => ∃ v L, o = .returned v ∧ Q2 Z q0 q1 h0 n0 v U'.heap L ∧ FrameEnd U o U' L ({ frames := 0, cells := 0, slots := 0, locals := 0 } : Room).cells ({ frames := 0, cells := 0, slots := 0, locals := 0 } : Room).slots) := by
  refine MetFree.of_bodySF (Jvm.Free.JP.mathPlain rfl (by decide +kernel)) hisR ?_
  intro p e s m args below meth c s₁ Bd hml0 hP hK
  obtain ⟨rfl, hZ, hh⟩ := hP
  have hx := Bd.exec
  have hby := Bd.bytes
  have hml : c.maxLocals = 4 := hml0
  have hown : s.vm.findClass "java/lang/Math" = some m.cls := findClass_of_methodNamed Bd.named
  have hnm := (name_of_methodNamed Bd.named Bd.method).1
  have X0 : Stand p l e ({ frames := 0, cells := 0, slots := 0, locals := 0 } : Room) s m #[(.long q0), (.long q1)] below meth c s₁ [] 0 0 := Stand.of_body Bd
  have e0 : s₁.heap = h0 := by rw [← hh, Bd.state]; rfl
  have N0 := Fr.nil n0
  have K0 := Keep.refl h0 []
  suffices hgo : Goes p.tables e below (fun s₂ o => ∃ v L, o = .returned v ∧ Q2 Z q0 q1 h0 n0 v s₂.heap L ∧ FrameEnd s o s₂ L ({ frames := 0, cells := 0, slots := 0, locals := 0 } : Room).cells ({ frames := 0, cells := 0, slots := 0, locals := 0 } : Room).slots) (s₁.setTop (mkF m 0 #[.val (.long q0), .second, .val (.long q1), .second] [])) from goEnd (fun t k => castTop (ef_2 m q0 q1) k) hgo
  refine go (fun t kt => XS.lloadN X0.here hx rfl (hb hby d2_0) rfl kt) ?_
  show Goes p.tables e below _ (s₁.setTop (mkF m 1 #[.val (.long q0), .second, .val (.long q1), .second] [(.long q0)]))
  refine go (fun t kt => XS.lloadN X0.here hx rfl (hb hby d2_1) rfl kt) ?_
  show Goes p.tables e below _ (s₁.setTop (mkF m 2 #[.val (.long q0), .second, .val (.long q1), .second] [(.long q1), (.long q0)]))
  refine go (fun t kt => XS.lcmp X0.here hx rfl (hb hby d2_2) rfl kt) ?_
  show Goes p.tables e below _ (s₁.setTop (mkF m 3 #[.val (.long q0), .second, .val (.long q1), .second] [(.int (lcmpW q0 q1))]))
  by_cases hc1 : q0 < q1
  ·
    refine go (fun t kt => XS.ifYes X0.here hx rfl (pc0 := 3) (pc' := 10) rfl (hb hby d2_3) rfl ((if0 _ _).trans (tlt ((lw_lt q0 q1).mpr hc1)).1) (by decide) (by decide) kt) ?_
    show Goes p.tables e below _ (s₁.setTop (mkF m 10 #[.val (.long q0), .second, .val (.long q1), .second] []))
    refine go (fun t kt => XS.lloadN X0.here hx rfl (hb hby d2_10) rfl kt) ?_
    show Goes p.tables e below _ (s₁.setTop (mkF m 11 #[.val (.long q0), .second, .val (.long q1), .second] [(.long q1)]))
    obtain ⟨fs, hr, hrun, hended, hW, hsame⟩ := X0.leave (v := some (.long q1)) (fun h => by rw [Bd.returns] at h; cases h)
    refine ⟨_, _, retOut X0 hx (i := .lreturn) Bd.returns rfl (Or.inr (Or.inl ⟨rfl, rfl, _, rfl⟩)) (hb hby d2_11) hr, hrun, hended, _, _, rfl, ?_, ⟨_, rfl⟩, hW, hsame.mono (by decide) (by decide)⟩
    show Q2 Z q0 q1 h0 n0 _ s₁.heap _
    rw [e0]
    exact ⟨(by unfold own_max; rw [if_pos hc1]), N0, rfl⟩
  ·
    refine go (fun t kt => XS.ifNo X0.here hx rfl (hb hby d2_3) rfl ((if0 _ _).trans (flt (fun q => hc1 ((lw_lt q0 q1).mp q))).1) kt) ?_
    show Goes p.tables e below _ (s₁.setTop (mkF m 6 #[.val (.long q0), .second, .val (.long q1), .second] []))
    refine go (fun t kt => XS.lloadN X0.here hx rfl (hb hby d2_6) rfl kt) ?_
    show Goes p.tables e below _ (s₁.setTop (mkF m 7 #[.val (.long q0), .second, .val (.long q1), .second] [(.long q0)]))
    refine go (fun t kt => XS.goto X0.here hx rfl (pc0 := 7) (pc' := 11) rfl (hb hby d2_7) (by decide) (by decide) kt) ?_
    show Goes p.tables e below _ (s₁.setTop (mkF m 11 #[.val (.long q0), .second, .val (.long q1), .second] [(.long q0)]))
    obtain ⟨fs, hr, hrun, hended, hW, hsame⟩ := X0.leave (v := some (.long q0)) (fun h => by rw [Bd.returns] at h; cases h)
    refine ⟨_, _, retOut X0 hx (i := .lreturn) Bd.returns rfl (Or.inr (Or.inl ⟨rfl, rfl, _, rfl⟩)) (hb hby d2_11) hr, hrun, hended, _, _, rfl, ?_, ⟨_, rfl⟩, hW, hsame.mono (by decide) (by decide)⟩
    show Q2 Z q0 q1 h0 n0 _ s₁.heap _
    rw [e0]
    exact ⟨(by unfold own_max; rw [if_neg hc1]), N0, rfl⟩
theorem d3_0 : decode method_2_code 0 = .ok (.iload_n 0, 1) := by decide +kernel
theorem d3_1 : decode method_2_code 1 = .ok (.bipush 7, 2) := by decide +kernel
theorem d3_3 : decode method_2_code 3 = .ok (.iand, 1) := by decide +kernel
theorem d3_4 : decode method_2_code 4 = .ok (.istore 7, 2) := by decide +kernel
theorem d3_6 : decode method_2_code 6 = .ok (.iload 7, 2) := by decide +kernel
theorem d3_8 : decode method_2_code 8 = .ok (.iconst 1, 1) := by decide +kernel
theorem d3_9 : decode method_2_code 9 = .ok (.if_icmp .ne 5, 3) := by decide +kernel
theorem d3_12 : decode method_2_code 12 = .ok (.lload_n 3, 1) := by decide +kernel
theorem d3_13 : decode method_2_code 13 = .ok (.lreturn, 1) := by decide +kernel
theorem d3_14 : decode method_2_code 14 = .ok (.iload 7, 2) := by decide +kernel
theorem d3_16 : decode method_2_code 16 = .ok (.iconst 2, 1) := by decide +kernel
theorem d3_17 : decode method_2_code 17 = .ok (.if_icmp .ne 6, 3) := by decide +kernel
theorem d3_20 : decode method_2_code 20 = .ok (.lload 5, 2) := by decide +kernel
theorem d3_22 : decode method_2_code 22 = .ok (.lreturn, 1) := by decide +kernel
theorem d3_23 : decode method_2_code 23 = .ok (.iload 7, 2) := by decide +kernel
theorem d3_25 : decode method_2_code 25 = .ok (.iconst 3, 1) := by decide +kernel
theorem d3_26 : decode method_2_code 26 = .ok (.if_icmp .ne 7, 3) := by decide +kernel
theorem d3_29 : decode method_2_code 29 = .ok (.lload_n 3, 1) := by decide +kernel
theorem d3_30 : decode method_2_code 30 = .ok (.lconst 1, 1) := by decide +kernel
theorem d3_31 : decode method_2_code 31 = .ok (.lsub, 1) := by decide +kernel
theorem d3_32 : decode method_2_code 32 = .ok (.lreturn, 1) := by decide +kernel
theorem d3_33 : decode method_2_code 33 = .ok (.iload 7, 2) := by decide +kernel
theorem d3_35 : decode method_2_code 35 = .ok (.iconst 4, 1) := by decide +kernel
theorem d3_36 : decode method_2_code 36 = .ok (.if_icmp .ne 8, 3) := by decide +kernel
theorem d3_39 : decode method_2_code 39 = .ok (.lload 5, 2) := by decide +kernel
theorem d3_41 : decode method_2_code 41 = .ok (.lconst 1, 1) := by decide +kernel
theorem d3_42 : decode method_2_code 42 = .ok (.ladd, 1) := by decide +kernel
theorem d3_43 : decode method_2_code 43 = .ok (.lreturn, 1) := by decide +kernel
theorem d3_44 : decode method_2_code 44 = .ok (.iload 7, 2) := by decide +kernel
theorem d3_46 : decode method_2_code 46 = .ok (.iconst 5, 1) := by decide +kernel
theorem d3_47 : decode method_2_code 47 = .ok (.if_icmp .ne 7, 3) := by decide +kernel
theorem d3_50 : decode method_2_code 50 = .ok (.lload_n 3, 1) := by decide +kernel
theorem d3_51 : decode method_2_code 51 = .ok (.lconst 1, 1) := by decide +kernel
theorem d3_52 : decode method_2_code 52 = .ok (.ladd, 1) := by decide +kernel
theorem d3_53 : decode method_2_code 53 = .ok (.lreturn, 1) := by decide +kernel
theorem d3_54 : decode method_2_code 54 = .ok (.iload 7, 2) := by decide +kernel
theorem d3_56 : decode method_2_code 56 = .ok (.bipush 6, 2) := by decide +kernel
theorem d3_58 : decode method_2_code 58 = .ok (.if_icmp .ne 8, 3) := by decide +kernel
theorem d3_61 : decode method_2_code 61 = .ok (.lload 5, 2) := by decide +kernel
theorem d3_63 : decode method_2_code 63 = .ok (.lconst 1, 1) := by decide +kernel
theorem d3_64 : decode method_2_code 64 = .ok (.lsub, 1) := by decide +kernel
theorem d3_65 : decode method_2_code 65 = .ok (.lreturn, 1) := by decide +kernel
theorem d3_66 : decode method_2_code 66 = .ok (.lload_n 1, 1) := by decide +kernel
theorem d3_67 : decode method_2_code 67 = .ok (.lreturn, 1) := by decide +kernel
def own_pick (p0 : Int32) (q1 : Int64) (q2 : Int64) (q3 : Int64) : Int64 := (if (p0 &&& (7 : Int32)) = (1 : Int32) then q2 else (if (p0 &&& (7 : Int32)) = (2 : Int32) then q3 else (if (p0 &&& (7 : Int32)) = (3 : Int32) then (q2 - (1 : Int64)) else (if (p0 &&& (7 : Int32)) = (4 : Int32) then (q3 + (1 : Int64)) else (if (p0 &&& (7 : Int32)) = (5 : Int32) then (q2 + (1 : Int64)) else (if (p0 &&& (7 : Int32)) = (6 : Int32) then (q3 - (1 : Int64)) else q1))))))
theorem pn_0 : plainName "com/example/triplewright/triplewright/cli/WholeNumbersContainsPinLaw" = true := by first | (simp [plainName, overriddenIn]; done) | decide +kernel
theorem ef_3 (m : MethodId) (p0 : Int32) (q1 : Int64) (q2 : Int64) (q3 : Int64) : entryFrame m #[(.int p0), (.long q1), (.long q2), (.long q3)] 8 = mkF m 0 #[.val (.int p0), .val (.long q1), .second, .val (.long q2), .second, .val (.long q3), .second, .unset] [] := by first | (simp [entryFrame, mkF, argsToLocals, Value.category]; done) | rfl
def Q3 (Z : State) (p0 : Int32) (q1 : Int64) (q2 : Int64) (q3 : Int64) (h0 : Heap) (n0 : Nat) (v : Option Value) (h : Heap) (L : List Loc) : Prop := v = some (.long (own_pick p0 q1 q2 q3)) ∧ Fr n0 L ∧ h = h0
set_option maxRecDepth 65536 in
set_option maxHeartbeats 40000000 in
theorem rm3 (l : Launch) (Z : State) (a0 : Array Value) (hw : ∀ d ∈ tables_1, d.before a0 Z = true) (ws : List Jvm.Cond) (p0 : Int32) (q1 : Int64) (q2 : Int64) (q3 : Int64) (h0 : Heap) (n0 : Nat) (Z0 : n0 ≤ h0.size)  :
    MetFree l (⟨"com/example/triplewright/triplewright/cli/WholeNumbersContainsPinLaw", "pick", "(IJJJ)J"⟩ : MethodName) (head1 (Jvm.Cond.code (⟨"com/example/triplewright/triplewright/cli/WholeNumbersContainsPinLaw", "pick", "(IJJJ)J"⟩ : MethodName) method_2_code 8 (some .long) :: ws) ({ frames := 0, cells := 0, slots := 0, locals := 0 } : Room)) (fun a U => a = #[(.int p0), (.long q1), (.long q2), (.long q3)] ∧ Z.Warmed39 U.vm ∧ U.heap = h0) (fun _ _ _ _ _ => True) (fun _ U o U' => ∃ v L, o = .returned v ∧ Q3 Z p0 q1 q2 q3 h0 n0 v U'.heap L ∧ FrameEnd U o U' L ({ frames := 0, cells := 0, slots := 0, locals := 0 } : Room).cells ({ frames := 0, cells := 0, slots := 0, locals := 0 } : Room).slots) := by
  refine MetFree.of_bodySF (plainFor_of_name pn_0) hisR ?_
  intro p e s m args below meth c s₁ Bd hml0 hP hK
  obtain ⟨rfl, hZ, hh⟩ := hP
  have hx := Bd.exec
  have hby := Bd.bytes
  have hml : c.maxLocals = 8 := hml0
  have hown : s.vm.findClass "com/example/triplewright/triplewright/cli/WholeNumbersContainsPinLaw" = some m.cls := findClass_of_methodNamed Bd.named
  have hnm := (name_of_methodNamed Bd.named Bd.method).1
  have X0 : Stand p l e ({ frames := 0, cells := 0, slots := 0, locals := 0 } : Room) s m #[(.int p0), (.long q1), (.long q2), (.long q3)] below meth c s₁ [] 0 0 := Stand.of_body Bd
  have e0 : s₁.heap = h0 := by rw [← hh, Bd.state]; rfl
  have N0 := Fr.nil n0
  have K0 := Keep.refl h0 []
  suffices hgo : Goes p.tables e below (fun s₂ o => ∃ v L, o = .returned v ∧ Q3 Z p0 q1 q2 q3 h0 n0 v s₂.heap L ∧ FrameEnd s o s₂ L ({ frames := 0, cells := 0, slots := 0, locals := 0 } : Room).cells ({ frames := 0, cells := 0, slots := 0, locals := 0 } : Room).slots) (s₁.setTop (mkF m 0 #[.val (.int p0), .val (.long q1), .second, .val (.long q2), .second, .val (.long q3), .second, .unset] [])) from goEnd (fun t k => castTop (ef_3 m p0 q1 q2 q3) k) hgo
  refine go (fun t kt => XS.iloadN X0.here hx rfl (hb hby d3_0) rfl kt) ?_
  show Goes p.tables e below _ (s₁.setTop (mkF m 1 #[.val (.int p0), .val (.long q1), .second, .val (.long q2), .second, .val (.long q3), .second, .unset] [(.int p0)]))
  refine go (fun t kt => XS.bipush X0.here hx rfl (hb hby d3_1) kt) ?_
  show Goes p.tables e below _ (s₁.setTop (mkF m 3 #[.val (.int p0), .val (.long q1), .second, .val (.long q2), .second, .val (.long q3), .second, .unset] [(.int (7 : Int32)), (.int p0)]))
  refine go (fun t kt => XS.iand X0.here hx rfl (hb hby d3_3) rfl kt) ?_
  show Goes p.tables e below _ (s₁.setTop (mkF m 4 #[.val (.int p0), .val (.long q1), .second, .val (.long q2), .second, .val (.long q3), .second, .unset] [(.int (p0 &&& (7 : Int32)))]))
  refine go (fun t kt => XS.istore X0.here hx rfl (hb hby d3_4) rfl (l' := #[.val (.int p0), .val (.long q1), .second, .val (.long q2), .second, .val (.long q3), .second, .val (.int (p0 &&& (7 : Int32)))]) rfl kt) ?_
  show Goes p.tables e below _ (s₁.setTop (mkF m 6 #[.val (.int p0), .val (.long q1), .second, .val (.long q2), .second, .val (.long q3), .second, .val (.int (p0 &&& (7 : Int32)))] []))
  refine go (fun t kt => XS.iload X0.here hx rfl (hb hby d3_6) rfl kt) ?_
  show Goes p.tables e below _ (s₁.setTop (mkF m 8 #[.val (.int p0), .val (.long q1), .second, .val (.long q2), .second, .val (.long q3), .second, .val (.int (p0 &&& (7 : Int32)))] [(.int (p0 &&& (7 : Int32)))]))
  refine go (fun t kt => XS.iconst X0.here hx rfl (hb hby d3_8) kt) ?_
  show Goes p.tables e below _ (s₁.setTop (mkF m 9 #[.val (.int p0), .val (.long q1), .second, .val (.long q2), .second, .val (.long q3), .second, .val (.int (p0 &&& (7 : Int32)))] [(.int (1 : Int32)), (.int (p0 &&& (7 : Int32)))]))
  by_cases hc1 : (p0 &&& (7 : Int32)) = (1 : Int32)
  ·
    refine go (fun t kt => XS.icmpNo X0.here hx rfl (hb hby d3_9) rfl (teq hc1).2 kt) ?_
    show Goes p.tables e below _ (s₁.setTop (mkF m 12 #[.val (.int p0), .val (.long q1), .second, .val (.long q2), .second, .val (.long q3), .second, .val (.int (p0 &&& (7 : Int32)))] []))
    refine go (fun t kt => XS.lloadN X0.here hx rfl (hb hby d3_12) rfl kt) ?_
    show Goes p.tables e below _ (s₁.setTop (mkF m 13 #[.val (.int p0), .val (.long q1), .second, .val (.long q2), .second, .val (.long q3), .second, .val (.int (p0 &&& (7 : Int32)))] [(.long q2)]))
    obtain ⟨fs, hr, hrun, hended, hW, hsame⟩ := X0.leave (v := some (.long q2)) (fun h => by rw [Bd.returns] at h; cases h)
    refine ⟨_, _, retOut X0 hx (i := .lreturn) Bd.returns rfl (Or.inr (Or.inl ⟨rfl, rfl, _, rfl⟩)) (hb hby d3_13) hr, hrun, hended, _, _, rfl, ?_, ⟨_, rfl⟩, hW, hsame.mono (by decide) (by decide)⟩
    show Q3 Z p0 q1 q2 q3 h0 n0 _ s₁.heap _
    rw [e0]
    exact ⟨(by unfold own_pick; rw [if_pos hc1]), N0, rfl⟩
  ·
    refine go (fun t kt => XS.icmpYes X0.here hx rfl (pc0 := 9) (pc' := 14) rfl (hb hby d3_9) rfl (feq hc1).2 (by decide) (by decide) kt) ?_
    show Goes p.tables e below _ (s₁.setTop (mkF m 14 #[.val (.int p0), .val (.long q1), .second, .val (.long q2), .second, .val (.long q3), .second, .val (.int (p0 &&& (7 : Int32)))] []))
    refine go (fun t kt => XS.iload X0.here hx rfl (hb hby d3_14) rfl kt) ?_
    show Goes p.tables e below _ (s₁.setTop (mkF m 16 #[.val (.int p0), .val (.long q1), .second, .val (.long q2), .second, .val (.long q3), .second, .val (.int (p0 &&& (7 : Int32)))] [(.int (p0 &&& (7 : Int32)))]))
    refine go (fun t kt => XS.iconst X0.here hx rfl (hb hby d3_16) kt) ?_
    show Goes p.tables e below _ (s₁.setTop (mkF m 17 #[.val (.int p0), .val (.long q1), .second, .val (.long q2), .second, .val (.long q3), .second, .val (.int (p0 &&& (7 : Int32)))] [(.int (2 : Int32)), (.int (p0 &&& (7 : Int32)))]))
    by_cases hc3 : (p0 &&& (7 : Int32)) = (2 : Int32)
    ·
      refine go (fun t kt => XS.icmpNo X0.here hx rfl (hb hby d3_17) rfl (teq hc3).2 kt) ?_
      show Goes p.tables e below _ (s₁.setTop (mkF m 20 #[.val (.int p0), .val (.long q1), .second, .val (.long q2), .second, .val (.long q3), .second, .val (.int (p0 &&& (7 : Int32)))] []))
      refine go (fun t kt => XS.lload X0.here hx rfl (hb hby d3_20) rfl kt) ?_
      show Goes p.tables e below _ (s₁.setTop (mkF m 22 #[.val (.int p0), .val (.long q1), .second, .val (.long q2), .second, .val (.long q3), .second, .val (.int (p0 &&& (7 : Int32)))] [(.long q3)]))
      obtain ⟨fs, hr, hrun, hended, hW, hsame⟩ := X0.leave (v := some (.long q3)) (fun h => by rw [Bd.returns] at h; cases h)
      refine ⟨_, _, retOut X0 hx (i := .lreturn) Bd.returns rfl (Or.inr (Or.inl ⟨rfl, rfl, _, rfl⟩)) (hb hby d3_22) hr, hrun, hended, _, _, rfl, ?_, ⟨_, rfl⟩, hW, hsame.mono (by decide) (by decide)⟩
      show Q3 Z p0 q1 q2 q3 h0 n0 _ s₁.heap _
      rw [e0]
      exact ⟨(by unfold own_pick; rw [if_neg hc1, if_pos hc3]), N0, rfl⟩
    ·
      refine go (fun t kt => XS.icmpYes X0.here hx rfl (pc0 := 17) (pc' := 23) rfl (hb hby d3_17) rfl (feq hc3).2 (by decide) (by decide) kt) ?_
      show Goes p.tables e below _ (s₁.setTop (mkF m 23 #[.val (.int p0), .val (.long q1), .second, .val (.long q2), .second, .val (.long q3), .second, .val (.int (p0 &&& (7 : Int32)))] []))
      refine go (fun t kt => XS.iload X0.here hx rfl (hb hby d3_23) rfl kt) ?_
      show Goes p.tables e below _ (s₁.setTop (mkF m 25 #[.val (.int p0), .val (.long q1), .second, .val (.long q2), .second, .val (.long q3), .second, .val (.int (p0 &&& (7 : Int32)))] [(.int (p0 &&& (7 : Int32)))]))
      refine go (fun t kt => XS.iconst X0.here hx rfl (hb hby d3_25) kt) ?_
      show Goes p.tables e below _ (s₁.setTop (mkF m 26 #[.val (.int p0), .val (.long q1), .second, .val (.long q2), .second, .val (.long q3), .second, .val (.int (p0 &&& (7 : Int32)))] [(.int (3 : Int32)), (.int (p0 &&& (7 : Int32)))]))
      by_cases hc5 : (p0 &&& (7 : Int32)) = (3 : Int32)
      ·
        refine go (fun t kt => XS.icmpNo X0.here hx rfl (hb hby d3_26) rfl (teq hc5).2 kt) ?_
        show Goes p.tables e below _ (s₁.setTop (mkF m 29 #[.val (.int p0), .val (.long q1), .second, .val (.long q2), .second, .val (.long q3), .second, .val (.int (p0 &&& (7 : Int32)))] []))
        refine go (fun t kt => XS.lloadN X0.here hx rfl (hb hby d3_29) rfl kt) ?_
        show Goes p.tables e below _ (s₁.setTop (mkF m 30 #[.val (.int p0), .val (.long q1), .second, .val (.long q2), .second, .val (.long q3), .second, .val (.int (p0 &&& (7 : Int32)))] [(.long q2)]))
        refine go (fun t kt => XS.lconst X0.here hx rfl (hb hby d3_30) kt) ?_
        show Goes p.tables e below _ (s₁.setTop (mkF m 31 #[.val (.int p0), .val (.long q1), .second, .val (.long q2), .second, .val (.long q3), .second, .val (.int (p0 &&& (7 : Int32)))] [(.long (1 : Int64)), (.long q2)]))
        refine go (fun t kt => XS.lsub X0.here hx rfl (hb hby d3_31) rfl kt) ?_
        show Goes p.tables e below _ (s₁.setTop (mkF m 32 #[.val (.int p0), .val (.long q1), .second, .val (.long q2), .second, .val (.long q3), .second, .val (.int (p0 &&& (7 : Int32)))] [(.long (q2 - (1 : Int64)))]))
        obtain ⟨fs, hr, hrun, hended, hW, hsame⟩ := X0.leave (v := some (.long (q2 - (1 : Int64)))) (fun h => by rw [Bd.returns] at h; cases h)
        refine ⟨_, _, retOut X0 hx (i := .lreturn) Bd.returns rfl (Or.inr (Or.inl ⟨rfl, rfl, _, rfl⟩)) (hb hby d3_32) hr, hrun, hended, _, _, rfl, ?_, ⟨_, rfl⟩, hW, hsame.mono (by decide) (by decide)⟩
        show Q3 Z p0 q1 q2 q3 h0 n0 _ s₁.heap _
        rw [e0]
        exact ⟨(by unfold own_pick; rw [if_neg hc1, if_neg hc3, if_pos hc5]), N0, rfl⟩
      ·
        refine go (fun t kt => XS.icmpYes X0.here hx rfl (pc0 := 26) (pc' := 33) rfl (hb hby d3_26) rfl (feq hc5).2 (by decide) (by decide) kt) ?_
        show Goes p.tables e below _ (s₁.setTop (mkF m 33 #[.val (.int p0), .val (.long q1), .second, .val (.long q2), .second, .val (.long q3), .second, .val (.int (p0 &&& (7 : Int32)))] []))
        refine go (fun t kt => XS.iload X0.here hx rfl (hb hby d3_33) rfl kt) ?_
        show Goes p.tables e below _ (s₁.setTop (mkF m 35 #[.val (.int p0), .val (.long q1), .second, .val (.long q2), .second, .val (.long q3), .second, .val (.int (p0 &&& (7 : Int32)))] [(.int (p0 &&& (7 : Int32)))]))
        refine go (fun t kt => XS.iconst X0.here hx rfl (hb hby d3_35) kt) ?_
        show Goes p.tables e below _ (s₁.setTop (mkF m 36 #[.val (.int p0), .val (.long q1), .second, .val (.long q2), .second, .val (.long q3), .second, .val (.int (p0 &&& (7 : Int32)))] [(.int (4 : Int32)), (.int (p0 &&& (7 : Int32)))]))
        by_cases hc7 : (p0 &&& (7 : Int32)) = (4 : Int32)
        ·
          refine go (fun t kt => XS.icmpNo X0.here hx rfl (hb hby d3_36) rfl (teq hc7).2 kt) ?_
          show Goes p.tables e below _ (s₁.setTop (mkF m 39 #[.val (.int p0), .val (.long q1), .second, .val (.long q2), .second, .val (.long q3), .second, .val (.int (p0 &&& (7 : Int32)))] []))
          refine go (fun t kt => XS.lload X0.here hx rfl (hb hby d3_39) rfl kt) ?_
          show Goes p.tables e below _ (s₁.setTop (mkF m 41 #[.val (.int p0), .val (.long q1), .second, .val (.long q2), .second, .val (.long q3), .second, .val (.int (p0 &&& (7 : Int32)))] [(.long q3)]))
          refine go (fun t kt => XS.lconst X0.here hx rfl (hb hby d3_41) kt) ?_
          show Goes p.tables e below _ (s₁.setTop (mkF m 42 #[.val (.int p0), .val (.long q1), .second, .val (.long q2), .second, .val (.long q3), .second, .val (.int (p0 &&& (7 : Int32)))] [(.long (1 : Int64)), (.long q3)]))
          refine go (fun t kt => XS.ladd X0.here hx rfl (hb hby d3_42) rfl kt) ?_
          show Goes p.tables e below _ (s₁.setTop (mkF m 43 #[.val (.int p0), .val (.long q1), .second, .val (.long q2), .second, .val (.long q3), .second, .val (.int (p0 &&& (7 : Int32)))] [(.long (q3 + (1 : Int64)))]))
          obtain ⟨fs, hr, hrun, hended, hW, hsame⟩ := X0.leave (v := some (.long (q3 + (1 : Int64)))) (fun h => by rw [Bd.returns] at h; cases h)
          refine ⟨_, _, retOut X0 hx (i := .lreturn) Bd.returns rfl (Or.inr (Or.inl ⟨rfl, rfl, _, rfl⟩)) (hb hby d3_43) hr, hrun, hended, _, _, rfl, ?_, ⟨_, rfl⟩, hW, hsame.mono (by decide) (by decide)⟩
          show Q3 Z p0 q1 q2 q3 h0 n0 _ s₁.heap _
          rw [e0]
          exact ⟨(by unfold own_pick; rw [if_neg hc1, if_neg hc3, if_neg hc5, if_pos hc7]), N0, rfl⟩
        ·
          refine go (fun t kt => XS.icmpYes X0.here hx rfl (pc0 := 36) (pc' := 44) rfl (hb hby d3_36) rfl (feq hc7).2 (by decide) (by decide) kt) ?_
          show Goes p.tables e below _ (s₁.setTop (mkF m 44 #[.val (.int p0), .val (.long q1), .second, .val (.long q2), .second, .val (.long q3), .second, .val (.int (p0 &&& (7 : Int32)))] []))
          refine go (fun t kt => XS.iload X0.here hx rfl (hb hby d3_44) rfl kt) ?_
          show Goes p.tables e below _ (s₁.setTop (mkF m 46 #[.val (.int p0), .val (.long q1), .second, .val (.long q2), .second, .val (.long q3), .second, .val (.int (p0 &&& (7 : Int32)))] [(.int (p0 &&& (7 : Int32)))]))
          refine go (fun t kt => XS.iconst X0.here hx rfl (hb hby d3_46) kt) ?_
          show Goes p.tables e below _ (s₁.setTop (mkF m 47 #[.val (.int p0), .val (.long q1), .second, .val (.long q2), .second, .val (.long q3), .second, .val (.int (p0 &&& (7 : Int32)))] [(.int (5 : Int32)), (.int (p0 &&& (7 : Int32)))]))
          by_cases hc9 : (p0 &&& (7 : Int32)) = (5 : Int32)
          ·
            refine go (fun t kt => XS.icmpNo X0.here hx rfl (hb hby d3_47) rfl (teq hc9).2 kt) ?_
            show Goes p.tables e below _ (s₁.setTop (mkF m 50 #[.val (.int p0), .val (.long q1), .second, .val (.long q2), .second, .val (.long q3), .second, .val (.int (p0 &&& (7 : Int32)))] []))
            refine go (fun t kt => XS.lloadN X0.here hx rfl (hb hby d3_50) rfl kt) ?_
            show Goes p.tables e below _ (s₁.setTop (mkF m 51 #[.val (.int p0), .val (.long q1), .second, .val (.long q2), .second, .val (.long q3), .second, .val (.int (p0 &&& (7 : Int32)))] [(.long q2)]))
            refine go (fun t kt => XS.lconst X0.here hx rfl (hb hby d3_51) kt) ?_
            show Goes p.tables e below _ (s₁.setTop (mkF m 52 #[.val (.int p0), .val (.long q1), .second, .val (.long q2), .second, .val (.long q3), .second, .val (.int (p0 &&& (7 : Int32)))] [(.long (1 : Int64)), (.long q2)]))
            refine go (fun t kt => XS.ladd X0.here hx rfl (hb hby d3_52) rfl kt) ?_
            show Goes p.tables e below _ (s₁.setTop (mkF m 53 #[.val (.int p0), .val (.long q1), .second, .val (.long q2), .second, .val (.long q3), .second, .val (.int (p0 &&& (7 : Int32)))] [(.long (q2 + (1 : Int64)))]))
            obtain ⟨fs, hr, hrun, hended, hW, hsame⟩ := X0.leave (v := some (.long (q2 + (1 : Int64)))) (fun h => by rw [Bd.returns] at h; cases h)
            refine ⟨_, _, retOut X0 hx (i := .lreturn) Bd.returns rfl (Or.inr (Or.inl ⟨rfl, rfl, _, rfl⟩)) (hb hby d3_53) hr, hrun, hended, _, _, rfl, ?_, ⟨_, rfl⟩, hW, hsame.mono (by decide) (by decide)⟩
            show Q3 Z p0 q1 q2 q3 h0 n0 _ s₁.heap _
            rw [e0]
            exact ⟨(by unfold own_pick; rw [if_neg hc1, if_neg hc3, if_neg hc5, if_neg hc7, if_pos hc9]), N0, rfl⟩
          ·
            refine go (fun t kt => XS.icmpYes X0.here hx rfl (pc0 := 47) (pc' := 54) rfl (hb hby d3_47) rfl (feq hc9).2 (by decide) (by decide) kt) ?_
            show Goes p.tables e below _ (s₁.setTop (mkF m 54 #[.val (.int p0), .val (.long q1), .second, .val (.long q2), .second, .val (.long q3), .second, .val (.int (p0 &&& (7 : Int32)))] []))
            refine go (fun t kt => XS.iload X0.here hx rfl (hb hby d3_54) rfl kt) ?_
            show Goes p.tables e below _ (s₁.setTop (mkF m 56 #[.val (.int p0), .val (.long q1), .second, .val (.long q2), .second, .val (.long q3), .second, .val (.int (p0 &&& (7 : Int32)))] [(.int (p0 &&& (7 : Int32)))]))
            refine go (fun t kt => XS.bipush X0.here hx rfl (hb hby d3_56) kt) ?_
            show Goes p.tables e below _ (s₁.setTop (mkF m 58 #[.val (.int p0), .val (.long q1), .second, .val (.long q2), .second, .val (.long q3), .second, .val (.int (p0 &&& (7 : Int32)))] [(.int (6 : Int32)), (.int (p0 &&& (7 : Int32)))]))
            by_cases hc11 : (p0 &&& (7 : Int32)) = (6 : Int32)
            ·
              refine go (fun t kt => XS.icmpNo X0.here hx rfl (hb hby d3_58) rfl (teq hc11).2 kt) ?_
              show Goes p.tables e below _ (s₁.setTop (mkF m 61 #[.val (.int p0), .val (.long q1), .second, .val (.long q2), .second, .val (.long q3), .second, .val (.int (p0 &&& (7 : Int32)))] []))
              refine go (fun t kt => XS.lload X0.here hx rfl (hb hby d3_61) rfl kt) ?_
              show Goes p.tables e below _ (s₁.setTop (mkF m 63 #[.val (.int p0), .val (.long q1), .second, .val (.long q2), .second, .val (.long q3), .second, .val (.int (p0 &&& (7 : Int32)))] [(.long q3)]))
              refine go (fun t kt => XS.lconst X0.here hx rfl (hb hby d3_63) kt) ?_
              show Goes p.tables e below _ (s₁.setTop (mkF m 64 #[.val (.int p0), .val (.long q1), .second, .val (.long q2), .second, .val (.long q3), .second, .val (.int (p0 &&& (7 : Int32)))] [(.long (1 : Int64)), (.long q3)]))
              refine go (fun t kt => XS.lsub X0.here hx rfl (hb hby d3_64) rfl kt) ?_
              show Goes p.tables e below _ (s₁.setTop (mkF m 65 #[.val (.int p0), .val (.long q1), .second, .val (.long q2), .second, .val (.long q3), .second, .val (.int (p0 &&& (7 : Int32)))] [(.long (q3 - (1 : Int64)))]))
              obtain ⟨fs, hr, hrun, hended, hW, hsame⟩ := X0.leave (v := some (.long (q3 - (1 : Int64)))) (fun h => by rw [Bd.returns] at h; cases h)
              refine ⟨_, _, retOut X0 hx (i := .lreturn) Bd.returns rfl (Or.inr (Or.inl ⟨rfl, rfl, _, rfl⟩)) (hb hby d3_65) hr, hrun, hended, _, _, rfl, ?_, ⟨_, rfl⟩, hW, hsame.mono (by decide) (by decide)⟩
              show Q3 Z p0 q1 q2 q3 h0 n0 _ s₁.heap _
              rw [e0]
              exact ⟨(by unfold own_pick; rw [if_neg hc1, if_neg hc3, if_neg hc5, if_neg hc7, if_neg hc9, if_pos hc11]), N0, rfl⟩
            ·
              refine go (fun t kt => XS.icmpYes X0.here hx rfl (pc0 := 58) (pc' := 66) rfl (hb hby d3_58) rfl (feq hc11).2 (by decide) (by decide) kt) ?_
              show Goes p.tables e below _ (s₁.setTop (mkF m 66 #[.val (.int p0), .val (.long q1), .second, .val (.long q2), .second, .val (.long q3), .second, .val (.int (p0 &&& (7 : Int32)))] []))
              refine go (fun t kt => XS.lloadN X0.here hx rfl (hb hby d3_66) rfl kt) ?_
              show Goes p.tables e below _ (s₁.setTop (mkF m 67 #[.val (.int p0), .val (.long q1), .second, .val (.long q2), .second, .val (.long q3), .second, .val (.int (p0 &&& (7 : Int32)))] [(.long q1)]))
              obtain ⟨fs, hr, hrun, hended, hW, hsame⟩ := X0.leave (v := some (.long q1)) (fun h => by rw [Bd.returns] at h; cases h)
              refine ⟨_, _, retOut X0 hx (i := .lreturn) Bd.returns rfl (Or.inr (Or.inl ⟨rfl, rfl, _, rfl⟩)) (hb hby d3_67) hr, hrun, hended, _, _, rfl, ?_, ⟨_, rfl⟩, hW, hsame.mono (by decide) (by decide)⟩
              show Q3 Z p0 q1 q2 q3 h0 n0 _ s₁.heap _
              rw [e0]
              exact ⟨(by unfold own_pick; rw [if_neg hc1, if_neg hc3, if_neg hc5, if_neg hc7, if_neg hc9, if_neg hc11]), N0, rfl⟩
theorem d5_0 : decode jdk_30_method_1_code 0 = .ok (.aload_n 0, 1) := by decide +kernel
theorem d5_1 : decode jdk_30_method_1_code 1 = .ok (.invokespecial 1, 3) := by decide +kernel
theorem d5_4 : decode jdk_30_method_1_code 4 = .ok (.return_, 1) := by decide +kernel
theorem pn_5 : plainName "java/lang/Record" = true := by first | (simp [plainName, overriddenIn]; done) | decide +kernel
theorem ef_5 (m : MethodId) (o0 : Addr) : entryFrame m #[(.ref o0)] 1 = mkF m 0 #[.val (.ref o0)] [] := by first | (simp [entryFrame, mkF, argsToLocals, Value.category]; done) | rfl
def Q5 (Z : State) (o0 : Addr) (h0 : Heap) (n0 : Nat) (v : Option Value) (h : Heap) (L : List Loc) : Prop := v = none ∧ Fr n0 L ∧ h = h0
set_option maxRecDepth 65536 in
set_option maxHeartbeats 40000000 in
theorem rm5 (l : Launch) (Z : State) (a0 : Array Value) (hw : ∀ d ∈ tables_1, d.before a0 Z = true) (ws : List Jvm.Cond) (o0 : Addr) (h0 : Heap) (n0 : Nat) (Z0 : n0 ≤ h0.size)  :
    MetFree l (⟨"java/lang/Record", "<init>", "()V"⟩ : MethodName) (head1 (Jvm.Cond.code (⟨"java/lang/Record", "<init>", "()V"⟩ : MethodName) jdk_30_method_1_code 1 none :: ws) ({ frames := 1, cells := 0, slots := 0, locals := 12 } : Room)) (fun a U => a = #[(.ref o0)] ∧ Z.Warmed39 U.vm ∧ U.heap = h0) (fun _ _ _ _ _ => True) (fun _ U o U' => ∃ v L, o = .returned v ∧ Q5 Z o0 h0 n0 v U'.heap L ∧ FrameEnd U o U' L ({ frames := 1, cells := 0, slots := 0, locals := 12 } : Room).cells ({ frames := 1, cells := 0, slots := 0, locals := 12 } : Room).slots) := by
  refine MetFree.of_bodySF (plainFor_of_name pn_5) hisR ?_
  intro p e s m args below meth c s₁ Bd hml0 hP hK
  obtain ⟨rfl, hZ, hh⟩ := hP
  have hx := Bd.exec
  have hby := Bd.bytes
  have hml : c.maxLocals = 1 := hml0
  have hown : s.vm.findClass "java/lang/Record" = some m.cls := findClass_of_methodNamed Bd.named
  have hnm := (name_of_methodNamed Bd.named Bd.method).1
  have X0 : Stand p l e ({ frames := 1, cells := 0, slots := 0, locals := 12 } : Room) s m #[(.ref o0)] below meth c s₁ [] 0 0 := Stand.of_body Bd
  have e0 : s₁.heap = h0 := by rw [← hh, Bd.state]; rfl
  have N0 := Fr.nil n0
  have K0 := Keep.refl h0 []
  suffices hgo : Goes p.tables e below (fun s₂ o => ∃ v L, o = .returned v ∧ Q5 Z o0 h0 n0 v s₂.heap L ∧ FrameEnd s o s₂ L ({ frames := 1, cells := 0, slots := 0, locals := 12 } : Room).cells ({ frames := 1, cells := 0, slots := 0, locals := 12 } : Room).slots) (s₁.setTop (mkF m 0 #[.val (.ref o0)] [])) from goEnd (fun t k => castTop (ef_5 m o0) k) hgo
  refine go (fun t kt => XS.aloadN X0.here hx rfl (hb hby d5_0) rfl rfl kt) ?_
  show Goes p.tables e below _ (s₁.setTop (mkF m 1 #[.val (.ref o0)] [(.ref o0)]))
  obtain ⟨T1, X1, e1, st1⟩ := initO X0 hx hZ hown (hw _ (List.mem_of_getElem? (i := 22) rfl)) (hw _ (List.mem_of_getElem? (i := 23) rfl)) (hw _ (List.mem_of_getElem? (i := 24) rfl)) e0 (g := (mkF m 1 #[.val (.ref o0)] [(.ref o0)])) rfl (by rw [hml]; rfl) rfl (hb hby d5_1) (by decide) (W := 0) (by show 2 * 0 + _ ≤ _; exact Nat.le_of_eq rfl) (by decide)
  refine go st1 ?_
  show Goes p.tables e below _ (T1.setTop (mkF m 4 #[.val (.ref o0)] []))
  obtain ⟨fs, hr, hrun, hended, hW, hsame⟩ := X1.leave (v := none) (fun _ => rfl)
  refine ⟨_, _, X1.returnOut hx Bd.returns (hb hby d5_4) hr, hrun, hended, _, _, rfl, ?_, ⟨_, rfl⟩, hW, hsame.mono (by decide) (by decide)⟩
  show Q5 Z o0 h0 n0 _ T1.heap _
  rw [e1]
  exact ⟨rfl, N0, rfl⟩
theorem d4_0 : decode prog_3_method_1_code 0 = .ok (.aload_n 0, 1) := by decide +kernel
theorem pd_0 : parseMethodDescriptor "()V" = some ⟨[], none⟩ := by decide +kernel
theorem d4_1 : decode prog_3_method_1_code 1 = .ok (.invokespecial 1, 3) := by decide +kernel
theorem d4_4 : decode prog_3_method_1_code 4 = .ok (.aload_n 0, 1) := by decide +kernel
theorem d4_5 : decode prog_3_method_1_code 5 = .ok (.lload_n 1, 1) := by decide +kernel
theorem d4_6 : decode prog_3_method_1_code 6 = .ok (.putfield 7, 3) := by decide +kernel
theorem d4_9 : decode prog_3_method_1_code 9 = .ok (.aload_n 0, 1) := by decide +kernel
theorem d4_10 : decode prog_3_method_1_code 10 = .ok (.lload_n 3, 1) := by decide +kernel
theorem d4_11 : decode prog_3_method_1_code 11 = .ok (.putfield 13, 3) := by decide +kernel
theorem d4_14 : decode prog_3_method_1_code 14 = .ok (.return_, 1) := by decide +kernel
theorem pn_4 : plainName "com/example/triplewright/triplewright/cli/WholeNumbers" = true := by first | (simp [plainName, overriddenIn]; done) | decide +kernel
theorem ef_4 (m : MethodId) (o0 : Addr) (q1 : Int64) (q2 : Int64) : entryFrame m #[(.ref o0), (.long q1), (.long q2)] 5 = mkF m 0 #[.val (.ref o0), .val (.long q1), .second, .val (.long q2), .second] [] := by first | (simp [entryFrame, mkF, argsToLocals, Value.category]; done) | rfl
def Q4 (Z : State) (o0 : Addr) (q1 : Int64) (q2 : Int64) (u1 : Value) (u2 : Value) (h0 : Heap) (n0 : Nat) (v : Option Value) (h : Heap) (L : List Loc) : Prop := v = none ∧ Fr n0 L ∧ Keep h0 h [o0] ∧ Exa Z h o0 "com/example/triplewright/triplewright/cli/WholeNumbers" ∧ Fld Z h o0 "com/example/triplewright/triplewright/cli/WholeNumbers" "min" "J" (.long q1) ∧ Fld Z h o0 "com/example/triplewright/triplewright/cli/WholeNumbers" "max" "J" (.long q2)
set_option maxRecDepth 65536 in
set_option maxHeartbeats 40000000 in
theorem rm4 (l : Launch) (Z : State) (a0 : Array Value) (hw : ∀ d ∈ tables_1, d.before a0 Z = true) (ws : List Jvm.Cond) (o0 : Addr) (q1 : Int64) (q2 : Int64) (u1 : Value) (u2 : Value) (h0 : Heap) (n0 : Nat) (Z0 : n0 ≤ h0.size) (E_o0 : Exa Z h0 o0 "com/example/triplewright/triplewright/cli/WholeNumbers") (F_min_o0 : Fld Z h0 o0 "com/example/triplewright/triplewright/cli/WholeNumbers" "min" "J" u1) (F_max_o0 : Fld Z h0 o0 "com/example/triplewright/triplewright/cli/WholeNumbers" "max" "J" u2) (g_o0 : n0 ≤ o0) :
    MetFree l (⟨"com/example/triplewright/triplewright/cli/WholeNumbers", "<init>", "(JJ)V"⟩ : MethodName) (head1 (Jvm.Cond.code (⟨"com/example/triplewright/triplewright/cli/WholeNumbers", "<init>", "(JJ)V"⟩ : MethodName) prog_3_method_1_code 5 none :: ws) ({ frames := 2, cells := 0, slots := 0, locals := 24 } : Room)) (fun a U => a = #[(.ref o0), (.long q1), (.long q2)] ∧ Z.Warmed39 U.vm ∧ U.heap = h0) (fun _ _ _ _ _ => True) (fun _ U o U' => ∃ v L, o = .returned v ∧ Q4 Z o0 q1 q2 u1 u2 h0 n0 v U'.heap L ∧ FrameEnd U o U' L ({ frames := 2, cells := 0, slots := 0, locals := 24 } : Room).cells ({ frames := 2, cells := 0, slots := 0, locals := 24 } : Room).slots) := by
  refine MetFree.of_bodySF (plainFor_of_name pn_4) hisR ?_
  intro p e s m args below meth c s₁ Bd hml0 hP hK
  obtain ⟨rfl, hZ, hh⟩ := hP
  have hx := Bd.exec
  have hby := Bd.bytes
  have hml : c.maxLocals = 5 := hml0
  have hown : s.vm.findClass "com/example/triplewright/triplewright/cli/WholeNumbers" = some m.cls := findClass_of_methodNamed Bd.named
  have hnm := (name_of_methodNamed Bd.named Bd.method).1
  have X0 : Stand p l e ({ frames := 2, cells := 0, slots := 0, locals := 24 } : Room) s m #[(.ref o0), (.long q1), (.long q2)] below meth c s₁ [] 0 0 := Stand.of_body Bd
  have e0 : s₁.heap = h0 := by rw [← hh, Bd.state]; rfl
  have N0 := Fr.nil n0
  have K0 := Keep.refl h0 [o0]
  suffices hgo : Goes p.tables e below (fun s₂ o => ∃ v L, o = .returned v ∧ Q4 Z o0 q1 q2 u1 u2 h0 n0 v s₂.heap L ∧ FrameEnd s o s₂ L ({ frames := 2, cells := 0, slots := 0, locals := 24 } : Room).cells ({ frames := 2, cells := 0, slots := 0, locals := 24 } : Room).slots) (s₁.setTop (mkF m 0 #[.val (.ref o0), .val (.long q1), .second, .val (.long q2), .second] [])) from goEnd (fun t k => castTop (ef_4 m o0 q1 q2) k) hgo
  refine go (fun t kt => XS.aloadN X0.here hx rfl (hb hby d4_0) rfl rfl kt) ?_
  show Goes p.tables e below _ (s₁.setTop (mkF m 1 #[.val (.ref o0), .val (.long q1), .second, .val (.long q2), .second] [(.ref o0)]))
  obtain ⟨_, _, ⟨T1, L1, k1, n1⟩, -, X1, ⟨Lc1, hQ1, l1, y1, z1⟩, st1⟩ := X0.specialBack hx (y := (⟨"java/lang/Record", "<init>", "()V"⟩ : MethodName)) rfl hown (mvT hZ (hw _ (List.mem_of_getElem? (i := 17) rfl))) (mvT hZ (hw _ (List.mem_of_getElem? (i := 18) rfl))) (mvT hZ (hw _ (List.mem_of_getElem? (i := 21) rfl))) (by decide) (backOf (W := 0) (rm5 l Z a0 hw [] o0 h0 n0 Z0 ) hZ (hw _ (List.mem_of_getElem? (i := 21) rfl)) (hw _ (List.mem_of_getElem? (i := 20) rfl)) (by decide) (by decide)) (g := (mkF m 1 #[.val (.ref o0), .val (.long q1), .second, .val (.long q2), .second] [(.ref o0)])) rfl (by rw [hml]; rfl) (Steps.refl _) (a := o0) (argsL := []) (rest := []) (lenOf pd_0 rfl) rfl (by show 2 * 0 + _ ≤ _; exact Nat.le_of_eq rfl) (hb hby d4_1) (fun _ _ => ⟨rfl, e0, (by decide : 0 + 0 ≤ _), (by decide : 0 + 0 ≤ _)⟩)
  dsimp only [Pt.U, Pt.locs, Pt.cells, Pt.slots] at X1 l1 y1 z1 st1 hQ1
  subst l1 y1 z1
  obtain ⟨rfl, Nq1, e1⟩ := hQ1
  have N1 := Fr.app N0 Nq1
  refine go (fun t kt => st1.trans kt) ?_
  show Goes p.tables e below _ (T1.setTop (mkF m 4 #[.val (.ref o0), .val (.long q1), .second, .val (.long q2), .second] []))
  refine go (fun t kt => XS.aloadN X1.here hx rfl (hb hby d4_4) rfl rfl kt) ?_
  show Goes p.tables e below _ (T1.setTop (mkF m 5 #[.val (.ref o0), .val (.long q1), .second, .val (.long q2), .second] [(.ref o0)]))
  refine go (fun t kt => XS.lloadN X1.here hx rfl (hb hby d4_5) rfl kt) ?_
  show Goes p.tables e below _ (T1.setTop (mkF m 6 #[.val (.ref o0), .val (.long q1), .second, .val (.long q2), .second] [(.long q1), (.ref o0)]))
  obtain ⟨T2, h2, X2, e2, W2, st2⟩ := putF X1 hx hZ hown (host := "") (Or.inl (hw _ (List.mem_of_getElem? (i := 25) rfl))) Via.refl e1 F_min_o0 E_o0 (Or.inr ⟨(hw _ (List.mem_of_getElem? (i := 26) rfl)), rfl, hnm⟩) (hw _ (List.mem_of_getElem? (i := 12) rfl)) (ty := .long) (by decide) rfl rfl (g := (mkF m 6 #[.val (.ref o0), .val (.long q1), .second, .val (.long q2), .second] [(.long q1), (.ref o0)])) rfl rfl (hb hby d4_6)
  replace F_min_o0 := F_min_o0.same W2
  replace E_o0 := E_o0.wr W2
  replace F_max_o0 := F_max_o0.other W2 (Or.inr (slot_ne (Or.inr (hw _ (List.mem_of_getElem? (i := 28) rfl))) (Or.inr (hw _ (List.mem_of_getElem? (i := 26) rfl))) (by decide) (t := .long) (t' := .long) (by decide) (by decide)))
  have Zz2 := Nat.le_trans Z0 (Keep.of_wr W2).1
  have Kk2 := K0.wr W2 (Or.inl (List.mem_of_getElem? (i := 0) rfl))
  have N2 := Fr.snoc X2 N1 g_o0
  refine go st2 ?_
  show Goes p.tables e below _ (T2.setTop (mkF m 9 #[.val (.ref o0), .val (.long q1), .second, .val (.long q2), .second] []))
  refine go (fun t kt => XS.aloadN X2.here hx rfl (hb hby d4_9) rfl rfl kt) ?_
  show Goes p.tables e below _ (T2.setTop (mkF m 10 #[.val (.ref o0), .val (.long q1), .second, .val (.long q2), .second] [(.ref o0)]))
  refine go (fun t kt => XS.lloadN X2.here hx rfl (hb hby d4_10) rfl kt) ?_
  show Goes p.tables e below _ (T2.setTop (mkF m 11 #[.val (.ref o0), .val (.long q1), .second, .val (.long q2), .second] [(.long q2), (.ref o0)]))
  obtain ⟨T3, h3, X3, e3, W3, st3⟩ := putF X2 hx hZ hown (host := "") (Or.inl (hw _ (List.mem_of_getElem? (i := 27) rfl))) Via.refl e2 F_max_o0 E_o0 (Or.inr ⟨(hw _ (List.mem_of_getElem? (i := 28) rfl)), rfl, hnm⟩) (hw _ (List.mem_of_getElem? (i := 12) rfl)) (ty := .long) (by decide) rfl rfl (g := (mkF m 11 #[.val (.ref o0), .val (.long q1), .second, .val (.long q2), .second] [(.long q2), (.ref o0)])) rfl rfl (hb hby d4_11)
  replace F_max_o0 := F_max_o0.same W3
  replace E_o0 := E_o0.wr W3
  replace F_min_o0 := F_min_o0.other W3 (Or.inr (slot_ne (Or.inr (hw _ (List.mem_of_getElem? (i := 26) rfl))) (Or.inr (hw _ (List.mem_of_getElem? (i := 28) rfl))) (by decide) (t := .long) (t' := .long) (by decide) (by decide)))
  have Zz3 := Nat.le_trans Zz2 (Keep.of_wr W3).1
  have Kk3 := Kk2.wr W3 (Or.inl (List.mem_of_getElem? (i := 0) rfl))
  have N3 := Fr.snoc X3 N2 g_o0
  refine go st3 ?_
  show Goes p.tables e below _ (T3.setTop (mkF m 14 #[.val (.ref o0), .val (.long q1), .second, .val (.long q2), .second] []))
  obtain ⟨fs, hr, hrun, hended, hW, hsame⟩ := X3.leave (v := none) (fun _ => rfl)
  refine ⟨_, _, X3.returnOut hx Bd.returns (hb hby d4_14) hr, hrun, hended, _, _, rfl, ?_, ⟨_, rfl⟩, hW, hsame.mono (by decide) (by decide)⟩
  show Q4 Z o0 q1 q2 u1 u2 h0 n0 _ T3.heap _
  rw [e3]
  exact ⟨rfl, N3, Kk3, E_o0, F_min_o0, F_max_o0⟩
theorem d7_0 : decode prog_3_method_2_code 0 = .ok (.lload_n 1, 1) := by decide +kernel
theorem d7_1 : decode prog_3_method_2_code 1 = .ok (.aload_n 0, 1) := by decide +kernel
theorem d7_2 : decode prog_3_method_2_code 2 = .ok (.getfield 7, 3) := by decide +kernel
theorem d7_5 : decode prog_3_method_2_code 5 = .ok (.lcmp, 1) := by decide +kernel
theorem d7_6 : decode prog_3_method_2_code 6 = .ok (.ifCond .lt 16, 3) := by decide +kernel
theorem d7_22 : decode prog_3_method_2_code 22 = .ok (.iconst 0, 1) := by decide +kernel
theorem d7_23 : decode prog_3_method_2_code 23 = .ok (.ireturn, 1) := by decide +kernel
theorem d7_9 : decode prog_3_method_2_code 9 = .ok (.lload_n 1, 1) := by decide +kernel
theorem d7_10 : decode prog_3_method_2_code 10 = .ok (.aload_n 0, 1) := by decide +kernel
theorem d7_11 : decode prog_3_method_2_code 11 = .ok (.getfield 13, 3) := by decide +kernel
theorem d7_14 : decode prog_3_method_2_code 14 = .ok (.lcmp, 1) := by decide +kernel
theorem d7_15 : decode prog_3_method_2_code 15 = .ok (.ifCond .gt 7, 3) := by decide +kernel
theorem d7_18 : decode prog_3_method_2_code 18 = .ok (.iconst 1, 1) := by decide +kernel
theorem d7_19 : decode prog_3_method_2_code 19 = .ok (.goto 4, 3) := by decide +kernel
def own_in (q1 : Int64) (w1 : Int64) (w2 : Int64) : Int32 := (if q1 < w1 then (0 : Int32) else (if w2 < q1 then (0 : Int32) else (1 : Int32)))
theorem ef_7 (m : MethodId) (o0 : Addr) (q1 : Int64) : entryFrame m #[(.ref o0), (.long q1)] 3 = mkF m 0 #[.val (.ref o0), .val (.long q1), .second] [] := by first | (simp [entryFrame, mkF, argsToLocals, Value.category]; done) | rfl
def Q7 (Z : State) (o0 : Addr) (q1 : Int64) (w1 : Int64) (w2 : Int64) (h0 : Heap) (n0 : Nat) (v : Option Value) (h : Heap) (L : List Loc) : Prop := v = some (.int (own_in q1 w1 w2)) ∧ Fr n0 L ∧ h = h0
set_option maxRecDepth 65536 in
set_option maxHeartbeats 40000000 in
theorem rm7 (l : Launch) (Z : State) (a0 : Array Value) (hw : ∀ d ∈ tables_1, d.before a0 Z = true) (ws : List Jvm.Cond) (o0 : Addr) (q1 : Int64) (w1 : Int64) (w2 : Int64) (h0 : Heap) (n0 : Nat) (Z0 : n0 ≤ h0.size) (F_min_o0 : Fld Z h0 o0 "com/example/triplewright/triplewright/cli/WholeNumbers" "min" "J" (.long w1)) (F_max_o0 : Fld Z h0 o0 "com/example/triplewright/triplewright/cli/WholeNumbers" "max" "J" (.long w2)) :
    MetFree l (⟨"com/example/triplewright/triplewright/cli/WholeNumbers", "contains", "(J)Z"⟩ : MethodName) (head1 (Jvm.Cond.code (⟨"com/example/triplewright/triplewright/cli/WholeNumbers", "contains", "(J)Z"⟩ : MethodName) prog_3_method_2_code 3 (some .boolean) :: ws) ({ frames := 0, cells := 0, slots := 0, locals := 0 } : Room)) (fun a U => a = #[(.ref o0), (.long q1)] ∧ Z.Warmed39 U.vm ∧ U.heap = h0) (fun _ _ _ _ _ => True) (fun _ U o U' => ∃ v L, o = .returned v ∧ Q7 Z o0 q1 w1 w2 h0 n0 v U'.heap L ∧ FrameEnd U o U' L ({ frames := 0, cells := 0, slots := 0, locals := 0 } : Room).cells ({ frames := 0, cells := 0, slots := 0, locals := 0 } : Room).slots) := by
  refine MetFree.of_bodySF (plainFor_of_name pn_4) hisR ?_
  intro p e s m args below meth c s₁ Bd hml0 hP hK
  obtain ⟨rfl, hZ, hh⟩ := hP
  have hx := Bd.exec
  have hby := Bd.bytes
  have hml : c.maxLocals = 3 := hml0
  have hown : s.vm.findClass "com/example/triplewright/triplewright/cli/WholeNumbers" = some m.cls := findClass_of_methodNamed Bd.named
  have hnm := (name_of_methodNamed Bd.named Bd.method).1
  have X0 : Stand p l e ({ frames := 0, cells := 0, slots := 0, locals := 0 } : Room) s m #[(.ref o0), (.long q1)] below meth c s₁ [] 0 0 := Stand.of_body Bd
  have e0 : s₁.heap = h0 := by rw [← hh, Bd.state]; rfl
  have N0 := Fr.nil n0
  have K0 := Keep.refl h0 []
  suffices hgo : Goes p.tables e below (fun s₂ o => ∃ v L, o = .returned v ∧ Q7 Z o0 q1 w1 w2 h0 n0 v s₂.heap L ∧ FrameEnd s o s₂ L ({ frames := 0, cells := 0, slots := 0, locals := 0 } : Room).cells ({ frames := 0, cells := 0, slots := 0, locals := 0 } : Room).slots) (s₁.setTop (mkF m 0 #[.val (.ref o0), .val (.long q1), .second] [])) from goEnd (fun t k => castTop (ef_7 m o0 q1) k) hgo
  refine go (fun t kt => XS.lloadN X0.here hx rfl (hb hby d7_0) rfl kt) ?_
  show Goes p.tables e below _ (s₁.setTop (mkF m 1 #[.val (.ref o0), .val (.long q1), .second] [(.long q1)]))
  refine go (fun t kt => XS.aloadN X0.here hx rfl (hb hby d7_1) rfl rfl kt) ?_
  show Goes p.tables e below _ (s₁.setTop (mkF m 2 #[.val (.ref o0), .val (.long q1), .second] [(.ref o0), (.long q1)]))
  obtain ⟨T1, X1, e1, st1⟩ := getF X0 hx hZ hown (host := "") (Or.inl (hw _ (List.mem_of_getElem? (i := 25) rfl))) Via.refl e0 F_min_o0 (g := (mkF m 2 #[.val (.ref o0), .val (.long q1), .second] [(.ref o0), (.long q1)])) rfl rfl (hb hby d7_2)
  refine go st1 ?_
  show Goes p.tables e below _ (T1.setTop (mkF m 5 #[.val (.ref o0), .val (.long q1), .second] [(.long w1), (.long q1)]))
  refine go (fun t kt => XS.lcmp X1.here hx rfl (hb hby d7_5) rfl kt) ?_
  show Goes p.tables e below _ (T1.setTop (mkF m 6 #[.val (.ref o0), .val (.long q1), .second] [(.int (lcmpW q1 w1))]))
  by_cases hc2 : q1 < w1
  ·
    refine go (fun t kt => XS.ifYes X1.here hx rfl (pc0 := 6) (pc' := 22) rfl (hb hby d7_6) rfl ((if0 _ _).trans (tlt ((lw_lt q1 w1).mpr hc2)).1) (by decide) (by decide) kt) ?_
    show Goes p.tables e below _ (T1.setTop (mkF m 22 #[.val (.ref o0), .val (.long q1), .second] []))
    refine go (fun t kt => XS.iconst X1.here hx rfl (hb hby d7_22) kt) ?_
    show Goes p.tables e below _ (T1.setTop (mkF m 23 #[.val (.ref o0), .val (.long q1), .second] [(.int (0 : Int32))]))
    obtain ⟨fs, hr, hrun, hended, hW, hsame⟩ := X1.leave (v := some (.int (0 : Int32))) (fun h => by rw [Bd.returns] at h; cases h)
    refine ⟨_, _, retN X1 hx (t := .boolean) Bd.returns (by simp) (hb hby d7_23) hr, hrun, hended, _, _, rfl, ?_, ⟨_, rfl⟩, hW, hsame.mono (by decide) (by decide)⟩
    show Q7 Z o0 q1 w1 w2 h0 n0 _ T1.heap _
    rw [e1]
    exact ⟨(by unfold own_in; rw [if_pos hc2]), N0, rfl⟩
  ·
    refine go (fun t kt => XS.ifNo X1.here hx rfl (hb hby d7_6) rfl ((if0 _ _).trans (flt (fun q => hc2 ((lw_lt q1 w1).mp q))).1) kt) ?_
    show Goes p.tables e below _ (T1.setTop (mkF m 9 #[.val (.ref o0), .val (.long q1), .second] []))
    refine go (fun t kt => XS.lloadN X1.here hx rfl (hb hby d7_9) rfl kt) ?_
    show Goes p.tables e below _ (T1.setTop (mkF m 10 #[.val (.ref o0), .val (.long q1), .second] [(.long q1)]))
    refine go (fun t kt => XS.aloadN X1.here hx rfl (hb hby d7_10) rfl rfl kt) ?_
    show Goes p.tables e below _ (T1.setTop (mkF m 11 #[.val (.ref o0), .val (.long q1), .second] [(.ref o0), (.long q1)]))
    obtain ⟨T4, X4, e4, st4⟩ := getF X1 hx hZ hown (host := "") (Or.inl (hw _ (List.mem_of_getElem? (i := 27) rfl))) Via.refl e1 F_max_o0 (g := (mkF m 11 #[.val (.ref o0), .val (.long q1), .second] [(.ref o0), (.long q1)])) rfl rfl (hb hby d7_11)
    refine go st4 ?_
    show Goes p.tables e below _ (T4.setTop (mkF m 14 #[.val (.ref o0), .val (.long q1), .second] [(.long w2), (.long q1)]))
    refine go (fun t kt => XS.lcmp X4.here hx rfl (hb hby d7_14) rfl kt) ?_
    show Goes p.tables e below _ (T4.setTop (mkF m 15 #[.val (.ref o0), .val (.long q1), .second] [(.int (lcmpW q1 w2))]))
    by_cases hc5 : w2 < q1
    ·
      refine go (fun t kt => XS.ifYes X4.here hx rfl (pc0 := 15) (pc' := 22) rfl (hb hby d7_15) rfl ((if0 _ _).trans (tlt ((lw_gt q1 w2).mpr hc5)).2.2.1) (by decide) (by decide) kt) ?_
      show Goes p.tables e below _ (T4.setTop (mkF m 22 #[.val (.ref o0), .val (.long q1), .second] []))
      refine go (fun t kt => XS.iconst X4.here hx rfl (hb hby d7_22) kt) ?_
      show Goes p.tables e below _ (T4.setTop (mkF m 23 #[.val (.ref o0), .val (.long q1), .second] [(.int (0 : Int32))]))
      obtain ⟨fs, hr, hrun, hended, hW, hsame⟩ := X4.leave (v := some (.int (0 : Int32))) (fun h => by rw [Bd.returns] at h; cases h)
      refine ⟨_, _, retN X4 hx (t := .boolean) Bd.returns (by simp) (hb hby d7_23) hr, hrun, hended, _, _, rfl, ?_, ⟨_, rfl⟩, hW, hsame.mono (by decide) (by decide)⟩
      show Q7 Z o0 q1 w1 w2 h0 n0 _ T4.heap _
      rw [e4]
      exact ⟨(by unfold own_in; rw [if_neg hc2, if_pos hc5]), N0, rfl⟩
    ·
      refine go (fun t kt => XS.ifNo X4.here hx rfl (hb hby d7_15) rfl ((if0 _ _).trans (flt (fun q => hc5 ((lw_gt q1 w2).mp q))).2.2.1) kt) ?_
      show Goes p.tables e below _ (T4.setTop (mkF m 18 #[.val (.ref o0), .val (.long q1), .second] []))
      refine go (fun t kt => XS.iconst X4.here hx rfl (hb hby d7_18) kt) ?_
      show Goes p.tables e below _ (T4.setTop (mkF m 19 #[.val (.ref o0), .val (.long q1), .second] [(.int (1 : Int32))]))
      refine go (fun t kt => XS.goto X4.here hx rfl (pc0 := 19) (pc' := 23) rfl (hb hby d7_19) (by decide) (by decide) kt) ?_
      show Goes p.tables e below _ (T4.setTop (mkF m 23 #[.val (.ref o0), .val (.long q1), .second] [(.int (1 : Int32))]))
      obtain ⟨fs, hr, hrun, hended, hW, hsame⟩ := X4.leave (v := some (.int (1 : Int32))) (fun h => by rw [Bd.returns] at h; cases h)
      refine ⟨_, _, retN X4 hx (t := .boolean) Bd.returns (by simp) (hb hby d7_23) hr, hrun, hended, _, _, rfl, ?_, ⟨_, rfl⟩, hW, hsame.mono (by decide) (by decide)⟩
      show Q7 Z o0 q1 w1 w2 h0 n0 _ T4.heap _
      rw [e4]
      exact ⟨(by unfold own_in; rw [if_neg hc2, if_neg hc5]), N0, rfl⟩
theorem own_le (a b : Int64) : ¬ own_max a b < own_min a b := by
  unfold own_min own_max; split <;> split <;> simp only [Int64.lt_iff_toInt_lt] at * <;> omega
theorem own_yes (lo hi n : Int64) (h : own_max lo (own_min hi n) = n) (hl : ¬ hi < lo) : own_in n lo hi = 1 := by
  have e1 : ¬ n < lo := by
    intro q; revert h; unfold own_max own_min
    split <;> split <;> simp only [Int64.lt_iff_toInt_lt, ← Int64.toInt_inj] at * <;> omega
  have e2 : ¬ hi < n := by
    intro q; revert h; unfold own_max own_min
    split <;> split <;> simp only [Int64.lt_iff_toInt_lt, ← Int64.toInt_inj] at * <;> omega
  unfold own_in; rw [if_neg e1, if_neg e2]
theorem own_no (lo hi n : Int64) (h : ¬ own_max lo (own_min hi n) = n) (hl : ¬ hi < lo) : own_in n lo hi = 0 := by
  unfold own_in
  split
  · rfl
  · split
    · rfl
    · rename_i e1 e2
      refine absurd ?_ h
      unfold own_max own_min
      split <;> split <;> simp only [Int64.lt_iff_toInt_lt, ← Int64.toInt_inj] at * <;> omega
theorem pd_1 : parseMethodDescriptor "(JJ)J" = some ⟨[.long, .long], some .long⟩ := by decide +kernel
theorem pd_2 : parseMethodDescriptor "(IJJJ)J" = some ⟨[.int, .long, .long, .long], some .long⟩ := by decide +kernel
theorem pd_3 : parseMethodDescriptor "(JJ)V" = some ⟨[.long, .long], none⟩ := by decide +kernel
theorem pd_4 : parseMethodDescriptor "(J)Z" = some ⟨[.long], some .boolean⟩ := by decide +kernel
theorem ef_0 (m : MethodId) (q0 : Int64) (q1 : Int64) (q2 : Int64) (p3 : Int32) : entryFrame m #[(.long q0), (.long q1), (.long q2), (.int p3)] maxLocals = mkF m 0 #[.val (.long q0), .second, .val (.long q1), .second, .val (.long q2), .second, .val (.int p3), .unset, .unset, .unset, .unset, .unset, .unset, .unset, .unset, .unset] [] := by first | (simp [entryFrame, mkF, argsToLocals, Value.category, maxLocals]; done) | rfl
def Q0 (Z : State) (q0 : Int64) (q1 : Int64) (q2 : Int64) (p3 : Int32) (h0 : Heap) (n0 : Nat) (v : Option Value) (h : Heap) (L : List Loc) : Prop := v = some (.int (1 : Int32)) ∧ Fr n0 L
set_option maxRecDepth 65536 in
set_option maxHeartbeats 40000000 in
theorem rm0 (l : Launch) (Z : State) (a0 : Array Value) (hw : ∀ d ∈ tables_1, d.before a0 Z = true) (ws : List Jvm.Cond) (q0 : Int64) (q1 : Int64) (q2 : Int64) (p3 : Int32) (h0 : Heap) (n0 : Nat) (Z0 : n0 ≤ h0.size)  :
    MetFree l x (head1 (Jvm.Cond.code x code maxLocals ret :: ws) room_1) (fun a U => a = #[(.long q0), (.long q1), (.long q2), (.int p3)] ∧ Z.Warmed39 U.vm ∧ U.heap = h0) (fun _ _ _ _ _ => True) (fun _ U o U' => ∃ v L, o = .returned v ∧ Q0 Z q0 q1 q2 p3 h0 n0 v U'.heap L ∧ FrameEnd U o U' L 1 2) := by
  refine MetFree.of_bodySF (plainFor_of_name pn_0) hisR ?_
  intro p e s m args below meth c s₁ Bd hml0 hP hK
  obtain ⟨rfl, hZ, hh⟩ := hP
  have hx := Bd.exec
  have hby := Bd.bytes
  have hml : c.maxLocals = 16 := hml0
  have hown : s.vm.findClass "com/example/triplewright/triplewright/cli/WholeNumbersContainsPinLaw" = some m.cls := findClass_of_methodNamed Bd.named
  have hnm := (name_of_methodNamed Bd.named Bd.method).1
  have X0 : Stand p l e room_1 s m #[(.long q0), (.long q1), (.long q2), (.int p3)] below meth c s₁ [] 0 0 := Stand.of_body Bd
  have e0 : s₁.heap = h0 := by rw [← hh, Bd.state]; rfl
  have N0 := Fr.nil n0
  have K0 := Keep.refl h0 []
  suffices hgo : Goes p.tables e below (fun s₂ o => ∃ v L, o = .returned v ∧ Q0 Z q0 q1 q2 p3 h0 n0 v s₂.heap L ∧ FrameEnd s o s₂ L 1 2) (s₁.setTop (mkF m 0 #[.val (.long q0), .second, .val (.long q1), .second, .val (.long q2), .second, .val (.int p3), .unset, .unset, .unset, .unset, .unset, .unset, .unset, .unset, .unset] [])) from goEnd (fun t k => castTop (ef_0 m q0 q1 q2 p3) k) hgo
  refine go (fun t kt => XS.lloadN X0.here hx rfl (hb hby at_0) rfl kt) ?_
  show Goes p.tables e below _ (s₁.setTop (mkF m 1 #[.val (.long q0), .second, .val (.long q1), .second, .val (.long q2), .second, .val (.int p3), .unset, .unset, .unset, .unset, .unset, .unset, .unset, .unset, .unset] [(.long q0)]))
  refine go (fun t kt => XS.lloadN X0.here hx rfl (hb hby at_1) rfl kt) ?_
  show Goes p.tables e below _ (s₁.setTop (mkF m 2 #[.val (.long q0), .second, .val (.long q1), .second, .val (.long q2), .second, .val (.int p3), .unset, .unset, .unset, .unset, .unset, .unset, .unset, .unset, .unset] [(.long q1), (.long q0)]))
  obtain ⟨_, _, ⟨T1, L1, k1, n1⟩, -, X1, ⟨Lc1, hQ1, l1, y1, z1⟩, st1⟩ := Jvm.LawKit.callS X0 hx (y := (⟨"java/lang/Math", "min", "(JJ)J"⟩ : MethodName)) hown (mvT hZ (hw _ (List.mem_of_getElem? (i := 0) rfl))) (mvT hZ (hw _ (List.mem_of_getElem? (i := 1) rfl))) (mvT hZ (hw _ (List.mem_of_getElem? (i := 2) rfl))) (mvT hZ (hw _ (List.mem_of_getElem? (i := 3) rfl))) (by decide) (backOf (W := 0) (rm1 l Z a0 hw [] q0 q1 h0 n0 Z0 ) hZ (hw _ (List.mem_of_getElem? (i := 3) rfl)) (hw _ (List.mem_of_getElem? (i := 2) rfl)) (by decide) (by decide)) (g := (mkF m 2 #[.val (.long q0), .second, .val (.long q1), .second, .val (.long q2), .second, .val (.int p3), .unset, .unset, .unset, .unset, .unset, .unset, .unset, .unset, .unset] [(.long q1), (.long q0)])) rfl (by rw [hml]; rfl) (argsL := [(.long q0), (.long q1)]) (rest := []) (lenOf pd_1 rfl) rfl (by show 2 * 0 + _ ≤ _; exact Nat.le_of_eq rfl) (hb hby at_2) (fun _ _ => ⟨rfl, e0, (by decide : 0 + 0 ≤ _), (by decide : 0 + 0 ≤ _)⟩)
  dsimp only [Pt.U, Pt.locs, Pt.cells, Pt.slots] at X1 l1 y1 z1 st1 hQ1
  subst l1 y1 z1
  obtain ⟨rfl, Nq1, e1⟩ := hQ1
  have N1 := Fr.app N0 Nq1
  refine go st1 ?_
  show Goes p.tables e below _ (T1.setTop (mkF m 5 #[.val (.long q0), .second, .val (.long q1), .second, .val (.long q2), .second, .val (.int p3), .unset, .unset, .unset, .unset, .unset, .unset, .unset, .unset, .unset] [(.long (own_min q0 q1))]))
  refine go (fun t kt => XS.lstore X1.here hx rfl (hb hby at_5) rfl (l' := #[.val (.long q0), .second, .val (.long q1), .second, .val (.long q2), .second, .val (.int p3), .val (.long (own_min q0 q1)), .second, .unset, .unset, .unset, .unset, .unset, .unset, .unset]) rfl kt) ?_
  show Goes p.tables e below _ (T1.setTop (mkF m 7 #[.val (.long q0), .second, .val (.long q1), .second, .val (.long q2), .second, .val (.int p3), .val (.long (own_min q0 q1)), .second, .unset, .unset, .unset, .unset, .unset, .unset, .unset] []))
  refine go (fun t kt => XS.lloadN X1.here hx rfl (hb hby at_7) rfl kt) ?_
  show Goes p.tables e below _ (T1.setTop (mkF m 8 #[.val (.long q0), .second, .val (.long q1), .second, .val (.long q2), .second, .val (.int p3), .val (.long (own_min q0 q1)), .second, .unset, .unset, .unset, .unset, .unset, .unset, .unset] [(.long q0)]))
  refine go (fun t kt => XS.lloadN X1.here hx rfl (hb hby at_8) rfl kt) ?_
  show Goes p.tables e below _ (T1.setTop (mkF m 9 #[.val (.long q0), .second, .val (.long q1), .second, .val (.long q2), .second, .val (.int p3), .val (.long (own_min q0 q1)), .second, .unset, .unset, .unset, .unset, .unset, .unset, .unset] [(.long q1), (.long q0)]))
  obtain ⟨_, _, ⟨T2, L2, k2, n2⟩, -, X2, ⟨Lc2, hQ2, l2, y2, z2⟩, st2⟩ := Jvm.LawKit.callS X1 hx (y := (⟨"java/lang/Math", "max", "(JJ)J"⟩ : MethodName)) hown (mvT hZ (hw _ (List.mem_of_getElem? (i := 4) rfl))) (mvT hZ (hw _ (List.mem_of_getElem? (i := 5) rfl))) (mvT hZ (hw _ (List.mem_of_getElem? (i := 2) rfl))) (mvT hZ (hw _ (List.mem_of_getElem? (i := 6) rfl))) (by decide) (backOf (W := 0) (rm2 l Z a0 hw [] q0 q1 h0 n0 Z0 ) hZ (hw _ (List.mem_of_getElem? (i := 6) rfl)) (hw _ (List.mem_of_getElem? (i := 2) rfl)) (by decide) (by decide)) (g := (mkF m 9 #[.val (.long q0), .second, .val (.long q1), .second, .val (.long q2), .second, .val (.int p3), .val (.long (own_min q0 q1)), .second, .unset, .unset, .unset, .unset, .unset, .unset, .unset] [(.long q1), (.long q0)])) rfl (by rw [hml]; rfl) (argsL := [(.long q0), (.long q1)]) (rest := []) (lenOf pd_1 rfl) rfl (by show 2 * 0 + _ ≤ _; exact Nat.le_of_eq rfl) (hb hby at_9) (fun _ _ => ⟨rfl, e1, (by decide : 0 + 0 ≤ _), (by decide : 0 + 0 ≤ _)⟩)
  dsimp only [Pt.U, Pt.locs, Pt.cells, Pt.slots] at X2 l2 y2 z2 st2 hQ2
  subst l2 y2 z2
  obtain ⟨rfl, Nq2, e2⟩ := hQ2
  have N2 := Fr.app N1 Nq2
  refine go st2 ?_
  show Goes p.tables e below _ (T2.setTop (mkF m 12 #[.val (.long q0), .second, .val (.long q1), .second, .val (.long q2), .second, .val (.int p3), .val (.long (own_min q0 q1)), .second, .unset, .unset, .unset, .unset, .unset, .unset, .unset] [(.long (own_max q0 q1))]))
  refine go (fun t kt => XS.lstore X2.here hx rfl (hb hby at_12) rfl (l' := #[.val (.long q0), .second, .val (.long q1), .second, .val (.long q2), .second, .val (.int p3), .val (.long (own_min q0 q1)), .second, .val (.long (own_max q0 q1)), .second, .unset, .unset, .unset, .unset, .unset]) rfl kt) ?_
  show Goes p.tables e below _ (T2.setTop (mkF m 14 #[.val (.long q0), .second, .val (.long q1), .second, .val (.long q2), .second, .val (.int p3), .val (.long (own_min q0 q1)), .second, .val (.long (own_max q0 q1)), .second, .unset, .unset, .unset, .unset, .unset] []))
  refine go (fun t kt => XS.iload X2.here hx rfl (hb hby at_14) rfl kt) ?_
  show Goes p.tables e below _ (T2.setTop (mkF m 16 #[.val (.long q0), .second, .val (.long q1), .second, .val (.long q2), .second, .val (.int p3), .val (.long (own_min q0 q1)), .second, .val (.long (own_max q0 q1)), .second, .unset, .unset, .unset, .unset, .unset] [(.int p3)]))
  refine go (fun t kt => XS.lload X2.here hx rfl (hb hby at_16) rfl kt) ?_
  show Goes p.tables e below _ (T2.setTop (mkF m 18 #[.val (.long q0), .second, .val (.long q1), .second, .val (.long q2), .second, .val (.int p3), .val (.long (own_min q0 q1)), .second, .val (.long (own_max q0 q1)), .second, .unset, .unset, .unset, .unset, .unset] [(.long q2), (.int p3)]))
  refine go (fun t kt => XS.lload X2.here hx rfl (hb hby at_18) rfl kt) ?_
  show Goes p.tables e below _ (T2.setTop (mkF m 20 #[.val (.long q0), .second, .val (.long q1), .second, .val (.long q2), .second, .val (.int p3), .val (.long (own_min q0 q1)), .second, .val (.long (own_max q0 q1)), .second, .unset, .unset, .unset, .unset, .unset] [(.long (own_min q0 q1)), (.long q2), (.int p3)]))
  refine go (fun t kt => XS.lload X2.here hx rfl (hb hby at_20) rfl kt) ?_
  show Goes p.tables e below _ (T2.setTop (mkF m 22 #[.val (.long q0), .second, .val (.long q1), .second, .val (.long q2), .second, .val (.int p3), .val (.long (own_min q0 q1)), .second, .val (.long (own_max q0 q1)), .second, .unset, .unset, .unset, .unset, .unset] [(.long (own_max q0 q1)), (.long (own_min q0 q1)), (.long q2), (.int p3)]))
  obtain ⟨_, _, ⟨T3, L3, k3, n3⟩, -, X3, ⟨Lc3, hQ3, l3, y3, z3⟩, st3⟩ := Jvm.LawKit.callS X2 hx (y := (⟨"com/example/triplewright/triplewright/cli/WholeNumbersContainsPinLaw", "pick", "(IJJJ)J"⟩ : MethodName)) hown (mvT hZ (hw _ (List.mem_of_getElem? (i := 7) rfl))) (mvT hZ (hw _ (List.mem_of_getElem? (i := 8) rfl))) (mvT hZ (hw _ (List.mem_of_getElem? (i := 9) rfl))) (mvT hZ (hw _ (List.mem_of_getElem? (i := 10) rfl))) (by decide) (backOf (W := 0) (rm3 l Z a0 hw [] p3 q2 (own_min q0 q1) (own_max q0 q1) h0 n0 Z0 ) hZ (hw _ (List.mem_of_getElem? (i := 10) rfl)) (hw _ (List.mem_of_getElem? (i := 9) rfl)) (by decide) (by decide)) (g := (mkF m 22 #[.val (.long q0), .second, .val (.long q1), .second, .val (.long q2), .second, .val (.int p3), .val (.long (own_min q0 q1)), .second, .val (.long (own_max q0 q1)), .second, .unset, .unset, .unset, .unset, .unset] [(.long (own_max q0 q1)), (.long (own_min q0 q1)), (.long q2), (.int p3)])) rfl (by rw [hml]; rfl) (argsL := [(.int p3), (.long q2), (.long (own_min q0 q1)), (.long (own_max q0 q1))]) (rest := []) (lenOf pd_2 rfl) rfl (by show 2 * 0 + _ ≤ _; exact Nat.le_of_eq rfl) (hb hby at_22) (fun _ _ => ⟨rfl, e2, (by decide : 0 + 0 ≤ _), (by decide : 0 + 0 ≤ _)⟩)
  dsimp only [Pt.U, Pt.locs, Pt.cells, Pt.slots] at X3 l3 y3 z3 st3 hQ3
  subst l3 y3 z3
  obtain ⟨rfl, Nq3, e3⟩ := hQ3
  have N3 := Fr.app N2 Nq3
  refine go st3 ?_
  show Goes p.tables e below _ (T3.setTop (mkF m 25 #[.val (.long q0), .second, .val (.long q1), .second, .val (.long q2), .second, .val (.int p3), .val (.long (own_min q0 q1)), .second, .val (.long (own_max q0 q1)), .second, .unset, .unset, .unset, .unset, .unset] [(.long (own_pick p3 q2 (own_min q0 q1) (own_max q0 q1)))]))
  refine go (fun t kt => XS.lstore X3.here hx rfl (hb hby at_25) rfl (l' := #[.val (.long q0), .second, .val (.long q1), .second, .val (.long q2), .second, .val (.int p3), .val (.long (own_min q0 q1)), .second, .val (.long (own_max q0 q1)), .second, .val (.long (own_pick p3 q2 (own_min q0 q1) (own_max q0 q1))), .second, .unset, .unset, .unset]) rfl kt) ?_
  show Goes p.tables e below _ (T3.setTop (mkF m 27 #[.val (.long q0), .second, .val (.long q1), .second, .val (.long q2), .second, .val (.int p3), .val (.long (own_min q0 q1)), .second, .val (.long (own_max q0 q1)), .second, .val (.long (own_pick p3 q2 (own_min q0 q1) (own_max q0 q1))), .second, .unset, .unset, .unset] []))
  obtain ⟨T4, h4, X4, e4, E4, A4, D4, -, st4⟩ := newO X3 hx hZ hown (hw _ (List.mem_of_getElem? (i := 11) rfl)) (hw _ (List.mem_of_getElem? (i := 12) rfl)) (hw _ (List.mem_of_getElem? (i := 13) rfl)) e3 (g := (mkF m 27 #[.val (.long q0), .second, .val (.long q1), .second, .val (.long q2), .second, .val (.int p3), .val (.long (own_min q0 q1)), .second, .val (.long (own_max q0 q1)), .second, .val (.long (own_pick p3 q2 (own_min q0 q1) (own_max q0 q1))), .second, .unset, .unset, .unset] [])) rfl (hb hby at_27) (by decide) (by decide)
  obtain ⟨b4, g4⟩ : ∃ z, z = h0.size := ⟨_, rfl⟩
  rw [← g4] at A4 D4 st4
  have g_b4 : n0 ≤ b4 := Nat.le_trans Z0 (Nat.le_of_eq g4.symm)
  have sz_b4 : h0.size ≤ b4 := Nat.le_trans K0.1 (Nat.le_of_eq g4.symm)
  have Zz4 := Nat.le_trans Z0 E4.1
  have Kk4 := K0.ext E4
  have E_b4 := A4
  have F_min_b4 : Fld Z h4 b4 "com/example/triplewright/triplewright/cli/WholeNumbers" "min" "J" (.long (0 : Int64)) := D4 (Or.inr (hw _ (List.mem_of_getElem? (i := 26) rfl))) (ty := .long) (by decide)
  have F_max_b4 : Fld Z h4 b4 "com/example/triplewright/triplewright/cli/WholeNumbers" "max" "J" (.long (0 : Int64)) := D4 (Or.inr (hw _ (List.mem_of_getElem? (i := 28) rfl))) (ty := .long) (by decide)
  refine go st4 ?_
  show Goes p.tables e below _ (T4.setTop (mkF m 30 #[.val (.long q0), .second, .val (.long q1), .second, .val (.long q2), .second, .val (.int p3), .val (.long (own_min q0 q1)), .second, .val (.long (own_max q0 q1)), .second, .val (.long (own_pick p3 q2 (own_min q0 q1) (own_max q0 q1))), .second, .unset, .unset, .unset] [(.ref b4)]))
  refine go (fun t kt => XS.dup X4.here hx rfl (hb hby at_30) rfl rfl kt) ?_
  show Goes p.tables e below _ (T4.setTop (mkF m 31 #[.val (.long q0), .second, .val (.long q1), .second, .val (.long q2), .second, .val (.int p3), .val (.long (own_min q0 q1)), .second, .val (.long (own_max q0 q1)), .second, .val (.long (own_pick p3 q2 (own_min q0 q1) (own_max q0 q1))), .second, .unset, .unset, .unset] [(.ref b4), (.ref b4)]))
  refine go (fun t kt => XS.lload X4.here hx rfl (hb hby at_31) rfl kt) ?_
  show Goes p.tables e below _ (T4.setTop (mkF m 33 #[.val (.long q0), .second, .val (.long q1), .second, .val (.long q2), .second, .val (.int p3), .val (.long (own_min q0 q1)), .second, .val (.long (own_max q0 q1)), .second, .val (.long (own_pick p3 q2 (own_min q0 q1) (own_max q0 q1))), .second, .unset, .unset, .unset] [(.long (own_min q0 q1)), (.ref b4), (.ref b4)]))
  refine go (fun t kt => XS.lload X4.here hx rfl (hb hby at_33) rfl kt) ?_
  show Goes p.tables e below _ (T4.setTop (mkF m 35 #[.val (.long q0), .second, .val (.long q1), .second, .val (.long q2), .second, .val (.int p3), .val (.long (own_min q0 q1)), .second, .val (.long (own_max q0 q1)), .second, .val (.long (own_pick p3 q2 (own_min q0 q1) (own_max q0 q1))), .second, .unset, .unset, .unset] [(.long (own_max q0 q1)), (.long (own_min q0 q1)), (.ref b4), (.ref b4)]))
  obtain ⟨_, _, ⟨T5, L5, k5, n5⟩, -, X5, ⟨Lc5, hQ5, l5, y5, z5⟩, st5⟩ := X4.specialBack hx (y := (⟨"com/example/triplewright/triplewright/cli/WholeNumbers", "<init>", "(JJ)V"⟩ : MethodName)) rfl hown (mvT hZ (hw _ (List.mem_of_getElem? (i := 14) rfl))) (mvT hZ (hw _ (List.mem_of_getElem? (i := 15) rfl))) (mvT hZ (hw _ (List.mem_of_getElem? (i := 16) rfl))) (by decide) (backOf (W := 1) (rm4 l Z a0 hw [] b4 (own_min q0 q1) (own_max q0 q1) (.long (0 : Int64)) (.long (0 : Int64)) h4 n0 Zz4 E_b4 F_min_b4 F_max_b4 g_b4) hZ (hw _ (List.mem_of_getElem? (i := 16) rfl)) (hw _ (List.mem_of_getElem? (i := 13) rfl)) (by decide) (by decide)) (g := (mkF m 35 #[.val (.long q0), .second, .val (.long q1), .second, .val (.long q2), .second, .val (.int p3), .val (.long (own_min q0 q1)), .second, .val (.long (own_max q0 q1)), .second, .val (.long (own_pick p3 q2 (own_min q0 q1) (own_max q0 q1))), .second, .unset, .unset, .unset] [(.long (own_max q0 q1)), (.long (own_min q0 q1)), (.ref b4), (.ref b4)])) rfl (by rw [hml]; rfl) (Steps.refl _) (a := b4) (argsL := [(.long (own_min q0 q1)), (.long (own_max q0 q1))]) (rest := [(.ref b4)]) (lenOf pd_3 rfl) rfl (by show 2 * 0 + _ ≤ _; exact Nat.le_of_eq rfl) (hb hby at_35) (fun _ _ => ⟨rfl, e4, (by decide : 1 + 0 ≤ _), (by decide : 2 + 0 ≤ _)⟩)
  dsimp only [Pt.U, Pt.locs, Pt.cells, Pt.slots] at X5 l5 y5 z5 st5 hQ5
  subst l5 y5 z5
  obtain ⟨rfl, Nq5, Kq5, Eq5_o0, Fq5_min_o0, Fq5_max_o0⟩ := hQ5
  replace E_b4 := E_b4.keep Kq5
  clear F_min_b4
  clear F_max_b4
  have Zz5 := Nat.le_trans Zz4 Kq5.1
  have Kk5 := Kk4.trans Kq5 (allS (Or.inr sz_b4) all0)
  have E_b4 := Eq5_o0
  have F_min_b4 := Fq5_min_o0
  have F_max_b4 := Fq5_max_o0
  have N5 := Fr.app N3 Nq5
  refine go (fun t kt => st5.trans kt) ?_
  show Goes p.tables e below _ (T5.setTop (mkF m 38 #[.val (.long q0), .second, .val (.long q1), .second, .val (.long q2), .second, .val (.int p3), .val (.long (own_min q0 q1)), .second, .val (.long (own_max q0 q1)), .second, .val (.long (own_pick p3 q2 (own_min q0 q1) (own_max q0 q1))), .second, .unset, .unset, .unset] [(.ref b4)]))
  refine go (fun t kt => XS.astore X5.here hx rfl (hb hby at_38) rfl rfl (l' := #[.val (.long q0), .second, .val (.long q1), .second, .val (.long q2), .second, .val (.int p3), .val (.long (own_min q0 q1)), .second, .val (.long (own_max q0 q1)), .second, .val (.long (own_pick p3 q2 (own_min q0 q1) (own_max q0 q1))), .second, .val (.ref b4), .unset, .unset]) rfl kt) ?_
  show Goes p.tables e below _ (T5.setTop (mkF m 40 #[.val (.long q0), .second, .val (.long q1), .second, .val (.long q2), .second, .val (.int p3), .val (.long (own_min q0 q1)), .second, .val (.long (own_max q0 q1)), .second, .val (.long (own_pick p3 q2 (own_min q0 q1) (own_max q0 q1))), .second, .val (.ref b4), .unset, .unset] []))
  refine go (fun t kt => XS.aload X5.here hx rfl (hb hby at_40) rfl rfl kt) ?_
  show Goes p.tables e below _ (T5.setTop (mkF m 42 #[.val (.long q0), .second, .val (.long q1), .second, .val (.long q2), .second, .val (.int p3), .val (.long (own_min q0 q1)), .second, .val (.long (own_max q0 q1)), .second, .val (.long (own_pick p3 q2 (own_min q0 q1) (own_max q0 q1))), .second, .val (.ref b4), .unset, .unset] [(.ref b4)]))
  refine go (fun t kt => XS.lload X5.here hx rfl (hb hby at_42) rfl kt) ?_
  show Goes p.tables e below _ (T5.setTop (mkF m 44 #[.val (.long q0), .second, .val (.long q1), .second, .val (.long q2), .second, .val (.int p3), .val (.long (own_min q0 q1)), .second, .val (.long (own_max q0 q1)), .second, .val (.long (own_pick p3 q2 (own_min q0 q1) (own_max q0 q1))), .second, .val (.ref b4), .unset, .unset] [(.long (own_pick p3 q2 (own_min q0 q1) (own_max q0 q1))), (.ref b4)]))
  obtain ⟨cq6, kq6, q6a, q6b, q6c⟩ := isOf hZ rfl E_b4
  obtain ⟨_, _, ⟨T6, L6, k6, n6⟩, -, X6, ⟨Lc6, hQ6, l6, y6, z6⟩, st6⟩ := X5.virtualBack hx (y := (⟨"com/example/triplewright/triplewright/cli/WholeNumbers", "contains", "(J)Z"⟩ : MethodName)) (z := (⟨"com/example/triplewright/triplewright/cli/WholeNumbers", "contains", "(J)Z"⟩ : MethodName)) hown (mvT hZ (hw _ (List.mem_of_getElem? (i := 29) rfl))) (mvT hZ (hw _ (List.mem_of_getElem? (i := 30) rfl))) (notFace_of_selects (args := #[]) (mvT hZ (hw _ (List.mem_of_getElem? (i := 32) rfl)))) (mvT hZ (hw _ (List.mem_of_getElem? (i := 32) rfl))) (mvT hZ (hw _ (List.mem_of_getElem? (i := 31) rfl))) (by decide) (backOf (W := 0) (rm7 l Z a0 hw [] b4 (own_pick p3 q2 (own_min q0 q1) (own_max q0 q1)) (own_min q0 q1) (own_max q0 q1) T5.heap n0 Zz5 F_min_b4 F_max_b4) hZ (hw _ (List.mem_of_getElem? (i := 33) rfl)) (hw _ (List.mem_of_getElem? (i := 13) rfl)) (by decide) (by decide)) q6a q6c (g := (mkF m 44 #[.val (.long q0), .second, .val (.long q1), .second, .val (.long q2), .second, .val (.int p3), .val (.long (own_min q0 q1)), .second, .val (.long (own_max q0 q1)), .second, .val (.long (own_pick p3 q2 (own_min q0 q1) (own_max q0 q1))), .second, .val (.ref b4), .unset, .unset] [(.long (own_pick p3 q2 (own_min q0 q1) (own_max q0 q1))), (.ref b4)])) rfl (by rw [hml]; rfl) (Steps.refl _) (argsL := [(.long (own_pick p3 q2 (own_min q0 q1) (own_max q0 q1)))]) (rest := []) (lenOf pd_4 rfl) rfl (by show 2 * 0 + _ ≤ _; exact Nat.le_of_eq rfl) (hb hby at_44) (fun _ _ => ⟨rfl, rfl, (by decide : 1 + 0 ≤ _), (by decide : 2 + 0 ≤ _)⟩)
  dsimp only [Pt.U, Pt.locs, Pt.cells, Pt.slots] at X6 l6 y6 z6 st6 hQ6
  subst l6 y6 z6
  obtain ⟨rfl, Nq6, e6⟩ := hQ6
  have N6 := Fr.app N5 Nq6
  refine go (fun t kt => st6.trans kt) ?_
  show Goes p.tables e below _ (T6.setTop (mkF m 47 #[.val (.long q0), .second, .val (.long q1), .second, .val (.long q2), .second, .val (.int p3), .val (.long (own_min q0 q1)), .second, .val (.long (own_max q0 q1)), .second, .val (.long (own_pick p3 q2 (own_min q0 q1) (own_max q0 q1))), .second, .val (.ref b4), .unset, .unset] [(.int (own_in (own_pick p3 q2 (own_min q0 q1) (own_max q0 q1)) (own_min q0 q1) (own_max q0 q1)))]))
  refine go (fun t kt => XS.istore X6.here hx rfl (hb hby at_47) rfl (l' := #[.val (.long q0), .second, .val (.long q1), .second, .val (.long q2), .second, .val (.int p3), .val (.long (own_min q0 q1)), .second, .val (.long (own_max q0 q1)), .second, .val (.long (own_pick p3 q2 (own_min q0 q1) (own_max q0 q1))), .second, .val (.ref b4), .val (.int (own_in (own_pick p3 q2 (own_min q0 q1) (own_max q0 q1)) (own_min q0 q1) (own_max q0 q1))), .unset]) rfl kt) ?_
  show Goes p.tables e below _ (T6.setTop (mkF m 49 #[.val (.long q0), .second, .val (.long q1), .second, .val (.long q2), .second, .val (.int p3), .val (.long (own_min q0 q1)), .second, .val (.long (own_max q0 q1)), .second, .val (.long (own_pick p3 q2 (own_min q0 q1) (own_max q0 q1))), .second, .val (.ref b4), .val (.int (own_in (own_pick p3 q2 (own_min q0 q1) (own_max q0 q1)) (own_min q0 q1) (own_max q0 q1))), .unset] []))
  refine go (fun t kt => XS.lload X6.here hx rfl (hb hby at_49) rfl kt) ?_
  show Goes p.tables e below _ (T6.setTop (mkF m 51 #[.val (.long q0), .second, .val (.long q1), .second, .val (.long q2), .second, .val (.int p3), .val (.long (own_min q0 q1)), .second, .val (.long (own_max q0 q1)), .second, .val (.long (own_pick p3 q2 (own_min q0 q1) (own_max q0 q1))), .second, .val (.ref b4), .val (.int (own_in (own_pick p3 q2 (own_min q0 q1) (own_max q0 q1)) (own_min q0 q1) (own_max q0 q1))), .unset] [(.long (own_min q0 q1))]))
  refine go (fun t kt => XS.lload X6.here hx rfl (hb hby at_51) rfl kt) ?_
  show Goes p.tables e below _ (T6.setTop (mkF m 53 #[.val (.long q0), .second, .val (.long q1), .second, .val (.long q2), .second, .val (.int p3), .val (.long (own_min q0 q1)), .second, .val (.long (own_max q0 q1)), .second, .val (.long (own_pick p3 q2 (own_min q0 q1) (own_max q0 q1))), .second, .val (.ref b4), .val (.int (own_in (own_pick p3 q2 (own_min q0 q1) (own_max q0 q1)) (own_min q0 q1) (own_max q0 q1))), .unset] [(.long (own_max q0 q1)), (.long (own_min q0 q1))]))
  refine go (fun t kt => XS.lload X6.here hx rfl (hb hby at_53) rfl kt) ?_
  show Goes p.tables e below _ (T6.setTop (mkF m 55 #[.val (.long q0), .second, .val (.long q1), .second, .val (.long q2), .second, .val (.int p3), .val (.long (own_min q0 q1)), .second, .val (.long (own_max q0 q1)), .second, .val (.long (own_pick p3 q2 (own_min q0 q1) (own_max q0 q1))), .second, .val (.ref b4), .val (.int (own_in (own_pick p3 q2 (own_min q0 q1) (own_max q0 q1)) (own_min q0 q1) (own_max q0 q1))), .unset] [(.long (own_pick p3 q2 (own_min q0 q1) (own_max q0 q1))), (.long (own_max q0 q1)), (.long (own_min q0 q1))]))
  obtain ⟨_, _, ⟨T7, L7, k7, n7⟩, -, X7, ⟨Lc7, hQ7, l7, y7, z7⟩, st7⟩ := Jvm.LawKit.callS X6 hx (y := (⟨"java/lang/Math", "min", "(JJ)J"⟩ : MethodName)) hown (mvT hZ (hw _ (List.mem_of_getElem? (i := 0) rfl))) (mvT hZ (hw _ (List.mem_of_getElem? (i := 1) rfl))) (mvT hZ (hw _ (List.mem_of_getElem? (i := 2) rfl))) (mvT hZ (hw _ (List.mem_of_getElem? (i := 3) rfl))) (by decide) (backOf (W := 2) (rm1 l Z a0 hw [] (own_max q0 q1) (own_pick p3 q2 (own_min q0 q1) (own_max q0 q1)) T5.heap n0 Zz5 ) hZ (hw _ (List.mem_of_getElem? (i := 3) rfl)) (hw _ (List.mem_of_getElem? (i := 2) rfl)) (by decide) (by decide)) (g := (mkF m 55 #[.val (.long q0), .second, .val (.long q1), .second, .val (.long q2), .second, .val (.int p3), .val (.long (own_min q0 q1)), .second, .val (.long (own_max q0 q1)), .second, .val (.long (own_pick p3 q2 (own_min q0 q1) (own_max q0 q1))), .second, .val (.ref b4), .val (.int (own_in (own_pick p3 q2 (own_min q0 q1) (own_max q0 q1)) (own_min q0 q1) (own_max q0 q1))), .unset] [(.long (own_pick p3 q2 (own_min q0 q1) (own_max q0 q1))), (.long (own_max q0 q1)), (.long (own_min q0 q1))])) rfl (by rw [hml]; rfl) (argsL := [(.long (own_max q0 q1)), (.long (own_pick p3 q2 (own_min q0 q1) (own_max q0 q1)))]) (rest := [(.long (own_min q0 q1))]) (lenOf pd_1 rfl) rfl (by show 2 * 0 + _ ≤ _; exact Nat.le_of_eq rfl) (hb hby at_55) (fun _ _ => ⟨rfl, e6, (by decide : 1 + 0 ≤ _), (by decide : 2 + 0 ≤ _)⟩)
  dsimp only [Pt.U, Pt.locs, Pt.cells, Pt.slots] at X7 l7 y7 z7 st7 hQ7
  subst l7 y7 z7
  obtain ⟨rfl, Nq7, e7⟩ := hQ7
  have N7 := Fr.app N6 Nq7
  refine go st7 ?_
  show Goes p.tables e below _ (T7.setTop (mkF m 58 #[.val (.long q0), .second, .val (.long q1), .second, .val (.long q2), .second, .val (.int p3), .val (.long (own_min q0 q1)), .second, .val (.long (own_max q0 q1)), .second, .val (.long (own_pick p3 q2 (own_min q0 q1) (own_max q0 q1))), .second, .val (.ref b4), .val (.int (own_in (own_pick p3 q2 (own_min q0 q1) (own_max q0 q1)) (own_min q0 q1) (own_max q0 q1))), .unset] [(.long (own_min (own_max q0 q1) (own_pick p3 q2 (own_min q0 q1) (own_max q0 q1)))), (.long (own_min q0 q1))]))
  obtain ⟨_, _, ⟨T8, L8, k8, n8⟩, -, X8, ⟨Lc8, hQ8, l8, y8, z8⟩, st8⟩ := Jvm.LawKit.callS X7 hx (y := (⟨"java/lang/Math", "max", "(JJ)J"⟩ : MethodName)) hown (mvT hZ (hw _ (List.mem_of_getElem? (i := 4) rfl))) (mvT hZ (hw _ (List.mem_of_getElem? (i := 5) rfl))) (mvT hZ (hw _ (List.mem_of_getElem? (i := 2) rfl))) (mvT hZ (hw _ (List.mem_of_getElem? (i := 6) rfl))) (by decide) (backOf (W := 0) (rm2 l Z a0 hw [] (own_min q0 q1) (own_min (own_max q0 q1) (own_pick p3 q2 (own_min q0 q1) (own_max q0 q1))) T5.heap n0 Zz5 ) hZ (hw _ (List.mem_of_getElem? (i := 6) rfl)) (hw _ (List.mem_of_getElem? (i := 2) rfl)) (by decide) (by decide)) (g := (mkF m 58 #[.val (.long q0), .second, .val (.long q1), .second, .val (.long q2), .second, .val (.int p3), .val (.long (own_min q0 q1)), .second, .val (.long (own_max q0 q1)), .second, .val (.long (own_pick p3 q2 (own_min q0 q1) (own_max q0 q1))), .second, .val (.ref b4), .val (.int (own_in (own_pick p3 q2 (own_min q0 q1) (own_max q0 q1)) (own_min q0 q1) (own_max q0 q1))), .unset] [(.long (own_min (own_max q0 q1) (own_pick p3 q2 (own_min q0 q1) (own_max q0 q1)))), (.long (own_min q0 q1))])) rfl (by rw [hml]; rfl) (argsL := [(.long (own_min q0 q1)), (.long (own_min (own_max q0 q1) (own_pick p3 q2 (own_min q0 q1) (own_max q0 q1))))]) (rest := []) (lenOf pd_1 rfl) rfl (by show 2 * 0 + _ ≤ _; exact Nat.le_of_eq rfl) (hb hby at_58) (fun _ _ => ⟨rfl, e7, (by decide : 1 + 0 ≤ _), (by decide : 2 + 0 ≤ _)⟩)
  dsimp only [Pt.U, Pt.locs, Pt.cells, Pt.slots] at X8 l8 y8 z8 st8 hQ8
  subst l8 y8 z8
  obtain ⟨rfl, Nq8, e8⟩ := hQ8
  have N8 := Fr.app N7 Nq8
  refine go st8 ?_
  show Goes p.tables e below _ (T8.setTop (mkF m 61 #[.val (.long q0), .second, .val (.long q1), .second, .val (.long q2), .second, .val (.int p3), .val (.long (own_min q0 q1)), .second, .val (.long (own_max q0 q1)), .second, .val (.long (own_pick p3 q2 (own_min q0 q1) (own_max q0 q1))), .second, .val (.ref b4), .val (.int (own_in (own_pick p3 q2 (own_min q0 q1) (own_max q0 q1)) (own_min q0 q1) (own_max q0 q1))), .unset] [(.long (own_max (own_min q0 q1) (own_min (own_max q0 q1) (own_pick p3 q2 (own_min q0 q1) (own_max q0 q1)))))]))
  refine go (fun t kt => XS.lload X8.here hx rfl (hb hby at_61) rfl kt) ?_
  show Goes p.tables e below _ (T8.setTop (mkF m 63 #[.val (.long q0), .second, .val (.long q1), .second, .val (.long q2), .second, .val (.int p3), .val (.long (own_min q0 q1)), .second, .val (.long (own_max q0 q1)), .second, .val (.long (own_pick p3 q2 (own_min q0 q1) (own_max q0 q1))), .second, .val (.ref b4), .val (.int (own_in (own_pick p3 q2 (own_min q0 q1) (own_max q0 q1)) (own_min q0 q1) (own_max q0 q1))), .unset] [(.long (own_pick p3 q2 (own_min q0 q1) (own_max q0 q1))), (.long (own_max (own_min q0 q1) (own_min (own_max q0 q1) (own_pick p3 q2 (own_min q0 q1) (own_max q0 q1)))))]))
  refine go (fun t kt => XS.lcmp X8.here hx rfl (hb hby at_63) rfl kt) ?_
  show Goes p.tables e below _ (T8.setTop (mkF m 64 #[.val (.long q0), .second, .val (.long q1), .second, .val (.long q2), .second, .val (.int p3), .val (.long (own_min q0 q1)), .second, .val (.long (own_max q0 q1)), .second, .val (.long (own_pick p3 q2 (own_min q0 q1) (own_max q0 q1))), .second, .val (.ref b4), .val (.int (own_in (own_pick p3 q2 (own_min q0 q1) (own_max q0 q1)) (own_min q0 q1) (own_max q0 q1))), .unset] [(.int (lcmpW (own_max (own_min q0 q1) (own_min (own_max q0 q1) (own_pick p3 q2 (own_min q0 q1) (own_max q0 q1)))) (own_pick p3 q2 (own_min q0 q1) (own_max q0 q1))))]))
  by_cases hc9 : (own_max (own_min q0 q1) (own_min (own_max q0 q1) (own_pick p3 q2 (own_min q0 q1) (own_max q0 q1)))) = (own_pick p3 q2 (own_min q0 q1) (own_max q0 q1))
  ·
    refine go (fun t kt => XS.ifNo X8.here hx rfl (hb hby at_64) rfl ((if0 _ _).trans (teq ((lw_eq (own_max (own_min q0 q1) (own_min (own_max q0 q1) (own_pick p3 q2 (own_min q0 q1) (own_max q0 q1)))) (own_pick p3 q2 (own_min q0 q1) (own_max q0 q1))).mpr hc9)).2) kt) ?_
    show Goes p.tables e below _ (T8.setTop (mkF m 67 #[.val (.long q0), .second, .val (.long q1), .second, .val (.long q2), .second, .val (.int p3), .val (.long (own_min q0 q1)), .second, .val (.long (own_max q0 q1)), .second, .val (.long (own_pick p3 q2 (own_min q0 q1) (own_max q0 q1))), .second, .val (.ref b4), .val (.int (own_in (own_pick p3 q2 (own_min q0 q1) (own_max q0 q1)) (own_min q0 q1) (own_max q0 q1))), .unset] []))
    refine go (fun t kt => XS.iconst X8.here hx rfl (hb hby at_67) kt) ?_
    show Goes p.tables e below _ (T8.setTop (mkF m 68 #[.val (.long q0), .second, .val (.long q1), .second, .val (.long q2), .second, .val (.int p3), .val (.long (own_min q0 q1)), .second, .val (.long (own_max q0 q1)), .second, .val (.long (own_pick p3 q2 (own_min q0 q1) (own_max q0 q1))), .second, .val (.ref b4), .val (.int (own_in (own_pick p3 q2 (own_min q0 q1) (own_max q0 q1)) (own_min q0 q1) (own_max q0 q1))), .unset] [(.int (1 : Int32))]))
    refine go (fun t kt => XS.goto X8.here hx rfl (pc0 := 68) (pc' := 72) rfl (hb hby at_68) (by decide) (by decide) kt) ?_
    show Goes p.tables e below _ (T8.setTop (mkF m 72 #[.val (.long q0), .second, .val (.long q1), .second, .val (.long q2), .second, .val (.int p3), .val (.long (own_min q0 q1)), .second, .val (.long (own_max q0 q1)), .second, .val (.long (own_pick p3 q2 (own_min q0 q1) (own_max q0 q1))), .second, .val (.ref b4), .val (.int (own_in (own_pick p3 q2 (own_min q0 q1) (own_max q0 q1)) (own_min q0 q1) (own_max q0 q1))), .unset] [(.int (1 : Int32))]))
    refine go (fun t kt => XS.istore X8.here hx rfl (hb hby at_72) rfl (l' := #[.val (.long q0), .second, .val (.long q1), .second, .val (.long q2), .second, .val (.int p3), .val (.long (own_min q0 q1)), .second, .val (.long (own_max q0 q1)), .second, .val (.long (own_pick p3 q2 (own_min q0 q1) (own_max q0 q1))), .second, .val (.ref b4), .val (.int (own_in (own_pick p3 q2 (own_min q0 q1) (own_max q0 q1)) (own_min q0 q1) (own_max q0 q1))), .val (.int (1 : Int32))]) rfl kt) ?_
    show Goes p.tables e below _ (T8.setTop (mkF m 74 #[.val (.long q0), .second, .val (.long q1), .second, .val (.long q2), .second, .val (.int p3), .val (.long (own_min q0 q1)), .second, .val (.long (own_max q0 q1)), .second, .val (.long (own_pick p3 q2 (own_min q0 q1) (own_max q0 q1))), .second, .val (.ref b4), .val (.int (own_in (own_pick p3 q2 (own_min q0 q1) (own_max q0 q1)) (own_min q0 q1) (own_max q0 q1))), .val (.int (1 : Int32))] []))
    refine go (fun t kt => XS.iload X8.here hx rfl (hb hby at_74) rfl kt) ?_
    show Goes p.tables e below _ (T8.setTop (mkF m 76 #[.val (.long q0), .second, .val (.long q1), .second, .val (.long q2), .second, .val (.int p3), .val (.long (own_min q0 q1)), .second, .val (.long (own_max q0 q1)), .second, .val (.long (own_pick p3 q2 (own_min q0 q1) (own_max q0 q1))), .second, .val (.ref b4), .val (.int (own_in (own_pick p3 q2 (own_min q0 q1) (own_max q0 q1)) (own_min q0 q1) (own_max q0 q1))), .val (.int (1 : Int32))] [(.int (own_in (own_pick p3 q2 (own_min q0 q1) (own_max q0 q1)) (own_min q0 q1) (own_max q0 q1)))]))
    refine go (fun t kt => XS.iload X8.here hx rfl (hb hby at_76) rfl kt) ?_
    show Goes p.tables e below _ (T8.setTop (mkF m 78 #[.val (.long q0), .second, .val (.long q1), .second, .val (.long q2), .second, .val (.int p3), .val (.long (own_min q0 q1)), .second, .val (.long (own_max q0 q1)), .second, .val (.long (own_pick p3 q2 (own_min q0 q1) (own_max q0 q1))), .second, .val (.ref b4), .val (.int (own_in (own_pick p3 q2 (own_min q0 q1) (own_max q0 q1)) (own_min q0 q1) (own_max q0 q1))), .val (.int (1 : Int32))] [(.int (1 : Int32)), (.int (own_in (own_pick p3 q2 (own_min q0 q1) (own_max q0 q1)) (own_min q0 q1) (own_max q0 q1)))]))
    refine go (fun t kt => XS.icmpNo X8.here hx rfl (hb hby at_78) rfl (teq (own_yes _ _ _ hc9 (own_le q0 q1))).2 kt) ?_
    show Goes p.tables e below _ (T8.setTop (mkF m 81 #[.val (.long q0), .second, .val (.long q1), .second, .val (.long q2), .second, .val (.int p3), .val (.long (own_min q0 q1)), .second, .val (.long (own_max q0 q1)), .second, .val (.long (own_pick p3 q2 (own_min q0 q1) (own_max q0 q1))), .second, .val (.ref b4), .val (.int (own_in (own_pick p3 q2 (own_min q0 q1) (own_max q0 q1)) (own_min q0 q1) (own_max q0 q1))), .val (.int (1 : Int32))] []))
    refine go (fun t kt => XS.iconst X8.here hx rfl (hb hby at_81) kt) ?_
    show Goes p.tables e below _ (T8.setTop (mkF m 82 #[.val (.long q0), .second, .val (.long q1), .second, .val (.long q2), .second, .val (.int p3), .val (.long (own_min q0 q1)), .second, .val (.long (own_max q0 q1)), .second, .val (.long (own_pick p3 q2 (own_min q0 q1) (own_max q0 q1))), .second, .val (.ref b4), .val (.int (own_in (own_pick p3 q2 (own_min q0 q1) (own_max q0 q1)) (own_min q0 q1) (own_max q0 q1))), .val (.int (1 : Int32))] [(.int (1 : Int32))]))
    refine go (fun t kt => XS.goto X8.here hx rfl (pc0 := 82) (pc' := 86) rfl (hb hby at_82) (by decide) (by decide) kt) ?_
    show Goes p.tables e below _ (T8.setTop (mkF m 86 #[.val (.long q0), .second, .val (.long q1), .second, .val (.long q2), .second, .val (.int p3), .val (.long (own_min q0 q1)), .second, .val (.long (own_max q0 q1)), .second, .val (.long (own_pick p3 q2 (own_min q0 q1) (own_max q0 q1))), .second, .val (.ref b4), .val (.int (own_in (own_pick p3 q2 (own_min q0 q1) (own_max q0 q1)) (own_min q0 q1) (own_max q0 q1))), .val (.int (1 : Int32))] [(.int (1 : Int32))]))
    obtain ⟨fs, hr, hrun, hended, hW, hsame⟩ := X8.leave (v := some (.int (1 : Int32))) (fun h => by rw [Bd.returns] at h; cases h)
    refine ⟨_, _, retN X8 hx (t := .boolean) Bd.returns (by simp) (hb hby at_86) hr, hrun, hended, _, _, rfl, ?_, ⟨_, rfl⟩, hW, hsame.mono (by decide) (by decide)⟩
    show Q0 Z q0 q1 q2 p3 h0 n0 _ T8.heap _
    rw [e8]
    exact ⟨rfl, N8⟩
  ·
    refine go (fun t kt => XS.ifYes X8.here hx rfl (pc0 := 64) (pc' := 71) rfl (hb hby at_64) rfl ((if0 _ _).trans (feq (fun q => hc9 ((lw_eq (own_max (own_min q0 q1) (own_min (own_max q0 q1) (own_pick p3 q2 (own_min q0 q1) (own_max q0 q1)))) (own_pick p3 q2 (own_min q0 q1) (own_max q0 q1))).mp q))).2) (by decide) (by decide) kt) ?_
    show Goes p.tables e below _ (T8.setTop (mkF m 71 #[.val (.long q0), .second, .val (.long q1), .second, .val (.long q2), .second, .val (.int p3), .val (.long (own_min q0 q1)), .second, .val (.long (own_max q0 q1)), .second, .val (.long (own_pick p3 q2 (own_min q0 q1) (own_max q0 q1))), .second, .val (.ref b4), .val (.int (own_in (own_pick p3 q2 (own_min q0 q1) (own_max q0 q1)) (own_min q0 q1) (own_max q0 q1))), .unset] []))
    refine go (fun t kt => XS.iconst X8.here hx rfl (hb hby at_71) kt) ?_
    show Goes p.tables e below _ (T8.setTop (mkF m 72 #[.val (.long q0), .second, .val (.long q1), .second, .val (.long q2), .second, .val (.int p3), .val (.long (own_min q0 q1)), .second, .val (.long (own_max q0 q1)), .second, .val (.long (own_pick p3 q2 (own_min q0 q1) (own_max q0 q1))), .second, .val (.ref b4), .val (.int (own_in (own_pick p3 q2 (own_min q0 q1) (own_max q0 q1)) (own_min q0 q1) (own_max q0 q1))), .unset] [(.int (0 : Int32))]))
    refine go (fun t kt => XS.istore X8.here hx rfl (hb hby at_72) rfl (l' := #[.val (.long q0), .second, .val (.long q1), .second, .val (.long q2), .second, .val (.int p3), .val (.long (own_min q0 q1)), .second, .val (.long (own_max q0 q1)), .second, .val (.long (own_pick p3 q2 (own_min q0 q1) (own_max q0 q1))), .second, .val (.ref b4), .val (.int (own_in (own_pick p3 q2 (own_min q0 q1) (own_max q0 q1)) (own_min q0 q1) (own_max q0 q1))), .val (.int (0 : Int32))]) rfl kt) ?_
    show Goes p.tables e below _ (T8.setTop (mkF m 74 #[.val (.long q0), .second, .val (.long q1), .second, .val (.long q2), .second, .val (.int p3), .val (.long (own_min q0 q1)), .second, .val (.long (own_max q0 q1)), .second, .val (.long (own_pick p3 q2 (own_min q0 q1) (own_max q0 q1))), .second, .val (.ref b4), .val (.int (own_in (own_pick p3 q2 (own_min q0 q1) (own_max q0 q1)) (own_min q0 q1) (own_max q0 q1))), .val (.int (0 : Int32))] []))
    refine go (fun t kt => XS.iload X8.here hx rfl (hb hby at_74) rfl kt) ?_
    show Goes p.tables e below _ (T8.setTop (mkF m 76 #[.val (.long q0), .second, .val (.long q1), .second, .val (.long q2), .second, .val (.int p3), .val (.long (own_min q0 q1)), .second, .val (.long (own_max q0 q1)), .second, .val (.long (own_pick p3 q2 (own_min q0 q1) (own_max q0 q1))), .second, .val (.ref b4), .val (.int (own_in (own_pick p3 q2 (own_min q0 q1) (own_max q0 q1)) (own_min q0 q1) (own_max q0 q1))), .val (.int (0 : Int32))] [(.int (own_in (own_pick p3 q2 (own_min q0 q1) (own_max q0 q1)) (own_min q0 q1) (own_max q0 q1)))]))
    refine go (fun t kt => XS.iload X8.here hx rfl (hb hby at_76) rfl kt) ?_
    show Goes p.tables e below _ (T8.setTop (mkF m 78 #[.val (.long q0), .second, .val (.long q1), .second, .val (.long q2), .second, .val (.int p3), .val (.long (own_min q0 q1)), .second, .val (.long (own_max q0 q1)), .second, .val (.long (own_pick p3 q2 (own_min q0 q1) (own_max q0 q1))), .second, .val (.ref b4), .val (.int (own_in (own_pick p3 q2 (own_min q0 q1) (own_max q0 q1)) (own_min q0 q1) (own_max q0 q1))), .val (.int (0 : Int32))] [(.int (0 : Int32)), (.int (own_in (own_pick p3 q2 (own_min q0 q1) (own_max q0 q1)) (own_min q0 q1) (own_max q0 q1)))]))
    refine go (fun t kt => XS.icmpNo X8.here hx rfl (hb hby at_78) rfl (teq (own_no _ _ _ hc9 (own_le q0 q1))).2 kt) ?_
    show Goes p.tables e below _ (T8.setTop (mkF m 81 #[.val (.long q0), .second, .val (.long q1), .second, .val (.long q2), .second, .val (.int p3), .val (.long (own_min q0 q1)), .second, .val (.long (own_max q0 q1)), .second, .val (.long (own_pick p3 q2 (own_min q0 q1) (own_max q0 q1))), .second, .val (.ref b4), .val (.int (own_in (own_pick p3 q2 (own_min q0 q1) (own_max q0 q1)) (own_min q0 q1) (own_max q0 q1))), .val (.int (0 : Int32))] []))
    refine go (fun t kt => XS.iconst X8.here hx rfl (hb hby at_81) kt) ?_
    show Goes p.tables e below _ (T8.setTop (mkF m 82 #[.val (.long q0), .second, .val (.long q1), .second, .val (.long q2), .second, .val (.int p3), .val (.long (own_min q0 q1)), .second, .val (.long (own_max q0 q1)), .second, .val (.long (own_pick p3 q2 (own_min q0 q1) (own_max q0 q1))), .second, .val (.ref b4), .val (.int (own_in (own_pick p3 q2 (own_min q0 q1) (own_max q0 q1)) (own_min q0 q1) (own_max q0 q1))), .val (.int (0 : Int32))] [(.int (1 : Int32))]))
    refine go (fun t kt => XS.goto X8.here hx rfl (pc0 := 82) (pc' := 86) rfl (hb hby at_82) (by decide) (by decide) kt) ?_
    show Goes p.tables e below _ (T8.setTop (mkF m 86 #[.val (.long q0), .second, .val (.long q1), .second, .val (.long q2), .second, .val (.int p3), .val (.long (own_min q0 q1)), .second, .val (.long (own_max q0 q1)), .second, .val (.long (own_pick p3 q2 (own_min q0 q1) (own_max q0 q1))), .second, .val (.ref b4), .val (.int (own_in (own_pick p3 q2 (own_min q0 q1) (own_max q0 q1)) (own_min q0 q1) (own_max q0 q1))), .val (.int (0 : Int32))] [(.int (1 : Int32))]))
    obtain ⟨fs, hr, hrun, hended, hW, hsame⟩ := X8.leave (v := some (.int (1 : Int32))) (fun h => by rw [Bd.returns] at h; cases h)
    refine ⟨_, _, retN X8 hx (t := .boolean) Bd.returns (by simp) (hb hby at_86) hr, hrun, hended, _, _, rfl, ?_, ⟨_, rfl⟩, hW, hsame.mono (by decide) (by decide)⟩
    show Q0 Z q0 q1 q2 p3 h0 n0 _ T8.heap _
    rw [e8]
    exact ⟨rfl, N8⟩
set_option maxRecDepth 65536 in
set_option maxHeartbeats 40000000 in
theorem comes_1 {Post : Tables → Env → Array Value → State → Outcome → State → Prop} (hpost : ∀ tb e args s v u, (limb_1_1.after args s (.returned v) u = true ∧ limb_1_2.after args s (.returned v) u = true ∧ True) → FrameEnd s (.returned v) u (Jvm.fieldLocs frame_1_writes args s ++ Jvm.arrayLocs frame_1_arrays args s ++ Jvm.staticLocs frame_1_statics s) 16 128 → Post tb e args s (.returned v) u) :
    ArmFor flags0 classFile x code maxLocals ret World_1 tables_1 room_1 Calls_1 rest_1 Pre_1 Post := by
  intro l hfl _ _ p e ha hc hk s m args below hf hA hF happ hP
  obtain ⟨hcalls, hrest, hpre⟩ := hP
  obtain ⟨-, -, -, hnamed, -, -, -, hat⟩ := (Spec.applies_iff hf).mp happ
  obtain ⟨hg, hn⟩ := and_e (Cond.before_iff.mp (show (Jvm.Cond.and given_1 narrow_1).before args s = true from hpre))
  obtain ⟨u1, u2⟩ := and_e hg
  obtain ⟨u3, u4⟩ := and_e u2
  obtain ⟨u5, u6⟩ := and_e u4
  obtain ⟨u7, u8⟩ := and_e u6
  obtain ⟨w0, w1, w2, w3, rfl⟩ : ∃ w0 w1 w2 w3 : Value, args = #[w0, w1, w2, w3] := by
    have hs : args.size = 4 := by simpa [Cond.value, given_1] using u1
    obtain ⟨L⟩ := args
    match L, hs with
    | [w0, w1, w2, w3], _ => exact ⟨w0, w1, w2, w3, rfl⟩
  have hw := fun d (hd : d ∈ tables_1) => atoms_spec (ws := Jvm.Cond.code x code maxLocals ret :: tables_1) hat d (List.mem_cons_of_mem _ hd)
  obtain ⟨i0, ei0⟩ := isL_v u3
  obtain rfl : w0 = (.long i0) := Option.some.inj ei0
  obtain ⟨i1, ei1⟩ := isL_v u5
  obtain rfl : w1 = (.long i1) := Option.some.inj ei1
  obtain ⟨i2, ei2⟩ := isL_v u7
  obtain rfl : w2 = (.long i2) := Option.some.inj ei2
  obtain ⟨i3, ei3⟩ := is_v u8
  obtain rfl : w3 = (.int i3) := Option.some.inj ei3
  obtain ⟨n, o, h1, h2, h3, _, L, rfl, ⟨rfl, N⟩, hq⟩ := rm0 l s _ hw tables_1 i0 i1 i2 i3  s.heap s.heap.size (Nat.le_refl _)  p e ha hc hk s m _ below hf ((Spec.applies_iff_loose hf).mp happ).1 ⟨rfl, State.Warmed39.refl s, rfl⟩ trivial
  refine ⟨n, _, h1, h2, h3, hpost _ _ _ _ _ _ ⟨Cond.after_iff.mpr rfl, Cond.after_iff.mpr (eq_i res_at (Term.int_eval (1)) rfl), trivial⟩ ⟨hq.1, hq.2.1, (hq.2.2.sift fun y hy => Or.inr (N y hy)).mono (by decide) (by decide)⟩⟩
theorem main_1_1 : Claimed_1_1 := comes_1 fun _ _ _ _ _ _ h hF => ⟨h.1, hF⟩
theorem main_1_2 : Claimed_1_2 := comes_1 fun _ _ _ _ _ _ h hF => ⟨h.2.1, hF⟩
end Jvm.Pilot.@@N@@
namespace Jvm.Pilot.@@N@@
open Jvm Jvm.ClassFile Sem Op Lib Jvm.Free Jvm.Stand Jvm.Pilot.@@N@@.Jvm.D
/-! MADE BY PROGRAM (witnessworld.py) out of the Statement's table words and the real class files: 11 classes; the members and pool entries that the words name. The judged class is class 1, her method 2. -/
namespace start1
open Jvm.ClassFile
def u (s : String) : CpInfo := .utf8 (stringToUtf16 s)
/-- a pool by its gaps: so many unusable entries, then the entry; so many at the end -/
def gap : Nat → List CpInfo → List CpInfo
  | 0, r => r
  | n + 1, r => .unusable :: gap n r
def poolList (es : List (Nat × CpInfo)) (last : Nat) : List CpInfo := es.foldr (fun e r => gap e.1 (e.2 :: r)) (gap last [])
def pool (es : List (Nat × CpInfo)) (last : Nat) : Array CpInfo := ⟨poolList es last⟩
def fileOf (pool : Array CpInfo) (this : Nat) (attrs : Array Attribute := #[]) (ms : Array MethodInfo := #[]) (fl : Nat := 33) (sup : Nat := 0) (ifs : Array Nat := #[]) (fds : Array FieldInfo := #[]) : ClassFile where
  minorVersion := 0
  majorVersion := 65
  constantPool := pool
  accessFlags := fl
  thisClass := this
  superClass := sup
  interfaces := ifs
  fields := fds
  methods := ms
  attributes := attrs
def plain (name : String) (sup : Option ClassId) : Class where
  name := name
  kind := .ordinary
  loader := none
  accessFlags := 33
  super := sup
  interfaces := #[]
  cf := none
  fields := #[]
  methods := #[]
  instanceTypes := #[]
  staticTypes := #[]
  resolved := #[]
  callSites := []
  init := .initialized
  statics := none
  mirror := none

def pool0 : Array CpInfo := pool [(5, u "<init>"), (0, u "()V"), (1, .class_ 10), (1, u "java/lang/Object")] 113

def k0c0 : Code := { maxStack := 0, maxLocals := 1, code := object_method_1_code, exceptionTable := #[], attributes := #[] }
def k0m0 : Method := { name := "<init>", desc := "()V", sig := { parameters := [], returnType := none }, accessFlags := 1, code := some k0c0 }
/-- java/lang/Object -/
def k0 : Class := { plain "java/lang/Object" none with
  accessFlags := 33
  interfaces := #[]
  cf := some (fileOf pool0 8 #[] #[{ accessFlags := 1, nameIndex := 5, descriptorIndex := 6, attributes := #[] }] 33 0 #[] #[])
  fields := #[]
  methods := #[k0m0]
  instanceTypes := #[]
  staticTypes := #[]
  resolved := Array.replicate 124 none
  statics := none }

def pool1 : Array CpInfo := pool [(2, .class_ 4), (1, u "java/lang/Object"), (0, u "<init>"), (0, u "()V"), (0, .methodref 8 9), (0, .class_ 10), (0, .nameAndType 11 12), (0, u "java/lang/Math"), (0, u "min"), (0, u "(JJ)J"), (0, .methodref 8 14), (0, .nameAndType 15 12), (0, u "max"), (0, .methodref 17 18), (0, .class_ 19), (0, .nameAndType 20 21), (0, u "com/example/triplewright/triplewright/cli/WholeNumbersContainsPinLaw"), (0, u "pick"), (0, u "(IJJJ)J"), (0, .class_ 23), (0, u "com/example/triplewright/triplewright/cli/WholeNumbers"), (0, .methodref 22 25), (0, .nameAndType 5 26), (0, u "(JJ)V"), (0, .methodref 22 28), (0, .nameAndType 29 30), (0, u "contains"), (0, u "(J)Z"), (3, u "law"), (0, u "(JJJI)Z")] 2

def k1m0 : Method := { name := "<init>", desc := "()V", sig := { parameters := [], returnType := none }, accessFlags := 1, code := none }
def k1c1 : Code := { maxStack := 4, maxLocals := 8, code := method_2_code, exceptionTable := #[], attributes := #[] }
def k1m1 : Method := { name := "pick", desc := "(IJJJ)J", sig := { parameters := [.int, .long, .long, .long], returnType := some .long }, accessFlags := 10, code := some k1c1 }
def k1c2 : Code := { maxStack := 7, maxLocals := 16, code := code, exceptionTable := #[], attributes := #[] }
def k1m2 : Method := { name := "law", desc := "(JJJI)Z", sig := { parameters := [.long, .long, .long, .int], returnType := some .boolean }, accessFlags := 9, code := some k1c2 }
/-- com/example/triplewright/triplewright/cli/WholeNumbersContainsPinLaw -/
def k1 : Class := { plain "com/example/triplewright/triplewright/cli/WholeNumbersContainsPinLaw" (some 0) with
  accessFlags := 49
  interfaces := #[]
  cf := some (fileOf pool1 17 #[] #[{ accessFlags := 1, nameIndex := 5, descriptorIndex := 6, attributes := #[] }, { accessFlags := 10, nameIndex := 20, descriptorIndex := 21, attributes := #[] }, { accessFlags := 9, nameIndex := 34, descriptorIndex := 35, attributes := #[] }] 49 2 #[] #[])
  fields := #[]
  methods := #[k1m0, k1m1, k1m2]
  instanceTypes := #[]
  staticTypes := #[]
  resolved := Array.replicate 38 none
  statics := none }

def pool2 : Array CpInfo := pool [(1, .class_ 2), (0, u "java/lang/Math"), (1, .class_ 6), (1, u "java/lang/Object"), (0, u "<init>"), (0, u "()V"), (89, .class_ 100), (1, u "java/lang/Math$RandomNumberGeneratorHolder"), (20, u "(JJ)J"), (50, u "negativeZeroFloatBits"), (0, u "J"), (2, u "negativeZeroDoubleBits"), (21, u "max"), (2, u "min"), (43, u "$assertionsDisabled"), (0, u "Z"), (91, u "twoToTheDoubleScaleDown"), (0, u "D"), (4, u "twoToTheDoubleScaleUp"), (9, u "E"), (3, u "PI"), (2, u "TAU"), (2, u "DEGREES_TO_RADIANS"), (0, u "RADIANS_TO_DEGREES")] 94

def k2m0 : Method := { name := "<init>", desc := "()V", sig := { parameters := [], returnType := none }, accessFlags := 2, code := none }
def k2c1 : Code := { maxStack := 4, maxLocals := 4, code := jdk_29_method_66_code, exceptionTable := #[], attributes := #[] }
def k2m1 : Method := { name := "max", desc := "(JJ)J", sig := { parameters := [.long, .long], returnType := some .long }, accessFlags := 9, code := some k2c1 }
def k2c2 : Code := { maxStack := 4, maxLocals := 4, code := jdk_29_method_70_code, exceptionTable := #[], attributes := #[] }
def k2m2 : Method := { name := "min", desc := "(JJ)J", sig := { parameters := [.long, .long], returnType := some .long }, accessFlags := 9, code := some k2c2 }
/-- java/lang/Math -/
def k2 : Class := { plain "java/lang/Math" (some 0) with
  accessFlags := 49
  interfaces := #[]
  cf := some (fileOf pool2 1 #[.nestMembers #[98]] #[{ accessFlags := 2, nameIndex := 7, descriptorIndex := 8, attributes := #[] }, { accessFlags := 9, nameIndex := 198, descriptorIndex := 121, attributes := #[] }, { accessFlags := 9, nameIndex := 201, descriptorIndex := 121, attributes := #[] }] 49 4 #[] #[{ accessFlags := 25, nameIndex := 354, descriptorIndex := 339, attributes := #[] }, { accessFlags := 25, nameIndex := 358, descriptorIndex := 339, attributes := #[] }, { accessFlags := 25, nameIndex := 361, descriptorIndex := 339, attributes := #[] }, { accessFlags := 26, nameIndex := 364, descriptorIndex := 339, attributes := #[] }, { accessFlags := 26, nameIndex := 365, descriptorIndex := 339, attributes := #[] }, { accessFlags := 26, nameIndex := 172, descriptorIndex := 173, attributes := #[] }, { accessFlags := 26, nameIndex := 176, descriptorIndex := 173, attributes := #[] }, { accessFlags := 8, nameIndex := 344, descriptorIndex := 339, attributes := #[] }, { accessFlags := 8, nameIndex := 338, descriptorIndex := 339, attributes := #[] }, { accessFlags := 4120, nameIndex := 245, descriptorIndex := 246, attributes := #[] }])
  fields := #[{ name := "E", type := .double, accessFlags := 25, slot := 0, constantValue := 0 }, { name := "PI", type := .double, accessFlags := 25, slot := 1, constantValue := 0 }, { name := "TAU", type := .double, accessFlags := 25, slot := 2, constantValue := 0 }, { name := "DEGREES_TO_RADIANS", type := .double, accessFlags := 26, slot := 3, constantValue := 0 }, { name := "RADIANS_TO_DEGREES", type := .double, accessFlags := 26, slot := 4, constantValue := 0 }, { name := "negativeZeroFloatBits", type := .long, accessFlags := 26, slot := 5, constantValue := 0 }, { name := "negativeZeroDoubleBits", type := .long, accessFlags := 26, slot := 6, constantValue := 0 }, { name := "twoToTheDoubleScaleUp", type := .double, accessFlags := 8, slot := 7, constantValue := 0 }, { name := "twoToTheDoubleScaleDown", type := .double, accessFlags := 8, slot := 8, constantValue := 0 }, { name := "$assertionsDisabled", type := .boolean, accessFlags := 4120, slot := 9, constantValue := 0 }]
  methods := #[k2m0, k2m1, k2m2]
  instanceTypes := #[]
  staticTypes := #[.double, .double, .double, .double, .double, .long, .long, .double, .double, .boolean]
  resolved := Array.replicate 460 none
  statics := none }

def pool3 : Array CpInfo := pool [(1, .methodref 2 3), (0, .class_ 4), (0, .nameAndType 5 6), (0, u "java/lang/Object"), (0, u "<init>"), (0, u "()V"), (0, .class_ 8), (0, u "java/lang/Record")] 13

def k3c0 : Code := { maxStack := 1, maxLocals := 1, code := jdk_30_method_1_code, exceptionTable := #[], attributes := #[] }
def k3m0 : Method := { name := "<init>", desc := "()V", sig := { parameters := [], returnType := none }, accessFlags := 4, code := some k3c0 }
/-- java/lang/Record -/
def k3 : Class := { plain "java/lang/Record" (some 0) with
  accessFlags := 1057
  interfaces := #[]
  cf := some (fileOf pool3 7 #[] #[{ accessFlags := 4, nameIndex := 5, descriptorIndex := 6, attributes := #[] }] 1057 2 #[] #[])
  fields := #[]
  methods := #[k3m0]
  instanceTypes := #[]
  staticTypes := #[]
  resolved := Array.replicate 22 none
  statics := none }

def pool4 : Array CpInfo := pool [(1, .methodref 2 3), (0, .class_ 4), (0, .nameAndType 5 6), (0, u "java/lang/Record"), (0, u "<init>"), (0, u "()V"), (0, .fieldref 8 9), (0, .class_ 10), (0, .nameAndType 11 12), (0, u "com/example/triplewright/triplewright/cli/WholeNumbers"), (0, u "min"), (0, u "J"), (0, .fieldref 8 14), (0, .nameAndType 15 12), (0, u "max"), (16, u "(JJ)V"), (3, u "contains"), (0, u "(J)Z")] 35

def k4c0 : Code := { maxStack := 3, maxLocals := 5, code := prog_3_method_1_code, exceptionTable := #[], attributes := #[] }
def k4m0 : Method := { name := "<init>", desc := "(JJ)V", sig := { parameters := [.long, .long], returnType := none }, accessFlags := 0, code := some k4c0 }
def k4c1 : Code := { maxStack := 4, maxLocals := 3, code := prog_3_method_2_code, exceptionTable := #[], attributes := #[] }
def k4m1 : Method := { name := "contains", desc := "(J)Z", sig := { parameters := [.long], returnType := some .boolean }, accessFlags := 0, code := some k4c1 }
/-- com/example/triplewright/triplewright/cli/WholeNumbers -/
def k4 : Class := { plain "com/example/triplewright/triplewright/cli/WholeNumbers" (some 3) with
  accessFlags := 48
  interfaces := #[]
  cf := some (fileOf pool4 8 #[] #[{ accessFlags := 0, nameIndex := 5, descriptorIndex := 32, attributes := #[] }, { accessFlags := 0, nameIndex := 36, descriptorIndex := 37, attributes := #[] }] 48 2 #[] #[{ accessFlags := 18, nameIndex := 11, descriptorIndex := 12, attributes := #[] }, { accessFlags := 18, nameIndex := 15, descriptorIndex := 12, attributes := #[] }])
  fields := #[{ name := "min", type := .long, accessFlags := 18, slot := 0, constantValue := 0 }, { name := "max", type := .long, accessFlags := 18, slot := 1, constantValue := 0 }]
  methods := #[k4m0, k4m1]
  instanceTypes := #[.long, .long]
  staticTypes := #[]
  resolved := Array.replicate 73 none
  statics := none }

def pool5 : Array CpInfo := pool [(1, u "java/lang/Cloneable"), (0, .class_ 1), (0, u "java/lang/Object"), (0, .class_ 3)] 3

/-- java/lang/Cloneable -/
def k5 : Class := { plain "java/lang/Cloneable" (some 0) with
  accessFlags := 1537
  interfaces := #[]
  cf := some (fileOf pool5 2 #[] #[] 1537 4 #[] #[])
  fields := #[]
  methods := #[]
  instanceTypes := #[]
  staticTypes := #[]
  resolved := Array.replicate 8 none
  statics := none }

def pool6 : Array CpInfo := pool [(1, u "java/io/Serializable"), (0, .class_ 1), (0, u "java/lang/Object"), (0, .class_ 3)] 3

/-- java/io/Serializable -/
def k6 : Class := { plain "java/io/Serializable" (some 0) with
  accessFlags := 1537
  interfaces := #[]
  cf := some (fileOf pool6 2 #[] #[] 1537 4 #[] #[])
  fields := #[]
  methods := #[]
  instanceTypes := #[]
  staticTypes := #[]
  resolved := Array.replicate 8 none
  statics := none }

/-- the primitive byte -/
def k7 : Class := { plain "byte" none with kind := .primitive 'B', accessFlags := 0x411 }
/-- [B -/
def k8 : Class := { plain "[B" (some 0) with kind := .array 7 .byte, interfaces := #[5, 6], accessFlags := 1041 }

/-- the primitive int -/
def k9 : Class := { plain "int" none with kind := .primitive 'I', accessFlags := 0x411 }
/-- [I -/
def k10 : Class := { plain "[I" (some 0) with kind := .array 9 .int, interfaces := #[5, 6], accessFlags := 1041 }

def heap : Heap := #[]
def classes : Array Class := #[k0, k1, k2, k3, k4, k5, k6, k7, k8, k9, k10]
def interned : List (Array UInt16 × Addr) := []
def slotsUsed : Nat := 0
def theMethod : MethodId := ⟨1, 2⟩
def args0 : Array Value := #[.long 5, .long 7, .long 6, .int 1]
def aboutOver (below : List Frame) : State where
  vm := { classes := classes, interned := interned.toArray }
  heap := heap
  slotsUsed := slotsUsed
  threads := #[{ frames := .invoking theMethod args0 :: below }]
def below0 : List Frame := [.native { method := ⟨0, 0⟩, args := #[] }]
def about1 : State := aboutOver below0
def p0 : Program := .bare "" "" ""
def e0 : Env := launch0.env 0 0 0
theorem w_frames : about1.frames = Frame.invoking theMethod args0 :: below0 := rfl
set_option maxRecDepth 65536 in
theorem w_args : argsFit about1.vm theMethod args0 = true := by decide +kernel
set_option maxRecDepth 65536 in
theorem w_heap : heapFits about1 = true := by decide +kernel
set_option maxRecDepth 65536 in
theorem w_runnable : about1.curStatus? = some .runnable := by decide +kernel
set_option maxRecDepth 65536 in
theorem w_alone : about1.alone = true := by decide +kernel
set_option maxRecDepth 65536 in
theorem w_named : about1.methodNamed? x = some theMethod := by decide +kernel
set_option maxRecDepth 65536 in
theorem w_hears : about1.hears theMethod below0 = true := by decide +kernel
set_option maxRecDepth 65536 in
theorem w_ripe : about1.ripe theMethod args0 below0 = true := by decide +kernel
theorem w_running : about1.status = .running := rfl
set_option maxRecDepth 65536 in
theorem w_room : about1.hasRoom e0.platform room_1 = true :=
  launch0.hasRoom_least _ room_1 (by decide +kernel) (by decide +kernel) (by decide +kernel) (by decide +kernel) (by decide +kernel) (by decide +kernel)
theorem allAtoms_all (ts : List Jvm.Cond) (a : Array Jvm.Value) (st : Jvm.State) : (allAtoms ts).before a st = ts.all (fun c => c.before a st) := by
  induction ts with
  | nil => rfl
  | cons c t ih =>
    show (Jvm.Cond.and c (allAtoms t)).before a st = _
    rw [Jvm.Cond.before_and, ih, List.all_cons]
def words1 : List Jvm.Cond := Jvm.Cond.code x code maxLocals ret :: tables_1
/-- a 'code' word, met by the world's own term for the bytes: nothing is compared byte by byte -/
theorem code_word {y : MethodName} {bytes : ByteArray} {mx : Nat} {rt : Option FieldType} {a : Array Value} {s : State} {m : MethodId} {meth : Method} {c : Code} (h1 : s.methodNamed? y = some m) (h2 : s.vm.method? m = some meth) (h3 : meth.code = some c) (h4 : c.code = bytes)
    (h5 : (c.maxLocals == mx && c.exceptionTable.isEmpty && decide (c.maxStack ≤ mostOperands) && decide (meth.sig.returnType = rt) && !meth.locks && decide (parseMethodDescriptor y.desc = some meth.sig)) = true) : (Jvm.Cond.code y bytes mx rt).before a s = true := by
  simp only [Bool.and_eq_true, beq_iff_eq, Bool.not_eq_true', decide_eq_true_eq] at h5
  obtain ⟨⟨⟨⟨⟨g1, g2⟩, g3⟩, g4⟩, g5⟩, g6⟩ := h5
  simp [Cond.before, Cond.holds, Cond.value, h1, h2, h3, h4, g1, g2, g3, g4, g5, g6]
def isCode : Jvm.Cond → Bool
  | .code _ _ _ _ => true
  | _ => false
theorem all_split {L : List Jvm.Cond} {P : Jvm.Cond → Bool} (h1 : L.all (fun c => isCode c || P c) = true) (h2 : ∀ c ∈ L.filter isCode, P c = true) : L.all P = true := by
  refine List.all_eq_true.mpr fun c hc => ?_
  have h := List.all_eq_true.mp h1 c hc
  rcases Bool.eq_false_or_eq_true (isCode c) with hi | hi
  · exact h2 c (List.mem_filter.mpr ⟨hc, hi⟩)
  · simpa [hi] using h
set_option maxRecDepth 65536 in
theorem w_c0 : (Jvm.Cond.code x code maxLocals ret).before args0 about1 = true := code_word (m := ⟨1, 2⟩) (meth := k1m2) (c := k1c2) (by decide +kernel) rfl rfl rfl (by decide +kernel)
set_option maxRecDepth 65536 in
theorem w_c1 : (Jvm.Cond.code ({ cls := "java/lang/Math", name := "min", desc := "(JJ)J" } : Jvm.MethodName) jdk_29_method_70_code (4 : Nat) (Option.some Jvm.ClassFile.FieldType.long)).before args0 about1 = true := code_word (m := ⟨2, 2⟩) (meth := k2m2) (c := k2c2) (by decide +kernel) rfl rfl rfl (by decide +kernel)
set_option maxRecDepth 65536 in
theorem w_c2 : (Jvm.Cond.code ({ cls := "java/lang/Math", name := "max", desc := "(JJ)J" } : Jvm.MethodName) jdk_29_method_66_code (4 : Nat) (Option.some Jvm.ClassFile.FieldType.long)).before args0 about1 = true := code_word (m := ⟨2, 1⟩) (meth := k2m1) (c := k2c1) (by decide +kernel) rfl rfl rfl (by decide +kernel)
set_option maxRecDepth 65536 in
theorem w_c3 : (Jvm.Cond.code ({ cls := "com/example/triplewright/triplewright/cli/WholeNumbersContainsPinLaw", name := "pick", desc := "(IJJJ)J" } : Jvm.MethodName) method_2_code (8 : Nat) (Option.some Jvm.ClassFile.FieldType.long)).before args0 about1 = true := code_word (m := ⟨1, 1⟩) (meth := k1m1) (c := k1c1) (by decide +kernel) rfl rfl rfl (by decide +kernel)
set_option maxRecDepth 65536 in
theorem w_c4 : (Jvm.Cond.code ({ cls := "com/example/triplewright/triplewright/cli/WholeNumbers", name := "<init>", desc := "(JJ)V" } : Jvm.MethodName) prog_3_method_1_code (5 : Nat) (Option.none : Option Jvm.ClassFile.FieldType)).before args0 about1 = true := code_word (m := ⟨4, 0⟩) (meth := k4m0) (c := k4c0) (by decide +kernel) rfl rfl rfl (by decide +kernel)
set_option maxRecDepth 65536 in
theorem w_c5 : (Jvm.Cond.code ({ cls := "java/lang/Record", name := "<init>", desc := "()V" } : Jvm.MethodName) jdk_30_method_1_code (1 : Nat) (Option.none : Option Jvm.ClassFile.FieldType)).before args0 about1 = true := code_word (m := ⟨3, 0⟩) (meth := k3m0) (c := k3c0) (by decide +kernel) rfl rfl rfl (by decide +kernel)
set_option maxRecDepth 65536 in
theorem w_c6 : (Jvm.Cond.code ({ cls := "java/lang/Object", name := "<init>", desc := "()V" } : Jvm.MethodName) object_method_1_code (1 : Nat) (Option.none : Option Jvm.ClassFile.FieldType)).before args0 about1 = true := code_word (m := ⟨0, 0⟩) (meth := k0m0) (c := k0c0) (by decide +kernel) rfl rfl rfl (by decide +kernel)
set_option maxRecDepth 65536 in
theorem w_c7 : (Jvm.Cond.code ({ cls := "com/example/triplewright/triplewright/cli/WholeNumbers", name := "contains", desc := "(J)Z" } : Jvm.MethodName) prog_3_method_2_code (3 : Nat) (Option.some Jvm.ClassFile.FieldType.boolean)).before args0 about1 = true := code_word (m := ⟨4, 1⟩) (meth := k4m1) (c := k4c1) (by decide +kernel) rfl rfl rfl (by decide +kernel)
def codes1 : List Jvm.Cond := [Jvm.Cond.code x code maxLocals ret, Jvm.Cond.code ({ cls := "java/lang/Math", name := "min", desc := "(JJ)J" } : Jvm.MethodName) jdk_29_method_70_code (4 : Nat) (Option.some Jvm.ClassFile.FieldType.long), Jvm.Cond.code ({ cls := "java/lang/Math", name := "max", desc := "(JJ)J" } : Jvm.MethodName) jdk_29_method_66_code (4 : Nat) (Option.some Jvm.ClassFile.FieldType.long), Jvm.Cond.code ({ cls := "com/example/triplewright/triplewright/cli/WholeNumbersContainsPinLaw", name := "pick", desc := "(IJJJ)J" } : Jvm.MethodName) method_2_code (8 : Nat) (Option.some Jvm.ClassFile.FieldType.long), Jvm.Cond.code ({ cls := "com/example/triplewright/triplewright/cli/WholeNumbers", name := "<init>", desc := "(JJ)V" } : Jvm.MethodName) prog_3_method_1_code (5 : Nat) (Option.none : Option Jvm.ClassFile.FieldType), Jvm.Cond.code ({ cls := "java/lang/Record", name := "<init>", desc := "()V" } : Jvm.MethodName) jdk_30_method_1_code (1 : Nat) (Option.none : Option Jvm.ClassFile.FieldType), Jvm.Cond.code ({ cls := "java/lang/Object", name := "<init>", desc := "()V" } : Jvm.MethodName) object_method_1_code (1 : Nat) (Option.none : Option Jvm.ClassFile.FieldType), Jvm.Cond.code ({ cls := "com/example/triplewright/triplewright/cli/WholeNumbers", name := "contains", desc := "(J)Z" } : Jvm.MethodName) prog_3_method_2_code (3 : Nat) (Option.some Jvm.ClassFile.FieldType.boolean)]
set_option maxRecDepth 65536 in
theorem codes_eq : words1.filter isCode = codes1 := rfl
theorem w_codes : ∀ c ∈ words1.filter isCode, c.before args0 about1 = true := by
  rw [codes_eq]
  intro c hc
  simp only [codes1, List.mem_cons, List.not_mem_nil, or_false] at hc
  rcases hc with rfl | rfl | rfl | rfl | rfl | rfl | rfl | rfl
  · exact w_c0
  · exact w_c1
  · exact w_c2
  · exact w_c3
  · exact w_c4
  · exact w_c5
  · exact w_c6
  · exact w_c7
set_option maxRecDepth 65536 in
theorem w_t1 : (words1.take 24).all (fun c => isCode c || c.before args0 about1) = true := by decide +kernel
set_option maxRecDepth 65536 in
theorem w_t2 : (words1.drop 24).all (fun c => isCode c || c.before args0 about1) = true := by decide +kernel
theorem w_tables : (allAtoms (Jvm.Cond.code x code maxLocals ret :: tables_1)).before args0 about1 = true := by
  rw [allAtoms_all]
  show words1.all (fun c => c.before args0 about1) = true
  refine all_split ?_ w_codes
  rw [← List.take_append_drop 24 words1, List.all_append, w_t1, w_t2]
  rfl
set_option maxRecDepth 65536 in
theorem w_case : (Jvm.Cond.and given_1 narrow_1).before args0 about1 = true := by decide +kernel
theorem w_applies : (headSpec (Jvm.Cond.code x code maxLocals ret :: tables_1) room_1).applies x e0.platform about1 = true :=
  (Spec.applies_iff w_frames).mpr ⟨w_running, w_runnable, w_alone, w_named, w_hears, w_ripe, w_room, w_tables⟩
theorem atStart : AtStart classFile x code maxLocals ret World_1 tables_1 room_1 Calls_1 rest_1 Pre_1 launch0 p0 e0 about1 theMethod args0 below0 :=
  ⟨lists_1, trivial, launch0.admits_env _ _ _, launch0.least_env, fairChoices_fair.cas, fairChoices_fair.clock, w_frames, w_args, w_heap, w_applies, trivial, trivial, w_case⟩
end start1
theorem witness_1 : WitnessClaimed_1 := ⟨start1.p0, start1.e0, start1.about1, start1.theMethod, start1.args0, start1.below0, start1.atStart⟩
end Jvm.Pilot.@@N@@
