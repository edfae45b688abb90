import JvmDerived
import JvmDerived.Pilot.@@N@@Statement
import JvmDerived.Pilot.@@N@@Code
set_option linter.unusedVariables false
set_option linter.unusedSimpArgs false
@@BLOCK:NumsL.lean.txt@@
namespace Jvm.Pilot.@@N@@
open Jvm Jvm.ClassFile Sem Op Lib Jvm.Free Jvm.Stand Jvm.LawKit Jvm.RoadKit Bundle Jvm.Pilot.@@N@@.Jvm.D
def Goes (tb : Tables) (e : Env) (below : List Frame) (G : State → Outcome → Prop) (A : State) : Prop := ∃ s₂ o, Steps tb e below A s₂ ∧ s₂.status = .running ∧ Ended s₂ below o ∧ G s₂ o
theorem go {tb : Tables} {e : Env} {below : List Frame} {G : State → Outcome → Prop} {A B : State} (h : ∀ t, Steps tb e below B t → Steps tb e below A t) (k : Goes tb e below G B) : Goes tb e below G A := by
  obtain ⟨s₂, o, h1, h2⟩ := k; exact ⟨s₂, o, h _ h1, h2⟩
theorem goEnd {tb : Tables} {e : Env} {below : List Frame} {G : State → Outcome → Prop} {A B : State} (h : ∀ t, Steps tb e below B t → Steps tb e below A t) (k : Goes tb e below G B) : ∃ s₂ o, Steps tb e below A s₂ ∧ s₂.status = .running ∧ Ended s₂ below o ∧ G s₂ o := go h k
theorem own_sta_keep {Z : State} {h h' : Heap} {C n d K : String} {v : Value} {a : Addr} (S : Sta Z h C n d v) (E : Exa Z h a K) (Kp : Keep h h' [a]) : Sta Z h' C n d v := by
  obtain ⟨cf, i, k, f, st, cell, h1, h2, h3, h4, h5, h6, h7⟩ := S
  obtain ⟨c', k', e1, -, -, e4, -⟩ := E
  refine ⟨cf, i, k, f, st, cell, h1, h2, h3, h4, Kp.2.1 st cell h5 (fun q => ?_), h6, h7⟩
  have q' : st = a := by simpa using q
  subst q'
  cases h5.symm.trans e1
  rw [e4] at h6; cases h6
abbrev iv (x : Int32) : Slot := .val (.int x)
abbrev jv (x : Int64) : Slot := .val (.long x)
abbrev rv (x : Addr) : Slot := .val (.ref x)
abbrev Go (p : Program) (e : Env) (below : List Frame) (G : State → Outcome → Prop) (m : MethodId) (T : State) (pc : Nat) (L : Array Slot) (S : List Value) : Prop := Goes p.tables e below G (T.setTop (mkF m pc L S))
theorem d1_0 : decode prog_38_method_6_code 0 = .ok (.iload_n 0, 1) := by decide +kernel
theorem d1_1 : decode prog_38_method_6_code 1 = .ok (.bipush 32, 2) := by decide +kernel
theorem d1_3 : decode prog_38_method_6_code 3 = .ok (.if_icmp .eq 21, 3) := by decide +kernel
theorem d1_24 : decode prog_38_method_6_code 24 = .ok (.iconst 1, 1) := by decide +kernel
theorem d1_25 : decode prog_38_method_6_code 25 = .ok (.goto 4, 3) := by decide +kernel
theorem d1_29 : decode prog_38_method_6_code 29 = .ok (.ireturn, 1) := by decide +kernel
theorem d1_6 : decode prog_38_method_6_code 6 = .ok (.iload_n 0, 1) := by decide +kernel
theorem d1_7 : decode prog_38_method_6_code 7 = .ok (.bipush 9, 2) := by decide +kernel
theorem d1_9 : decode prog_38_method_6_code 9 = .ok (.if_icmp .eq 15, 3) := by decide +kernel
theorem d1_12 : decode prog_38_method_6_code 12 = .ok (.iload_n 0, 1) := by decide +kernel
theorem d1_13 : decode prog_38_method_6_code 13 = .ok (.bipush 13, 2) := by decide +kernel
theorem d1_15 : decode prog_38_method_6_code 15 = .ok (.if_icmp .eq 9, 3) := by decide +kernel
theorem d1_18 : decode prog_38_method_6_code 18 = .ok (.iload_n 0, 1) := by decide +kernel
theorem d1_19 : decode prog_38_method_6_code 19 = .ok (.bipush 10, 2) := by decide +kernel
theorem d1_21 : decode prog_38_method_6_code 21 = .ok (.if_icmp .ne 7, 3) := by decide +kernel
theorem d1_28 : decode prog_38_method_6_code 28 = .ok (.iconst 0, 1) := by decide +kernel
def own_sp (p0 : Int32) : Int32 := (if p0 = (32 : Int32) then (1 : Int32) else (if p0 = (9 : Int32) then (1 : Int32) else (if p0 = (13 : Int32) then (1 : Int32) else (if p0 = (10 : Int32) then (1 : Int32) else (0 : Int32)))))
theorem pn_1 : plainName "com/example/catasto/catasto/UrlElement" = true := by first | (simp [plainName, overriddenIn]; done) | decide +kernel
theorem ef_1 (m : MethodId) (p0 : Int32) : entryFrame m #[(.int p0)] 1 = mkF m 0 #[.val (.int p0)] [] := by first | (simp [entryFrame, mkF, argsToLocals, Value.category]; done) | rfl
def Q1 (Z : State) (p0 : Int32) (h0 : Heap) (n0 : Nat) (v : Option Value) (h : Heap) (L : List Loc) : Prop := v = some (.int (own_sp p0)) ∧ Fr n0 L ∧ h = h0
set_option maxRecDepth 65536 in
set_option maxHeartbeats 40000000 in
theorem rm1 (l : Launch) (Z : State) (a0 : Array Value) (hw : ∀ d ∈ tables_1, d.before a0 Z = true) (ws : List Jvm.Cond) (p0 : Int32) (h0 : Heap) (n0 : Nat) (Z0 : n0 ≤ h0.size)  :
    MetFree l (⟨"com/example/catasto/catasto/UrlElement", "isXmlSpace", "(C)Z"⟩ : MethodName) (head1 (Jvm.Cond.code (⟨"com/example/catasto/catasto/UrlElement", "isXmlSpace", "(C)Z"⟩ : MethodName) prog_38_method_6_code 1 (some .boolean) :: ws) ({ frames := 0, cells := 0, slots := 0, locals := 0 } : Room)) (fun a U => a = #[(.int p0)] ∧ Z.Warmed39 U.vm ∧ U.heap = h0) (fun _ _ _ _ _ => True) (fun _ U o U' => ∃ v L, o = .returned v ∧ Q1 Z p0 h0 n0 v U'.heap L ∧ FrameEnd U o U' L ({ frames := 0, cells := 0, slots := 0, locals := 0 } : Room).cells ({ frames := 0, cells := 0, slots := 0, locals := 0 } : Room).slots) := by
  refine MetFree.of_bodySF (plainFor_of_name pn_1) hisR ?_
  intro p e s m args below meth c s₁ Bd hml0 hP hK
  obtain ⟨rfl, hZ, hh⟩ := hP
  have hx := Bd.exec
  have hby := Bd.bytes
  have hml : c.maxLocals = 1 := hml0
  have hown : s.vm.findClass "com/example/catasto/catasto/UrlElement" = some m.cls := findClass_of_methodNamed Bd.named
  have hnm := (name_of_methodNamed Bd.named Bd.method).1
  have X0 : Stand p l e ({ frames := 0, cells := 0, slots := 0, locals := 0 } : Room) s m #[(.int p0)] below meth c s₁ [] 0 0 := Stand.of_body Bd
  have e0 : s₁.heap = h0 := by rw [← hh, Bd.state]; rfl
  have N0 := Fr.nil n0
  have K0 := Keep.refl h0 []
  suffices hgo : Goes p.tables e below (fun s₂ o => ∃ v L, o = .returned v ∧ Q1 Z p0 h0 n0 v s₂.heap L ∧ FrameEnd s o s₂ L ({ frames := 0, cells := 0, slots := 0, locals := 0 } : Room).cells ({ frames := 0, cells := 0, slots := 0, locals := 0 } : Room).slots) (s₁.setTop (mkF m 0 #[.val (.int p0)] [])) from goEnd (fun t k => castTop (ef_1 m p0) k) hgo
  refine go (fun t kt => XS.iloadN X0.here hx rfl (hb hby d1_0) rfl kt) ?_
  show Goes p.tables e below _ (s₁.setTop (mkF m 1 #[.val (.int p0)] [(.int p0)]))
  refine go (fun t kt => XS.bipush X0.here hx rfl (hb hby d1_1) kt) ?_
  show Goes p.tables e below _ (s₁.setTop (mkF m 3 #[.val (.int p0)] [(.int (32 : Int32)), (.int p0)]))
  by_cases hc1 : p0 = (32 : Int32)
  ·
    refine go (fun t kt => XS.icmpYes X0.here hx rfl (pc0 := 3) (pc' := 24) rfl (hb hby d1_3) rfl (teq hc1).1 (by decide) (by decide) kt) ?_
    show Goes p.tables e below _ (s₁.setTop (mkF m 24 #[.val (.int p0)] []))
    refine go (fun t kt => XS.iconst X0.here hx rfl (hb hby d1_24) kt) ?_
    show Goes p.tables e below _ (s₁.setTop (mkF m 25 #[.val (.int p0)] [(.int (1 : Int32))]))
    refine go (fun t kt => XS.goto X0.here hx rfl (pc0 := 25) (pc' := 29) rfl (hb hby d1_25) (by decide) (by decide) kt) ?_
    show Goes p.tables e below _ (s₁.setTop (mkF m 29 #[.val (.int p0)] [(.int (1 : Int32))]))
    obtain ⟨fs, hr, hrun, hended, hW, hsame⟩ := X0.leave (v := some (.int (1 : Int32))) (fun h => by rw [Bd.returns] at h; cases h)
    refine ⟨_, _, retN X0 hx (t := .boolean) Bd.returns (by simp) (hb hby d1_29) hr, hrun, hended, _, _, rfl, ?_, ⟨_, rfl⟩, hW, hsame.mono (by decide) (by decide)⟩
    show Q1 Z p0 h0 n0 _ s₁.heap _
    rw [e0]
    exact ⟨(by unfold own_sp; rw [if_pos hc1]), N0, rfl⟩
  ·
    refine go (fun t kt => XS.icmpNo X0.here hx rfl (hb hby d1_3) rfl (feq hc1).1 kt) ?_
    show Goes p.tables e below _ (s₁.setTop (mkF m 6 #[.val (.int p0)] []))
    refine go (fun t kt => XS.iloadN X0.here hx rfl (hb hby d1_6) rfl kt) ?_
    show Goes p.tables e below _ (s₁.setTop (mkF m 7 #[.val (.int p0)] [(.int p0)]))
    refine go (fun t kt => XS.bipush X0.here hx rfl (hb hby d1_7) kt) ?_
    show Goes p.tables e below _ (s₁.setTop (mkF m 9 #[.val (.int p0)] [(.int (9 : Int32)), (.int p0)]))
    by_cases hc3 : p0 = (9 : Int32)
    ·
      refine go (fun t kt => XS.icmpYes X0.here hx rfl (pc0 := 9) (pc' := 24) rfl (hb hby d1_9) rfl (teq hc3).1 (by decide) (by decide) kt) ?_
      show Goes p.tables e below _ (s₁.setTop (mkF m 24 #[.val (.int p0)] []))
      refine go (fun t kt => XS.iconst X0.here hx rfl (hb hby d1_24) kt) ?_
      show Goes p.tables e below _ (s₁.setTop (mkF m 25 #[.val (.int p0)] [(.int (1 : Int32))]))
      refine go (fun t kt => XS.goto X0.here hx rfl (pc0 := 25) (pc' := 29) rfl (hb hby d1_25) (by decide) (by decide) kt) ?_
      show Goes p.tables e below _ (s₁.setTop (mkF m 29 #[.val (.int p0)] [(.int (1 : Int32))]))
      obtain ⟨fs, hr, hrun, hended, hW, hsame⟩ := X0.leave (v := some (.int (1 : Int32))) (fun h => by rw [Bd.returns] at h; cases h)
      refine ⟨_, _, retN X0 hx (t := .boolean) Bd.returns (by simp) (hb hby d1_29) hr, hrun, hended, _, _, rfl, ?_, ⟨_, rfl⟩, hW, hsame.mono (by decide) (by decide)⟩
      show Q1 Z p0 h0 n0 _ s₁.heap _
      rw [e0]
      exact ⟨(by unfold own_sp; rw [if_neg hc1, if_pos hc3]), N0, rfl⟩
    ·
      refine go (fun t kt => XS.icmpNo X0.here hx rfl (hb hby d1_9) rfl (feq hc3).1 kt) ?_
      show Goes p.tables e below _ (s₁.setTop (mkF m 12 #[.val (.int p0)] []))
      refine go (fun t kt => XS.iloadN X0.here hx rfl (hb hby d1_12) rfl kt) ?_
      show Goes p.tables e below _ (s₁.setTop (mkF m 13 #[.val (.int p0)] [(.int p0)]))
      refine go (fun t kt => XS.bipush X0.here hx rfl (hb hby d1_13) kt) ?_
      show Goes p.tables e below _ (s₁.setTop (mkF m 15 #[.val (.int p0)] [(.int (13 : Int32)), (.int p0)]))
      by_cases hc5 : p0 = (13 : Int32)
      ·
        refine go (fun t kt => XS.icmpYes X0.here hx rfl (pc0 := 15) (pc' := 24) rfl (hb hby d1_15) rfl (teq hc5).1 (by decide) (by decide) kt) ?_
        show Goes p.tables e below _ (s₁.setTop (mkF m 24 #[.val (.int p0)] []))
        refine go (fun t kt => XS.iconst X0.here hx rfl (hb hby d1_24) kt) ?_
        show Goes p.tables e below _ (s₁.setTop (mkF m 25 #[.val (.int p0)] [(.int (1 : Int32))]))
        refine go (fun t kt => XS.goto X0.here hx rfl (pc0 := 25) (pc' := 29) rfl (hb hby d1_25) (by decide) (by decide) kt) ?_
        show Goes p.tables e below _ (s₁.setTop (mkF m 29 #[.val (.int p0)] [(.int (1 : Int32))]))
        obtain ⟨fs, hr, hrun, hended, hW, hsame⟩ := X0.leave (v := some (.int (1 : Int32))) (fun h => by rw [Bd.returns] at h; cases h)
        refine ⟨_, _, retN X0 hx (t := .boolean) Bd.returns (by simp) (hb hby d1_29) hr, hrun, hended, _, _, rfl, ?_, ⟨_, rfl⟩, hW, hsame.mono (by decide) (by decide)⟩
        show Q1 Z p0 h0 n0 _ s₁.heap _
        rw [e0]
        exact ⟨(by unfold own_sp; rw [if_neg hc1, if_neg hc3, if_pos hc5]), N0, rfl⟩
      ·
        refine go (fun t kt => XS.icmpNo X0.here hx rfl (hb hby d1_15) rfl (feq hc5).1 kt) ?_
        show Goes p.tables e below _ (s₁.setTop (mkF m 18 #[.val (.int p0)] []))
        refine go (fun t kt => XS.iloadN X0.here hx rfl (hb hby d1_18) rfl kt) ?_
        show Goes p.tables e below _ (s₁.setTop (mkF m 19 #[.val (.int p0)] [(.int p0)]))
        refine go (fun t kt => XS.bipush X0.here hx rfl (hb hby d1_19) kt) ?_
        show Goes p.tables e below _ (s₁.setTop (mkF m 21 #[.val (.int p0)] [(.int (10 : Int32)), (.int p0)]))
        by_cases hc7 : p0 = (10 : Int32)
        ·
          refine go (fun t kt => XS.icmpNo X0.here hx rfl (hb hby d1_21) rfl (teq hc7).2 kt) ?_
          show Goes p.tables e below _ (s₁.setTop (mkF m 24 #[.val (.int p0)] []))
          refine go (fun t kt => XS.iconst X0.here hx rfl (hb hby d1_24) kt) ?_
          show Goes p.tables e below _ (s₁.setTop (mkF m 25 #[.val (.int p0)] [(.int (1 : Int32))]))
          refine go (fun t kt => XS.goto X0.here hx rfl (pc0 := 25) (pc' := 29) rfl (hb hby d1_25) (by decide) (by decide) kt) ?_
          show Goes p.tables e below _ (s₁.setTop (mkF m 29 #[.val (.int p0)] [(.int (1 : Int32))]))
          obtain ⟨fs, hr, hrun, hended, hW, hsame⟩ := X0.leave (v := some (.int (1 : Int32))) (fun h => by rw [Bd.returns] at h; cases h)
          refine ⟨_, _, retN X0 hx (t := .boolean) Bd.returns (by simp) (hb hby d1_29) hr, hrun, hended, _, _, rfl, ?_, ⟨_, rfl⟩, hW, hsame.mono (by decide) (by decide)⟩
          show Q1 Z p0 h0 n0 _ s₁.heap _
          rw [e0]
          exact ⟨(by unfold own_sp; rw [if_neg hc1, if_neg hc3, if_neg hc5, if_pos hc7]), N0, rfl⟩
        ·
          refine go (fun t kt => XS.icmpYes X0.here hx rfl (pc0 := 21) (pc' := 28) rfl (hb hby d1_21) rfl (feq hc7).2 (by decide) (by decide) kt) ?_
          show Goes p.tables e below _ (s₁.setTop (mkF m 28 #[.val (.int p0)] []))
          refine go (fun t kt => XS.iconst X0.here hx rfl (hb hby d1_28) kt) ?_
          show Goes p.tables e below _ (s₁.setTop (mkF m 29 #[.val (.int p0)] [(.int (0 : Int32))]))
          obtain ⟨fs, hr, hrun, hended, hW, hsame⟩ := X0.leave (v := some (.int (0 : Int32))) (fun h => by rw [Bd.returns] at h; cases h)
          refine ⟨_, _, retN X0 hx (t := .boolean) Bd.returns (by simp) (hb hby d1_29) hr, hrun, hended, _, _, rfl, ?_, ⟨_, rfl⟩, hW, hsame.mono (by decide) (by decide)⟩
          show Q1 Z p0 h0 n0 _ s₁.heap _
          rw [e0]
          exact ⟨(by unfold own_sp; rw [if_neg hc1, if_neg hc3, if_neg hc5, if_neg hc7]), N0, rfl⟩
theorem own_hi (c : Int32) (h : (32 : Int32) < c) : own_sp c = 0 := by
  have n1 : ¬ c = 32 := by rintro rfl; exact absurd h (by decide)
  have n2 : ¬ c = 9 := by rintro rfl; exact absurd h (by decide)
  have n3 : ¬ c = 13 := by rintro rfl; exact absurd h (by decide)
  have n4 : ¬ c = 10 := by rintro rfl; exact absurd h (by decide)
  unfold own_sp; rw [if_neg n1, if_neg n2, if_neg n3, if_neg n4]
theorem own_lo (c : Int32) (h0 : 0 ≤ c) (h : ¬ (32 : Int32) < c) : ∃ i : Fin 33, c = Int32.ofNat i.1 := by
  have e0 : (0 : Int32).toInt = 0 := rfl
  have e1 : (32 : Int32).toInt = 32 := rfl
  rw [Int32.le_iff_toInt_le, e0] at h0
  rw [Int32.lt_iff_toInt_lt, e1] at h
  refine ⟨⟨c.toInt.toNat, by omega⟩, ?_⟩
  rw [← Int32.toInt_inj, Int32.toInt_ofNat_small (by show c.toInt.toNat < _; omega)]
  show c.toInt = (c.toInt.toNat : Int)
  omega
theorem own_tab : ∀ i : Fin 33, own_sp (Int32.ofNat i.1) = if ((((4294977024 : Int64).toUInt64 >>> (Int32.ofNat i.1 &&& 0x3f).toInt64.toUInt64).toInt64) &&& (1 : Int64)) = (0 : Int64) then 0 else 1 := by decide
theorem own_yes (c : Int32) (h0 : 0 ≤ c) (h : ¬ (32 : Int32) < c) (hb : ¬ ((((4294977024 : Int64).toUInt64 >>> (c &&& 0x3f).toInt64.toUInt64).toInt64) &&& (1 : Int64)) = (0 : Int64)) : own_sp c = 1 := by
  obtain ⟨i, rfl⟩ := own_lo c h0 h
  rw [own_tab i, if_neg hb]
theorem own_no (c : Int32) (h0 : 0 ≤ c) (h : ¬ (32 : Int32) < c) (hb : ((((4294977024 : Int64).toUInt64 >>> (c &&& 0x3f).toInt64.toUInt64).toInt64) &&& (1 : Int64)) = (0 : Int64)) : own_sp c = 0 := by
  obtain ⟨i, rfl⟩ := own_lo c h0 h
  rw [own_tab i, if_pos hb]
theorem own_c (x : Int32) : 0 ≤ (x.toUInt32.toUInt16.toUInt32.toInt32) :=
  Int32.not_lt.mp (Jvm.RoadKit.rng_char (Jvm.RoadKit.fits_nar_char x)).1

theorem pd_0 : parseMethodDescriptor "(C)Z" = some ⟨[.char], some .boolean⟩ := by decide +kernel
theorem pn_0 : plainName "com/example/catasto/catasto/UrlElementIsXmlSpacePinLaw" = true := by first | (simp [plainName, overriddenIn]; done) | decide +kernel
theorem ef_0 (m : MethodId) (p0 : Int32) : entryFrame m #[(.int p0)] maxLocals = mkF m 0 #[.val (.int p0), .unset, .unset, .unset, .unset] [] := by first | (simp [entryFrame, mkF, argsToLocals, Value.category, maxLocals]; done) | rfl
def Q0 (Z : State) (p0 : Int32) (h0 : Heap) (n0 : Nat) (v : Option Value) (h : Heap) (L : List Loc) : Prop := v = some (.int (1 : Int32)) ∧ Fr n0 L
set_option maxRecDepth 65536 in
set_option maxHeartbeats 40000000 in
theorem rm0 (l : Launch) (Z : State) (a0 : Array Value) (hw : ∀ d ∈ tables_1, d.before a0 Z = true) (ws : List Jvm.Cond) (p0 : Int32) (h0 : Heap) (n0 : Nat) (Z0 : n0 ≤ h0.size)  :
    MetFree l x (head1 (Jvm.Cond.code x code maxLocals ret :: ws) room_1) (fun a U => a = #[(.int p0)] ∧ Z.Warmed39 U.vm ∧ U.heap = h0) (fun _ _ _ _ _ => True) (fun _ U o U' => ∃ v L, o = .returned v ∧ Q0 Z p0 h0 n0 v U'.heap L ∧ FrameEnd U o U' L 0 0) := by
  refine MetFree.of_bodySF (plainFor_of_name pn_0) hisR ?_
  intro p e s m args below meth c s₁ Bd hml0 hP hK
  obtain ⟨rfl, hZ, hh⟩ := hP
  have hx := Bd.exec
  have hby := Bd.bytes
  have hml : c.maxLocals = 5 := hml0
  have hown : s.vm.findClass "com/example/catasto/catasto/UrlElementIsXmlSpacePinLaw" = some m.cls := findClass_of_methodNamed Bd.named
  have hnm := (name_of_methodNamed Bd.named Bd.method).1
  have X0 : Stand p l e room_1 s m #[(.int p0)] below meth c s₁ [] 0 0 := Stand.of_body Bd
  have e0 : s₁.heap = h0 := by rw [← hh, Bd.state]; rfl
  have N0 := Fr.nil n0
  have K0 := Keep.refl h0 []
  suffices hgo : Goes p.tables e below (fun s₂ o => ∃ v L, o = .returned v ∧ Q0 Z p0 h0 n0 v s₂.heap L ∧ FrameEnd s o s₂ L 0 0) (s₁.setTop (mkF m 0 #[.val (.int p0), .unset, .unset, .unset, .unset] [])) from goEnd (fun t k => castTop (ef_0 m p0) k) hgo
  refine go (fun t kt => XS.iloadN X0.here hx rfl (hb hby at_0) rfl kt) ?_
  show Goes p.tables e below _ (s₁.setTop (mkF m 1 #[.val (.int p0), .unset, .unset, .unset, .unset] [(.int p0)]))
  refine go (X0.ldcInt hx hown (mvT hZ (hw _ (List.mem_of_getElem? (i := 0) rfl))) (g := (mkF m 1 #[.val (.int p0), .unset, .unset, .unset, .unset] [(.int p0)])) rfl (hb hby at_1)) ?_
  show Goes p.tables e below _ (s₁.setTop (mkF m 3 #[.val (.int p0), .unset, .unset, .unset, .unset] [(.int (65535 : Int32)), (.int p0)]))
  refine go (fun t kt => XS.iand X0.here hx rfl (hb hby at_3) rfl kt) ?_
  show Goes p.tables e below _ (s₁.setTop (mkF m 4 #[.val (.int p0), .unset, .unset, .unset, .unset] [(.int (p0 &&& (65535 : Int32)))]))
  refine go (fun t kt => XS.i2c X0.here hx rfl (hb hby at_4) rfl kt) ?_
  show Goes p.tables e below _ (s₁.setTop (mkF m 5 #[.val (.int p0), .unset, .unset, .unset, .unset] [(.int ((p0 &&& (65535 : Int32)).toUInt32.toUInt16.toUInt32.toInt32))]))
  refine go (fun t kt => XS.istoreN X0.here hx rfl (hb hby at_5) rfl (l' := #[.val (.int p0), .val (.int ((p0 &&& (65535 : Int32)).toUInt32.toUInt16.toUInt32.toInt32)), .unset, .unset, .unset]) rfl kt) ?_
  show Goes p.tables e below _ (s₁.setTop (mkF m 6 #[.val (.int p0), .val (.int ((p0 &&& (65535 : Int32)).toUInt32.toUInt16.toUInt32.toInt32)), .unset, .unset, .unset] []))
  refine go (X0.ldc2Long hx hown (mvT hZ (hw _ (List.mem_of_getElem? (i := 1) rfl))) (g := (mkF m 6 #[.val (.int p0), .val (.int ((p0 &&& (65535 : Int32)).toUInt32.toUInt16.toUInt32.toInt32)), .unset, .unset, .unset] [])) rfl (hb hby at_6)) ?_
  show Goes p.tables e below _ (s₁.setTop (mkF m 9 #[.val (.int p0), .val (.int ((p0 &&& (65535 : Int32)).toUInt32.toUInt16.toUInt32.toInt32)), .unset, .unset, .unset] [(.long (4294977024 : Int64))]))
  refine go (fun t kt => XS.lstoreN X0.here hx rfl (hb hby at_9) rfl (l' := #[.val (.int p0), .val (.int ((p0 &&& (65535 : Int32)).toUInt32.toUInt16.toUInt32.toInt32)), .val (.long (4294977024 : Int64)), .second, .unset]) rfl kt) ?_
  show Goes p.tables e below _ (s₁.setTop (mkF m 10 #[.val (.int p0), .val (.int ((p0 &&& (65535 : Int32)).toUInt32.toUInt16.toUInt32.toInt32)), .val (.long (4294977024 : Int64)), .second, .unset] []))
  refine go (fun t kt => XS.iloadN X0.here hx rfl (hb hby at_10) rfl kt) ?_
  show Goes p.tables e below _ (s₁.setTop (mkF m 11 #[.val (.int p0), .val (.int ((p0 &&& (65535 : Int32)).toUInt32.toUInt16.toUInt32.toInt32)), .val (.long (4294977024 : Int64)), .second, .unset] [(.int ((p0 &&& (65535 : Int32)).toUInt32.toUInt16.toUInt32.toInt32))]))
  refine go (fun t kt => XS.bipush X0.here hx rfl (hb hby at_11) kt) ?_
  show Goes p.tables e below _ (s₁.setTop (mkF m 13 #[.val (.int p0), .val (.int ((p0 &&& (65535 : Int32)).toUInt32.toUInt16.toUInt32.toInt32)), .val (.long (4294977024 : Int64)), .second, .unset] [(.int (32 : Int32)), (.int ((p0 &&& (65535 : Int32)).toUInt32.toUInt16.toUInt32.toInt32))]))
  by_cases hc1 : (32 : Int32) < ((p0 &&& (65535 : Int32)).toUInt32.toUInt16.toUInt32.toInt32)
  ·
    refine go (fun t kt => XS.icmpYes X0.here hx rfl (pc0 := 13) (pc' := 30) rfl (hb hby at_13) rfl (tlt hc1).2.2.1 (by decide) (by decide) kt) ?_
    show Goes p.tables e below _ (s₁.setTop (mkF m 30 #[.val (.int p0), .val (.int ((p0 &&& (65535 : Int32)).toUInt32.toUInt16.toUInt32.toInt32)), .val (.long (4294977024 : Int64)), .second, .unset] []))
    refine go (fun t kt => XS.iconst X0.here hx rfl (hb hby at_30) kt) ?_
    show Goes p.tables e below _ (s₁.setTop (mkF m 31 #[.val (.int p0), .val (.int ((p0 &&& (65535 : Int32)).toUInt32.toUInt16.toUInt32.toInt32)), .val (.long (4294977024 : Int64)), .second, .unset] [(.int (0 : Int32))]))
    refine go (fun t kt => XS.istore X0.here hx rfl (hb hby at_31) rfl (l' := #[.val (.int p0), .val (.int ((p0 &&& (65535 : Int32)).toUInt32.toUInt16.toUInt32.toInt32)), .val (.long (4294977024 : Int64)), .second, .val (.int (0 : Int32))]) rfl kt) ?_
    show Goes p.tables e below _ (s₁.setTop (mkF m 33 #[.val (.int p0), .val (.int ((p0 &&& (65535 : Int32)).toUInt32.toUInt16.toUInt32.toInt32)), .val (.long (4294977024 : Int64)), .second, .val (.int (0 : Int32))] []))
    refine go (fun t kt => XS.iloadN X0.here hx rfl (hb hby at_33) rfl kt) ?_
    show Goes p.tables e below _ (s₁.setTop (mkF m 34 #[.val (.int p0), .val (.int ((p0 &&& (65535 : Int32)).toUInt32.toUInt16.toUInt32.toInt32)), .val (.long (4294977024 : Int64)), .second, .val (.int (0 : Int32))] [(.int ((p0 &&& (65535 : Int32)).toUInt32.toUInt16.toUInt32.toInt32))]))
    obtain ⟨_, _, ⟨T2, L2, k2, n2⟩, -, X2, ⟨Lc2, hQ2, l2, y2, z2⟩, st2⟩ := Jvm.LawKit.callS X0 hx (y := (⟨"com/example/catasto/catasto/UrlElement", "isXmlSpace", "(C)Z"⟩ : MethodName)) hown (mvT hZ (hw _ (List.mem_of_getElem? (i := 2) rfl))) (mvT hZ (hw _ (List.mem_of_getElem? (i := 3) rfl))) (mvT hZ (hw _ (List.mem_of_getElem? (i := 4) rfl))) (mvT hZ (hw _ (List.mem_of_getElem? (i := 5) rfl))) (by decide) (backOf (W := 0) (rm1 l Z a0 hw [] ((p0 &&& (65535 : Int32)).toUInt32.toUInt16.toUInt32.toInt32) h0 n0 Z0 ) hZ (hw _ (List.mem_of_getElem? (i := 5) rfl)) (hw _ (List.mem_of_getElem? (i := 4) rfl)) (by decide) (by decide)) (g := (mkF m 34 #[.val (.int p0), .val (.int ((p0 &&& (65535 : Int32)).toUInt32.toUInt16.toUInt32.toInt32)), .val (.long (4294977024 : Int64)), .second, .val (.int (0 : Int32))] [(.int ((p0 &&& (65535 : Int32)).toUInt32.toUInt16.toUInt32.toInt32))])) rfl (by rw [hml]; rfl) (argsL := [(.int ((p0 &&& (65535 : Int32)).toUInt32.toUInt16.toUInt32.toInt32))]) (rest := []) (lenOf pd_0 rfl) rfl (by show 2 * 0 + _ ≤ _; exact Nat.le_of_eq rfl) (hb hby at_34) (fun _ _ => ⟨rfl, e0, (by decide : 0 + 0 ≤ _), (by decide : 0 + 0 ≤ _)⟩)
    dsimp only [Pt.U, Pt.locs, Pt.cells, Pt.slots] at X2 l2 y2 z2 st2 hQ2
    subst l2 y2 z2
    obtain ⟨rfl, Nq2, e2⟩ := hQ2
    have N2 := Fr.app N0 Nq2
    refine go st2 ?_
    show Goes p.tables e below _ (T2.setTop (mkF m 37 #[.val (.int p0), .val (.int ((p0 &&& (65535 : Int32)).toUInt32.toUInt16.toUInt32.toInt32)), .val (.long (4294977024 : Int64)), .second, .val (.int (0 : Int32))] [(.int (own_sp ((p0 &&& (65535 : Int32)).toUInt32.toUInt16.toUInt32.toInt32)))]))
    refine go (fun t kt => XS.iload X2.here hx rfl (hb hby at_37) rfl kt) ?_
    show Goes p.tables e below _ (T2.setTop (mkF m 39 #[.val (.int p0), .val (.int ((p0 &&& (65535 : Int32)).toUInt32.toUInt16.toUInt32.toInt32)), .val (.long (4294977024 : Int64)), .second, .val (.int (0 : Int32))] [(.int (0 : Int32)), (.int (own_sp ((p0 &&& (65535 : Int32)).toUInt32.toUInt16.toUInt32.toInt32)))]))
    refine go (fun t kt => XS.icmpNo X2.here hx rfl (hb hby at_39) rfl (teq (own_hi _ hc1)).2 kt) ?_
    show Goes p.tables e below _ (T2.setTop (mkF m 42 #[.val (.int p0), .val (.int ((p0 &&& (65535 : Int32)).toUInt32.toUInt16.toUInt32.toInt32)), .val (.long (4294977024 : Int64)), .second, .val (.int (0 : Int32))] []))
    refine go (fun t kt => XS.iconst X2.here hx rfl (hb hby at_42) kt) ?_
    show Goes p.tables e below _ (T2.setTop (mkF m 43 #[.val (.int p0), .val (.int ((p0 &&& (65535 : Int32)).toUInt32.toUInt16.toUInt32.toInt32)), .val (.long (4294977024 : Int64)), .second, .val (.int (0 : Int32))] [(.int (1 : Int32))]))
    refine go (fun t kt => XS.goto X2.here hx rfl (pc0 := 43) (pc' := 47) rfl (hb hby at_43) (by decide) (by decide) kt) ?_
    show Goes p.tables e below _ (T2.setTop (mkF m 47 #[.val (.int p0), .val (.int ((p0 &&& (65535 : Int32)).toUInt32.toUInt16.toUInt32.toInt32)), .val (.long (4294977024 : Int64)), .second, .val (.int (0 : Int32))] [(.int (1 : Int32))]))
    obtain ⟨fs, hr, hrun, hended, hW, hsame⟩ := X2.leave (v := some (.int (1 : Int32))) (fun h => by rw [Bd.returns] at h; cases h)
    refine ⟨_, _, retN X2 hx (t := .boolean) Bd.returns (by simp) (hb hby at_47) hr, hrun, hended, _, _, rfl, ?_, ⟨_, rfl⟩, hW, hsame.mono (by decide) (by decide)⟩
    show Q0 Z p0 h0 n0 _ T2.heap _
    rw [e2]
    exact ⟨rfl, N2⟩
  ·
    refine go (fun t kt => XS.icmpNo X0.here hx rfl (hb hby at_13) rfl (flt hc1).2.2.1 kt) ?_
    show Goes p.tables e below _ (s₁.setTop (mkF m 16 #[.val (.int p0), .val (.int ((p0 &&& (65535 : Int32)).toUInt32.toUInt16.toUInt32.toInt32)), .val (.long (4294977024 : Int64)), .second, .unset] []))
    refine go (fun t kt => XS.lloadN X0.here hx rfl (hb hby at_16) rfl kt) ?_
    show Goes p.tables e below _ (s₁.setTop (mkF m 17 #[.val (.int p0), .val (.int ((p0 &&& (65535 : Int32)).toUInt32.toUInt16.toUInt32.toInt32)), .val (.long (4294977024 : Int64)), .second, .unset] [(.long (4294977024 : Int64))]))
    refine go (fun t kt => XS.iloadN X0.here hx rfl (hb hby at_17) rfl kt) ?_
    show Goes p.tables e below _ (s₁.setTop (mkF m 18 #[.val (.int p0), .val (.int ((p0 &&& (65535 : Int32)).toUInt32.toUInt16.toUInt32.toInt32)), .val (.long (4294977024 : Int64)), .second, .unset] [(.int ((p0 &&& (65535 : Int32)).toUInt32.toUInt16.toUInt32.toInt32)), (.long (4294977024 : Int64))]))
    refine go (fun t kt => XS.lushr X0.here hx rfl (hb hby at_18) rfl kt) ?_
    show Goes p.tables e below _ (s₁.setTop (mkF m 19 #[.val (.int p0), .val (.int ((p0 &&& (65535 : Int32)).toUInt32.toUInt16.toUInt32.toInt32)), .val (.long (4294977024 : Int64)), .second, .unset] [(.long (((4294977024 : Int64).toUInt64 >>> (((p0 &&& (65535 : Int32)).toUInt32.toUInt16.toUInt32.toInt32) &&& 0x3f).toInt64.toUInt64).toInt64))]))
    refine go (fun t kt => XS.lconst X0.here hx rfl (hb hby at_19) kt) ?_
    show Goes p.tables e below _ (s₁.setTop (mkF m 20 #[.val (.int p0), .val (.int ((p0 &&& (65535 : Int32)).toUInt32.toUInt16.toUInt32.toInt32)), .val (.long (4294977024 : Int64)), .second, .unset] [(.long (1 : Int64)), (.long (((4294977024 : Int64).toUInt64 >>> (((p0 &&& (65535 : Int32)).toUInt32.toUInt16.toUInt32.toInt32) &&& 0x3f).toInt64.toUInt64).toInt64))]))
    refine go (fun t kt => XS.land X0.here hx rfl (hb hby at_20) rfl kt) ?_
    show Goes p.tables e below _ (s₁.setTop (mkF m 21 #[.val (.int p0), .val (.int ((p0 &&& (65535 : Int32)).toUInt32.toUInt16.toUInt32.toInt32)), .val (.long (4294977024 : Int64)), .second, .unset] [(.long ((((4294977024 : Int64).toUInt64 >>> (((p0 &&& (65535 : Int32)).toUInt32.toUInt16.toUInt32.toInt32) &&& 0x3f).toInt64.toUInt64).toInt64) &&& (1 : Int64)))]))
    refine go (fun t kt => XS.lconst X0.here hx rfl (hb hby at_21) kt) ?_
    show Goes p.tables e below _ (s₁.setTop (mkF m 22 #[.val (.int p0), .val (.int ((p0 &&& (65535 : Int32)).toUInt32.toUInt16.toUInt32.toInt32)), .val (.long (4294977024 : Int64)), .second, .unset] [(.long (0 : Int64)), (.long ((((4294977024 : Int64).toUInt64 >>> (((p0 &&& (65535 : Int32)).toUInt32.toUInt16.toUInt32.toInt32) &&& 0x3f).toInt64.toUInt64).toInt64) &&& (1 : Int64)))]))
    refine go (fun t kt => XS.lcmp X0.here hx rfl (hb hby at_22) rfl kt) ?_
    show Goes p.tables e below _ (s₁.setTop (mkF m 23 #[.val (.int p0), .val (.int ((p0 &&& (65535 : Int32)).toUInt32.toUInt16.toUInt32.toInt32)), .val (.long (4294977024 : Int64)), .second, .unset] [(.int (lcmpW ((((4294977024 : Int64).toUInt64 >>> (((p0 &&& (65535 : Int32)).toUInt32.toUInt16.toUInt32.toInt32) &&& 0x3f).toInt64.toUInt64).toInt64) &&& (1 : Int64)) (0 : Int64)))]))
    by_cases hc4 : ((((4294977024 : Int64).toUInt64 >>> (((p0 &&& (65535 : Int32)).toUInt32.toUInt16.toUInt32.toInt32) &&& 0x3f).toInt64.toUInt64).toInt64) &&& (1 : Int64)) = (0 : Int64)
    ·
      refine go (fun t kt => XS.ifYes X0.here hx rfl (pc0 := 23) (pc' := 30) rfl (hb hby at_23) rfl ((if0 _ _).trans (teq ((lw_eq ((((4294977024 : Int64).toUInt64 >>> (((p0 &&& (65535 : Int32)).toUInt32.toUInt16.toUInt32.toInt32) &&& 0x3f).toInt64.toUInt64).toInt64) &&& (1 : Int64)) (0 : Int64)).mpr hc4)).1) (by decide) (by decide) kt) ?_
      show Goes p.tables e below _ (s₁.setTop (mkF m 30 #[.val (.int p0), .val (.int ((p0 &&& (65535 : Int32)).toUInt32.toUInt16.toUInt32.toInt32)), .val (.long (4294977024 : Int64)), .second, .unset] []))
      refine go (fun t kt => XS.iconst X0.here hx rfl (hb hby at_30) kt) ?_
      show Goes p.tables e below _ (s₁.setTop (mkF m 31 #[.val (.int p0), .val (.int ((p0 &&& (65535 : Int32)).toUInt32.toUInt16.toUInt32.toInt32)), .val (.long (4294977024 : Int64)), .second, .unset] [(.int (0 : Int32))]))
      refine go (fun t kt => XS.istore X0.here hx rfl (hb hby at_31) rfl (l' := #[.val (.int p0), .val (.int ((p0 &&& (65535 : Int32)).toUInt32.toUInt16.toUInt32.toInt32)), .val (.long (4294977024 : Int64)), .second, .val (.int (0 : Int32))]) rfl kt) ?_
      show Goes p.tables e below _ (s₁.setTop (mkF m 33 #[.val (.int p0), .val (.int ((p0 &&& (65535 : Int32)).toUInt32.toUInt16.toUInt32.toInt32)), .val (.long (4294977024 : Int64)), .second, .val (.int (0 : Int32))] []))
      refine go (fun t kt => XS.iloadN X0.here hx rfl (hb hby at_33) rfl kt) ?_
      show Goes p.tables e below _ (s₁.setTop (mkF m 34 #[.val (.int p0), .val (.int ((p0 &&& (65535 : Int32)).toUInt32.toUInt16.toUInt32.toInt32)), .val (.long (4294977024 : Int64)), .second, .val (.int (0 : Int32))] [(.int ((p0 &&& (65535 : Int32)).toUInt32.toUInt16.toUInt32.toInt32))]))
      obtain ⟨_, _, ⟨T5, L5, k5, n5⟩, -, X5, ⟨Lc5, hQ5, l5, y5, z5⟩, st5⟩ := Jvm.LawKit.callS X0 hx (y := (⟨"com/example/catasto/catasto/UrlElement", "isXmlSpace", "(C)Z"⟩ : MethodName)) hown (mvT hZ (hw _ (List.mem_of_getElem? (i := 2) rfl))) (mvT hZ (hw _ (List.mem_of_getElem? (i := 3) rfl))) (mvT hZ (hw _ (List.mem_of_getElem? (i := 4) rfl))) (mvT hZ (hw _ (List.mem_of_getElem? (i := 5) rfl))) (by decide) (backOf (W := 0) (rm1 l Z a0 hw [] ((p0 &&& (65535 : Int32)).toUInt32.toUInt16.toUInt32.toInt32) h0 n0 Z0 ) hZ (hw _ (List.mem_of_getElem? (i := 5) rfl)) (hw _ (List.mem_of_getElem? (i := 4) rfl)) (by decide) (by decide)) (g := (mkF m 34 #[.val (.int p0), .val (.int ((p0 &&& (65535 : Int32)).toUInt32.toUInt16.toUInt32.toInt32)), .val (.long (4294977024 : Int64)), .second, .val (.int (0 : Int32))] [(.int ((p0 &&& (65535 : Int32)).toUInt32.toUInt16.toUInt32.toInt32))])) rfl (by rw [hml]; rfl) (argsL := [(.int ((p0 &&& (65535 : Int32)).toUInt32.toUInt16.toUInt32.toInt32))]) (rest := []) (lenOf pd_0 rfl) rfl (by show 2 * 0 + _ ≤ _; exact Nat.le_of_eq rfl) (hb hby at_34) (fun _ _ => ⟨rfl, e0, (by decide : 0 + 0 ≤ _), (by decide : 0 + 0 ≤ _)⟩)
      dsimp only [Pt.U, Pt.locs, Pt.cells, Pt.slots] at X5 l5 y5 z5 st5 hQ5
      subst l5 y5 z5
      obtain ⟨rfl, Nq5, e5⟩ := hQ5
      have N5 := Fr.app N0 Nq5
      refine go st5 ?_
      show Goes p.tables e below _ (T5.setTop (mkF m 37 #[.val (.int p0), .val (.int ((p0 &&& (65535 : Int32)).toUInt32.toUInt16.toUInt32.toInt32)), .val (.long (4294977024 : Int64)), .second, .val (.int (0 : Int32))] [(.int (own_sp ((p0 &&& (65535 : Int32)).toUInt32.toUInt16.toUInt32.toInt32)))]))
      refine go (fun t kt => XS.iload X5.here hx rfl (hb hby at_37) rfl kt) ?_
      show Goes p.tables e below _ (T5.setTop (mkF m 39 #[.val (.int p0), .val (.int ((p0 &&& (65535 : Int32)).toUInt32.toUInt16.toUInt32.toInt32)), .val (.long (4294977024 : Int64)), .second, .val (.int (0 : Int32))] [(.int (0 : Int32)), (.int (own_sp ((p0 &&& (65535 : Int32)).toUInt32.toUInt16.toUInt32.toInt32)))]))
      refine go (fun t kt => XS.icmpNo X5.here hx rfl (hb hby at_39) rfl (teq (own_no _ (own_c _) hc1 hc4)).2 kt) ?_
      show Goes p.tables e below _ (T5.setTop (mkF m 42 #[.val (.int p0), .val (.int ((p0 &&& (65535 : Int32)).toUInt32.toUInt16.toUInt32.toInt32)), .val (.long (4294977024 : Int64)), .second, .val (.int (0 : Int32))] []))
      refine go (fun t kt => XS.iconst X5.here hx rfl (hb hby at_42) kt) ?_
      show Goes p.tables e below _ (T5.setTop (mkF m 43 #[.val (.int p0), .val (.int ((p0 &&& (65535 : Int32)).toUInt32.toUInt16.toUInt32.toInt32)), .val (.long (4294977024 : Int64)), .second, .val (.int (0 : Int32))] [(.int (1 : Int32))]))
      refine go (fun t kt => XS.goto X5.here hx rfl (pc0 := 43) (pc' := 47) rfl (hb hby at_43) (by decide) (by decide) kt) ?_
      show Goes p.tables e below _ (T5.setTop (mkF m 47 #[.val (.int p0), .val (.int ((p0 &&& (65535 : Int32)).toUInt32.toUInt16.toUInt32.toInt32)), .val (.long (4294977024 : Int64)), .second, .val (.int (0 : Int32))] [(.int (1 : Int32))]))
      obtain ⟨fs, hr, hrun, hended, hW, hsame⟩ := X5.leave (v := some (.int (1 : Int32))) (fun h => by rw [Bd.returns] at h; cases h)
      refine ⟨_, _, retN X5 hx (t := .boolean) Bd.returns (by simp) (hb hby at_47) hr, hrun, hended, _, _, rfl, ?_, ⟨_, rfl⟩, hW, hsame.mono (by decide) (by decide)⟩
      show Q0 Z p0 h0 n0 _ T5.heap _
      rw [e5]
      exact ⟨rfl, N5⟩
    ·
      refine go (fun t kt => XS.ifNo X0.here hx rfl (hb hby at_23) rfl ((if0 _ _).trans (feq (fun q => hc4 ((lw_eq ((((4294977024 : Int64).toUInt64 >>> (((p0 &&& (65535 : Int32)).toUInt32.toUInt16.toUInt32.toInt32) &&& 0x3f).toInt64.toUInt64).toInt64) &&& (1 : Int64)) (0 : Int64)).mp q))).1) kt) ?_
      show Goes p.tables e below _ (s₁.setTop (mkF m 26 #[.val (.int p0), .val (.int ((p0 &&& (65535 : Int32)).toUInt32.toUInt16.toUInt32.toInt32)), .val (.long (4294977024 : Int64)), .second, .unset] []))
      refine go (fun t kt => XS.iconst X0.here hx rfl (hb hby at_26) kt) ?_
      show Goes p.tables e below _ (s₁.setTop (mkF m 27 #[.val (.int p0), .val (.int ((p0 &&& (65535 : Int32)).toUInt32.toUInt16.toUInt32.toInt32)), .val (.long (4294977024 : Int64)), .second, .unset] [(.int (1 : Int32))]))
      refine go (fun t kt => XS.goto X0.here hx rfl (pc0 := 27) (pc' := 31) rfl (hb hby at_27) (by decide) (by decide) kt) ?_
      show Goes p.tables e below _ (s₁.setTop (mkF m 31 #[.val (.int p0), .val (.int ((p0 &&& (65535 : Int32)).toUInt32.toUInt16.toUInt32.toInt32)), .val (.long (4294977024 : Int64)), .second, .unset] [(.int (1 : Int32))]))
      refine go (fun t kt => XS.istore X0.here hx rfl (hb hby at_31) rfl (l' := #[.val (.int p0), .val (.int ((p0 &&& (65535 : Int32)).toUInt32.toUInt16.toUInt32.toInt32)), .val (.long (4294977024 : Int64)), .second, .val (.int (1 : Int32))]) rfl kt) ?_
      show Goes p.tables e below _ (s₁.setTop (mkF m 33 #[.val (.int p0), .val (.int ((p0 &&& (65535 : Int32)).toUInt32.toUInt16.toUInt32.toInt32)), .val (.long (4294977024 : Int64)), .second, .val (.int (1 : Int32))] []))
      refine go (fun t kt => XS.iloadN X0.here hx rfl (hb hby at_33) rfl kt) ?_
      show Goes p.tables e below _ (s₁.setTop (mkF m 34 #[.val (.int p0), .val (.int ((p0 &&& (65535 : Int32)).toUInt32.toUInt16.toUInt32.toInt32)), .val (.long (4294977024 : Int64)), .second, .val (.int (1 : Int32))] [(.int ((p0 &&& (65535 : Int32)).toUInt32.toUInt16.toUInt32.toInt32))]))
      obtain ⟨_, _, ⟨T7, L7, k7, n7⟩, -, X7, ⟨Lc7, hQ7, l7, y7, z7⟩, st7⟩ := Jvm.LawKit.callS X0 hx (y := (⟨"com/example/catasto/catasto/UrlElement", "isXmlSpace", "(C)Z"⟩ : MethodName)) hown (mvT hZ (hw _ (List.mem_of_getElem? (i := 2) rfl))) (mvT hZ (hw _ (List.mem_of_getElem? (i := 3) rfl))) (mvT hZ (hw _ (List.mem_of_getElem? (i := 4) rfl))) (mvT hZ (hw _ (List.mem_of_getElem? (i := 5) rfl))) (by decide) (backOf (W := 0) (rm1 l Z a0 hw [] ((p0 &&& (65535 : Int32)).toUInt32.toUInt16.toUInt32.toInt32) h0 n0 Z0 ) hZ (hw _ (List.mem_of_getElem? (i := 5) rfl)) (hw _ (List.mem_of_getElem? (i := 4) rfl)) (by decide) (by decide)) (g := (mkF m 34 #[.val (.int p0), .val (.int ((p0 &&& (65535 : Int32)).toUInt32.toUInt16.toUInt32.toInt32)), .val (.long (4294977024 : Int64)), .second, .val (.int (1 : Int32))] [(.int ((p0 &&& (65535 : Int32)).toUInt32.toUInt16.toUInt32.toInt32))])) rfl (by rw [hml]; rfl) (argsL := [(.int ((p0 &&& (65535 : Int32)).toUInt32.toUInt16.toUInt32.toInt32))]) (rest := []) (lenOf pd_0 rfl) rfl (by show 2 * 0 + _ ≤ _; exact Nat.le_of_eq rfl) (hb hby at_34) (fun _ _ => ⟨rfl, e0, (by decide : 0 + 0 ≤ _), (by decide : 0 + 0 ≤ _)⟩)
      dsimp only [Pt.U, Pt.locs, Pt.cells, Pt.slots] at X7 l7 y7 z7 st7 hQ7
      subst l7 y7 z7
      obtain ⟨rfl, Nq7, e7⟩ := hQ7
      have N7 := Fr.app N0 Nq7
      refine go st7 ?_
      show Goes p.tables e below _ (T7.setTop (mkF m 37 #[.val (.int p0), .val (.int ((p0 &&& (65535 : Int32)).toUInt32.toUInt16.toUInt32.toInt32)), .val (.long (4294977024 : Int64)), .second, .val (.int (1 : Int32))] [(.int (own_sp ((p0 &&& (65535 : Int32)).toUInt32.toUInt16.toUInt32.toInt32)))]))
      refine go (fun t kt => XS.iload X7.here hx rfl (hb hby at_37) rfl kt) ?_
      show Goes p.tables e below _ (T7.setTop (mkF m 39 #[.val (.int p0), .val (.int ((p0 &&& (65535 : Int32)).toUInt32.toUInt16.toUInt32.toInt32)), .val (.long (4294977024 : Int64)), .second, .val (.int (1 : Int32))] [(.int (1 : Int32)), (.int (own_sp ((p0 &&& (65535 : Int32)).toUInt32.toUInt16.toUInt32.toInt32)))]))
      refine go (fun t kt => XS.icmpNo X7.here hx rfl (hb hby at_39) rfl (teq (own_yes _ (own_c _) hc1 hc4)).2 kt) ?_
      show Goes p.tables e below _ (T7.setTop (mkF m 42 #[.val (.int p0), .val (.int ((p0 &&& (65535 : Int32)).toUInt32.toUInt16.toUInt32.toInt32)), .val (.long (4294977024 : Int64)), .second, .val (.int (1 : Int32))] []))
      refine go (fun t kt => XS.iconst X7.here hx rfl (hb hby at_42) kt) ?_
      show Goes p.tables e below _ (T7.setTop (mkF m 43 #[.val (.int p0), .val (.int ((p0 &&& (65535 : Int32)).toUInt32.toUInt16.toUInt32.toInt32)), .val (.long (4294977024 : Int64)), .second, .val (.int (1 : Int32))] [(.int (1 : Int32))]))
      refine go (fun t kt => XS.goto X7.here hx rfl (pc0 := 43) (pc' := 47) rfl (hb hby at_43) (by decide) (by decide) kt) ?_
      show Goes p.tables e below _ (T7.setTop (mkF m 47 #[.val (.int p0), .val (.int ((p0 &&& (65535 : Int32)).toUInt32.toUInt16.toUInt32.toInt32)), .val (.long (4294977024 : Int64)), .second, .val (.int (1 : Int32))] [(.int (1 : Int32))]))
      obtain ⟨fs, hr, hrun, hended, hW, hsame⟩ := X7.leave (v := some (.int (1 : Int32))) (fun h => by rw [Bd.returns] at h; cases h)
      refine ⟨_, _, retN X7 hx (t := .boolean) Bd.returns (by simp) (hb hby at_47) hr, hrun, hended, _, _, rfl, ?_, ⟨_, rfl⟩, hW, hsame.mono (by decide) (by decide)⟩
      show Q0 Z p0 h0 n0 _ T7.heap _
      rw [e7]
      exact ⟨rfl, N7⟩
set_option maxRecDepth 65536 in
set_option maxHeartbeats 40000000 in
theorem comes_1 {Post : Tables → Env → Array Value → State → Outcome → State → Prop} (hpost : ∀ tb e args s v u, (limb_1_1.after args s (.returned v) u = true ∧ limb_1_2.after args s (.returned v) u = true ∧ True) → FrameEnd s (.returned v) u (Jvm.fieldLocs frame_1_writes args s ++ Jvm.arrayLocs frame_1_arrays args s ++ Jvm.staticLocs frame_1_statics s) 0 0 → Post tb e args s (.returned v) u) :
    ArmFor flags0 classFile x code maxLocals ret World_1 tables_1 room_1 Calls_1 rest_1 Pre_1 Post := by
  intro l hfl _ _ p e ha hc hk s m args below hf hA hF happ hP
  obtain ⟨hcalls, hrest, hpre⟩ := hP
  obtain ⟨-, -, -, hnamed, -, -, -, hat⟩ := (Spec.applies_iff hf).mp happ
  obtain ⟨hg, hn⟩ := and_e (Cond.before_iff.mp (show (Jvm.Cond.and given_1 narrow_1).before args s = true from hpre))
  obtain ⟨u1, u2⟩ := and_e hg
  obtain ⟨w0, rfl⟩ : ∃ w0 : Value, args = #[w0] := by
    have hs : args.size = 1 := by simpa [Cond.value, given_1] using u1
    obtain ⟨L⟩ := args
    match L, hs with
    | [w0], _ => exact ⟨w0, rfl⟩
  have hw := fun d (hd : d ∈ tables_1) => atoms_spec (ws := Jvm.Cond.code x code maxLocals ret :: tables_1) hat d (List.mem_cons_of_mem _ hd)
  obtain ⟨i0, ei0⟩ := is_v u2
  obtain rfl : w0 = (.int i0) := Option.some.inj ei0
  obtain ⟨n, o, h1, h2, h3, _, L, rfl, ⟨rfl, N⟩, hq⟩ := rm0 l s _ hw tables_1 i0  s.heap s.heap.size (Nat.le_refl _)  p e ha hc hk s m _ below hf ((Spec.applies_iff_loose hf).mp happ).1 ⟨rfl, State.Warmed39.refl s, rfl⟩ trivial
  refine ⟨n, _, h1, h2, h3, hpost _ _ _ _ _ _ ⟨Cond.after_iff.mpr rfl, Cond.after_iff.mpr (eq_i res_at (Term.int_eval (1)) rfl), trivial⟩ ⟨hq.1, hq.2.1, (hq.2.2.sift fun y hy => Or.inr (N y hy)).mono (by decide) (by decide)⟩⟩
theorem main_1_1 : Claimed_1_1 := comes_1 fun _ _ _ _ _ _ h hF => ⟨h.1, hF⟩
theorem main_1_2 : Claimed_1_2 := comes_1 fun _ _ _ _ _ _ h hF => ⟨h.2.1, hF⟩
end Jvm.Pilot.@@N@@
namespace Jvm.Pilot.@@N@@
open Jvm Jvm.ClassFile Sem Op Lib Jvm.Free Jvm.Stand Jvm.Pilot.@@N@@.Jvm.D
/-! MADE BY PROGRAM (witnessworld.py) out of the Statement's table words and the real class files: 12 classes; the members and pool entries that the words name. The judged class is class 1, her method 1. -/
namespace start1
open Jvm.ClassFile
def u (s : String) : CpInfo := .utf8 (stringToUtf16 s)
/-- a pool by its gaps: so many unusable entries, then the entry; so many at the end -/
def gap : Nat → List CpInfo → List CpInfo
  | 0, r => r
  | n + 1, r => .unusable :: gap n r
def poolList (es : List (Nat × CpInfo)) (last : Nat) : List CpInfo := es.foldr (fun e r => gap e.1 (e.2 :: r)) (gap last [])
def pool (es : List (Nat × CpInfo)) (last : Nat) : Array CpInfo := ⟨poolList es last⟩
def fileOf (pool : Array CpInfo) (this : Nat) (attrs : Array Attribute := #[]) (ms : Array MethodInfo := #[]) (fl : Nat := 33) (sup : Nat := 0) (ifs : Array Nat := #[]) (fds : Array FieldInfo := #[]) : ClassFile where
  minorVersion := 0
  majorVersion := 65
  constantPool := pool
  accessFlags := fl
  thisClass := this
  superClass := sup
  interfaces := ifs
  fields := fds
  methods := ms
  attributes := attrs
def plain (name : String) (sup : Option ClassId) : Class where
  name := name
  kind := .ordinary
  loader := none
  accessFlags := 33
  super := sup
  interfaces := #[]
  cf := none
  fields := #[]
  methods := #[]
  instanceTypes := #[]
  staticTypes := #[]
  resolved := #[]
  callSites := []
  init := .initialized
  statics := none
  mirror := none

def pool0 : Array CpInfo := pool [(5, u "<init>"), (0, u "()V"), (1, .class_ 10), (1, u "java/lang/Object")] 113

def k0m0 : Method := { name := "<init>", desc := "()V", sig := { parameters := [], returnType := none }, accessFlags := 1, code := none }
/-- java/lang/Object -/
def k0 : Class := { plain "java/lang/Object" none with
  accessFlags := 33
  interfaces := #[]
  cf := some (fileOf pool0 8 #[] #[{ accessFlags := 1, nameIndex := 5, descriptorIndex := 6, attributes := #[] }] 33 0 #[] #[])
  fields := #[]
  methods := #[k0m0]
  instanceTypes := #[]
  staticTypes := #[]
  resolved := Array.replicate 124 none
  statics := none }

def pool1 : Array CpInfo := pool [(2, .class_ 4), (1, u "java/lang/Object"), (0, u "<init>"), (0, u "()V"), (0, .integer 65535), (0, .long 4294977024), (1, .methodref 11 12), (0, .class_ 13), (0, .nameAndType 14 15), (0, u "com/example/catasto/catasto/UrlElement"), (0, u "isXmlSpace"), (0, u "(C)Z"), (0, .class_ 17), (0, u "com/example/catasto/catasto/UrlElementIsXmlSpacePinLaw"), (2, u "law"), (0, u "(I)Z")] 3

def k1m0 : Method := { name := "<init>", desc := "()V", sig := { parameters := [], returnType := none }, accessFlags := 2, code := none }
def k1c1 : Code := { maxStack := 4, maxLocals := 5, code := code, exceptionTable := #[], attributes := #[] }
def k1m1 : Method := { name := "law", desc := "(I)Z", sig := { parameters := [.int], returnType := some .boolean }, accessFlags := 9, code := some k1c1 }
/-- com/example/catasto/catasto/UrlElementIsXmlSpacePinLaw -/
def k1 : Class := { plain "com/example/catasto/catasto/UrlElementIsXmlSpacePinLaw" (some 0) with
  accessFlags := 49
  interfaces := #[]
  cf := some (fileOf pool1 16 #[] #[{ accessFlags := 2, nameIndex := 5, descriptorIndex := 6, attributes := #[] }, { accessFlags := 9, nameIndex := 20, descriptorIndex := 21, attributes := #[] }] 49 2 #[] #[])
  fields := #[]
  methods := #[k1m0, k1m1]
  instanceTypes := #[]
  staticTypes := #[]
  resolved := Array.replicate 25 none
  statics := none }

def pool2 : Array CpInfo := pool [(1, .class_ 2), (0, u "java/lang/constant/Constable"), (0, .class_ 4), (0, u "java/lang/Object")] 6

/-- java/lang/constant/Constable -/
def k2 : Class := { plain "java/lang/constant/Constable" (some 0) with
  accessFlags := 1537
  interfaces := #[]
  cf := some (fileOf pool2 1 #[] #[] 1537 3 #[] #[])
  fields := #[]
  methods := #[]
  instanceTypes := #[]
  staticTypes := #[]
  resolved := Array.replicate 11 none
  statics := none }

def pool3 : Array CpInfo := pool [(1, .class_ 2), (0, u "java/lang/Comparable"), (0, .class_ 4), (0, u "java/lang/Object")] 7

/-- java/lang/Comparable -/
def k3 : Class := { plain "java/lang/Comparable" (some 0) with
  accessFlags := 1537
  interfaces := #[]
  cf := some (fileOf pool3 1 #[] #[] 1537 3 #[] #[])
  fields := #[]
  methods := #[]
  instanceTypes := #[]
  staticTypes := #[]
  resolved := Array.replicate 12 none
  statics := none }

def pool4 : Array CpInfo := pool [(1, .class_ 2), (0, u "java/io/Serializable"), (0, .class_ 4), (0, u "java/lang/Object")] 2

/-- java/io/Serializable -/
def k4 : Class := { plain "java/io/Serializable" (some 0) with
  accessFlags := 1537
  interfaces := #[]
  cf := some (fileOf pool4 1 #[] #[] 1537 3 #[] #[])
  fields := #[]
  methods := #[]
  instanceTypes := #[]
  staticTypes := #[]
  resolved := Array.replicate 7 none
  statics := none }

def pool5 : Array CpInfo := pool [(2, .class_ 4), (1, u "java/lang/Enum"), (0, u "name"), (0, u "Ljava/lang/String;"), (2, u "ordinal"), (0, u "I"), (1, .class_ 14), (1, u "java/lang/Object"), (4, u "hash"), (86, .class_ 108), (1, u "java/lang/Enum$EnumDesc"), (2, .class_ 112), (0, u "java/lang/constant/Constable"), (0, .class_ 114), (0, u "java/lang/Comparable"), (0, .class_ 116), (0, u "java/io/Serializable")] 87

/-- java/lang/Enum -/
def k5 : Class := { plain "java/lang/Enum" (some 0) with
  accessFlags := 1057
  interfaces := #[2, 3, 4]
  cf := some (fileOf pool5 2 #[.nestMembers #[106]] #[] 1057 12 #[111, 113, 115] #[{ accessFlags := 18, nameIndex := 5, descriptorIndex := 6, attributes := #[] }, { accessFlags := 18, nameIndex := 9, descriptorIndex := 10, attributes := #[] }, { accessFlags := 2, nameIndex := 19, descriptorIndex := 10, attributes := #[] }])
  fields := #[{ name := "name", type := (.object "java/lang/String"), accessFlags := 18, slot := 0, constantValue := 0 }, { name := "ordinal", type := .int, accessFlags := 18, slot := 1, constantValue := 0 }, { name := "hash", type := .int, accessFlags := 2, slot := 2, constantValue := 0 }]
  methods := #[]
  instanceTypes := #[(.object "java/lang/String"), .int, .int]
  staticTypes := #[]
  resolved := Array.replicate 204 none
  statics := none }

def pool6 : Array CpInfo := pool [(1, .class_ 2), (0, u "com/example/catasto/catasto/UrlElement"), (2, u "LOC"), (0, u "Lcom/example/catasto/catasto/UrlElement;"), (2, u "LASTMOD"), (2, u "CHANGEFREQ"), (2, u "PRIORITY"), (2, u "$VALUES"), (0, u "[Lcom/example/catasto/catasto/UrlElement;"), (6, .class_ 28), (1, u "java/lang/Enum"), (8, u "mLocalName"), (0, u "Ljava/lang/String;"), (2, u "mTrimmed"), (0, u "Z"), (20, u "isXmlSpace"), (0, u "(C)Z")] 62

def k6c0 : Code := { maxStack := 2, maxLocals := 1, code := prog_38_method_6_code, exceptionTable := #[], attributes := #[] }
def k6m0 : Method := { name := "isXmlSpace", desc := "(C)Z", sig := { parameters := [.char], returnType := some .boolean }, accessFlags := 8, code := some k6c0 }
/-- com/example/catasto/catasto/UrlElement -/
def k6 : Class := { plain "com/example/catasto/catasto/UrlElement" (some 5) with
  accessFlags := 16433
  interfaces := #[]
  cf := some (fileOf pool6 1 #[] #[{ accessFlags := 8, nameIndex := 63, descriptorIndex := 64, attributes := #[] }] 16433 26 #[] #[{ accessFlags := 16409, nameIndex := 5, descriptorIndex := 6, attributes := #[] }, { accessFlags := 16409, nameIndex := 9, descriptorIndex := 6, attributes := #[] }, { accessFlags := 16409, nameIndex := 12, descriptorIndex := 6, attributes := #[] }, { accessFlags := 16409, nameIndex := 15, descriptorIndex := 6, attributes := #[] }, { accessFlags := 18, nameIndex := 37, descriptorIndex := 38, attributes := #[] }, { accessFlags := 18, nameIndex := 41, descriptorIndex := 42, attributes := #[] }, { accessFlags := 4122, nameIndex := 18, descriptorIndex := 19, attributes := #[] }])
  fields := #[{ name := "LOC", type := (.object "com/example/catasto/catasto/UrlElement"), accessFlags := 16409, slot := 0, constantValue := 0 }, { name := "LASTMOD", type := (.object "com/example/catasto/catasto/UrlElement"), accessFlags := 16409, slot := 1, constantValue := 0 }, { name := "CHANGEFREQ", type := (.object "com/example/catasto/catasto/UrlElement"), accessFlags := 16409, slot := 2, constantValue := 0 }, { name := "PRIORITY", type := (.object "com/example/catasto/catasto/UrlElement"), accessFlags := 16409, slot := 3, constantValue := 0 }, { name := "mLocalName", type := (.object "java/lang/String"), accessFlags := 18, slot := 3, constantValue := 0 }, { name := "mTrimmed", type := .boolean, accessFlags := 18, slot := 4, constantValue := 0 }, { name := "$VALUES", type := (.array (.object "com/example/catasto/catasto/UrlElement")), accessFlags := 4122, slot := 4, constantValue := 0 }]
  methods := #[k6m0]
  instanceTypes := #[(.object "java/lang/String"), .int, .int, (.object "java/lang/String"), .boolean]
  staticTypes := #[(.object "com/example/catasto/catasto/UrlElement"), (.object "com/example/catasto/catasto/UrlElement"), (.object "com/example/catasto/catasto/UrlElement"), (.object "com/example/catasto/catasto/UrlElement"), (.array (.object "com/example/catasto/catasto/UrlElement"))]
  resolved := Array.replicate 127 none
  statics := none }

def pool7 : Array CpInfo := pool [(1, u "java/lang/Cloneable"), (0, .class_ 1), (0, u "java/lang/Object"), (0, .class_ 3)] 3

/-- java/lang/Cloneable -/
def k7 : Class := { plain "java/lang/Cloneable" (some 0) with
  accessFlags := 1537
  interfaces := #[]
  cf := some (fileOf pool7 2 #[] #[] 1537 4 #[] #[])
  fields := #[]
  methods := #[]
  instanceTypes := #[]
  staticTypes := #[]
  resolved := Array.replicate 8 none
  statics := none }

/-- the primitive byte -/
def k8 : Class := { plain "byte" none with kind := .primitive 'B', accessFlags := 0x411 }
/-- [B -/
def k9 : Class := { plain "[B" (some 0) with kind := .array 8 .byte, interfaces := #[7, 4], accessFlags := 1041 }

/-- the primitive int -/
def k10 : Class := { plain "int" none with kind := .primitive 'I', accessFlags := 0x411 }
/-- [I -/
def k11 : Class := { plain "[I" (some 0) with kind := .array 10 .int, interfaces := #[7, 4], accessFlags := 1041 }

def heap : Heap := #[]
def classes : Array Class := #[k0, k1, k2, k3, k4, k5, k6, k7, k8, k9, k10, k11]
def interned : List (Array UInt16 × Addr) := []
def slotsUsed : Nat := 0
def theMethod : MethodId := ⟨1, 1⟩
def args0 : Array Value := #[.int 5]
def aboutOver (below : List Frame) : State where
  vm := { classes := classes, interned := interned.toArray }
  heap := heap
  slotsUsed := slotsUsed
  threads := #[{ frames := .invoking theMethod args0 :: below }]
def below0 : List Frame := [.native { method := ⟨0, 0⟩, args := #[] }]
def about1 : State := aboutOver below0
def p0 : Program := .bare "" "" ""
def e0 : Env := launch0.env 0 0 0
theorem w_frames : about1.frames = Frame.invoking theMethod args0 :: below0 := rfl
set_option maxRecDepth 65536 in
theorem w_args : argsFit about1.vm theMethod args0 = true := by decide +kernel
set_option maxRecDepth 65536 in
theorem w_heap : heapFits about1 = true := by decide +kernel
set_option maxRecDepth 65536 in
theorem w_runnable : about1.curStatus? = some .runnable := by decide +kernel
set_option maxRecDepth 65536 in
theorem w_alone : about1.alone = true := by decide +kernel
set_option maxRecDepth 65536 in
theorem w_named : about1.methodNamed? x = some theMethod := by decide +kernel
set_option maxRecDepth 65536 in
theorem w_hears : about1.hears theMethod below0 = true := by decide +kernel
set_option maxRecDepth 65536 in
theorem w_ripe : about1.ripe theMethod args0 below0 = true := by decide +kernel
theorem w_running : about1.status = .running := rfl
set_option maxRecDepth 65536 in
theorem w_room : about1.hasRoom e0.platform room_1 = true :=
  launch0.hasRoom_least _ room_1 (by decide +kernel) (by decide +kernel) (by decide +kernel) (by decide +kernel) (by decide +kernel) (by decide +kernel)
theorem allAtoms_all (ts : List Jvm.Cond) (a : Array Jvm.Value) (st : Jvm.State) : (allAtoms ts).before a st = ts.all (fun c => c.before a st) := by
  induction ts with
  | nil => rfl
  | cons c t ih =>
    show (Jvm.Cond.and c (allAtoms t)).before a st = _
    rw [Jvm.Cond.before_and, ih, List.all_cons]
def words1 : List Jvm.Cond := Jvm.Cond.code x code maxLocals ret :: tables_1
/-- a 'code' word, met by the world's own term for the bytes: nothing is compared byte by byte -/
theorem code_word {y : MethodName} {bytes : ByteArray} {mx : Nat} {rt : Option FieldType} {a : Array Value} {s : State} {m : MethodId} {meth : Method} {c : Code} (h1 : s.methodNamed? y = some m) (h2 : s.vm.method? m = some meth) (h3 : meth.code = some c) (h4 : c.code = bytes)
    (h5 : (c.maxLocals == mx && c.exceptionTable.isEmpty && decide (c.maxStack ≤ mostOperands) && decide (meth.sig.returnType = rt) && !meth.locks && decide (parseMethodDescriptor y.desc = some meth.sig)) = true) : (Jvm.Cond.code y bytes mx rt).before a s = true := by
  simp only [Bool.and_eq_true, beq_iff_eq, Bool.not_eq_true', decide_eq_true_eq] at h5
  obtain ⟨⟨⟨⟨⟨g1, g2⟩, g3⟩, g4⟩, g5⟩, g6⟩ := h5
  simp [Cond.before, Cond.holds, Cond.value, h1, h2, h3, h4, g1, g2, g3, g4, g5, g6]
def isCode : Jvm.Cond → Bool
  | .code _ _ _ _ => true
  | _ => false
theorem all_split {L : List Jvm.Cond} {P : Jvm.Cond → Bool} (h1 : L.all (fun c => isCode c || P c) = true) (h2 : ∀ c ∈ L.filter isCode, P c = true) : L.all P = true := by
  refine List.all_eq_true.mpr fun c hc => ?_
  have h := List.all_eq_true.mp h1 c hc
  rcases Bool.eq_false_or_eq_true (isCode c) with hi | hi
  · exact h2 c (List.mem_filter.mpr ⟨hc, hi⟩)
  · simpa [hi] using h
set_option maxRecDepth 65536 in
theorem w_c0 : (Jvm.Cond.code x code maxLocals ret).before args0 about1 = true := code_word (m := ⟨1, 1⟩) (meth := k1m1) (c := k1c1) (by decide +kernel) rfl rfl rfl (by decide +kernel)
set_option maxRecDepth 65536 in
theorem w_c1 : (Jvm.Cond.code ({ cls := "com/example/catasto/catasto/UrlElement", name := "isXmlSpace", desc := "(C)Z" } : Jvm.MethodName) prog_38_method_6_code (1 : Nat) (Option.some Jvm.ClassFile.FieldType.boolean)).before args0 about1 = true := code_word (m := ⟨6, 0⟩) (meth := k6m0) (c := k6c0) (by decide +kernel) rfl rfl rfl (by decide +kernel)
def codes1 : List Jvm.Cond := [Jvm.Cond.code x code maxLocals ret, Jvm.Cond.code ({ cls := "com/example/catasto/catasto/UrlElement", name := "isXmlSpace", desc := "(C)Z" } : Jvm.MethodName) prog_38_method_6_code (1 : Nat) (Option.some Jvm.ClassFile.FieldType.boolean)]
set_option maxRecDepth 65536 in
theorem codes_eq : words1.filter isCode = codes1 := rfl
theorem w_codes : ∀ c ∈ words1.filter isCode, c.before args0 about1 = true := by
  rw [codes_eq]
  intro c hc
  simp only [codes1, List.mem_cons, List.not_mem_nil, or_false] at hc
  rcases hc with rfl | rfl
  · exact w_c0
  · exact w_c1
set_option maxRecDepth 65536 in
theorem w_t1 : words1.all (fun c => isCode c || c.before args0 about1) = true := by decide +kernel
theorem w_tables : (allAtoms (Jvm.Cond.code x code maxLocals ret :: tables_1)).before args0 about1 = true := by
  rw [allAtoms_all]
  show words1.all (fun c => c.before args0 about1) = true
  refine all_split ?_ w_codes
  rw [w_t1]
set_option maxRecDepth 65536 in
theorem w_case : (Jvm.Cond.and given_1 narrow_1).before args0 about1 = true := by decide +kernel
theorem w_applies : (headSpec (Jvm.Cond.code x code maxLocals ret :: tables_1) room_1).applies x e0.platform about1 = true :=
  (Spec.applies_iff w_frames).mpr ⟨w_running, w_runnable, w_alone, w_named, w_hears, w_ripe, w_room, w_tables⟩
theorem atStart : AtStart classFile x code maxLocals ret World_1 tables_1 room_1 Calls_1 rest_1 Pre_1 launch0 p0 e0 about1 theMethod args0 below0 :=
  ⟨lists_1, trivial, launch0.admits_env _ _ _, launch0.least_env, fairChoices_fair.cas, fairChoices_fair.clock, w_frames, w_args, w_heap, w_applies, trivial, trivial, w_case⟩
end start1
theorem witness_1 : WitnessClaimed_1 := ⟨start1.p0, start1.e0, start1.about1, start1.theMethod, start1.args0, start1.below0, start1.atStart⟩
end Jvm.Pilot.@@N@@
