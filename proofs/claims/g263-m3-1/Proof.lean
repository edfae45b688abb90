import JvmDerived
import JvmDerived.Pilot.@@N@@Statement
import JvmDerived.Pilot.@@N@@Code
set_option linter.unusedVariables false
set_option linter.unusedSimpArgs false
@@BLOCK:NumsL.lean.txt@@
namespace Jvm.Pilot.@@N@@
open Jvm Jvm.ClassFile Sem Op Lib Jvm.Free Jvm.Stand Jvm.LawKit Jvm.RoadKit Bundle Jvm.Pilot.@@N@@.Jvm.D
def Goes (tb : Tables) (e : Env) (below : List Frame) (G : State → Outcome → Prop) (A : State) : Prop := ∃ s₂ o, Steps tb e below A s₂ ∧ s₂.status = .running ∧ Ended s₂ below o ∧ G s₂ o
theorem go {tb : Tables} {e : Env} {below : List Frame} {G : State → Outcome → Prop} {A B : State} (h : ∀ t, Steps tb e below B t → Steps tb e below A t) (k : Goes tb e below G B) : Goes tb e below G A := by
  obtain ⟨s₂, o, h1, h2⟩ := k; exact ⟨s₂, o, h _ h1, h2⟩
theorem goEnd {tb : Tables} {e : Env} {below : List Frame} {G : State → Outcome → Prop} {A B : State} (h : ∀ t, Steps tb e below B t → Steps tb e below A t) (k : Goes tb e below G B) : ∃ s₂ o, Steps tb e below A s₂ ∧ s₂.status = .running ∧ Ended s₂ below o ∧ G s₂ o := go h k
theorem own_sta_keep {Z : State} {h h' : Heap} {C n d K : String} {v : Value} {a : Addr} (S : Sta Z h C n d v) (E : Exa Z h a K) (Kp : Keep h h' [a]) : Sta Z h' C n d v := by
  obtain ⟨cf, i, k, f, st, cell, h1, h2, h3, h4, h5, h6, h7⟩ := S
  obtain ⟨c', k', e1, -, -, e4, -⟩ := E
  refine ⟨cf, i, k, f, st, cell, h1, h2, h3, h4, Kp.2.1 st cell h5 (fun q => ?_), h6, h7⟩
  have q' : st = a := by simpa using q
  subst q'
  cases h5.symm.trans e1
  rw [e4] at h6; cases h6
abbrev iv (x : Int32) : Slot := .val (.int x)
abbrev jv (x : Int64) : Slot := .val (.long x)
abbrev rv (x : Addr) : Slot := .val (.ref x)
abbrev Go (p : Program) (e : Env) (below : List Frame) (G : State → Outcome → Prop) (m : MethodId) (T : State) (pc : Nat) (L : Array Slot) (S : List Value) : Prop := Goes p.tables e below G (T.setTop (mkF m pc L S))
theorem d5_0 : decode jdk_22_method_1_code 0 = .ok (.aload_n 0, 1) := by decide +kernel
theorem d5_1 : decode jdk_22_method_1_code 1 = .ok (.invokespecial 1, 3) := by decide +kernel
theorem d5_4 : decode jdk_22_method_1_code 4 = .ok (.return_, 1) := by decide +kernel
theorem pn_5 : plainName "java/util/AbstractCollection" = true := by first | (simp [plainName, overriddenIn]; done) | decide +kernel
theorem ef_5 (m : MethodId) (o0 : Addr) : entryFrame m #[(.ref o0)] 1 = mkF m 0 #[rv o0] [] := by first | (simp [entryFrame, mkF, argsToLocals, Value.category]; done) | rfl
def Q5 (Z : State) (o0 : Addr) (h0 : Heap) (n0 : Nat) (v : Option Value) (h : Heap) (L : List Loc) : Prop := v = none ∧ Fr n0 L ∧ h = h0
set_option maxRecDepth 65536 in
set_option maxHeartbeats 40000000 in
theorem rm5 (l : Launch) (Z : State) (a0 : Array Value) (hw : ∀ d ∈ tables_1, d.before a0 Z = true) (ws : List Jvm.Cond) (o0 : Addr) (h0 : Heap) (n0 : Nat) (Z0 : n0 ≤ h0.size)  :
    MetFree l (⟨"java/util/AbstractCollection", "<init>", "()V"⟩ : MethodName) (head1 (Jvm.Cond.code (⟨"java/util/AbstractCollection", "<init>", "()V"⟩ : MethodName) jdk_22_method_1_code 1 none :: ws) ({ frames := 1, cells := 0, slots := 0, locals := 12 } : Room)) (fun a U => a = #[(.ref o0)] ∧ Z.Warmed39 U.vm ∧ U.heap = h0) (fun _ _ _ _ _ => True) (fun _ U o U' => ∃ v L, o = .returned v ∧ Q5 Z o0 h0 n0 v U'.heap L ∧ FrameEnd U o U' L ({ frames := 1, cells := 0, slots := 0, locals := 12 } : Room).cells ({ frames := 1, cells := 0, slots := 0, locals := 12 } : Room).slots) := by
  refine MetFree.of_bodySF (plainFor_of_name pn_5) hisR ?_
  intro p e s m args below meth c s₁ Bd hml0 hP hK
  obtain ⟨rfl, hZ, hh⟩ := hP
  have hx := Bd.exec
  have hby := Bd.bytes
  have hml : c.maxLocals = 1 := hml0
  have hown : s.vm.findClass "java/util/AbstractCollection" = some m.cls := findClass_of_methodNamed Bd.named
  have hnm := (name_of_methodNamed Bd.named Bd.method).1
  have X0 : Stand p l e ({ frames := 1, cells := 0, slots := 0, locals := 12 } : Room) s m #[(.ref o0)] below meth c s₁ [] 0 0 := Stand.of_body Bd
  have e0 : s₁.heap = h0 := by rw [← hh, Bd.state]; rfl
  have N0 := Fr.nil n0
  have K0 := Keep.refl h0 []
  suffices hgo : Goes p.tables e below (fun s₂ o => ∃ v L, o = .returned v ∧ Q5 Z o0 h0 n0 v s₂.heap L ∧ FrameEnd s o s₂ L ({ frames := 1, cells := 0, slots := 0, locals := 12 } : Room).cells ({ frames := 1, cells := 0, slots := 0, locals := 12 } : Room).slots) (s₁.setTop (mkF m 0 #[rv o0] [])) from goEnd (fun t k => castTop (ef_5 m o0) k) hgo
  refine go (fun t kt => XS.aloadN X0.here hx rfl (hb hby d5_0) rfl rfl kt) ?_
  show Go p e below _ m s₁ 1 #[rv o0] [(.ref o0)]
  obtain ⟨T1, X1, e1, st1⟩ := initO X0 hx hZ hown (hw _ (List.mem_of_getElem? (i := 28) rfl)) (hw _ (List.mem_of_getElem? (i := 8) rfl)) (hw _ (List.mem_of_getElem? (i := 9) rfl)) e0 (g := (mkF m 1 #[rv o0] [(.ref o0)])) rfl (by rw [hml]; rfl) rfl (hb hby d5_1) (by decide) (W := 0) (by show 2 * 0 + _ ≤ _; exact Nat.le_of_eq rfl) (by decide)
  refine go st1 ?_
  show Go p e below _ m T1 4 #[rv o0] []
  obtain ⟨fs, hr, hrun, hended, hW, hsame⟩ := X1.leave (v := none) (fun _ => rfl)
  refine ⟨_, _, X1.returnOut hx Bd.returns (hb hby d5_4) hr, hrun, hended, _, _, rfl, ?_, ⟨_, rfl⟩, hW, hsame.mono (by decide) (by decide)⟩
  show Q5 Z o0 h0 n0 _ T1.heap _
  rw [e1]
  exact ⟨rfl, N0, rfl⟩
theorem d4_0 : decode jdk_39_method_1_code 0 = .ok (.aload_n 0, 1) := by decide +kernel
theorem pd_0 : parseMethodDescriptor "()V" = some ⟨[], none⟩ := by decide +kernel
theorem d4_1 : decode jdk_39_method_1_code 1 = .ok (.invokespecial 1, 3) := by decide +kernel
theorem d4_4 : decode jdk_39_method_1_code 4 = .ok (.aload_n 0, 1) := by decide +kernel
theorem d4_5 : decode jdk_39_method_1_code 5 = .ok (.iconst 0, 1) := by decide +kernel
theorem d4_6 : decode jdk_39_method_1_code 6 = .ok (.putfield 7, 3) := by decide +kernel
theorem d4_9 : decode jdk_39_method_1_code 9 = .ok (.return_, 1) := by decide +kernel
theorem pn_4 : plainName "java/util/AbstractList" = true := by first | (simp [plainName, overriddenIn]; done) | decide +kernel
theorem ef_4 (m : MethodId) (o0 : Addr) : entryFrame m #[(.ref o0)] 1 = mkF m 0 #[rv o0] [] := by first | (simp [entryFrame, mkF, argsToLocals, Value.category]; done) | rfl
def Q4 (Z : State) (o0 : Addr) (u1 : Value) (u2 : Value) (h0 : Heap) (n0 : Nat) (v : Option Value) (h : Heap) (L : List Loc) : Prop := v = none ∧ Fr n0 L ∧ Keep h0 h [o0] ∧ Exa Z h o0 "java/util/ArrayList" ∧ Fld Z h o0 "java/util/AbstractList" "modCount" "I" (.int (0 : Int32)) ∧ Fld Z h o0 "java/util/ArrayList" "elementData" "[Ljava/lang/Object;" u2
set_option maxRecDepth 65536 in
set_option maxHeartbeats 40000000 in
theorem rm4 (l : Launch) (Z : State) (a0 : Array Value) (hw : ∀ d ∈ tables_1, d.before a0 Z = true) (ws : List Jvm.Cond) (o0 : Addr) (u1 : Value) (u2 : Value) (h0 : Heap) (n0 : Nat) (Z0 : n0 ≤ h0.size) (E_o0 : Exa Z h0 o0 "java/util/ArrayList") (F_modCount_o0 : Fld Z h0 o0 "java/util/AbstractList" "modCount" "I" u1) (F_elementData_o0 : Fld Z h0 o0 "java/util/ArrayList" "elementData" "[Ljava/lang/Object;" u2) (g_o0 : n0 ≤ o0) :
    MetFree l (⟨"java/util/AbstractList", "<init>", "()V"⟩ : MethodName) (head1 (Jvm.Cond.code (⟨"java/util/AbstractList", "<init>", "()V"⟩ : MethodName) jdk_39_method_1_code 1 none :: ws) ({ frames := 2, cells := 0, slots := 0, locals := 24 } : Room)) (fun a U => a = #[(.ref o0)] ∧ Z.Warmed39 U.vm ∧ U.heap = h0) (fun _ _ _ _ _ => True) (fun _ U o U' => ∃ v L, o = .returned v ∧ Q4 Z o0 u1 u2 h0 n0 v U'.heap L ∧ FrameEnd U o U' L ({ frames := 2, cells := 0, slots := 0, locals := 24 } : Room).cells ({ frames := 2, cells := 0, slots := 0, locals := 24 } : Room).slots) := by
  refine MetFree.of_bodySF (plainFor_of_name pn_4) hisR ?_
  intro p e s m args below meth c s₁ Bd hml0 hP hK
  obtain ⟨rfl, hZ, hh⟩ := hP
  have hx := Bd.exec
  have hby := Bd.bytes
  have hml : c.maxLocals = 1 := hml0
  have hown : s.vm.findClass "java/util/AbstractList" = some m.cls := findClass_of_methodNamed Bd.named
  have hnm := (name_of_methodNamed Bd.named Bd.method).1
  have X0 : Stand p l e ({ frames := 2, cells := 0, slots := 0, locals := 24 } : Room) s m #[(.ref o0)] below meth c s₁ [] 0 0 := Stand.of_body Bd
  have e0 : s₁.heap = h0 := by rw [← hh, Bd.state]; rfl
  have N0 := Fr.nil n0
  have K0 := Keep.refl h0 [o0]
  suffices hgo : Goes p.tables e below (fun s₂ o => ∃ v L, o = .returned v ∧ Q4 Z o0 u1 u2 h0 n0 v s₂.heap L ∧ FrameEnd s o s₂ L ({ frames := 2, cells := 0, slots := 0, locals := 24 } : Room).cells ({ frames := 2, cells := 0, slots := 0, locals := 24 } : Room).slots) (s₁.setTop (mkF m 0 #[rv o0] [])) from goEnd (fun t k => castTop (ef_4 m o0) k) hgo
  refine go (fun t kt => XS.aloadN X0.here hx rfl (hb hby d4_0) rfl rfl kt) ?_
  show Go p e below _ m s₁ 1 #[rv o0] [(.ref o0)]
  obtain ⟨_, _, ⟨T1, L1, k1, n1⟩, -, X1, ⟨Lc1, hQ1, l1, y1, z1⟩, st1⟩ := X0.specialBack hx (y := (⟨"java/util/AbstractCollection", "<init>", "()V"⟩ : MethodName)) rfl hown (mvT hZ (hw _ (List.mem_of_getElem? (i := 22) rfl))) (mvT hZ (hw _ (List.mem_of_getElem? (i := 23) rfl))) (mvT hZ (hw _ (List.mem_of_getElem? (i := 27) rfl))) (by decide) (backOf (W := 0) (rm5 l Z a0 hw [] o0 h0 n0 Z0 ) hZ (hw _ (List.mem_of_getElem? (i := 27) rfl)) (hw _ (List.mem_of_getElem? (i := 26) rfl)) (by decide) (by decide)) (g := (mkF m 1 #[rv o0] [(.ref o0)])) rfl (by rw [hml]; rfl) (Steps.refl _) (a := o0) (argsL := []) (rest := []) (lenOf pd_0 rfl) rfl (by show 2 * 0 + _ ≤ _; exact Nat.le_of_eq rfl) (hb hby d4_1) (fun _ _ => ⟨rfl, e0, (by decide : 0 + 0 ≤ _), (by decide : 0 + 0 ≤ _)⟩)
  dsimp only [Pt.U, Pt.locs, Pt.cells, Pt.slots] at X1 l1 y1 z1 st1 hQ1
  subst l1 y1 z1
  obtain ⟨rfl, Nq1, e1⟩ := hQ1
  have N1 := Fr.app N0 Nq1
  refine go (fun t kt => st1.trans kt) ?_
  show Go p e below _ m T1 4 #[rv o0] []
  refine go (fun t kt => XS.aloadN X1.here hx rfl (hb hby d4_4) rfl rfl kt) ?_
  show Go p e below _ m T1 5 #[rv o0] [(.ref o0)]
  refine go (fun t kt => XS.iconst X1.here hx rfl (hb hby d4_5) kt) ?_
  show Go p e below _ m T1 6 #[rv o0] [(.int (0 : Int32)), (.ref o0)]
  obtain ⟨T2, h2, X2, e2, W2, st2⟩ := putF X1 hx hZ hown (host := "") (Or.inl (hw _ (List.mem_of_getElem? (i := 29) rfl))) Via.refl e1 F_modCount_o0 E_o0 (Or.inl (hw _ (List.mem_of_getElem? (i := 30) rfl))) (hw _ (List.mem_of_getElem? (i := 11) rfl)) (ty := .int) (by decide) rfl rfl (g := (mkF m 6 #[rv o0] [(.int (0 : Int32)), (.ref o0)])) rfl rfl (hb hby d4_6)
  replace F_modCount_o0 := F_modCount_o0.same W2
  replace E_o0 := E_o0.wr W2
  replace F_elementData_o0 := F_elementData_o0.other W2 (Or.inr (slot_ne (Or.inl (hw _ (List.mem_of_getElem? (i := 33) rfl))) (Or.inl (hw _ (List.mem_of_getElem? (i := 30) rfl))) (by decide) (t := (.array (.object "java/lang/Object"))) (t' := .int) (by decide) (by decide)))
  have Zz2 := Nat.le_trans Z0 (Keep.of_wr W2).1
  have Kk2 := K0.wr W2 (Or.inl (List.mem_of_getElem? (i := 0) rfl))
  have N2 := Fr.snoc X2 N1 g_o0
  refine go st2 ?_
  show Go p e below _ m T2 9 #[rv o0] []
  obtain ⟨fs, hr, hrun, hended, hW, hsame⟩ := X2.leave (v := none) (fun _ => rfl)
  refine ⟨_, _, X2.returnOut hx Bd.returns (hb hby d4_9) hr, hrun, hended, _, _, rfl, ?_, ⟨_, rfl⟩, hW, hsame.mono (by decide) (by decide)⟩
  show Q4 Z o0 u1 u2 h0 n0 _ T2.heap _
  rw [e2]
  exact ⟨rfl, N2, Kk2, E_o0, F_modCount_o0, F_elementData_o0⟩
theorem d3_0 : decode jdk_38_method_2_code 0 = .ok (.aload_n 0, 1) := by decide +kernel
theorem d3_1 : decode jdk_38_method_2_code 1 = .ok (.invokespecial 1, 3) := by decide +kernel
theorem d3_4 : decode jdk_38_method_2_code 4 = .ok (.aload_n 0, 1) := by decide +kernel
theorem d3_5 : decode jdk_38_method_2_code 5 = .ok (.getstatic 39, 3) := by decide +kernel
theorem d3_8 : decode jdk_38_method_2_code 8 = .ok (.putfield 9, 3) := by decide +kernel
theorem d3_11 : decode jdk_38_method_2_code 11 = .ok (.return_, 1) := by decide +kernel
theorem pn_3 : plainName "java/util/ArrayList" = true := by first | (simp [plainName, overriddenIn]; done) | decide +kernel
theorem ef_3 (m : MethodId) (o0 : Addr) : entryFrame m #[(.ref o0)] 1 = mkF m 0 #[rv o0] [] := by first | (simp [entryFrame, mkF, argsToLocals, Value.category]; done) | rfl
def Q3 (Z : State) (o0 : Addr) (u1 : Value) (u2 : Value) (sd : Addr) (h0 : Heap) (n0 : Nat) (v : Option Value) (h : Heap) (L : List Loc) : Prop := v = none ∧ Fr n0 L ∧ Keep h0 h [o0] ∧ Exa Z h o0 "java/util/ArrayList" ∧ Fld Z h o0 "java/util/AbstractList" "modCount" "I" (.int (0 : Int32)) ∧ Fld Z h o0 "java/util/ArrayList" "elementData" "[Ljava/lang/Object;" (.ref sd)
set_option maxRecDepth 65536 in
set_option maxHeartbeats 40000000 in
theorem rm3 (l : Launch) (Z : State) (a0 : Array Value) (hw : ∀ d ∈ tables_1, d.before a0 Z = true) (ws : List Jvm.Cond) (o0 : Addr) (u1 : Value) (u2 : Value) (sd : Addr) (h0 : Heap) (n0 : Nat) (Z0 : n0 ≤ h0.size) (E_o0 : Exa Z h0 o0 "java/util/ArrayList") (F_modCount_o0 : Fld Z h0 o0 "java/util/AbstractList" "modCount" "I" u1) (F_elementData_o0 : Fld Z h0 o0 "java/util/ArrayList" "elementData" "[Ljava/lang/Object;" u2) (S_DEFAULTCAPACITY_EMPTY_ELEMENTDATA : Sta Z h0 "java/util/ArrayList" "DEFAULTCAPACITY_EMPTY_ELEMENTDATA" "[Ljava/lang/Object;" (.ref sd)) (g_o0 : n0 ≤ o0) :
    MetFree l (⟨"java/util/ArrayList", "<init>", "()V"⟩ : MethodName) (head1 (Jvm.Cond.code (⟨"java/util/ArrayList", "<init>", "()V"⟩ : MethodName) jdk_38_method_2_code 1 none :: ws) ({ frames := 3, cells := 0, slots := 0, locals := 36 } : Room)) (fun a U => a = #[(.ref o0)] ∧ Z.Warmed39 U.vm ∧ U.heap = h0) (fun _ _ _ _ _ => True) (fun _ U o U' => ∃ v L, o = .returned v ∧ Q3 Z o0 u1 u2 sd h0 n0 v U'.heap L ∧ FrameEnd U o U' L ({ frames := 3, cells := 0, slots := 0, locals := 36 } : Room).cells ({ frames := 3, cells := 0, slots := 0, locals := 36 } : Room).slots) := by
  refine MetFree.of_bodySF (plainFor_of_name pn_3) hisR ?_
  intro p e s m args below meth c s₁ Bd hml0 hP hK
  obtain ⟨rfl, hZ, hh⟩ := hP
  have hx := Bd.exec
  have hby := Bd.bytes
  have hml : c.maxLocals = 1 := hml0
  have hown : s.vm.findClass "java/util/ArrayList" = some m.cls := findClass_of_methodNamed Bd.named
  have hnm := (name_of_methodNamed Bd.named Bd.method).1
  have X0 : Stand p l e ({ frames := 3, cells := 0, slots := 0, locals := 36 } : Room) s m #[(.ref o0)] below meth c s₁ [] 0 0 := Stand.of_body Bd
  have e0 : s₁.heap = h0 := by rw [← hh, Bd.state]; rfl
  have N0 := Fr.nil n0
  have K0 := Keep.refl h0 [o0]
  suffices hgo : Goes p.tables e below (fun s₂ o => ∃ v L, o = .returned v ∧ Q3 Z o0 u1 u2 sd h0 n0 v s₂.heap L ∧ FrameEnd s o s₂ L ({ frames := 3, cells := 0, slots := 0, locals := 36 } : Room).cells ({ frames := 3, cells := 0, slots := 0, locals := 36 } : Room).slots) (s₁.setTop (mkF m 0 #[rv o0] [])) from goEnd (fun t k => castTop (ef_3 m o0) k) hgo
  refine go (fun t kt => XS.aloadN X0.here hx rfl (hb hby d3_0) rfl rfl kt) ?_
  show Go p e below _ m s₁ 1 #[rv o0] [(.ref o0)]
  obtain ⟨_, _, ⟨T1, L1, k1, n1⟩, -, X1, ⟨Lc1, hQ1, l1, y1, z1⟩, st1⟩ := X0.specialBack hx (y := (⟨"java/util/AbstractList", "<init>", "()V"⟩ : MethodName)) rfl hown (mvT hZ (hw _ (List.mem_of_getElem? (i := 16) rfl))) (mvT hZ (hw _ (List.mem_of_getElem? (i := 17) rfl))) (mvT hZ (hw _ (List.mem_of_getElem? (i := 21) rfl))) (by decide) (backOf (W := 0) (rm4 l Z a0 hw [] o0 u1 u2 h0 n0 Z0 E_o0 F_modCount_o0 F_elementData_o0 g_o0) hZ (hw _ (List.mem_of_getElem? (i := 21) rfl)) (hw _ (List.mem_of_getElem? (i := 20) rfl)) (by decide) (by decide)) (g := (mkF m 1 #[rv o0] [(.ref o0)])) rfl (by rw [hml]; rfl) (Steps.refl _) (a := o0) (argsL := []) (rest := []) (lenOf pd_0 rfl) rfl (by show 2 * 0 + _ ≤ _; exact Nat.le_of_eq rfl) (hb hby d3_1) (fun _ _ => ⟨rfl, e0, (by decide : 0 + 0 ≤ _), (by decide : 0 + 0 ≤ _)⟩)
  dsimp only [Pt.U, Pt.locs, Pt.cells, Pt.slots] at X1 l1 y1 z1 st1 hQ1
  subst l1 y1 z1
  obtain ⟨rfl, Nq1, Kq1, Eq1_o0, Fq1_modCount_o0, Fq1_elementData_o0⟩ := hQ1
  replace S_DEFAULTCAPACITY_EMPTY_ELEMENTDATA := own_sta_keep S_DEFAULTCAPACITY_EMPTY_ELEMENTDATA E_o0 Kq1
  replace E_o0 := E_o0.keep Kq1
  clear F_modCount_o0
  clear F_elementData_o0
  have Zz1 := Nat.le_trans Z0 Kq1.1
  have Kk1 := K0.trans Kq1 (allS (Or.inl (List.mem_of_getElem? (i := 0) rfl)) all0)
  have E_o0 := Eq1_o0
  have F_modCount_o0 := Fq1_modCount_o0
  have F_elementData_o0 := Fq1_elementData_o0
  have N1 := Fr.app N0 Nq1
  refine go (fun t kt => st1.trans kt) ?_
  show Go p e below _ m T1 4 #[rv o0] []
  refine go (fun t kt => XS.aloadN X1.here hx rfl (hb hby d3_4) rfl rfl kt) ?_
  show Go p e below _ m T1 5 #[rv o0] [(.ref o0)]
  obtain ⟨T2, X2, e2, st2⟩ := getS2 X1 hx hZ hown (host := "") (Or.inl (hw _ (List.mem_of_getElem? (i := 31) rfl))) Via.refl rfl S_DEFAULTCAPACITY_EMPTY_ELEMENTDATA (g := (mkF m 5 #[rv o0] [(.ref o0)])) rfl (hb hby d3_5)
  refine go st2 ?_
  show Go p e below _ m T2 8 #[rv o0] [(.ref sd), (.ref o0)]
  obtain ⟨T3, h3, X3, e3, W3, st3⟩ := putF X2 hx hZ hown (host := "") (Or.inl (hw _ (List.mem_of_getElem? (i := 32) rfl))) Via.refl e2 F_elementData_o0 E_o0 (Or.inl (hw _ (List.mem_of_getElem? (i := 33) rfl))) (hw _ (List.mem_of_getElem? (i := 11) rfl)) (ty := (.array (.object "java/lang/Object"))) (by decide) rfl rfl (g := (mkF m 8 #[rv o0] [(.ref sd), (.ref o0)])) rfl rfl (hb hby d3_8)
  replace F_elementData_o0 := F_elementData_o0.same W3
  replace E_o0 := E_o0.wr W3
  replace S_DEFAULTCAPACITY_EMPTY_ELEMENTDATA := S_DEFAULTCAPACITY_EMPTY_ELEMENTDATA.wr W3
  replace F_modCount_o0 := F_modCount_o0.other W3 (Or.inr (slot_ne (Or.inl (hw _ (List.mem_of_getElem? (i := 30) rfl))) (Or.inl (hw _ (List.mem_of_getElem? (i := 33) rfl))) (by decide) (t := .int) (t' := (.array (.object "java/lang/Object"))) (by decide) (by decide)))
  have Zz3 := Nat.le_trans Zz1 (Keep.of_wr W3).1
  have Kk3 := Kk1.wr W3 (Or.inl (List.mem_of_getElem? (i := 0) rfl))
  have N3 := Fr.snoc X3 N1 g_o0
  refine go st3 ?_
  show Go p e below _ m T3 11 #[rv o0] []
  obtain ⟨fs, hr, hrun, hended, hW, hsame⟩ := X3.leave (v := none) (fun _ => rfl)
  refine ⟨_, _, X3.returnOut hx Bd.returns (hb hby d3_11) hr, hrun, hended, _, _, rfl, ?_, ⟨_, rfl⟩, hW, hsame.mono (by decide) (by decide)⟩
  show Q3 Z o0 u1 u2 sd h0 n0 _ T3.heap _
  rw [e3]
  exact ⟨rfl, N3, Kk3, E_o0, F_modCount_o0, F_elementData_o0⟩
theorem d7_0 : decode jdk_71_method_1_code 0 = .ok (.aload_n 0, 1) := by decide +kernel
theorem d7_1 : decode jdk_71_method_1_code 1 = .ok (.invokespecial 1, 3) := by decide +kernel
theorem d7_4 : decode jdk_71_method_1_code 4 = .ok (.return_, 1) := by decide +kernel
theorem pn_7 : plainName "java/util/AbstractMap" = true := by first | (simp [plainName, overriddenIn]; done) | decide +kernel
theorem ef_7 (m : MethodId) (o0 : Addr) : entryFrame m #[(.ref o0)] 1 = mkF m 0 #[rv o0] [] := by first | (simp [entryFrame, mkF, argsToLocals, Value.category]; done) | rfl
def Q7 (Z : State) (o0 : Addr) (h0 : Heap) (n0 : Nat) (v : Option Value) (h : Heap) (L : List Loc) : Prop := v = none ∧ Fr n0 L ∧ h = h0
set_option maxRecDepth 65536 in
set_option maxHeartbeats 40000000 in
theorem rm7 (l : Launch) (Z : State) (a0 : Array Value) (hw : ∀ d ∈ tables_1, d.before a0 Z = true) (ws : List Jvm.Cond) (o0 : Addr) (h0 : Heap) (n0 : Nat) (Z0 : n0 ≤ h0.size)  :
    MetFree l (⟨"java/util/AbstractMap", "<init>", "()V"⟩ : MethodName) (head1 (Jvm.Cond.code (⟨"java/util/AbstractMap", "<init>", "()V"⟩ : MethodName) jdk_71_method_1_code 1 none :: ws) ({ frames := 1, cells := 0, slots := 0, locals := 12 } : Room)) (fun a U => a = #[(.ref o0)] ∧ Z.Warmed39 U.vm ∧ U.heap = h0) (fun _ _ _ _ _ => True) (fun _ U o U' => ∃ v L, o = .returned v ∧ Q7 Z o0 h0 n0 v U'.heap L ∧ FrameEnd U o U' L ({ frames := 1, cells := 0, slots := 0, locals := 12 } : Room).cells ({ frames := 1, cells := 0, slots := 0, locals := 12 } : Room).slots) := by
  refine MetFree.of_bodySF (plainFor_of_name pn_7) hisR ?_
  intro p e s m args below meth c s₁ Bd hml0 hP hK
  obtain ⟨rfl, hZ, hh⟩ := hP
  have hx := Bd.exec
  have hby := Bd.bytes
  have hml : c.maxLocals = 1 := hml0
  have hown : s.vm.findClass "java/util/AbstractMap" = some m.cls := findClass_of_methodNamed Bd.named
  have hnm := (name_of_methodNamed Bd.named Bd.method).1
  have X0 : Stand p l e ({ frames := 1, cells := 0, slots := 0, locals := 12 } : Room) s m #[(.ref o0)] below meth c s₁ [] 0 0 := Stand.of_body Bd
  have e0 : s₁.heap = h0 := by rw [← hh, Bd.state]; rfl
  have N0 := Fr.nil n0
  have K0 := Keep.refl h0 []
  suffices hgo : Goes p.tables e below (fun s₂ o => ∃ v L, o = .returned v ∧ Q7 Z o0 h0 n0 v s₂.heap L ∧ FrameEnd s o s₂ L ({ frames := 1, cells := 0, slots := 0, locals := 12 } : Room).cells ({ frames := 1, cells := 0, slots := 0, locals := 12 } : Room).slots) (s₁.setTop (mkF m 0 #[rv o0] [])) from goEnd (fun t k => castTop (ef_7 m o0) k) hgo
  refine go (fun t kt => XS.aloadN X0.here hx rfl (hb hby d7_0) rfl rfl kt) ?_
  show Go p e below _ m s₁ 1 #[rv o0] [(.ref o0)]
  obtain ⟨T1, X1, e1, st1⟩ := initO X0 hx hZ hown (hw _ (List.mem_of_getElem? (i := 52) rfl)) (hw _ (List.mem_of_getElem? (i := 8) rfl)) (hw _ (List.mem_of_getElem? (i := 9) rfl)) e0 (g := (mkF m 1 #[rv o0] [(.ref o0)])) rfl (by rw [hml]; rfl) rfl (hb hby d7_1) (by decide) (W := 0) (by show 2 * 0 + _ ≤ _; exact Nat.le_of_eq rfl) (by decide)
  refine go st1 ?_
  show Go p e below _ m T1 4 #[rv o0] []
  obtain ⟨fs, hr, hrun, hended, hW, hsame⟩ := X1.leave (v := none) (fun _ => rfl)
  refine ⟨_, _, X1.returnOut hx Bd.returns (hb hby d7_4) hr, hrun, hended, _, _, rfl, ?_, ⟨_, rfl⟩, hW, hsame.mono (by decide) (by decide)⟩
  show Q7 Z o0 h0 n0 _ T1.heap _
  rw [e1]
  exact ⟨rfl, N0, rfl⟩
theorem d6_0 : decode jdk_69_method_7_code 0 = .ok (.aload_n 0, 1) := by decide +kernel
theorem d6_1 : decode jdk_69_method_7_code 1 = .ok (.invokespecial 43, 3) := by decide +kernel
theorem d6_4 : decode jdk_69_method_7_code 4 = .ok (.aload_n 0, 1) := by decide +kernel
theorem d6_5 : decode jdk_69_method_7_code 5 = .ok (.ldc 92, 2) := by decide +kernel
theorem d6_7 : decode jdk_69_method_7_code 7 = .ok (.putfield 81, 3) := by decide +kernel
theorem d6_10 : decode jdk_69_method_7_code 10 = .ok (.return_, 1) := by decide +kernel
theorem pn_6 : plainName "java/util/HashMap" = true := by first | (simp [plainName, overriddenIn]; done) | decide +kernel
theorem ef_6 (m : MethodId) (o0 : Addr) : entryFrame m #[(.ref o0)] 1 = mkF m 0 #[rv o0] [] := by first | (simp [entryFrame, mkF, argsToLocals, Value.category]; done) | rfl
def Q6 (Z : State) (o0 : Addr) (u1 : Value) (h0 : Heap) (n0 : Nat) (v : Option Value) (h : Heap) (L : List Loc) : Prop := v = none ∧ Fr n0 L ∧ Keep h0 h [o0] ∧ Exa Z h o0 "java/util/HashMap"
set_option maxRecDepth 65536 in
set_option maxHeartbeats 40000000 in
theorem rm6 (l : Launch) (Z : State) (a0 : Array Value) (hw : ∀ d ∈ tables_1, d.before a0 Z = true) (ws : List Jvm.Cond) (o0 : Addr) (u1 : Value) (h0 : Heap) (n0 : Nat) (Z0 : n0 ≤ h0.size) (E_o0 : Exa Z h0 o0 "java/util/HashMap") (F_loadFactor_o0 : Fld Z h0 o0 "java/util/HashMap" "loadFactor" "F" u1) (g_o0 : n0 ≤ o0) :
    MetFree l (⟨"java/util/HashMap", "<init>", "()V"⟩ : MethodName) (head1 (Jvm.Cond.code (⟨"java/util/HashMap", "<init>", "()V"⟩ : MethodName) jdk_69_method_7_code 1 none :: ws) ({ frames := 2, cells := 0, slots := 0, locals := 24 } : Room)) (fun a U => a = #[(.ref o0)] ∧ Z.Warmed39 U.vm ∧ U.heap = h0) (fun _ _ _ _ _ => True) (fun _ U o U' => ∃ v L, o = .returned v ∧ Q6 Z o0 u1 h0 n0 v U'.heap L ∧ FrameEnd U o U' L ({ frames := 2, cells := 0, slots := 0, locals := 24 } : Room).cells ({ frames := 2, cells := 0, slots := 0, locals := 24 } : Room).slots) := by
  refine MetFree.of_bodySF (plainFor_of_name pn_6) hisR ?_
  intro p e s m args below meth c s₁ Bd hml0 hP hK
  obtain ⟨rfl, hZ, hh⟩ := hP
  have hx := Bd.exec
  have hby := Bd.bytes
  have hml : c.maxLocals = 1 := hml0
  have hown : s.vm.findClass "java/util/HashMap" = some m.cls := findClass_of_methodNamed Bd.named
  have hnm := (name_of_methodNamed Bd.named Bd.method).1
  have X0 : Stand p l e ({ frames := 2, cells := 0, slots := 0, locals := 24 } : Room) s m #[(.ref o0)] below meth c s₁ [] 0 0 := Stand.of_body Bd
  have e0 : s₁.heap = h0 := by rw [← hh, Bd.state]; rfl
  have N0 := Fr.nil n0
  have K0 := Keep.refl h0 [o0]
  suffices hgo : Goes p.tables e below (fun s₂ o => ∃ v L, o = .returned v ∧ Q6 Z o0 u1 h0 n0 v s₂.heap L ∧ FrameEnd s o s₂ L ({ frames := 2, cells := 0, slots := 0, locals := 24 } : Room).cells ({ frames := 2, cells := 0, slots := 0, locals := 24 } : Room).slots) (s₁.setTop (mkF m 0 #[rv o0] [])) from goEnd (fun t k => castTop (ef_6 m o0) k) hgo
  refine go (fun t kt => XS.aloadN X0.here hx rfl (hb hby d6_0) rfl rfl kt) ?_
  show Go p e below _ m s₁ 1 #[rv o0] [(.ref o0)]
  obtain ⟨_, _, ⟨T1, L1, k1, n1⟩, -, X1, ⟨Lc1, hQ1, l1, y1, z1⟩, st1⟩ := X0.specialBack hx (y := (⟨"java/util/AbstractMap", "<init>", "()V"⟩ : MethodName)) rfl hown (mvT hZ (hw _ (List.mem_of_getElem? (i := 46) rfl))) (mvT hZ (hw _ (List.mem_of_getElem? (i := 47) rfl))) (mvT hZ (hw _ (List.mem_of_getElem? (i := 51) rfl))) (by decide) (backOf (W := 0) (rm7 l Z a0 hw [] o0 h0 n0 Z0 ) hZ (hw _ (List.mem_of_getElem? (i := 51) rfl)) (hw _ (List.mem_of_getElem? (i := 50) rfl)) (by decide) (by decide)) (g := (mkF m 1 #[rv o0] [(.ref o0)])) rfl (by rw [hml]; rfl) (Steps.refl _) (a := o0) (argsL := []) (rest := []) (lenOf pd_0 rfl) rfl (by show 2 * 0 + _ ≤ _; exact Nat.le_of_eq rfl) (hb hby d6_1) (fun _ _ => ⟨rfl, e0, (by decide : 0 + 0 ≤ _), (by decide : 0 + 0 ≤ _)⟩)
  dsimp only [Pt.U, Pt.locs, Pt.cells, Pt.slots] at X1 l1 y1 z1 st1 hQ1
  subst l1 y1 z1
  obtain ⟨rfl, Nq1, e1⟩ := hQ1
  have N1 := Fr.app N0 Nq1
  refine go (fun t kt => st1.trans kt) ?_
  show Go p e below _ m T1 4 #[rv o0] []
  refine go (fun t kt => XS.aloadN X1.here hx rfl (hb hby d6_4) rfl rfl kt) ?_
  show Go p e below _ m T1 5 #[rv o0] [(.ref o0)]
  obtain ⟨kc2, cf2, hk2, hcf2, hcp2⟩ := Cond.constantFloat_spec (args := #[]) (first := s) (o := none) (idx := []) hown (mvT (args := #[]) hZ (hw _ (List.mem_of_getElem? (i := 53) rfl)))
  refine go (X1.ldcFloat hx hk2 hcf2 hcp2 (g := (mkF m 5 #[rv o0] [(.ref o0)])) rfl (hb hby d6_5)) ?_
  show Go p e below _ m T1 7 #[rv o0] [(.float (1061158912 : UInt32)), (.ref o0)]
  obtain ⟨T3, h3, X3, e3, W3, st3⟩ := putF X1 hx hZ hown (host := "") (Or.inl (hw _ (List.mem_of_getElem? (i := 54) rfl))) Via.refl e1 F_loadFactor_o0 E_o0 (Or.inr ⟨(hw _ (List.mem_of_getElem? (i := 55) rfl)), rfl, hnm⟩) (hw _ (List.mem_of_getElem? (i := 41) rfl)) (ty := .float) (by decide) rfl rfl (g := (mkF m 7 #[rv o0] [(.float (1061158912 : UInt32)), (.ref o0)])) rfl rfl (hb hby d6_7)
  replace F_loadFactor_o0 := F_loadFactor_o0.same W3
  replace E_o0 := E_o0.wr W3
  have Zz3 := Nat.le_trans Z0 (Keep.of_wr W3).1
  have Kk3 := K0.wr W3 (Or.inl (List.mem_of_getElem? (i := 0) rfl))
  have N3 := Fr.snoc X3 N1 g_o0
  refine go st3 ?_
  show Go p e below _ m T3 10 #[rv o0] []
  obtain ⟨fs, hr, hrun, hended, hW, hsame⟩ := X3.leave (v := none) (fun _ => rfl)
  refine ⟨_, _, X3.returnOut hx Bd.returns (hb hby d6_10) hr, hrun, hended, _, _, rfl, ?_, ⟨_, rfl⟩, hW, hsame.mono (by decide) (by decide)⟩
  show Q6 Z o0 u1 h0 n0 _ T3.heap _
  rw [e3]
  exact ⟨rfl, N3, Kk3, E_o0⟩
theorem d1_0 : decode prog_88_method_1_code 0 = .ok (.aload_n 0, 1) := by decide +kernel
theorem d1_1 : decode prog_88_method_1_code 1 = .ok (.invokespecial 1, 3) := by decide +kernel
theorem d1_4 : decode prog_88_method_1_code 4 = .ok (.aload_n 0, 1) := by decide +kernel
theorem d1_5 : decode prog_88_method_1_code 5 = .ok (.new 7, 3) := by decide +kernel
theorem d1_8 : decode prog_88_method_1_code 8 = .ok (.dup, 1) := by decide +kernel
theorem d1_9 : decode prog_88_method_1_code 9 = .ok (.invokespecial 9, 3) := by decide +kernel
theorem d1_12 : decode prog_88_method_1_code 12 = .ok (.putfield 10, 3) := by decide +kernel
theorem d1_15 : decode prog_88_method_1_code 15 = .ok (.aload_n 0, 1) := by decide +kernel
theorem d1_16 : decode prog_88_method_1_code 16 = .ok (.new 7, 3) := by decide +kernel
theorem d1_19 : decode prog_88_method_1_code 19 = .ok (.dup, 1) := by decide +kernel
theorem d1_20 : decode prog_88_method_1_code 20 = .ok (.invokespecial 9, 3) := by decide +kernel
theorem d1_23 : decode prog_88_method_1_code 23 = .ok (.putfield 16, 3) := by decide +kernel
theorem d1_26 : decode prog_88_method_1_code 26 = .ok (.aload_n 0, 1) := by decide +kernel
theorem d1_27 : decode prog_88_method_1_code 27 = .ok (.new 7, 3) := by decide +kernel
theorem d1_30 : decode prog_88_method_1_code 30 = .ok (.dup, 1) := by decide +kernel
theorem d1_31 : decode prog_88_method_1_code 31 = .ok (.invokespecial 9, 3) := by decide +kernel
theorem d1_34 : decode prog_88_method_1_code 34 = .ok (.putfield 19, 3) := by decide +kernel
theorem d1_37 : decode prog_88_method_1_code 37 = .ok (.aload_n 0, 1) := by decide +kernel
theorem d1_38 : decode prog_88_method_1_code 38 = .ok (.new 22, 3) := by decide +kernel
theorem d1_41 : decode prog_88_method_1_code 41 = .ok (.dup, 1) := by decide +kernel
theorem d1_42 : decode prog_88_method_1_code 42 = .ok (.invokespecial 24, 3) := by decide +kernel
theorem d1_45 : decode prog_88_method_1_code 45 = .ok (.putfield 25, 3) := by decide +kernel
theorem d1_48 : decode prog_88_method_1_code 48 = .ok (.aload_n 0, 1) := by decide +kernel
theorem d1_49 : decode prog_88_method_1_code 49 = .ok (.iconst 0, 1) := by decide +kernel
theorem d1_50 : decode prog_88_method_1_code 50 = .ok (.newarray .int, 2) := by decide +kernel
theorem d1_52 : decode prog_88_method_1_code 52 = .ok (.putfield 29, 3) := by decide +kernel
theorem d1_55 : decode prog_88_method_1_code 55 = .ok (.aload_n 0, 1) := by decide +kernel
theorem d1_56 : decode prog_88_method_1_code 56 = .ok (.iconst 0, 1) := by decide +kernel
theorem d1_57 : decode prog_88_method_1_code 57 = .ok (.newarray .int, 2) := by decide +kernel
theorem d1_59 : decode prog_88_method_1_code 59 = .ok (.putfield 33, 3) := by decide +kernel
theorem d1_62 : decode prog_88_method_1_code 62 = .ok (.return_, 1) := by decide +kernel
theorem pn_1 : plainName "com/example/anytime_arena/anytimearena/io/VariableTable" = true := by first | (simp [plainName, overriddenIn]; done) | decide +kernel
theorem ef_1 (m : MethodId) (o0 : Addr) : entryFrame m #[(.ref o0)] 1 = mkF m 0 #[rv o0] [] := by first | (simp [entryFrame, mkF, argsToLocals, Value.category]; done) | rfl
def Q1 (Z : State) (o0 : Addr) (u0 : Value) (u1 : Value) (u2 : Value) (u3 : Value) (u4 : Value) (u5 : Value) (sd : Addr) (h0 : Heap) (n0 : Nat) (v : Option Value) (h : Heap) (L : List Loc) : Prop := v = none ∧ Fr n0 L ∧ Keep h0 h [o0] ∧ Exa Z h o0 "com/example/anytime_arena/anytimearena/io/VariableTable" ∧ (∃ u, Fld Z h o0 "com/example/anytime_arena/anytimearena/io/VariableTable" "low" "[I" u) ∧ (∃ u, Fld Z h o0 "com/example/anytime_arena/anytimearena/io/VariableTable" "high" "[I" u)
set_option maxRecDepth 65536 in
set_option maxHeartbeats 40000000 in
theorem rm1 (l : Launch) (Z : State) (a0 : Array Value) (hw : ∀ d ∈ tables_1, d.before a0 Z = true) (ws : List Jvm.Cond) (o0 : Addr) (u0 : Value) (u1 : Value) (u2 : Value) (u3 : Value) (u4 : Value) (u5 : Value) (sd : Addr) (h0 : Heap) (n0 : Nat) (Z0 : n0 ≤ h0.size) (E_o0 : Exa Z h0 o0 "com/example/anytime_arena/anytimearena/io/VariableTable") (F_names_o0 : Fld Z h0 o0 "com/example/anytime_arena/anytimearena/io/VariableTable" "names" "Ljava/util/List;" u0) (F_types_o0 : Fld Z h0 o0 "com/example/anytime_arena/anytimearena/io/VariableTable" "types" "Ljava/util/List;" u1) (F_owners_o0 : Fld Z h0 o0 "com/example/anytime_arena/anytimearena/io/VariableTable" "owners" "Ljava/util/List;" u2) (F_slots_o0 : Fld Z h0 o0 "com/example/anytime_arena/anytimearena/io/VariableTable" "slots" "Ljava/util/Map;" u3) (F_low_o0 : Fld Z h0 o0 "com/example/anytime_arena/anytimearena/io/VariableTable" "low" "[I" u4) (F_high_o0 : Fld Z h0 o0 "com/example/anytime_arena/anytimearena/io/VariableTable" "high" "[I" u5) (S_DEFAULTCAPACITY_EMPTY_ELEMENTDATA : Sta Z h0 "java/util/ArrayList" "DEFAULTCAPACITY_EMPTY_ELEMENTDATA" "[Ljava/lang/Object;" (.ref sd)) (g_o0 : n0 ≤ o0) :
    MetFree l (⟨"com/example/anytime_arena/anytimearena/io/VariableTable", "<init>", "()V"⟩ : MethodName) (head1 (Jvm.Cond.code (⟨"com/example/anytime_arena/anytimearena/io/VariableTable", "<init>", "()V"⟩ : MethodName) prog_88_method_1_code 1 none :: ws) ({ frames := 4, cells := 6, slots := 17, locals := 50 } : Room)) (fun a U => a = #[(.ref o0)] ∧ Z.Warmed39 U.vm ∧ U.heap = h0) (fun _ _ _ _ _ => True) (fun _ U o U' => ∃ v L, o = .returned v ∧ Q1 Z o0 u0 u1 u2 u3 u4 u5 sd h0 n0 v U'.heap L ∧ FrameEnd U o U' L ({ frames := 4, cells := 6, slots := 17, locals := 50 } : Room).cells ({ frames := 4, cells := 6, slots := 17, locals := 50 } : Room).slots) := by
  refine MetFree.of_bodySF (plainFor_of_name pn_1) hisR ?_
  intro p e s m args below meth c s₁ Bd hml0 hP hK
  obtain ⟨rfl, hZ, hh⟩ := hP
  have hx := Bd.exec
  have hby := Bd.bytes
  have hml : c.maxLocals = 1 := hml0
  have hown : s.vm.findClass "com/example/anytime_arena/anytimearena/io/VariableTable" = some m.cls := findClass_of_methodNamed Bd.named
  have hnm := (name_of_methodNamed Bd.named Bd.method).1
  have X0 : Stand p l e ({ frames := 4, cells := 6, slots := 17, locals := 50 } : Room) s m #[(.ref o0)] below meth c s₁ [] 0 0 := Stand.of_body Bd
  have e0 : s₁.heap = h0 := by rw [← hh, Bd.state]; rfl
  have N0 := Fr.nil n0
  have K0 := Keep.refl h0 [o0]
  suffices hgo : Goes p.tables e below (fun s₂ o => ∃ v L, o = .returned v ∧ Q1 Z o0 u0 u1 u2 u3 u4 u5 sd h0 n0 v s₂.heap L ∧ FrameEnd s o s₂ L ({ frames := 4, cells := 6, slots := 17, locals := 50 } : Room).cells ({ frames := 4, cells := 6, slots := 17, locals := 50 } : Room).slots) (s₁.setTop (mkF m 0 #[rv o0] [])) from goEnd (fun t k => castTop (ef_1 m o0) k) hgo
  refine go (fun t kt => XS.aloadN X0.here hx rfl (hb hby d1_0) rfl rfl kt) ?_
  show Go p e below _ m s₁ 1 #[rv o0] [(.ref o0)]
  obtain ⟨T1, X1, e1, st1⟩ := initO X0 hx hZ hown (hw _ (List.mem_of_getElem? (i := 7) rfl)) (hw _ (List.mem_of_getElem? (i := 8) rfl)) (hw _ (List.mem_of_getElem? (i := 9) rfl)) e0 (g := (mkF m 1 #[rv o0] [(.ref o0)])) rfl (by rw [hml]; rfl) rfl (hb hby d1_1) (by decide) (W := 0) (by show 2 * 0 + _ ≤ _; exact Nat.le_of_eq rfl) (by decide)
  refine go st1 ?_
  show Go p e below _ m T1 4 #[rv o0] []
  refine go (fun t kt => XS.aloadN X1.here hx rfl (hb hby d1_4) rfl rfl kt) ?_
  show Go p e below _ m T1 5 #[rv o0] [(.ref o0)]
  obtain ⟨T2, h2, X2, e2, E2, A2, D2, -, st2⟩ := newO X1 hx hZ hown (hw _ (List.mem_of_getElem? (i := 10) rfl)) (hw _ (List.mem_of_getElem? (i := 11) rfl)) (hw _ (List.mem_of_getElem? (i := 12) rfl)) e1 (g := (mkF m 5 #[rv o0] [(.ref o0)])) rfl (hb hby d1_5) (by decide) (by decide)
  obtain ⟨b2, g2⟩ : ∃ z, z = h0.size := ⟨_, rfl⟩
  rw [← g2] at A2 D2 st2
  have ne_o0_b2 : o0 ≠ b2 := Nat.ne_of_lt (Nat.lt_of_lt_of_le E_o0.lt (Nat.le_of_eq g2.symm))
  have g_b2 : n0 ≤ b2 := Nat.le_trans Z0 (Nat.le_of_eq g2.symm)
  have sz_b2 : h0.size ≤ b2 := Nat.le_trans K0.1 (Nat.le_of_eq g2.symm)
  replace E_o0 := E_o0.ext E2
  replace F_names_o0 := F_names_o0.ext E2
  replace F_types_o0 := F_types_o0.ext E2
  replace F_owners_o0 := F_owners_o0.ext E2
  replace F_slots_o0 := F_slots_o0.ext E2
  replace F_low_o0 := F_low_o0.ext E2
  replace F_high_o0 := F_high_o0.ext E2
  replace S_DEFAULTCAPACITY_EMPTY_ELEMENTDATA := S_DEFAULTCAPACITY_EMPTY_ELEMENTDATA.ext E2
  have Zz2 := Nat.le_trans Z0 E2.1
  have Kk2 := K0.ext E2
  have E_b2 := A2
  have F_modCount_b2 : Fld Z h2 b2 "java/util/AbstractList" "modCount" "I" (.int (0 : Int32)) := D2 (Or.inl (hw _ (List.mem_of_getElem? (i := 30) rfl))) (ty := .int) (by decide)
  have F_elementData_b2 : Fld Z h2 b2 "java/util/ArrayList" "elementData" "[Ljava/lang/Object;" .null := D2 (Or.inl (hw _ (List.mem_of_getElem? (i := 33) rfl))) (ty := (.array (.object "java/lang/Object"))) (by decide)
  refine go st2 ?_
  show Go p e below _ m T2 8 #[rv o0] [(.ref b2), (.ref o0)]
  refine go (fun t kt => XS.dup X2.here hx rfl (hb hby d1_8) rfl rfl kt) ?_
  show Go p e below _ m T2 9 #[rv o0] [(.ref b2), (.ref b2), (.ref o0)]
  obtain ⟨_, _, ⟨T3, L3, k3, n3⟩, -, X3, ⟨Lc3, hQ3, l3, y3, z3⟩, st3⟩ := X2.specialBack hx (y := (⟨"java/util/ArrayList", "<init>", "()V"⟩ : MethodName)) rfl hown (mvT hZ (hw _ (List.mem_of_getElem? (i := 13) rfl))) (mvT hZ (hw _ (List.mem_of_getElem? (i := 14) rfl))) (mvT hZ (hw _ (List.mem_of_getElem? (i := 15) rfl))) (by decide) (backOf (W := 2) (rm3 l Z a0 hw [] b2 (.int (0 : Int32)) .null sd h2 n0 Zz2 E_b2 F_modCount_b2 F_elementData_b2 S_DEFAULTCAPACITY_EMPTY_ELEMENTDATA g_b2) hZ (hw _ (List.mem_of_getElem? (i := 15) rfl)) (hw _ (List.mem_of_getElem? (i := 12) rfl)) (by decide) (by decide)) (g := (mkF m 9 #[rv o0] [(.ref b2), (.ref b2), (.ref o0)])) rfl (by rw [hml]; rfl) (Steps.refl _) (a := b2) (argsL := []) (rest := [(.ref b2), (.ref o0)]) (lenOf pd_0 rfl) rfl (by show 2 * 0 + _ ≤ _; exact Nat.le_of_eq rfl) (hb hby d1_9) (fun _ _ => ⟨rfl, e2, (by decide : 1 + 0 ≤ _), (by decide : 3 + 0 ≤ _)⟩)
  dsimp only [Pt.U, Pt.locs, Pt.cells, Pt.slots] at X3 l3 y3 z3 st3 hQ3
  subst l3 y3 z3
  obtain ⟨rfl, Nq3, Kq3, Eq3_o0, Fq3_modCount_o0, Fq3_elementData_o0⟩ := hQ3
  replace S_DEFAULTCAPACITY_EMPTY_ELEMENTDATA := own_sta_keep S_DEFAULTCAPACITY_EMPTY_ELEMENTDATA E_b2 Kq3
  replace E_o0 := E_o0.keep Kq3
  replace F_names_o0 := F_names_o0.keep Kq3 (ninS ne_o0_b2 nin0)
  replace F_types_o0 := F_types_o0.keep Kq3 (ninS ne_o0_b2 nin0)
  replace F_owners_o0 := F_owners_o0.keep Kq3 (ninS ne_o0_b2 nin0)
  replace F_slots_o0 := F_slots_o0.keep Kq3 (ninS ne_o0_b2 nin0)
  replace F_low_o0 := F_low_o0.keep Kq3 (ninS ne_o0_b2 nin0)
  replace F_high_o0 := F_high_o0.keep Kq3 (ninS ne_o0_b2 nin0)
  replace E_b2 := E_b2.keep Kq3
  clear F_modCount_b2
  clear F_elementData_b2
  have Zz3 := Nat.le_trans Zz2 Kq3.1
  have Kk3 := Kk2.trans Kq3 (allS (Or.inr sz_b2) all0)
  have E_b2 := Eq3_o0
  have F_modCount_b2 := Fq3_modCount_o0
  have F_elementData_b2 := Fq3_elementData_o0
  have N3 := Fr.app N0 Nq3
  refine go (fun t kt => st3.trans kt) ?_
  show Go p e below _ m T3 12 #[rv o0] [(.ref b2), (.ref o0)]
  obtain ⟨T4, h4, X4, e4, W4, st4⟩ := putF X3 hx hZ hown (host := "") (Or.inl (hw _ (List.mem_of_getElem? (i := 34) rfl))) Via.refl rfl F_names_o0 E_o0 (Or.inr ⟨(hw _ (List.mem_of_getElem? (i := 35) rfl)), rfl, hnm⟩) (hw _ (List.mem_of_getElem? (i := 2) rfl)) (ty := (.object "java/util/List")) (by decide) rfl rfl (g := (mkF m 12 #[rv o0] [(.ref b2), (.ref o0)])) rfl rfl (hb hby d1_12)
  replace F_names_o0 := F_names_o0.same W4
  replace E_o0 := E_o0.wr W4
  replace F_types_o0 := F_types_o0.other W4 (Or.inr (slot_ne (Or.inr (hw _ (List.mem_of_getElem? (i := 37) rfl))) (Or.inr (hw _ (List.mem_of_getElem? (i := 35) rfl))) (by decide) (t := (.object "java/util/List")) (t' := (.object "java/util/List")) (by decide) (by decide)))
  replace F_owners_o0 := F_owners_o0.other W4 (Or.inr (slot_ne (Or.inr (hw _ (List.mem_of_getElem? (i := 39) rfl))) (Or.inr (hw _ (List.mem_of_getElem? (i := 35) rfl))) (by decide) (t := (.object "java/util/List")) (t' := (.object "java/util/List")) (by decide) (by decide)))
  replace F_slots_o0 := F_slots_o0.other W4 (Or.inr (slot_ne (Or.inr (hw _ (List.mem_of_getElem? (i := 57) rfl))) (Or.inr (hw _ (List.mem_of_getElem? (i := 35) rfl))) (by decide) (t := (.object "java/util/Map")) (t' := (.object "java/util/List")) (by decide) (by decide)))
  replace F_low_o0 := F_low_o0.other W4 (Or.inr (slot_ne (Or.inl (hw _ (List.mem_of_getElem? (i := 59) rfl))) (Or.inr (hw _ (List.mem_of_getElem? (i := 35) rfl))) (by decide) (t := (.array .int)) (t' := (.object "java/util/List")) (by decide) (by decide)))
  replace F_high_o0 := F_high_o0.other W4 (Or.inr (slot_ne (Or.inl (hw _ (List.mem_of_getElem? (i := 61) rfl))) (Or.inr (hw _ (List.mem_of_getElem? (i := 35) rfl))) (by decide) (t := (.array .int)) (t' := (.object "java/util/List")) (by decide) (by decide)))
  replace S_DEFAULTCAPACITY_EMPTY_ELEMENTDATA := S_DEFAULTCAPACITY_EMPTY_ELEMENTDATA.wr W4
  replace E_b2 := E_b2.wr W4
  replace F_modCount_b2 := F_modCount_b2.other W4 (Or.inl (Ne.symm ne_o0_b2))
  replace F_elementData_b2 := F_elementData_b2.other W4 (Or.inl (Ne.symm ne_o0_b2))
  have Zz4 := Nat.le_trans Zz3 (Keep.of_wr W4).1
  have Kk4 := Kk3.wr W4 (Or.inl (List.mem_of_getElem? (i := 0) rfl))
  have N4 := Fr.snoc X4 N3 g_o0
  refine go st4 ?_
  show Go p e below _ m T4 15 #[rv o0] []
  refine go (fun t kt => XS.aloadN X4.here hx rfl (hb hby d1_15) rfl rfl kt) ?_
  show Go p e below _ m T4 16 #[rv o0] [(.ref o0)]
  obtain ⟨T5, h5, X5, e5, E5, A5, D5, -, st5⟩ := newO X4 hx hZ hown (hw _ (List.mem_of_getElem? (i := 10) rfl)) (hw _ (List.mem_of_getElem? (i := 11) rfl)) (hw _ (List.mem_of_getElem? (i := 12) rfl)) e4 (g := (mkF m 16 #[rv o0] [(.ref o0)])) rfl (hb hby d1_16) (by decide) (by decide)
  obtain ⟨b5, g5⟩ : ∃ z, z = h4.size := ⟨_, rfl⟩
  rw [← g5] at A5 D5 st5
  have ne_o0_b5 : o0 ≠ b5 := Nat.ne_of_lt (Nat.lt_of_lt_of_le E_o0.lt (Nat.le_of_eq g5.symm))
  have ne_b2_b5 : b2 ≠ b5 := Nat.ne_of_lt (Nat.lt_of_lt_of_le E_b2.lt (Nat.le_of_eq g5.symm))
  have g_b5 : n0 ≤ b5 := Nat.le_trans Zz4 (Nat.le_of_eq g5.symm)
  have sz_b5 : h0.size ≤ b5 := Nat.le_trans Kk4.1 (Nat.le_of_eq g5.symm)
  replace E_o0 := E_o0.ext E5
  replace F_names_o0 := F_names_o0.ext E5
  replace F_types_o0 := F_types_o0.ext E5
  replace F_owners_o0 := F_owners_o0.ext E5
  replace F_slots_o0 := F_slots_o0.ext E5
  replace F_low_o0 := F_low_o0.ext E5
  replace F_high_o0 := F_high_o0.ext E5
  replace S_DEFAULTCAPACITY_EMPTY_ELEMENTDATA := S_DEFAULTCAPACITY_EMPTY_ELEMENTDATA.ext E5
  replace E_b2 := E_b2.ext E5
  replace F_modCount_b2 := F_modCount_b2.ext E5
  replace F_elementData_b2 := F_elementData_b2.ext E5
  have Zz5 := Nat.le_trans Zz4 E5.1
  have Kk5 := Kk4.ext E5
  have E_b5 := A5
  have F_modCount_b5 : Fld Z h5 b5 "java/util/AbstractList" "modCount" "I" (.int (0 : Int32)) := D5 (Or.inl (hw _ (List.mem_of_getElem? (i := 30) rfl))) (ty := .int) (by decide)
  have F_elementData_b5 : Fld Z h5 b5 "java/util/ArrayList" "elementData" "[Ljava/lang/Object;" .null := D5 (Or.inl (hw _ (List.mem_of_getElem? (i := 33) rfl))) (ty := (.array (.object "java/lang/Object"))) (by decide)
  refine go st5 ?_
  show Go p e below _ m T5 19 #[rv o0] [(.ref b5), (.ref o0)]
  refine go (fun t kt => XS.dup X5.here hx rfl (hb hby d1_19) rfl rfl kt) ?_
  show Go p e below _ m T5 20 #[rv o0] [(.ref b5), (.ref b5), (.ref o0)]
  obtain ⟨_, _, ⟨T6, L6, k6, n6⟩, -, X6, ⟨Lc6, hQ6, l6, y6, z6⟩, st6⟩ := X5.specialBack hx (y := (⟨"java/util/ArrayList", "<init>", "()V"⟩ : MethodName)) rfl hown (mvT hZ (hw _ (List.mem_of_getElem? (i := 13) rfl))) (mvT hZ (hw _ (List.mem_of_getElem? (i := 14) rfl))) (mvT hZ (hw _ (List.mem_of_getElem? (i := 15) rfl))) (by decide) (backOf (W := 2) (rm3 l Z a0 hw [] b5 (.int (0 : Int32)) .null sd h5 n0 Zz5 E_b5 F_modCount_b5 F_elementData_b5 S_DEFAULTCAPACITY_EMPTY_ELEMENTDATA g_b5) hZ (hw _ (List.mem_of_getElem? (i := 15) rfl)) (hw _ (List.mem_of_getElem? (i := 12) rfl)) (by decide) (by decide)) (g := (mkF m 20 #[rv o0] [(.ref b5), (.ref b5), (.ref o0)])) rfl (by rw [hml]; rfl) (Steps.refl _) (a := b5) (argsL := []) (rest := [(.ref b5), (.ref o0)]) (lenOf pd_0 rfl) rfl (by show 2 * 0 + _ ≤ _; exact Nat.le_of_eq rfl) (hb hby d1_20) (fun _ _ => ⟨rfl, e5, (by decide : 2 + 0 ≤ _), (by decide : 6 + 0 ≤ _)⟩)
  dsimp only [Pt.U, Pt.locs, Pt.cells, Pt.slots] at X6 l6 y6 z6 st6 hQ6
  subst l6 y6 z6
  obtain ⟨rfl, Nq6, Kq6, Eq6_o0, Fq6_modCount_o0, Fq6_elementData_o0⟩ := hQ6
  replace S_DEFAULTCAPACITY_EMPTY_ELEMENTDATA := own_sta_keep S_DEFAULTCAPACITY_EMPTY_ELEMENTDATA E_b5 Kq6
  replace E_o0 := E_o0.keep Kq6
  replace F_names_o0 := F_names_o0.keep Kq6 (ninS ne_o0_b5 nin0)
  replace F_types_o0 := F_types_o0.keep Kq6 (ninS ne_o0_b5 nin0)
  replace F_owners_o0 := F_owners_o0.keep Kq6 (ninS ne_o0_b5 nin0)
  replace F_slots_o0 := F_slots_o0.keep Kq6 (ninS ne_o0_b5 nin0)
  replace F_low_o0 := F_low_o0.keep Kq6 (ninS ne_o0_b5 nin0)
  replace F_high_o0 := F_high_o0.keep Kq6 (ninS ne_o0_b5 nin0)
  replace E_b2 := E_b2.keep Kq6
  replace F_modCount_b2 := F_modCount_b2.keep Kq6 (ninS ne_b2_b5 nin0)
  replace F_elementData_b2 := F_elementData_b2.keep Kq6 (ninS ne_b2_b5 nin0)
  replace E_b5 := E_b5.keep Kq6
  clear F_modCount_b5
  clear F_elementData_b5
  have Zz6 := Nat.le_trans Zz5 Kq6.1
  have Kk6 := Kk5.trans Kq6 (allS (Or.inr sz_b5) all0)
  have E_b5 := Eq6_o0
  have F_modCount_b5 := Fq6_modCount_o0
  have F_elementData_b5 := Fq6_elementData_o0
  have N6 := Fr.app N4 Nq6
  refine go (fun t kt => st6.trans kt) ?_
  show Go p e below _ m T6 23 #[rv o0] [(.ref b5), (.ref o0)]
  obtain ⟨T7, h7, X7, e7, W7, st7⟩ := putF X6 hx hZ hown (host := "") (Or.inl (hw _ (List.mem_of_getElem? (i := 36) rfl))) Via.refl rfl F_types_o0 E_o0 (Or.inr ⟨(hw _ (List.mem_of_getElem? (i := 37) rfl)), rfl, hnm⟩) (hw _ (List.mem_of_getElem? (i := 2) rfl)) (ty := (.object "java/util/List")) (by decide) rfl rfl (g := (mkF m 23 #[rv o0] [(.ref b5), (.ref o0)])) rfl rfl (hb hby d1_23)
  replace F_types_o0 := F_types_o0.same W7
  replace E_o0 := E_o0.wr W7
  replace F_names_o0 := F_names_o0.other W7 (Or.inr (slot_ne (Or.inr (hw _ (List.mem_of_getElem? (i := 35) rfl))) (Or.inr (hw _ (List.mem_of_getElem? (i := 37) rfl))) (by decide) (t := (.object "java/util/List")) (t' := (.object "java/util/List")) (by decide) (by decide)))
  replace F_owners_o0 := F_owners_o0.other W7 (Or.inr (slot_ne (Or.inr (hw _ (List.mem_of_getElem? (i := 39) rfl))) (Or.inr (hw _ (List.mem_of_getElem? (i := 37) rfl))) (by decide) (t := (.object "java/util/List")) (t' := (.object "java/util/List")) (by decide) (by decide)))
  replace F_slots_o0 := F_slots_o0.other W7 (Or.inr (slot_ne (Or.inr (hw _ (List.mem_of_getElem? (i := 57) rfl))) (Or.inr (hw _ (List.mem_of_getElem? (i := 37) rfl))) (by decide) (t := (.object "java/util/Map")) (t' := (.object "java/util/List")) (by decide) (by decide)))
  replace F_low_o0 := F_low_o0.other W7 (Or.inr (slot_ne (Or.inl (hw _ (List.mem_of_getElem? (i := 59) rfl))) (Or.inr (hw _ (List.mem_of_getElem? (i := 37) rfl))) (by decide) (t := (.array .int)) (t' := (.object "java/util/List")) (by decide) (by decide)))
  replace F_high_o0 := F_high_o0.other W7 (Or.inr (slot_ne (Or.inl (hw _ (List.mem_of_getElem? (i := 61) rfl))) (Or.inr (hw _ (List.mem_of_getElem? (i := 37) rfl))) (by decide) (t := (.array .int)) (t' := (.object "java/util/List")) (by decide) (by decide)))
  replace S_DEFAULTCAPACITY_EMPTY_ELEMENTDATA := S_DEFAULTCAPACITY_EMPTY_ELEMENTDATA.wr W7
  replace E_b2 := E_b2.wr W7
  replace F_modCount_b2 := F_modCount_b2.other W7 (Or.inl (Ne.symm ne_o0_b2))
  replace F_elementData_b2 := F_elementData_b2.other W7 (Or.inl (Ne.symm ne_o0_b2))
  replace E_b5 := E_b5.wr W7
  replace F_modCount_b5 := F_modCount_b5.other W7 (Or.inl (Ne.symm ne_o0_b5))
  replace F_elementData_b5 := F_elementData_b5.other W7 (Or.inl (Ne.symm ne_o0_b5))
  have Zz7 := Nat.le_trans Zz6 (Keep.of_wr W7).1
  have Kk7 := Kk6.wr W7 (Or.inl (List.mem_of_getElem? (i := 0) rfl))
  have N7 := Fr.snoc X7 N6 g_o0
  refine go st7 ?_
  show Go p e below _ m T7 26 #[rv o0] []
  refine go (fun t kt => XS.aloadN X7.here hx rfl (hb hby d1_26) rfl rfl kt) ?_
  show Go p e below _ m T7 27 #[rv o0] [(.ref o0)]
  obtain ⟨T8, h8, X8, e8, E8, A8, D8, -, st8⟩ := newO X7 hx hZ hown (hw _ (List.mem_of_getElem? (i := 10) rfl)) (hw _ (List.mem_of_getElem? (i := 11) rfl)) (hw _ (List.mem_of_getElem? (i := 12) rfl)) e7 (g := (mkF m 27 #[rv o0] [(.ref o0)])) rfl (hb hby d1_27) (by decide) (by decide)
  obtain ⟨b8, g8⟩ : ∃ z, z = h7.size := ⟨_, rfl⟩
  rw [← g8] at A8 D8 st8
  have ne_o0_b8 : o0 ≠ b8 := Nat.ne_of_lt (Nat.lt_of_lt_of_le E_o0.lt (Nat.le_of_eq g8.symm))
  have ne_b2_b8 : b2 ≠ b8 := Nat.ne_of_lt (Nat.lt_of_lt_of_le E_b2.lt (Nat.le_of_eq g8.symm))
  have ne_b5_b8 : b5 ≠ b8 := Nat.ne_of_lt (Nat.lt_of_lt_of_le E_b5.lt (Nat.le_of_eq g8.symm))
  have g_b8 : n0 ≤ b8 := Nat.le_trans Zz7 (Nat.le_of_eq g8.symm)
  have sz_b8 : h0.size ≤ b8 := Nat.le_trans Kk7.1 (Nat.le_of_eq g8.symm)
  replace E_o0 := E_o0.ext E8
  replace F_names_o0 := F_names_o0.ext E8
  replace F_types_o0 := F_types_o0.ext E8
  replace F_owners_o0 := F_owners_o0.ext E8
  replace F_slots_o0 := F_slots_o0.ext E8
  replace F_low_o0 := F_low_o0.ext E8
  replace F_high_o0 := F_high_o0.ext E8
  replace S_DEFAULTCAPACITY_EMPTY_ELEMENTDATA := S_DEFAULTCAPACITY_EMPTY_ELEMENTDATA.ext E8
  replace E_b2 := E_b2.ext E8
  replace F_modCount_b2 := F_modCount_b2.ext E8
  replace F_elementData_b2 := F_elementData_b2.ext E8
  replace E_b5 := E_b5.ext E8
  replace F_modCount_b5 := F_modCount_b5.ext E8
  replace F_elementData_b5 := F_elementData_b5.ext E8
  have Zz8 := Nat.le_trans Zz7 E8.1
  have Kk8 := Kk7.ext E8
  have E_b8 := A8
  have F_modCount_b8 : Fld Z h8 b8 "java/util/AbstractList" "modCount" "I" (.int (0 : Int32)) := D8 (Or.inl (hw _ (List.mem_of_getElem? (i := 30) rfl))) (ty := .int) (by decide)
  have F_elementData_b8 : Fld Z h8 b8 "java/util/ArrayList" "elementData" "[Ljava/lang/Object;" .null := D8 (Or.inl (hw _ (List.mem_of_getElem? (i := 33) rfl))) (ty := (.array (.object "java/lang/Object"))) (by decide)
  refine go st8 ?_
  show Go p e below _ m T8 30 #[rv o0] [(.ref b8), (.ref o0)]
  refine go (fun t kt => XS.dup X8.here hx rfl (hb hby d1_30) rfl rfl kt) ?_
  show Go p e below _ m T8 31 #[rv o0] [(.ref b8), (.ref b8), (.ref o0)]
  obtain ⟨_, _, ⟨T9, L9, k9, n9⟩, -, X9, ⟨Lc9, hQ9, l9, y9, z9⟩, st9⟩ := X8.specialBack hx (y := (⟨"java/util/ArrayList", "<init>", "()V"⟩ : MethodName)) rfl hown (mvT hZ (hw _ (List.mem_of_getElem? (i := 13) rfl))) (mvT hZ (hw _ (List.mem_of_getElem? (i := 14) rfl))) (mvT hZ (hw _ (List.mem_of_getElem? (i := 15) rfl))) (by decide) (backOf (W := 2) (rm3 l Z a0 hw [] b8 (.int (0 : Int32)) .null sd h8 n0 Zz8 E_b8 F_modCount_b8 F_elementData_b8 S_DEFAULTCAPACITY_EMPTY_ELEMENTDATA g_b8) hZ (hw _ (List.mem_of_getElem? (i := 15) rfl)) (hw _ (List.mem_of_getElem? (i := 12) rfl)) (by decide) (by decide)) (g := (mkF m 31 #[rv o0] [(.ref b8), (.ref b8), (.ref o0)])) rfl (by rw [hml]; rfl) (Steps.refl _) (a := b8) (argsL := []) (rest := [(.ref b8), (.ref o0)]) (lenOf pd_0 rfl) rfl (by show 2 * 0 + _ ≤ _; exact Nat.le_of_eq rfl) (hb hby d1_31) (fun _ _ => ⟨rfl, e8, (by decide : 3 + 0 ≤ _), (by decide : 9 + 0 ≤ _)⟩)
  dsimp only [Pt.U, Pt.locs, Pt.cells, Pt.slots] at X9 l9 y9 z9 st9 hQ9
  subst l9 y9 z9
  obtain ⟨rfl, Nq9, Kq9, Eq9_o0, Fq9_modCount_o0, Fq9_elementData_o0⟩ := hQ9
  replace S_DEFAULTCAPACITY_EMPTY_ELEMENTDATA := own_sta_keep S_DEFAULTCAPACITY_EMPTY_ELEMENTDATA E_b8 Kq9
  replace E_o0 := E_o0.keep Kq9
  replace F_names_o0 := F_names_o0.keep Kq9 (ninS ne_o0_b8 nin0)
  replace F_types_o0 := F_types_o0.keep Kq9 (ninS ne_o0_b8 nin0)
  replace F_owners_o0 := F_owners_o0.keep Kq9 (ninS ne_o0_b8 nin0)
  replace F_slots_o0 := F_slots_o0.keep Kq9 (ninS ne_o0_b8 nin0)
  replace F_low_o0 := F_low_o0.keep Kq9 (ninS ne_o0_b8 nin0)
  replace F_high_o0 := F_high_o0.keep Kq9 (ninS ne_o0_b8 nin0)
  replace E_b2 := E_b2.keep Kq9
  replace F_modCount_b2 := F_modCount_b2.keep Kq9 (ninS ne_b2_b8 nin0)
  replace F_elementData_b2 := F_elementData_b2.keep Kq9 (ninS ne_b2_b8 nin0)
  replace E_b5 := E_b5.keep Kq9
  replace F_modCount_b5 := F_modCount_b5.keep Kq9 (ninS ne_b5_b8 nin0)
  replace F_elementData_b5 := F_elementData_b5.keep Kq9 (ninS ne_b5_b8 nin0)
  replace E_b8 := E_b8.keep Kq9
  clear F_modCount_b8
  clear F_elementData_b8
  have Zz9 := Nat.le_trans Zz8 Kq9.1
  have Kk9 := Kk8.trans Kq9 (allS (Or.inr sz_b8) all0)
  have E_b8 := Eq9_o0
  have F_modCount_b8 := Fq9_modCount_o0
  have F_elementData_b8 := Fq9_elementData_o0
  have N9 := Fr.app N7 Nq9
  refine go (fun t kt => st9.trans kt) ?_
  show Go p e below _ m T9 34 #[rv o0] [(.ref b8), (.ref o0)]
  obtain ⟨T10, h10, X10, e10, W10, st10⟩ := putF X9 hx hZ hown (host := "") (Or.inl (hw _ (List.mem_of_getElem? (i := 38) rfl))) Via.refl rfl F_owners_o0 E_o0 (Or.inr ⟨(hw _ (List.mem_of_getElem? (i := 39) rfl)), rfl, hnm⟩) (hw _ (List.mem_of_getElem? (i := 2) rfl)) (ty := (.object "java/util/List")) (by decide) rfl rfl (g := (mkF m 34 #[rv o0] [(.ref b8), (.ref o0)])) rfl rfl (hb hby d1_34)
  replace F_owners_o0 := F_owners_o0.same W10
  replace E_o0 := E_o0.wr W10
  replace F_names_o0 := F_names_o0.other W10 (Or.inr (slot_ne (Or.inr (hw _ (List.mem_of_getElem? (i := 35) rfl))) (Or.inr (hw _ (List.mem_of_getElem? (i := 39) rfl))) (by decide) (t := (.object "java/util/List")) (t' := (.object "java/util/List")) (by decide) (by decide)))
  replace F_types_o0 := F_types_o0.other W10 (Or.inr (slot_ne (Or.inr (hw _ (List.mem_of_getElem? (i := 37) rfl))) (Or.inr (hw _ (List.mem_of_getElem? (i := 39) rfl))) (by decide) (t := (.object "java/util/List")) (t' := (.object "java/util/List")) (by decide) (by decide)))
  replace F_slots_o0 := F_slots_o0.other W10 (Or.inr (slot_ne (Or.inr (hw _ (List.mem_of_getElem? (i := 57) rfl))) (Or.inr (hw _ (List.mem_of_getElem? (i := 39) rfl))) (by decide) (t := (.object "java/util/Map")) (t' := (.object "java/util/List")) (by decide) (by decide)))
  replace F_low_o0 := F_low_o0.other W10 (Or.inr (slot_ne (Or.inl (hw _ (List.mem_of_getElem? (i := 59) rfl))) (Or.inr (hw _ (List.mem_of_getElem? (i := 39) rfl))) (by decide) (t := (.array .int)) (t' := (.object "java/util/List")) (by decide) (by decide)))
  replace F_high_o0 := F_high_o0.other W10 (Or.inr (slot_ne (Or.inl (hw _ (List.mem_of_getElem? (i := 61) rfl))) (Or.inr (hw _ (List.mem_of_getElem? (i := 39) rfl))) (by decide) (t := (.array .int)) (t' := (.object "java/util/List")) (by decide) (by decide)))
  replace S_DEFAULTCAPACITY_EMPTY_ELEMENTDATA := S_DEFAULTCAPACITY_EMPTY_ELEMENTDATA.wr W10
  replace E_b2 := E_b2.wr W10
  replace F_modCount_b2 := F_modCount_b2.other W10 (Or.inl (Ne.symm ne_o0_b2))
  replace F_elementData_b2 := F_elementData_b2.other W10 (Or.inl (Ne.symm ne_o0_b2))
  replace E_b5 := E_b5.wr W10
  replace F_modCount_b5 := F_modCount_b5.other W10 (Or.inl (Ne.symm ne_o0_b5))
  replace F_elementData_b5 := F_elementData_b5.other W10 (Or.inl (Ne.symm ne_o0_b5))
  replace E_b8 := E_b8.wr W10
  replace F_modCount_b8 := F_modCount_b8.other W10 (Or.inl (Ne.symm ne_o0_b8))
  replace F_elementData_b8 := F_elementData_b8.other W10 (Or.inl (Ne.symm ne_o0_b8))
  have Zz10 := Nat.le_trans Zz9 (Keep.of_wr W10).1
  have Kk10 := Kk9.wr W10 (Or.inl (List.mem_of_getElem? (i := 0) rfl))
  have N10 := Fr.snoc X10 N9 g_o0
  refine go st10 ?_
  show Go p e below _ m T10 37 #[rv o0] []
  refine go (fun t kt => XS.aloadN X10.here hx rfl (hb hby d1_37) rfl rfl kt) ?_
  show Go p e below _ m T10 38 #[rv o0] [(.ref o0)]
  obtain ⟨T11, h11, X11, e11, E11, A11, D11, -, st11⟩ := newO X10 hx hZ hown (hw _ (List.mem_of_getElem? (i := 40) rfl)) (hw _ (List.mem_of_getElem? (i := 41) rfl)) (hw _ (List.mem_of_getElem? (i := 42) rfl)) e10 (g := (mkF m 38 #[rv o0] [(.ref o0)])) rfl (hb hby d1_38) (by decide) (by decide)
  obtain ⟨b11, g11⟩ : ∃ z, z = h10.size := ⟨_, rfl⟩
  rw [← g11] at A11 D11 st11
  have ne_o0_b11 : o0 ≠ b11 := Nat.ne_of_lt (Nat.lt_of_lt_of_le E_o0.lt (Nat.le_of_eq g11.symm))
  have ne_b2_b11 : b2 ≠ b11 := Nat.ne_of_lt (Nat.lt_of_lt_of_le E_b2.lt (Nat.le_of_eq g11.symm))
  have ne_b5_b11 : b5 ≠ b11 := Nat.ne_of_lt (Nat.lt_of_lt_of_le E_b5.lt (Nat.le_of_eq g11.symm))
  have ne_b8_b11 : b8 ≠ b11 := Nat.ne_of_lt (Nat.lt_of_lt_of_le E_b8.lt (Nat.le_of_eq g11.symm))
  have g_b11 : n0 ≤ b11 := Nat.le_trans Zz10 (Nat.le_of_eq g11.symm)
  have sz_b11 : h0.size ≤ b11 := Nat.le_trans Kk10.1 (Nat.le_of_eq g11.symm)
  replace E_o0 := E_o0.ext E11
  replace F_names_o0 := F_names_o0.ext E11
  replace F_types_o0 := F_types_o0.ext E11
  replace F_owners_o0 := F_owners_o0.ext E11
  replace F_slots_o0 := F_slots_o0.ext E11
  replace F_low_o0 := F_low_o0.ext E11
  replace F_high_o0 := F_high_o0.ext E11
  replace S_DEFAULTCAPACITY_EMPTY_ELEMENTDATA := S_DEFAULTCAPACITY_EMPTY_ELEMENTDATA.ext E11
  replace E_b2 := E_b2.ext E11
  replace F_modCount_b2 := F_modCount_b2.ext E11
  replace F_elementData_b2 := F_elementData_b2.ext E11
  replace E_b5 := E_b5.ext E11
  replace F_modCount_b5 := F_modCount_b5.ext E11
  replace F_elementData_b5 := F_elementData_b5.ext E11
  replace E_b8 := E_b8.ext E11
  replace F_modCount_b8 := F_modCount_b8.ext E11
  replace F_elementData_b8 := F_elementData_b8.ext E11
  have Zz11 := Nat.le_trans Zz10 E11.1
  have Kk11 := Kk10.ext E11
  have E_b11 := A11
  have F_loadFactor_b11 : Fld Z h11 b11 "java/util/HashMap" "loadFactor" "F" (.float (0 : UInt32)) := D11 (Or.inr (hw _ (List.mem_of_getElem? (i := 55) rfl))) (ty := .float) (by decide)
  refine go st11 ?_
  show Go p e below _ m T11 41 #[rv o0] [(.ref b11), (.ref o0)]
  refine go (fun t kt => XS.dup X11.here hx rfl (hb hby d1_41) rfl rfl kt) ?_
  show Go p e below _ m T11 42 #[rv o0] [(.ref b11), (.ref b11), (.ref o0)]
  obtain ⟨_, _, ⟨T12, L12, k12, n12⟩, -, X12, ⟨Lc12, hQ12, l12, y12, z12⟩, st12⟩ := X11.specialBack hx (y := (⟨"java/util/HashMap", "<init>", "()V"⟩ : MethodName)) rfl hown (mvT hZ (hw _ (List.mem_of_getElem? (i := 43) rfl))) (mvT hZ (hw _ (List.mem_of_getElem? (i := 44) rfl))) (mvT hZ (hw _ (List.mem_of_getElem? (i := 45) rfl))) (by decide) (backOf (W := 2) (rm6 l Z a0 hw [] b11 (.float (0 : UInt32)) h11 n0 Zz11 E_b11 F_loadFactor_b11 g_b11) hZ (hw _ (List.mem_of_getElem? (i := 45) rfl)) (hw _ (List.mem_of_getElem? (i := 42) rfl)) (by decide) (by decide)) (g := (mkF m 42 #[rv o0] [(.ref b11), (.ref b11), (.ref o0)])) rfl (by rw [hml]; rfl) (Steps.refl _) (a := b11) (argsL := []) (rest := [(.ref b11), (.ref o0)]) (lenOf pd_0 rfl) rfl (by show 2 * 0 + _ ≤ _; exact Nat.le_of_eq rfl) (hb hby d1_42) (fun _ _ => ⟨rfl, e11, (by decide : 4 + 0 ≤ _), (by decide : 17 + 0 ≤ _)⟩)
  dsimp only [Pt.U, Pt.locs, Pt.cells, Pt.slots] at X12 l12 y12 z12 st12 hQ12
  subst l12 y12 z12
  obtain ⟨rfl, Nq12, Kq12, Eq12_o0⟩ := hQ12
  replace S_DEFAULTCAPACITY_EMPTY_ELEMENTDATA := own_sta_keep S_DEFAULTCAPACITY_EMPTY_ELEMENTDATA E_b11 Kq12
  replace E_o0 := E_o0.keep Kq12
  replace F_names_o0 := F_names_o0.keep Kq12 (ninS ne_o0_b11 nin0)
  replace F_types_o0 := F_types_o0.keep Kq12 (ninS ne_o0_b11 nin0)
  replace F_owners_o0 := F_owners_o0.keep Kq12 (ninS ne_o0_b11 nin0)
  replace F_slots_o0 := F_slots_o0.keep Kq12 (ninS ne_o0_b11 nin0)
  replace F_low_o0 := F_low_o0.keep Kq12 (ninS ne_o0_b11 nin0)
  replace F_high_o0 := F_high_o0.keep Kq12 (ninS ne_o0_b11 nin0)
  replace E_b2 := E_b2.keep Kq12
  replace F_modCount_b2 := F_modCount_b2.keep Kq12 (ninS ne_b2_b11 nin0)
  replace F_elementData_b2 := F_elementData_b2.keep Kq12 (ninS ne_b2_b11 nin0)
  replace E_b5 := E_b5.keep Kq12
  replace F_modCount_b5 := F_modCount_b5.keep Kq12 (ninS ne_b5_b11 nin0)
  replace F_elementData_b5 := F_elementData_b5.keep Kq12 (ninS ne_b5_b11 nin0)
  replace E_b8 := E_b8.keep Kq12
  replace F_modCount_b8 := F_modCount_b8.keep Kq12 (ninS ne_b8_b11 nin0)
  replace F_elementData_b8 := F_elementData_b8.keep Kq12 (ninS ne_b8_b11 nin0)
  replace E_b11 := E_b11.keep Kq12
  clear F_loadFactor_b11
  have Zz12 := Nat.le_trans Zz11 Kq12.1
  have Kk12 := Kk11.trans Kq12 (allS (Or.inr sz_b11) all0)
  have E_b11 := Eq12_o0
  have N12 := Fr.app N10 Nq12
  refine go (fun t kt => st12.trans kt) ?_
  show Go p e below _ m T12 45 #[rv o0] [(.ref b11), (.ref o0)]
  obtain ⟨T13, h13, X13, e13, W13, st13⟩ := putF X12 hx hZ hown (host := "") (Or.inl (hw _ (List.mem_of_getElem? (i := 56) rfl))) Via.refl rfl F_slots_o0 E_o0 (Or.inr ⟨(hw _ (List.mem_of_getElem? (i := 57) rfl)), rfl, hnm⟩) (hw _ (List.mem_of_getElem? (i := 2) rfl)) (ty := (.object "java/util/Map")) (by decide) rfl rfl (g := (mkF m 45 #[rv o0] [(.ref b11), (.ref o0)])) rfl rfl (hb hby d1_45)
  replace F_slots_o0 := F_slots_o0.same W13
  replace E_o0 := E_o0.wr W13
  replace F_names_o0 := F_names_o0.other W13 (Or.inr (slot_ne (Or.inr (hw _ (List.mem_of_getElem? (i := 35) rfl))) (Or.inr (hw _ (List.mem_of_getElem? (i := 57) rfl))) (by decide) (t := (.object "java/util/List")) (t' := (.object "java/util/Map")) (by decide) (by decide)))
  replace F_types_o0 := F_types_o0.other W13 (Or.inr (slot_ne (Or.inr (hw _ (List.mem_of_getElem? (i := 37) rfl))) (Or.inr (hw _ (List.mem_of_getElem? (i := 57) rfl))) (by decide) (t := (.object "java/util/List")) (t' := (.object "java/util/Map")) (by decide) (by decide)))
  replace F_owners_o0 := F_owners_o0.other W13 (Or.inr (slot_ne (Or.inr (hw _ (List.mem_of_getElem? (i := 39) rfl))) (Or.inr (hw _ (List.mem_of_getElem? (i := 57) rfl))) (by decide) (t := (.object "java/util/List")) (t' := (.object "java/util/Map")) (by decide) (by decide)))
  replace F_low_o0 := F_low_o0.other W13 (Or.inr (slot_ne (Or.inl (hw _ (List.mem_of_getElem? (i := 59) rfl))) (Or.inr (hw _ (List.mem_of_getElem? (i := 57) rfl))) (by decide) (t := (.array .int)) (t' := (.object "java/util/Map")) (by decide) (by decide)))
  replace F_high_o0 := F_high_o0.other W13 (Or.inr (slot_ne (Or.inl (hw _ (List.mem_of_getElem? (i := 61) rfl))) (Or.inr (hw _ (List.mem_of_getElem? (i := 57) rfl))) (by decide) (t := (.array .int)) (t' := (.object "java/util/Map")) (by decide) (by decide)))
  replace S_DEFAULTCAPACITY_EMPTY_ELEMENTDATA := S_DEFAULTCAPACITY_EMPTY_ELEMENTDATA.wr W13
  replace E_b2 := E_b2.wr W13
  replace F_modCount_b2 := F_modCount_b2.other W13 (Or.inl (Ne.symm ne_o0_b2))
  replace F_elementData_b2 := F_elementData_b2.other W13 (Or.inl (Ne.symm ne_o0_b2))
  replace E_b5 := E_b5.wr W13
  replace F_modCount_b5 := F_modCount_b5.other W13 (Or.inl (Ne.symm ne_o0_b5))
  replace F_elementData_b5 := F_elementData_b5.other W13 (Or.inl (Ne.symm ne_o0_b5))
  replace E_b8 := E_b8.wr W13
  replace F_modCount_b8 := F_modCount_b8.other W13 (Or.inl (Ne.symm ne_o0_b8))
  replace F_elementData_b8 := F_elementData_b8.other W13 (Or.inl (Ne.symm ne_o0_b8))
  replace E_b11 := E_b11.wr W13
  have Zz13 := Nat.le_trans Zz12 (Keep.of_wr W13).1
  have Kk13 := Kk12.wr W13 (Or.inl (List.mem_of_getElem? (i := 0) rfl))
  have N13 := Fr.snoc X13 N12 g_o0
  refine go st13 ?_
  show Go p e below _ m T13 48 #[rv o0] []
  refine go (fun t kt => XS.aloadN X13.here hx rfl (hb hby d1_48) rfl rfl kt) ?_
  show Go p e below _ m T13 49 #[rv o0] [(.ref o0)]
  refine go (fun t kt => XS.iconst X13.here hx rfl (hb hby d1_49) kt) ?_
  show Go p e below _ m T13 50 #[rv o0] [(.int (0 : Int32)), (.ref o0)]
  obtain ⟨T14, h14, k14, X14, e14, E14, A14, st14⟩ := newP X13 hx hZ (hw _ (List.mem_of_getElem? (i := 0) rfl)) e13 (g := (mkF m 50 #[rv o0] [(.int (0 : Int32)), (.ref o0)])) rfl (hb hby d1_50) rfl (by decide) (cap := 0) (by decide) (by decide) (by decide) (by decide)
  obtain ⟨b14, g14⟩ : ∃ z, z = h13.size := ⟨_, rfl⟩
  rw [← g14] at A14 st14
  have ne_o0_b14 : o0 ≠ b14 := Nat.ne_of_lt (Nat.lt_of_lt_of_le E_o0.lt (Nat.le_of_eq g14.symm))
  have ne_b2_b14 : b2 ≠ b14 := Nat.ne_of_lt (Nat.lt_of_lt_of_le E_b2.lt (Nat.le_of_eq g14.symm))
  have ne_b5_b14 : b5 ≠ b14 := Nat.ne_of_lt (Nat.lt_of_lt_of_le E_b5.lt (Nat.le_of_eq g14.symm))
  have ne_b8_b14 : b8 ≠ b14 := Nat.ne_of_lt (Nat.lt_of_lt_of_le E_b8.lt (Nat.le_of_eq g14.symm))
  have ne_b11_b14 : b11 ≠ b14 := Nat.ne_of_lt (Nat.lt_of_lt_of_le E_b11.lt (Nat.le_of_eq g14.symm))
  have g_b14 : n0 ≤ b14 := Nat.le_trans Zz13 (Nat.le_of_eq g14.symm)
  have sz_b14 : h0.size ≤ b14 := Nat.le_trans Kk13.1 (Nat.le_of_eq g14.symm)
  replace E_o0 := E_o0.ext E14
  replace F_names_o0 := F_names_o0.ext E14
  replace F_types_o0 := F_types_o0.ext E14
  replace F_owners_o0 := F_owners_o0.ext E14
  replace F_slots_o0 := F_slots_o0.ext E14
  replace F_low_o0 := F_low_o0.ext E14
  replace F_high_o0 := F_high_o0.ext E14
  replace S_DEFAULTCAPACITY_EMPTY_ELEMENTDATA := S_DEFAULTCAPACITY_EMPTY_ELEMENTDATA.ext E14
  replace E_b2 := E_b2.ext E14
  replace F_modCount_b2 := F_modCount_b2.ext E14
  replace F_elementData_b2 := F_elementData_b2.ext E14
  replace E_b5 := E_b5.ext E14
  replace F_modCount_b5 := F_modCount_b5.ext E14
  replace F_elementData_b5 := F_elementData_b5.ext E14
  replace E_b8 := E_b8.ext E14
  replace F_modCount_b8 := F_modCount_b8.ext E14
  replace F_elementData_b8 := F_elementData_b8.ext E14
  replace E_b11 := E_b11.ext E14
  have Zz14 := Nat.le_trans Zz13 E14.1
  have Kk14 := Kk13.ext E14
  have V_b14 : Arv Z h14 b14 k14 .int (0 : Int32) [] (.int (0 : Int32)) := (Arv.new A14 (by decide))
  refine go st14 ?_
  show Go p e below _ m T14 52 #[rv o0] [(.ref b14), (.ref o0)]
  obtain ⟨T15, h15, X15, e15, W15, st15⟩ := putF X14 hx hZ hown (host := "") (Or.inl (hw _ (List.mem_of_getElem? (i := 58) rfl))) Via.refl e14 F_low_o0 E_o0 (Or.inl (hw _ (List.mem_of_getElem? (i := 59) rfl))) (hw _ (List.mem_of_getElem? (i := 2) rfl)) (ty := (.array .int)) (by decide) rfl rfl (g := (mkF m 52 #[rv o0] [(.ref b14), (.ref o0)])) rfl rfl (hb hby d1_52)
  replace F_low_o0 := F_low_o0.same W15
  replace E_o0 := E_o0.wr W15
  replace F_names_o0 := F_names_o0.other W15 (Or.inr (slot_ne (Or.inr (hw _ (List.mem_of_getElem? (i := 35) rfl))) (Or.inl (hw _ (List.mem_of_getElem? (i := 59) rfl))) (by decide) (t := (.object "java/util/List")) (t' := (.array .int)) (by decide) (by decide)))
  replace F_types_o0 := F_types_o0.other W15 (Or.inr (slot_ne (Or.inr (hw _ (List.mem_of_getElem? (i := 37) rfl))) (Or.inl (hw _ (List.mem_of_getElem? (i := 59) rfl))) (by decide) (t := (.object "java/util/List")) (t' := (.array .int)) (by decide) (by decide)))
  replace F_owners_o0 := F_owners_o0.other W15 (Or.inr (slot_ne (Or.inr (hw _ (List.mem_of_getElem? (i := 39) rfl))) (Or.inl (hw _ (List.mem_of_getElem? (i := 59) rfl))) (by decide) (t := (.object "java/util/List")) (t' := (.array .int)) (by decide) (by decide)))
  replace F_slots_o0 := F_slots_o0.other W15 (Or.inr (slot_ne (Or.inr (hw _ (List.mem_of_getElem? (i := 57) rfl))) (Or.inl (hw _ (List.mem_of_getElem? (i := 59) rfl))) (by decide) (t := (.object "java/util/Map")) (t' := (.array .int)) (by decide) (by decide)))
  replace F_high_o0 := F_high_o0.other W15 (Or.inr (slot_ne (Or.inl (hw _ (List.mem_of_getElem? (i := 61) rfl))) (Or.inl (hw _ (List.mem_of_getElem? (i := 59) rfl))) (by decide) (t := (.array .int)) (t' := (.array .int)) (by decide) (by decide)))
  replace S_DEFAULTCAPACITY_EMPTY_ELEMENTDATA := S_DEFAULTCAPACITY_EMPTY_ELEMENTDATA.wr W15
  replace E_b2 := E_b2.wr W15
  replace F_modCount_b2 := F_modCount_b2.other W15 (Or.inl (Ne.symm ne_o0_b2))
  replace F_elementData_b2 := F_elementData_b2.other W15 (Or.inl (Ne.symm ne_o0_b2))
  replace E_b5 := E_b5.wr W15
  replace F_modCount_b5 := F_modCount_b5.other W15 (Or.inl (Ne.symm ne_o0_b5))
  replace F_elementData_b5 := F_elementData_b5.other W15 (Or.inl (Ne.symm ne_o0_b5))
  replace E_b8 := E_b8.wr W15
  replace F_modCount_b8 := F_modCount_b8.other W15 (Or.inl (Ne.symm ne_o0_b8))
  replace F_elementData_b8 := F_elementData_b8.other W15 (Or.inl (Ne.symm ne_o0_b8))
  replace E_b11 := E_b11.wr W15
  replace V_b14 := V_b14.other W15 (Ne.symm ne_o0_b14)
  have Zz15 := Nat.le_trans Zz14 (Keep.of_wr W15).1
  have Kk15 := Kk14.wr W15 (Or.inl (List.mem_of_getElem? (i := 0) rfl))
  have N15 := Fr.snoc X15 N13 g_o0
  refine go st15 ?_
  show Go p e below _ m T15 55 #[rv o0] []
  refine go (fun t kt => XS.aloadN X15.here hx rfl (hb hby d1_55) rfl rfl kt) ?_
  show Go p e below _ m T15 56 #[rv o0] [(.ref o0)]
  refine go (fun t kt => XS.iconst X15.here hx rfl (hb hby d1_56) kt) ?_
  show Go p e below _ m T15 57 #[rv o0] [(.int (0 : Int32)), (.ref o0)]
  obtain ⟨T16, h16, k16, X16, e16, E16, A16, st16⟩ := newP X15 hx hZ (hw _ (List.mem_of_getElem? (i := 0) rfl)) e15 (g := (mkF m 57 #[rv o0] [(.int (0 : Int32)), (.ref o0)])) rfl (hb hby d1_57) rfl (by decide) (cap := 0) (by decide) (by decide) (by decide) (by decide)
  obtain ⟨b16, g16⟩ : ∃ z, z = h15.size := ⟨_, rfl⟩
  rw [← g16] at A16 st16
  have ne_o0_b16 : o0 ≠ b16 := Nat.ne_of_lt (Nat.lt_of_lt_of_le E_o0.lt (Nat.le_of_eq g16.symm))
  have ne_b2_b16 : b2 ≠ b16 := Nat.ne_of_lt (Nat.lt_of_lt_of_le E_b2.lt (Nat.le_of_eq g16.symm))
  have ne_b5_b16 : b5 ≠ b16 := Nat.ne_of_lt (Nat.lt_of_lt_of_le E_b5.lt (Nat.le_of_eq g16.symm))
  have ne_b8_b16 : b8 ≠ b16 := Nat.ne_of_lt (Nat.lt_of_lt_of_le E_b8.lt (Nat.le_of_eq g16.symm))
  have ne_b11_b16 : b11 ≠ b16 := Nat.ne_of_lt (Nat.lt_of_lt_of_le E_b11.lt (Nat.le_of_eq g16.symm))
  have ne_b14_b16 : b14 ≠ b16 := Nat.ne_of_lt (Nat.lt_of_lt_of_le V_b14.lt (Nat.le_of_eq g16.symm))
  have g_b16 : n0 ≤ b16 := Nat.le_trans Zz15 (Nat.le_of_eq g16.symm)
  have sz_b16 : h0.size ≤ b16 := Nat.le_trans Kk15.1 (Nat.le_of_eq g16.symm)
  replace E_o0 := E_o0.ext E16
  replace F_names_o0 := F_names_o0.ext E16
  replace F_types_o0 := F_types_o0.ext E16
  replace F_owners_o0 := F_owners_o0.ext E16
  replace F_slots_o0 := F_slots_o0.ext E16
  replace F_low_o0 := F_low_o0.ext E16
  replace F_high_o0 := F_high_o0.ext E16
  replace S_DEFAULTCAPACITY_EMPTY_ELEMENTDATA := S_DEFAULTCAPACITY_EMPTY_ELEMENTDATA.ext E16
  replace E_b2 := E_b2.ext E16
  replace F_modCount_b2 := F_modCount_b2.ext E16
  replace F_elementData_b2 := F_elementData_b2.ext E16
  replace E_b5 := E_b5.ext E16
  replace F_modCount_b5 := F_modCount_b5.ext E16
  replace F_elementData_b5 := F_elementData_b5.ext E16
  replace E_b8 := E_b8.ext E16
  replace F_modCount_b8 := F_modCount_b8.ext E16
  replace F_elementData_b8 := F_elementData_b8.ext E16
  replace E_b11 := E_b11.ext E16
  replace V_b14 := V_b14.ext E16
  have Zz16 := Nat.le_trans Zz15 E16.1
  have Kk16 := Kk15.ext E16
  have V_b16 : Arv Z h16 b16 k16 .int (0 : Int32) [] (.int (0 : Int32)) := (Arv.new A16 (by decide))
  refine go st16 ?_
  show Go p e below _ m T16 59 #[rv o0] [(.ref b16), (.ref o0)]
  obtain ⟨T17, h17, X17, e17, W17, st17⟩ := putF X16 hx hZ hown (host := "") (Or.inl (hw _ (List.mem_of_getElem? (i := 60) rfl))) Via.refl e16 F_high_o0 E_o0 (Or.inl (hw _ (List.mem_of_getElem? (i := 61) rfl))) (hw _ (List.mem_of_getElem? (i := 2) rfl)) (ty := (.array .int)) (by decide) rfl rfl (g := (mkF m 59 #[rv o0] [(.ref b16), (.ref o0)])) rfl rfl (hb hby d1_59)
  replace F_high_o0 := F_high_o0.same W17
  replace E_o0 := E_o0.wr W17
  replace F_names_o0 := F_names_o0.other W17 (Or.inr (slot_ne (Or.inr (hw _ (List.mem_of_getElem? (i := 35) rfl))) (Or.inl (hw _ (List.mem_of_getElem? (i := 61) rfl))) (by decide) (t := (.object "java/util/List")) (t' := (.array .int)) (by decide) (by decide)))
  replace F_types_o0 := F_types_o0.other W17 (Or.inr (slot_ne (Or.inr (hw _ (List.mem_of_getElem? (i := 37) rfl))) (Or.inl (hw _ (List.mem_of_getElem? (i := 61) rfl))) (by decide) (t := (.object "java/util/List")) (t' := (.array .int)) (by decide) (by decide)))
  replace F_owners_o0 := F_owners_o0.other W17 (Or.inr (slot_ne (Or.inr (hw _ (List.mem_of_getElem? (i := 39) rfl))) (Or.inl (hw _ (List.mem_of_getElem? (i := 61) rfl))) (by decide) (t := (.object "java/util/List")) (t' := (.array .int)) (by decide) (by decide)))
  replace F_slots_o0 := F_slots_o0.other W17 (Or.inr (slot_ne (Or.inr (hw _ (List.mem_of_getElem? (i := 57) rfl))) (Or.inl (hw _ (List.mem_of_getElem? (i := 61) rfl))) (by decide) (t := (.object "java/util/Map")) (t' := (.array .int)) (by decide) (by decide)))
  replace F_low_o0 := F_low_o0.other W17 (Or.inr (slot_ne (Or.inl (hw _ (List.mem_of_getElem? (i := 59) rfl))) (Or.inl (hw _ (List.mem_of_getElem? (i := 61) rfl))) (by decide) (t := (.array .int)) (t' := (.array .int)) (by decide) (by decide)))
  replace S_DEFAULTCAPACITY_EMPTY_ELEMENTDATA := S_DEFAULTCAPACITY_EMPTY_ELEMENTDATA.wr W17
  replace E_b2 := E_b2.wr W17
  replace F_modCount_b2 := F_modCount_b2.other W17 (Or.inl (Ne.symm ne_o0_b2))
  replace F_elementData_b2 := F_elementData_b2.other W17 (Or.inl (Ne.symm ne_o0_b2))
  replace E_b5 := E_b5.wr W17
  replace F_modCount_b5 := F_modCount_b5.other W17 (Or.inl (Ne.symm ne_o0_b5))
  replace F_elementData_b5 := F_elementData_b5.other W17 (Or.inl (Ne.symm ne_o0_b5))
  replace E_b8 := E_b8.wr W17
  replace F_modCount_b8 := F_modCount_b8.other W17 (Or.inl (Ne.symm ne_o0_b8))
  replace F_elementData_b8 := F_elementData_b8.other W17 (Or.inl (Ne.symm ne_o0_b8))
  replace E_b11 := E_b11.wr W17
  replace V_b14 := V_b14.other W17 (Ne.symm ne_o0_b14)
  replace V_b16 := V_b16.other W17 (Ne.symm ne_o0_b16)
  have Zz17 := Nat.le_trans Zz16 (Keep.of_wr W17).1
  have Kk17 := Kk16.wr W17 (Or.inl (List.mem_of_getElem? (i := 0) rfl))
  have N17 := Fr.snoc X17 N15 g_o0
  refine go st17 ?_
  show Go p e below _ m T17 62 #[rv o0] []
  obtain ⟨fs, hr, hrun, hended, hW, hsame⟩ := X17.leave (v := none) (fun _ => rfl)
  refine ⟨_, _, X17.returnOut hx Bd.returns (hb hby d1_62) hr, hrun, hended, _, _, rfl, ?_, ⟨_, rfl⟩, hW, hsame.mono (by decide) (by decide)⟩
  show Q1 Z o0 u0 u1 u2 u3 u4 u5 sd h0 n0 _ T17.heap _
  rw [e17]
  exact ⟨rfl, N17, Kk17, E_o0, ⟨_, F_low_o0⟩, ⟨_, F_high_o0⟩⟩
theorem d8_0 : decode prog_88_method_3_code 0 = .ok (.aload_n 0, 1) := by decide +kernel
theorem d8_1 : decode prog_88_method_3_code 1 = .ok (.aload_n 1, 1) := by decide +kernel
theorem d8_2 : decode prog_88_method_3_code 2 = .ok (.invokevirtual 58, 3) := by decide +kernel
theorem d8_5 : decode prog_88_method_3_code 5 = .ok (.checkcast 59, 3) := by decide +kernel
theorem d8_8 : decode prog_88_method_3_code 8 = .ok (.putfield 29, 3) := by decide +kernel
theorem d8_11 : decode prog_88_method_3_code 11 = .ok (.aload_n 0, 1) := by decide +kernel
theorem d8_12 : decode prog_88_method_3_code 12 = .ok (.aload_n 2, 1) := by decide +kernel
theorem d8_13 : decode prog_88_method_3_code 13 = .ok (.invokevirtual 58, 3) := by decide +kernel
theorem d8_16 : decode prog_88_method_3_code 16 = .ok (.checkcast 59, 3) := by decide +kernel
theorem d8_19 : decode prog_88_method_3_code 19 = .ok (.putfield 33, 3) := by decide +kernel
theorem d8_22 : decode prog_88_method_3_code 22 = .ok (.return_, 1) := by decide +kernel
theorem ef_8 (m : MethodId) (o0 : Addr) (o1 : Addr) (o2 : Addr) : entryFrame m #[(.ref o0), (.ref o1), (.ref o2)] 3 = mkF m 0 #[rv o0, rv o1, rv o2] [] := by first | (simp [entryFrame, mkF, argsToLocals, Value.category]; done) | rfl
def Q8 (Z : State) (o0 : Addr) (o1 : Addr) (o2 : Addr) (ul : Value) (uh : Value) (k1 : ClassId) (z1 : Int32) (vs1 : List Value) (k2 : ClassId) (z2 : Int32) (vs2 : List Value) (h0 : Heap) (n0 : Nat) (v : Option Value) (h : Heap) (L : List Loc) : Prop := v = none ∧ Fr n0 L ∧ Keep h0 h [o0] ∧ Exa Z h o0 "com/example/anytime_arena/anytimearena/io/VariableTable" ∧ ∃ c1 c2 : Addr, h0.size ≤ c1 ∧ h0.size ≤ c2 ∧ c1 ≠ c2 ∧ Fld Z h o0 "com/example/anytime_arena/anytimearena/io/VariableTable" "low" "[I" (.ref c1) ∧ Fld Z h o0 "com/example/anytime_arena/anytimearena/io/VariableTable" "high" "[I" (.ref c2) ∧ Exa Z h c1 "[I" ∧ Arv Z h c1 k1 .int z1 vs1 (.int (0 : Int32)) ∧ Exa Z h c2 "[I" ∧ Arv Z h c2 k2 .int z2 vs2 (.int (0 : Int32))
set_option maxRecDepth 65536 in
set_option maxHeartbeats 40000000 in
theorem rm8 (l : Launch) (Z : State) (a0 : Array Value) (hw : ∀ d ∈ tables_1, d.before a0 Z = true) (ws : List Jvm.Cond) (o0 : Addr) (o1 : Addr) (o2 : Addr) (ul : Value) (uh : Value) (k1 : ClassId) (z1 : Int32) (vs1 : List Value) (k2 : ClassId) (z2 : Int32) (vs2 : List Value) (h0 : Heap) (n0 : Nat) (Z0 : n0 ≤ h0.size) (E_o0 : Exa Z h0 o0 "com/example/anytime_arena/anytimearena/io/VariableTable") (F_low_o0 : Fld Z h0 o0 "com/example/anytime_arena/anytimearena/io/VariableTable" "low" "[I" ul) (F_high_o0 : Fld Z h0 o0 "com/example/anytime_arena/anytimearena/io/VariableTable" "high" "[I" uh) (E_o1 : Exa Z h0 o1 "[I") (V_o1 : Arv Z h0 o1 k1 .int z1 vs1 (.int (0 : Int32))) (E_o2 : Exa Z h0 o2 "[I") (V_o2 : Arv Z h0 o2 k2 .int z2 vs2 (.int (0 : Int32))) (ne_o0_o1 : o0 ≠ o1) (ne_o0_o2 : o0 ≠ o2) (g_o0 : n0 ≤ o0) (hz1 : z1.toNatClampNeg ≤ 2) (hz2 : z2.toNatClampNeg ≤ 2) :
    MetFree l (⟨"com/example/anytime_arena/anytimearena/io/VariableTable", "setRanges", "([I[I)V"⟩ : MethodName) (head1 (Jvm.Cond.code (⟨"com/example/anytime_arena/anytimearena/io/VariableTable", "setRanges", "([I[I)V"⟩ : MethodName) prog_88_method_3_code 3 none :: ws) ({ frames := 1, cells := 2, slots := 4, locals := 15 } : Room)) (fun a U => a = #[(.ref o0), (.ref o1), (.ref o2)] ∧ Z.Warmed39 U.vm ∧ U.heap = h0) (fun _ _ _ _ _ => True) (fun _ U o U' => ∃ v L, o = .returned v ∧ Q8 Z o0 o1 o2 ul uh k1 z1 vs1 k2 z2 vs2 h0 n0 v U'.heap L ∧ FrameEnd U o U' L ({ frames := 1, cells := 2, slots := 4, locals := 15 } : Room).cells ({ frames := 1, cells := 2, slots := 4, locals := 15 } : Room).slots) := by
  refine MetFree.of_bodySF (plainFor_of_name pn_1) hisR ?_
  intro p e s m args below meth c s₁ Bd hml0 hP hK
  obtain ⟨rfl, hZ, hh⟩ := hP
  have hx := Bd.exec
  have hby := Bd.bytes
  have hml : c.maxLocals = 3 := hml0
  have hown : s.vm.findClass "com/example/anytime_arena/anytimearena/io/VariableTable" = some m.cls := findClass_of_methodNamed Bd.named
  have hnm := (name_of_methodNamed Bd.named Bd.method).1
  have X0 : Stand p l e ({ frames := 1, cells := 2, slots := 4, locals := 15 } : Room) s m #[(.ref o0), (.ref o1), (.ref o2)] below meth c s₁ [] 0 0 := Stand.of_body Bd
  have e0 : s₁.heap = h0 := by rw [← hh, Bd.state]; rfl
  have N0 := Fr.nil n0
  have K0 := Keep.refl h0 [o0]
  suffices hgo : Goes p.tables e below (fun s₂ o => ∃ v L, o = .returned v ∧ Q8 Z o0 o1 o2 ul uh k1 z1 vs1 k2 z2 vs2 h0 n0 v s₂.heap L ∧ FrameEnd s o s₂ L ({ frames := 1, cells := 2, slots := 4, locals := 15 } : Room).cells ({ frames := 1, cells := 2, slots := 4, locals := 15 } : Room).slots) (s₁.setTop (mkF m 0 #[rv o0, rv o1, rv o2] [])) from goEnd (fun t k => castTop (ef_8 m o0 o1 o2) k) hgo
  refine go (fun t kt => XS.aloadN X0.here hx rfl (hb hby d8_0) rfl rfl kt) ?_
  show Go p e below _ m s₁ 1 #[rv o0, rv o1, rv o2] [(.ref o0)]
  refine go (fun t kt => XS.aloadN X0.here hx rfl (hb hby d8_1) rfl rfl kt) ?_
  show Go p e below _ m s₁ 2 #[rv o0, rv o1, rv o2] [(.ref o1), (.ref o0)]
  obtain ⟨cl1, Ar1, q1, S1, M1, H1, G1⟩ := id V_o1
  have FC1 := fitC_of Ar1 (fun i hi v hv => by rw [H1 i hi] at hv; cases hv; exact G1 i hi)
  obtain ⟨T1, h1, X1, e1, E1, A1, B1, st1⟩ := cloneA X0 hx hZ hown (hw _ (List.mem_of_getElem? (i := 67) rfl)) (hw _ (List.mem_of_getElem? (i := 68) rfl)) (hw _ (List.mem_of_getElem? (i := 72) rfl)) (hw _ (List.mem_of_getElem? (i := 70) rfl)) (hw _ (List.mem_of_getElem? (i := 71) rfl)) (hw _ (List.mem_of_getElem? (i := 73) rfl)) e0 Ar1 E_o1 FC1 (g := (mkF m 2 #[rv o0, rv o1, rv o2] [(.ref o1), (.ref o0)])) rfl (by rw [hml]; rfl) rfl (hb hby d8_2) (by decide) (W := 1) (cap := 2) (by show 2 * 0 + _ ≤ _; exact Nat.le_of_eq rfl) (by decide) (by rw [S1]; exact hz1) (by decide) (by decide)
  obtain ⟨b1, g1⟩ : ∃ z, z = h0.size := ⟨_, rfl⟩
  rw [← g1] at A1 B1 st1
  have ne_o0_b1 : o0 ≠ b1 := Nat.ne_of_lt (Nat.lt_of_lt_of_le E_o0.lt (Nat.le_of_eq g1.symm))
  have ne_o1_b1 : o1 ≠ b1 := Nat.ne_of_lt (Nat.lt_of_lt_of_le E_o1.lt (Nat.le_of_eq g1.symm))
  have ne_o2_b1 : o2 ≠ b1 := Nat.ne_of_lt (Nat.lt_of_lt_of_le E_o2.lt (Nat.le_of_eq g1.symm))
  have g_b1 : n0 ≤ b1 := Nat.le_trans Z0 (Nat.le_of_eq g1.symm)
  have sz_b1 : h0.size ≤ b1 := Nat.le_trans K0.1 (Nat.le_of_eq g1.symm)
  replace E_o0 := E_o0.ext E1
  replace F_low_o0 := F_low_o0.ext E1
  replace F_high_o0 := F_high_o0.ext E1
  replace E_o1 := E_o1.ext E1
  replace V_o1 := V_o1.ext E1
  replace E_o2 := E_o2.ext E1
  replace V_o2 := V_o2.ext E1
  have Zz1 := Nat.le_trans Z0 E1.1
  have Kk1 := K0.ext E1
  have E_b1 := B1
  have V_b1 : Arv Z h1 b1 k1 .int z1 vs1 (.int (0 : Int32)) := ⟨cloneOf cl1, A1, q1, S1, M1, H1, G1⟩
  refine go st1 ?_
  show Go p e below _ m T1 5 #[rv o0, rv o1, rv o2] [(.ref b1), (.ref o0)]
  obtain ⟨T2, X2, e2, st2⟩ := castY X1 hx hZ hown (hw _ (List.mem_of_getElem? (i := 74) rfl)) e1 (Ins.self E_b1) (g := (mkF m 5 #[rv o0, rv o1, rv o2] [(.ref b1), (.ref o0)])) rfl rfl (hb hby d8_5)
  refine go st2 ?_
  show Go p e below _ m T2 8 #[rv o0, rv o1, rv o2] [(.ref b1), (.ref o0)]
  obtain ⟨T3, h3, X3, e3, W3, st3⟩ := putF X2 hx hZ hown (host := "") (Or.inl (hw _ (List.mem_of_getElem? (i := 58) rfl))) Via.refl e2 F_low_o0 E_o0 (Or.inl (hw _ (List.mem_of_getElem? (i := 59) rfl))) (hw _ (List.mem_of_getElem? (i := 2) rfl)) (ty := (.array .int)) (by decide) rfl rfl (g := (mkF m 8 #[rv o0, rv o1, rv o2] [(.ref b1), (.ref o0)])) rfl rfl (hb hby d8_8)
  replace F_low_o0 := F_low_o0.same W3
  replace E_o0 := E_o0.wr W3
  replace F_high_o0 := F_high_o0.other W3 (Or.inr (slot_ne (Or.inl (hw _ (List.mem_of_getElem? (i := 61) rfl))) (Or.inl (hw _ (List.mem_of_getElem? (i := 59) rfl))) (by decide) (t := (.array .int)) (t' := (.array .int)) (by decide) (by decide)))
  replace E_o1 := E_o1.wr W3
  replace V_o1 := V_o1.other W3 (Ne.symm ne_o0_o1)
  replace E_o2 := E_o2.wr W3
  replace V_o2 := V_o2.other W3 (Ne.symm ne_o0_o2)
  replace E_b1 := E_b1.wr W3
  replace V_b1 := V_b1.other W3 (Ne.symm ne_o0_b1)
  have Zz3 := Nat.le_trans Zz1 (Keep.of_wr W3).1
  have Kk3 := Kk1.wr W3 (Or.inl (List.mem_of_getElem? (i := 0) rfl))
  have N3 := Fr.snoc X3 N0 g_o0
  refine go st3 ?_
  show Go p e below _ m T3 11 #[rv o0, rv o1, rv o2] []
  refine go (fun t kt => XS.aloadN X3.here hx rfl (hb hby d8_11) rfl rfl kt) ?_
  show Go p e below _ m T3 12 #[rv o0, rv o1, rv o2] [(.ref o0)]
  refine go (fun t kt => XS.aloadN X3.here hx rfl (hb hby d8_12) rfl rfl kt) ?_
  show Go p e below _ m T3 13 #[rv o0, rv o1, rv o2] [(.ref o2), (.ref o0)]
  obtain ⟨cl4, Ar4, q4, S4, M4, H4, G4⟩ := id V_o2
  have FC4 := fitC_of Ar4 (fun i hi v hv => by rw [H4 i hi] at hv; cases hv; exact G4 i hi)
  obtain ⟨T4, h4, X4, e4, E4, A4, B4, st4⟩ := cloneA X3 hx hZ hown (hw _ (List.mem_of_getElem? (i := 67) rfl)) (hw _ (List.mem_of_getElem? (i := 68) rfl)) (hw _ (List.mem_of_getElem? (i := 72) rfl)) (hw _ (List.mem_of_getElem? (i := 70) rfl)) (hw _ (List.mem_of_getElem? (i := 71) rfl)) (hw _ (List.mem_of_getElem? (i := 73) rfl)) e3 Ar4 E_o2 FC4 (g := (mkF m 13 #[rv o0, rv o1, rv o2] [(.ref o2), (.ref o0)])) rfl (by rw [hml]; rfl) rfl (hb hby d8_13) (by decide) (W := 1) (cap := 2) (by show 2 * 0 + _ ≤ _; exact Nat.le_of_eq rfl) (by decide) (by rw [S4]; exact hz2) (by decide) (by decide)
  obtain ⟨b4, g4⟩ : ∃ z, z = h3.size := ⟨_, rfl⟩
  rw [← g4] at A4 B4 st4
  have ne_o0_b4 : o0 ≠ b4 := Nat.ne_of_lt (Nat.lt_of_lt_of_le E_o0.lt (Nat.le_of_eq g4.symm))
  have ne_o1_b4 : o1 ≠ b4 := Nat.ne_of_lt (Nat.lt_of_lt_of_le E_o1.lt (Nat.le_of_eq g4.symm))
  have ne_o2_b4 : o2 ≠ b4 := Nat.ne_of_lt (Nat.lt_of_lt_of_le E_o2.lt (Nat.le_of_eq g4.symm))
  have ne_b1_b4 : b1 ≠ b4 := Nat.ne_of_lt (Nat.lt_of_lt_of_le E_b1.lt (Nat.le_of_eq g4.symm))
  have g_b4 : n0 ≤ b4 := Nat.le_trans Zz3 (Nat.le_of_eq g4.symm)
  have sz_b4 : h0.size ≤ b4 := Nat.le_trans Kk3.1 (Nat.le_of_eq g4.symm)
  replace E_o0 := E_o0.ext E4
  replace F_low_o0 := F_low_o0.ext E4
  replace F_high_o0 := F_high_o0.ext E4
  replace E_o1 := E_o1.ext E4
  replace V_o1 := V_o1.ext E4
  replace E_o2 := E_o2.ext E4
  replace V_o2 := V_o2.ext E4
  replace E_b1 := E_b1.ext E4
  replace V_b1 := V_b1.ext E4
  have Zz4 := Nat.le_trans Zz3 E4.1
  have Kk4 := Kk3.ext E4
  have E_b4 := B4
  have V_b4 : Arv Z h4 b4 k2 .int z2 vs2 (.int (0 : Int32)) := ⟨cloneOf cl4, A4, q4, S4, M4, H4, G4⟩
  refine go st4 ?_
  show Go p e below _ m T4 16 #[rv o0, rv o1, rv o2] [(.ref b4), (.ref o0)]
  obtain ⟨T5, X5, e5, st5⟩ := castY X4 hx hZ hown (hw _ (List.mem_of_getElem? (i := 74) rfl)) e4 (Ins.self E_b4) (g := (mkF m 16 #[rv o0, rv o1, rv o2] [(.ref b4), (.ref o0)])) rfl rfl (hb hby d8_16)
  refine go st5 ?_
  show Go p e below _ m T5 19 #[rv o0, rv o1, rv o2] [(.ref b4), (.ref o0)]
  obtain ⟨T6, h6, X6, e6, W6, st6⟩ := putF X5 hx hZ hown (host := "") (Or.inl (hw _ (List.mem_of_getElem? (i := 60) rfl))) Via.refl e5 F_high_o0 E_o0 (Or.inl (hw _ (List.mem_of_getElem? (i := 61) rfl))) (hw _ (List.mem_of_getElem? (i := 2) rfl)) (ty := (.array .int)) (by decide) rfl rfl (g := (mkF m 19 #[rv o0, rv o1, rv o2] [(.ref b4), (.ref o0)])) rfl rfl (hb hby d8_19)
  replace F_high_o0 := F_high_o0.same W6
  replace E_o0 := E_o0.wr W6
  replace F_low_o0 := F_low_o0.other W6 (Or.inr (slot_ne (Or.inl (hw _ (List.mem_of_getElem? (i := 59) rfl))) (Or.inl (hw _ (List.mem_of_getElem? (i := 61) rfl))) (by decide) (t := (.array .int)) (t' := (.array .int)) (by decide) (by decide)))
  replace E_o1 := E_o1.wr W6
  replace V_o1 := V_o1.other W6 (Ne.symm ne_o0_o1)
  replace E_o2 := E_o2.wr W6
  replace V_o2 := V_o2.other W6 (Ne.symm ne_o0_o2)
  replace E_b1 := E_b1.wr W6
  replace V_b1 := V_b1.other W6 (Ne.symm ne_o0_b1)
  replace E_b4 := E_b4.wr W6
  replace V_b4 := V_b4.other W6 (Ne.symm ne_o0_b4)
  have Zz6 := Nat.le_trans Zz4 (Keep.of_wr W6).1
  have Kk6 := Kk4.wr W6 (Or.inl (List.mem_of_getElem? (i := 0) rfl))
  have N6 := Fr.snoc X6 N3 g_o0
  refine go st6 ?_
  show Go p e below _ m T6 22 #[rv o0, rv o1, rv o2] []
  obtain ⟨fs, hr, hrun, hended, hW, hsame⟩ := X6.leave (v := none) (fun _ => rfl)
  refine ⟨_, _, X6.returnOut hx Bd.returns (hb hby d8_22) hr, hrun, hended, _, _, rfl, ?_, ⟨_, rfl⟩, hW, hsame.mono (by decide) (by decide)⟩
  show Q8 Z o0 o1 o2 ul uh k1 z1 vs1 k2 z2 vs2 h0 n0 _ T6.heap _
  rw [e6]
  exact ⟨rfl, N6, Kk6, E_o0, b1, b4, sz_b1, sz_b4, ne_b1_b4, F_low_o0, F_high_o0, E_b1, V_b1, E_b4, V_b4⟩
theorem d11_0 : decode prog_88_method_11_code 0 = .ok (.iload_n 2, 1) := by decide +kernel
theorem d11_1 : decode prog_88_method_11_code 1 = .ok (.aload_n 0, 1) := by decide +kernel
theorem d11_2 : decode prog_88_method_11_code 2 = .ok (.getfield 29, 3) := by decide +kernel
theorem d11_5 : decode prog_88_method_11_code 5 = .ok (.iload_n 1, 1) := by decide +kernel
theorem d11_6 : decode prog_88_method_11_code 6 = .ok (.iaload, 1) := by decide +kernel
theorem d11_7 : decode prog_88_method_11_code 7 = .ok (.if_icmp .lt 17, 3) := by decide +kernel
theorem d11_24 : decode prog_88_method_11_code 24 = .ok (.iconst 0, 1) := by decide +kernel
theorem d11_25 : decode prog_88_method_11_code 25 = .ok (.ireturn, 1) := by decide +kernel
theorem d11_10 : decode prog_88_method_11_code 10 = .ok (.iload_n 2, 1) := by decide +kernel
theorem d11_11 : decode prog_88_method_11_code 11 = .ok (.aload_n 0, 1) := by decide +kernel
theorem d11_12 : decode prog_88_method_11_code 12 = .ok (.getfield 33, 3) := by decide +kernel
theorem d11_15 : decode prog_88_method_11_code 15 = .ok (.iload_n 1, 1) := by decide +kernel
theorem d11_16 : decode prog_88_method_11_code 16 = .ok (.iaload, 1) := by decide +kernel
theorem d11_17 : decode prog_88_method_11_code 17 = .ok (.if_icmp .gt 7, 3) := by decide +kernel
theorem d11_20 : decode prog_88_method_11_code 20 = .ok (.iconst 1, 1) := by decide +kernel
theorem d11_21 : decode prog_88_method_11_code 21 = .ok (.goto 4, 3) := by decide +kernel
def own_inR (p2 : Int32) (x1 : Int32) (x2 : Int32) : Int32 := (if p2 < x1 then (0 : Int32) else (if x2 < p2 then (0 : Int32) else (1 : Int32)))
theorem ef_11 (m : MethodId) (o0 : Addr) (p1 : Int32) (p2 : Int32) : entryFrame m #[(.ref o0), (.int p1), (.int p2)] 3 = mkF m 0 #[rv o0, iv p1, iv p2] [] := by first | (simp [entryFrame, mkF, argsToLocals, Value.category]; done) | rfl
def Q11 (Z : State) (o0 : Addr) (p1 : Int32) (p2 : Int32) (c1 : Addr) (c2 : Addr) (k1 : ClassId) (z1 : Int32) (vs1 : List Value) (k2 : ClassId) (z2 : Int32) (vs2 : List Value) (x1 : Int32) (x2 : Int32) (h0 : Heap) (n0 : Nat) (v : Option Value) (h : Heap) (L : List Loc) : Prop := v = some (.int (own_inR p2 x1 x2)) ∧ Fr n0 L ∧ h = h0
set_option maxRecDepth 65536 in
set_option maxHeartbeats 40000000 in
theorem rm11 (l : Launch) (Z : State) (a0 : Array Value) (hw : ∀ d ∈ tables_1, d.before a0 Z = true) (ws : List Jvm.Cond) (o0 : Addr) (p1 : Int32) (p2 : Int32) (c1 : Addr) (c2 : Addr) (k1 : ClassId) (z1 : Int32) (vs1 : List Value) (k2 : ClassId) (z2 : Int32) (vs2 : List Value) (x1 : Int32) (x2 : Int32) (h0 : Heap) (n0 : Nat) (Z0 : n0 ≤ h0.size) (F_low_o0 : Fld Z h0 o0 "com/example/anytime_arena/anytimearena/io/VariableTable" "low" "[I" (.ref c1)) (F_high_o0 : Fld Z h0 o0 "com/example/anytime_arena/anytimearena/io/VariableTable" "high" "[I" (.ref c2)) (V_c1 : Arv Z h0 c1 k1 .int z1 vs1 (.int (0 : Int32))) (V_c2 : Arv Z h0 c2 k2 .int z2 vs2 (.int (0 : Int32))) (hi1 : ¬ p1 < 0 ∧ p1 < z1) (hi2 : ¬ p1 < 0 ∧ p1 < z2) (hv1 : vs1.getD p1.toNatClampNeg (.int (0 : Int32)) = (.int x1)) (hv2 : vs2.getD p1.toNatClampNeg (.int (0 : Int32)) = (.int x2)) :
    MetFree l (⟨"com/example/anytime_arena/anytimearena/io/VariableTable", "inRange", "(II)Z"⟩ : MethodName) (head1 (Jvm.Cond.code (⟨"com/example/anytime_arena/anytimearena/io/VariableTable", "inRange", "(II)Z"⟩ : MethodName) prog_88_method_11_code 3 (some .boolean) :: ws) ({ frames := 0, cells := 0, slots := 0, locals := 0 } : Room)) (fun a U => a = #[(.ref o0), (.int p1), (.int p2)] ∧ Z.Warmed39 U.vm ∧ U.heap = h0) (fun _ _ _ _ _ => True) (fun _ U o U' => ∃ v L, o = .returned v ∧ Q11 Z o0 p1 p2 c1 c2 k1 z1 vs1 k2 z2 vs2 x1 x2 h0 n0 v U'.heap L ∧ FrameEnd U o U' L ({ frames := 0, cells := 0, slots := 0, locals := 0 } : Room).cells ({ frames := 0, cells := 0, slots := 0, locals := 0 } : Room).slots) := by
  refine MetFree.of_bodySF (plainFor_of_name pn_1) hisR ?_
  intro p e s m args below meth c s₁ Bd hml0 hP hK
  obtain ⟨rfl, hZ, hh⟩ := hP
  have hx := Bd.exec
  have hby := Bd.bytes
  have hml : c.maxLocals = 3 := hml0
  have hown : s.vm.findClass "com/example/anytime_arena/anytimearena/io/VariableTable" = some m.cls := findClass_of_methodNamed Bd.named
  have hnm := (name_of_methodNamed Bd.named Bd.method).1
  have X0 : Stand p l e ({ frames := 0, cells := 0, slots := 0, locals := 0 } : Room) s m #[(.ref o0), (.int p1), (.int p2)] below meth c s₁ [] 0 0 := Stand.of_body Bd
  have e0 : s₁.heap = h0 := by rw [← hh, Bd.state]; rfl
  have N0 := Fr.nil n0
  have K0 := Keep.refl h0 []
  suffices hgo : Goes p.tables e below (fun s₂ o => ∃ v L, o = .returned v ∧ Q11 Z o0 p1 p2 c1 c2 k1 z1 vs1 k2 z2 vs2 x1 x2 h0 n0 v s₂.heap L ∧ FrameEnd s o s₂ L ({ frames := 0, cells := 0, slots := 0, locals := 0 } : Room).cells ({ frames := 0, cells := 0, slots := 0, locals := 0 } : Room).slots) (s₁.setTop (mkF m 0 #[rv o0, iv p1, iv p2] [])) from goEnd (fun t k => castTop (ef_11 m o0 p1 p2) k) hgo
  refine go (fun t kt => XS.iloadN X0.here hx rfl (hb hby d11_0) rfl kt) ?_
  show Go p e below _ m s₁ 1 #[rv o0, iv p1, iv p2] [(.int p2)]
  refine go (fun t kt => XS.aloadN X0.here hx rfl (hb hby d11_1) rfl rfl kt) ?_
  show Go p e below _ m s₁ 2 #[rv o0, iv p1, iv p2] [(.ref o0), (.int p2)]
  obtain ⟨T1, X1, e1, st1⟩ := getF X0 hx hZ hown (host := "") (Or.inl (hw _ (List.mem_of_getElem? (i := 58) rfl))) Via.refl e0 F_low_o0 (g := (mkF m 2 #[rv o0, iv p1, iv p2] [(.ref o0), (.int p2)])) rfl rfl (hb hby d11_2)
  refine go st1 ?_
  show Go p e below _ m T1 5 #[rv o0, iv p1, iv p2] [(.ref c1), (.int p2)]
  refine go (fun t kt => XS.iloadN X1.here hx rfl (hb hby d11_5) rfl kt) ?_
  show Go p e below _ m T1 6 #[rv o0, iv p1, iv p2] [(.int p1), (.ref c1), (.int p2)]
  obtain ⟨cl2, Ar2, q2, S2, M2, H2, G2⟩ := id V_c1
  have hin2 : ¬ (p1 < 0 ∨ cl2.slots.size ≤ (p1).toNatClampNeg) := inb_of S2 hi1
  have hat2 : cl2.slots[(p1).toNatClampNeg]? = some (.int x1) := H2.at hin2 hv1
  refine go (X1.iaload hx (j := p1) (v := (.int x1)) (by rw [e1]; exact Ar2.1) (State.isArrayOf_alike hZ.alike Ar2.2.1) Ar2.2.2 hin2 hat2 (g := (mkF m 6 #[rv o0, iv p1, iv p2] [(.int p1), (.ref c1), (.int p2)])) rfl rfl (hb hby d11_6)) ?_
  show Go p e below _ m T1 7 #[rv o0, iv p1, iv p2] [(.int x1), (.int p2)]
  by_cases hc3 : p2 < x1
  ·
    refine go (fun t kt => XS.icmpYes X1.here hx rfl (pc0 := 7) (pc' := 24) rfl (hb hby d11_7) rfl (tlt hc3).1 (by decide) (by decide) kt) ?_
    show Go p e below _ m T1 24 #[rv o0, iv p1, iv p2] []
    refine go (fun t kt => XS.iconst X1.here hx rfl (hb hby d11_24) kt) ?_
    show Go p e below _ m T1 25 #[rv o0, iv p1, iv p2] [(.int (0 : Int32))]
    obtain ⟨fs, hr, hrun, hended, hW, hsame⟩ := X1.leave (v := some (.int (0 : Int32))) (fun h => by rw [Bd.returns] at h; cases h)
    refine ⟨_, _, retN X1 hx (t := .boolean) Bd.returns (by simp) (hb hby d11_25) hr, hrun, hended, _, _, rfl, ?_, ⟨_, rfl⟩, hW, hsame.mono (by decide) (by decide)⟩
    show Q11 Z o0 p1 p2 c1 c2 k1 z1 vs1 k2 z2 vs2 x1 x2 h0 n0 _ T1.heap _
    rw [e1]
    exact ⟨(by unfold own_inR; rw [if_pos hc3]), N0, rfl⟩
  ·
    refine go (fun t kt => XS.icmpNo X1.here hx rfl (hb hby d11_7) rfl (flt hc3).1 kt) ?_
    show Go p e below _ m T1 10 #[rv o0, iv p1, iv p2] []
    refine go (fun t kt => XS.iloadN X1.here hx rfl (hb hby d11_10) rfl kt) ?_
    show Go p e below _ m T1 11 #[rv o0, iv p1, iv p2] [(.int p2)]
    refine go (fun t kt => XS.aloadN X1.here hx rfl (hb hby d11_11) rfl rfl kt) ?_
    show Go p e below _ m T1 12 #[rv o0, iv p1, iv p2] [(.ref o0), (.int p2)]
    obtain ⟨T5, X5, e5, st5⟩ := getF X1 hx hZ hown (host := "") (Or.inl (hw _ (List.mem_of_getElem? (i := 60) rfl))) Via.refl e1 F_high_o0 (g := (mkF m 12 #[rv o0, iv p1, iv p2] [(.ref o0), (.int p2)])) rfl rfl (hb hby d11_12)
    refine go st5 ?_
    show Go p e below _ m T5 15 #[rv o0, iv p1, iv p2] [(.ref c2), (.int p2)]
    refine go (fun t kt => XS.iloadN X5.here hx rfl (hb hby d11_15) rfl kt) ?_
    show Go p e below _ m T5 16 #[rv o0, iv p1, iv p2] [(.int p1), (.ref c2), (.int p2)]
    obtain ⟨cl6, Ar6, q6, S6, M6, H6, G6⟩ := id V_c2
    have hin6 : ¬ (p1 < 0 ∨ cl6.slots.size ≤ (p1).toNatClampNeg) := inb_of S6 hi2
    have hat6 : cl6.slots[(p1).toNatClampNeg]? = some (.int x2) := H6.at hin6 hv2
    refine go (X5.iaload hx (j := p1) (v := (.int x2)) (by rw [e5]; exact Ar6.1) (State.isArrayOf_alike hZ.alike Ar6.2.1) Ar6.2.2 hin6 hat6 (g := (mkF m 16 #[rv o0, iv p1, iv p2] [(.int p1), (.ref c2), (.int p2)])) rfl rfl (hb hby d11_16)) ?_
    show Go p e below _ m T5 17 #[rv o0, iv p1, iv p2] [(.int x2), (.int p2)]
    by_cases hc7 : x2 < p2
    ·
      refine go (fun t kt => XS.icmpYes X5.here hx rfl (pc0 := 17) (pc' := 24) rfl (hb hby d11_17) rfl (tlt hc7).2.2.1 (by decide) (by decide) kt) ?_
      show Go p e below _ m T5 24 #[rv o0, iv p1, iv p2] []
      refine go (fun t kt => XS.iconst X5.here hx rfl (hb hby d11_24) kt) ?_
      show Go p e below _ m T5 25 #[rv o0, iv p1, iv p2] [(.int (0 : Int32))]
      obtain ⟨fs, hr, hrun, hended, hW, hsame⟩ := X5.leave (v := some (.int (0 : Int32))) (fun h => by rw [Bd.returns] at h; cases h)
      refine ⟨_, _, retN X5 hx (t := .boolean) Bd.returns (by simp) (hb hby d11_25) hr, hrun, hended, _, _, rfl, ?_, ⟨_, rfl⟩, hW, hsame.mono (by decide) (by decide)⟩
      show Q11 Z o0 p1 p2 c1 c2 k1 z1 vs1 k2 z2 vs2 x1 x2 h0 n0 _ T5.heap _
      rw [e5]
      exact ⟨(by unfold own_inR; rw [if_neg hc3, if_pos hc7]), N0, rfl⟩
    ·
      refine go (fun t kt => XS.icmpNo X5.here hx rfl (hb hby d11_17) rfl (flt hc7).2.2.1 kt) ?_
      show Go p e below _ m T5 20 #[rv o0, iv p1, iv p2] []
      refine go (fun t kt => XS.iconst X5.here hx rfl (hb hby d11_20) kt) ?_
      show Go p e below _ m T5 21 #[rv o0, iv p1, iv p2] [(.int (1 : Int32))]
      refine go (fun t kt => XS.goto X5.here hx rfl (pc0 := 21) (pc' := 25) rfl (hb hby d11_21) (by decide) (by decide) kt) ?_
      show Go p e below _ m T5 25 #[rv o0, iv p1, iv p2] [(.int (1 : Int32))]
      obtain ⟨fs, hr, hrun, hended, hW, hsame⟩ := X5.leave (v := some (.int (1 : Int32))) (fun h => by rw [Bd.returns] at h; cases h)
      refine ⟨_, _, retN X5 hx (t := .boolean) Bd.returns (by simp) (hb hby d11_25) hr, hrun, hended, _, _, rfl, ?_, ⟨_, rfl⟩, hW, hsame.mono (by decide) (by decide)⟩
      show Q11 Z o0 p1 p2 c1 c2 k1 z1 vs1 k2 z2 vs2 x1 x2 h0 n0 _ T5.heap _
      rw [e5]
      exact ⟨(by unfold own_inR; rw [if_neg hc3, if_neg hc7]), N0, rfl⟩
theorem own_r1 (f a b : Int32) (h : f < a) : own_inR f a b = 0 := by unfold own_inR; rw [if_pos h]
theorem own_r2 (f a b : Int32) (h : ¬ f < a) (h2 : b < f) : own_inR f a b = 0 := by unfold own_inR; rw [if_neg h, if_pos h2]
theorem own_r3 (f a b : Int32) (h : ¬ f < a) (h2 : ¬ b < f) : own_inR f a b = 1 := by unfold own_inR; rw [if_neg h, if_neg h2]
theorem d9_0 : decode prog_88_method_9_code 0 = .ok (.aload_n 0, 1) := by decide +kernel
theorem d9_1 : decode prog_88_method_9_code 1 = .ok (.getfield 29, 3) := by decide +kernel
theorem d9_4 : decode prog_88_method_9_code 4 = .ok (.invokevirtual 58, 3) := by decide +kernel
theorem d9_7 : decode prog_88_method_9_code 7 = .ok (.checkcast 59, 3) := by decide +kernel
theorem d9_10 : decode prog_88_method_9_code 10 = .ok (.areturn, 1) := by decide +kernel
theorem ef_9 (m : MethodId) (o0 : Addr) : entryFrame m #[(.ref o0)] 1 = mkF m 0 #[rv o0] [] := by first | (simp [entryFrame, mkF, argsToLocals, Value.category]; done) | rfl
def Q9 (Z : State) (o0 : Addr) (c1 : Addr) (k1 : ClassId) (z1 : Int32) (vs1 : List Value) (h0 : Heap) (n0 : Nat) (v : Option Value) (h : Heap) (L : List Loc) : Prop := v = some (.ref h0.size) ∧ Fr n0 L ∧ Keep h0 h [] ∧ Exa Z h h0.size "[I" ∧ Arv Z h h0.size k1 .int z1 vs1 (.int (0 : Int32))
set_option maxRecDepth 65536 in
set_option maxHeartbeats 40000000 in
theorem rm9 (l : Launch) (Z : State) (a0 : Array Value) (hw : ∀ d ∈ tables_1, d.before a0 Z = true) (ws : List Jvm.Cond) (o0 : Addr) (c1 : Addr) (k1 : ClassId) (z1 : Int32) (vs1 : List Value) (h0 : Heap) (n0 : Nat) (Z0 : n0 ≤ h0.size) (F_low_o0 : Fld Z h0 o0 "com/example/anytime_arena/anytimearena/io/VariableTable" "low" "[I" (.ref c1)) (E_c1 : Exa Z h0 c1 "[I") (V_c1 : Arv Z h0 c1 k1 .int z1 vs1 (.int (0 : Int32))) (hz1 : z1.toNatClampNeg ≤ 2) :
    MetFree l (⟨"com/example/anytime_arena/anytimearena/io/VariableTable", "low", "()[I"⟩ : MethodName) (head1 (Jvm.Cond.code (⟨"com/example/anytime_arena/anytimearena/io/VariableTable", "low", "()[I"⟩ : MethodName) prog_88_method_9_code 1 (some (.array .int)) :: ws) ({ frames := 1, cells := 1, slots := 2, locals := 14 } : Room)) (fun a U => a = #[(.ref o0)] ∧ Z.Warmed39 U.vm ∧ U.heap = h0) (fun _ _ _ _ _ => True) (fun _ U o U' => ∃ v L, o = .returned v ∧ Q9 Z o0 c1 k1 z1 vs1 h0 n0 v U'.heap L ∧ FrameEnd U o U' L ({ frames := 1, cells := 1, slots := 2, locals := 14 } : Room).cells ({ frames := 1, cells := 1, slots := 2, locals := 14 } : Room).slots) := by
  refine MetFree.of_bodySF (plainFor_of_name pn_1) hisR ?_
  intro p e s m args below meth c s₁ Bd hml0 hP hK
  obtain ⟨rfl, hZ, hh⟩ := hP
  have hx := Bd.exec
  have hby := Bd.bytes
  have hml : c.maxLocals = 1 := hml0
  have hown : s.vm.findClass "com/example/anytime_arena/anytimearena/io/VariableTable" = some m.cls := findClass_of_methodNamed Bd.named
  have hnm := (name_of_methodNamed Bd.named Bd.method).1
  have X0 : Stand p l e ({ frames := 1, cells := 1, slots := 2, locals := 14 } : Room) s m #[(.ref o0)] below meth c s₁ [] 0 0 := Stand.of_body Bd
  have e0 : s₁.heap = h0 := by rw [← hh, Bd.state]; rfl
  have N0 := Fr.nil n0
  have K0 := Keep.refl h0 []
  suffices hgo : Goes p.tables e below (fun s₂ o => ∃ v L, o = .returned v ∧ Q9 Z o0 c1 k1 z1 vs1 h0 n0 v s₂.heap L ∧ FrameEnd s o s₂ L ({ frames := 1, cells := 1, slots := 2, locals := 14 } : Room).cells ({ frames := 1, cells := 1, slots := 2, locals := 14 } : Room).slots) (s₁.setTop (mkF m 0 #[rv o0] [])) from goEnd (fun t k => castTop (ef_9 m o0) k) hgo
  refine go (fun t kt => XS.aloadN X0.here hx rfl (hb hby d9_0) rfl rfl kt) ?_
  show Go p e below _ m s₁ 1 #[rv o0] [(.ref o0)]
  obtain ⟨T1, X1, e1, st1⟩ := getF X0 hx hZ hown (host := "") (Or.inl (hw _ (List.mem_of_getElem? (i := 58) rfl))) Via.refl e0 F_low_o0 (g := (mkF m 1 #[rv o0] [(.ref o0)])) rfl rfl (hb hby d9_1)
  refine go st1 ?_
  show Go p e below _ m T1 4 #[rv o0] [(.ref c1)]
  obtain ⟨cl2, Ar2, q2, S2, M2, H2, G2⟩ := id V_c1
  have FC2 := fitC_of Ar2 (fun i hi v hv => by rw [H2 i hi] at hv; cases hv; exact G2 i hi)
  obtain ⟨T2, h2, X2, e2, E2, A2, B2, st2⟩ := cloneA X1 hx hZ hown (hw _ (List.mem_of_getElem? (i := 67) rfl)) (hw _ (List.mem_of_getElem? (i := 68) rfl)) (hw _ (List.mem_of_getElem? (i := 72) rfl)) (hw _ (List.mem_of_getElem? (i := 70) rfl)) (hw _ (List.mem_of_getElem? (i := 71) rfl)) (hw _ (List.mem_of_getElem? (i := 73) rfl)) e1 Ar2 E_c1 FC2 (g := (mkF m 4 #[rv o0] [(.ref c1)])) rfl (by rw [hml]; rfl) rfl (hb hby d9_4) (by decide) (W := 0) (cap := 2) (by show 2 * 0 + _ ≤ _; exact Nat.le_of_eq rfl) (by decide) (by rw [S2]; exact hz1) (by decide) (by decide)
  obtain ⟨b2, g2⟩ : ∃ z, z = h0.size := ⟨_, rfl⟩
  rw [← g2] at A2 B2 st2
  have ne_o0_b2 : o0 ≠ b2 := Nat.ne_of_lt (Nat.lt_of_lt_of_le F_low_o0.lt (Nat.le_of_eq g2.symm))
  have ne_c1_b2 : c1 ≠ b2 := Nat.ne_of_lt (Nat.lt_of_lt_of_le E_c1.lt (Nat.le_of_eq g2.symm))
  have g_b2 : n0 ≤ b2 := Nat.le_trans Z0 (Nat.le_of_eq g2.symm)
  have sz_b2 : h0.size ≤ b2 := Nat.le_trans K0.1 (Nat.le_of_eq g2.symm)
  replace F_low_o0 := F_low_o0.ext E2
  replace E_c1 := E_c1.ext E2
  replace V_c1 := V_c1.ext E2
  have Zz2 := Nat.le_trans Z0 E2.1
  have Kk2 := K0.ext E2
  have E_b2 := B2
  have V_b2 : Arv Z h2 b2 k1 .int z1 vs1 (.int (0 : Int32)) := ⟨cloneOf cl2, A2, q2, S2, M2, H2, G2⟩
  refine go st2 ?_
  show Go p e below _ m T2 7 #[rv o0] [(.ref b2)]
  obtain ⟨T3, X3, e3, st3⟩ := castY X2 hx hZ hown (hw _ (List.mem_of_getElem? (i := 74) rfl)) e2 (Ins.self E_b2) (g := (mkF m 7 #[rv o0] [(.ref b2)])) rfl rfl (hb hby d9_7)
  refine go st3 ?_
  show Go p e below _ m T3 10 #[rv o0] [(.ref b2)]
  obtain ⟨fs, hr, hrun, hended, hW, hsame⟩ := X3.leave (v := some (.ref b2)) (fun h => by rw [Bd.returns] at h; cases h)
  refine ⟨_, _, retOut X3 hx (i := .areturn) Bd.returns rfl (Or.inr (Or.inr (Or.inr (Or.inr ⟨rfl, rfl, rfl⟩)))) (hb hby d9_10) hr, hrun, hended, _, _, rfl, ?_, ⟨_, rfl⟩, hW, hsame.mono (by decide) (by decide)⟩
  show Q9 Z o0 c1 k1 z1 vs1 h0 n0 _ T3.heap _
  rw [e3]
  subst g2
  exact ⟨rfl, N0, Kk2, E_b2, V_b2⟩
theorem d10_0 : decode prog_88_method_10_code 0 = .ok (.aload_n 0, 1) := by decide +kernel
theorem d10_1 : decode prog_88_method_10_code 1 = .ok (.getfield 33, 3) := by decide +kernel
theorem d10_4 : decode prog_88_method_10_code 4 = .ok (.invokevirtual 58, 3) := by decide +kernel
theorem d10_7 : decode prog_88_method_10_code 7 = .ok (.checkcast 59, 3) := by decide +kernel
theorem d10_10 : decode prog_88_method_10_code 10 = .ok (.areturn, 1) := by decide +kernel
theorem ef_10 (m : MethodId) (o0 : Addr) : entryFrame m #[(.ref o0)] 1 = mkF m 0 #[rv o0] [] := by first | (simp [entryFrame, mkF, argsToLocals, Value.category]; done) | rfl
def Q10 (Z : State) (o0 : Addr) (c1 : Addr) (k1 : ClassId) (z1 : Int32) (vs1 : List Value) (h0 : Heap) (n0 : Nat) (v : Option Value) (h : Heap) (L : List Loc) : Prop := v = some (.ref h0.size) ∧ Fr n0 L ∧ Keep h0 h [] ∧ Exa Z h h0.size "[I" ∧ Arv Z h h0.size k1 .int z1 vs1 (.int (0 : Int32))
set_option maxRecDepth 65536 in
set_option maxHeartbeats 40000000 in
theorem rm10 (l : Launch) (Z : State) (a0 : Array Value) (hw : ∀ d ∈ tables_1, d.before a0 Z = true) (ws : List Jvm.Cond) (o0 : Addr) (c1 : Addr) (k1 : ClassId) (z1 : Int32) (vs1 : List Value) (h0 : Heap) (n0 : Nat) (Z0 : n0 ≤ h0.size) (F_high_o0 : Fld Z h0 o0 "com/example/anytime_arena/anytimearena/io/VariableTable" "high" "[I" (.ref c1)) (E_c1 : Exa Z h0 c1 "[I") (V_c1 : Arv Z h0 c1 k1 .int z1 vs1 (.int (0 : Int32))) (hz1 : z1.toNatClampNeg ≤ 2) :
    MetFree l (⟨"com/example/anytime_arena/anytimearena/io/VariableTable", "high", "()[I"⟩ : MethodName) (head1 (Jvm.Cond.code (⟨"com/example/anytime_arena/anytimearena/io/VariableTable", "high", "()[I"⟩ : MethodName) prog_88_method_10_code 1 (some (.array .int)) :: ws) ({ frames := 1, cells := 1, slots := 2, locals := 14 } : Room)) (fun a U => a = #[(.ref o0)] ∧ Z.Warmed39 U.vm ∧ U.heap = h0) (fun _ _ _ _ _ => True) (fun _ U o U' => ∃ v L, o = .returned v ∧ Q10 Z o0 c1 k1 z1 vs1 h0 n0 v U'.heap L ∧ FrameEnd U o U' L ({ frames := 1, cells := 1, slots := 2, locals := 14 } : Room).cells ({ frames := 1, cells := 1, slots := 2, locals := 14 } : Room).slots) := by
  refine MetFree.of_bodySF (plainFor_of_name pn_1) hisR ?_
  intro p e s m args below meth c s₁ Bd hml0 hP hK
  obtain ⟨rfl, hZ, hh⟩ := hP
  have hx := Bd.exec
  have hby := Bd.bytes
  have hml : c.maxLocals = 1 := hml0
  have hown : s.vm.findClass "com/example/anytime_arena/anytimearena/io/VariableTable" = some m.cls := findClass_of_methodNamed Bd.named
  have hnm := (name_of_methodNamed Bd.named Bd.method).1
  have X0 : Stand p l e ({ frames := 1, cells := 1, slots := 2, locals := 14 } : Room) s m #[(.ref o0)] below meth c s₁ [] 0 0 := Stand.of_body Bd
  have e0 : s₁.heap = h0 := by rw [← hh, Bd.state]; rfl
  have N0 := Fr.nil n0
  have K0 := Keep.refl h0 []
  suffices hgo : Goes p.tables e below (fun s₂ o => ∃ v L, o = .returned v ∧ Q10 Z o0 c1 k1 z1 vs1 h0 n0 v s₂.heap L ∧ FrameEnd s o s₂ L ({ frames := 1, cells := 1, slots := 2, locals := 14 } : Room).cells ({ frames := 1, cells := 1, slots := 2, locals := 14 } : Room).slots) (s₁.setTop (mkF m 0 #[rv o0] [])) from goEnd (fun t k => castTop (ef_10 m o0) k) hgo
  refine go (fun t kt => XS.aloadN X0.here hx rfl (hb hby d10_0) rfl rfl kt) ?_
  show Go p e below _ m s₁ 1 #[rv o0] [(.ref o0)]
  obtain ⟨T1, X1, e1, st1⟩ := getF X0 hx hZ hown (host := "") (Or.inl (hw _ (List.mem_of_getElem? (i := 60) rfl))) Via.refl e0 F_high_o0 (g := (mkF m 1 #[rv o0] [(.ref o0)])) rfl rfl (hb hby d10_1)
  refine go st1 ?_
  show Go p e below _ m T1 4 #[rv o0] [(.ref c1)]
  obtain ⟨cl2, Ar2, q2, S2, M2, H2, G2⟩ := id V_c1
  have FC2 := fitC_of Ar2 (fun i hi v hv => by rw [H2 i hi] at hv; cases hv; exact G2 i hi)
  obtain ⟨T2, h2, X2, e2, E2, A2, B2, st2⟩ := cloneA X1 hx hZ hown (hw _ (List.mem_of_getElem? (i := 67) rfl)) (hw _ (List.mem_of_getElem? (i := 68) rfl)) (hw _ (List.mem_of_getElem? (i := 72) rfl)) (hw _ (List.mem_of_getElem? (i := 70) rfl)) (hw _ (List.mem_of_getElem? (i := 71) rfl)) (hw _ (List.mem_of_getElem? (i := 73) rfl)) e1 Ar2 E_c1 FC2 (g := (mkF m 4 #[rv o0] [(.ref c1)])) rfl (by rw [hml]; rfl) rfl (hb hby d10_4) (by decide) (W := 0) (cap := 2) (by show 2 * 0 + _ ≤ _; exact Nat.le_of_eq rfl) (by decide) (by rw [S2]; exact hz1) (by decide) (by decide)
  obtain ⟨b2, g2⟩ : ∃ z, z = h0.size := ⟨_, rfl⟩
  rw [← g2] at A2 B2 st2
  have ne_o0_b2 : o0 ≠ b2 := Nat.ne_of_lt (Nat.lt_of_lt_of_le F_high_o0.lt (Nat.le_of_eq g2.symm))
  have ne_c1_b2 : c1 ≠ b2 := Nat.ne_of_lt (Nat.lt_of_lt_of_le E_c1.lt (Nat.le_of_eq g2.symm))
  have g_b2 : n0 ≤ b2 := Nat.le_trans Z0 (Nat.le_of_eq g2.symm)
  have sz_b2 : h0.size ≤ b2 := Nat.le_trans K0.1 (Nat.le_of_eq g2.symm)
  replace F_high_o0 := F_high_o0.ext E2
  replace E_c1 := E_c1.ext E2
  replace V_c1 := V_c1.ext E2
  have Zz2 := Nat.le_trans Z0 E2.1
  have Kk2 := K0.ext E2
  have E_b2 := B2
  have V_b2 : Arv Z h2 b2 k1 .int z1 vs1 (.int (0 : Int32)) := ⟨cloneOf cl2, A2, q2, S2, M2, H2, G2⟩
  refine go st2 ?_
  show Go p e below _ m T2 7 #[rv o0] [(.ref b2)]
  obtain ⟨T3, X3, e3, st3⟩ := castY X2 hx hZ hown (hw _ (List.mem_of_getElem? (i := 74) rfl)) e2 (Ins.self E_b2) (g := (mkF m 7 #[rv o0] [(.ref b2)])) rfl rfl (hb hby d10_7)
  refine go st3 ?_
  show Go p e below _ m T3 10 #[rv o0] [(.ref b2)]
  obtain ⟨fs, hr, hrun, hended, hW, hsame⟩ := X3.leave (v := some (.ref b2)) (fun h => by rw [Bd.returns] at h; cases h)
  refine ⟨_, _, retOut X3 hx (i := .areturn) Bd.returns rfl (Or.inr (Or.inr (Or.inr (Or.inr ⟨rfl, rfl, rfl⟩)))) (hb hby d10_10) hr, hrun, hended, _, _, rfl, ?_, ⟨_, rfl⟩, hW, hsame.mono (by decide) (by decide)⟩
  show Q10 Z o0 c1 k1 z1 vs1 h0 n0 _ T3.heap _
  rw [e3]
  subst g2
  exact ⟨rfl, N0, Kk2, E_b2, V_b2⟩
theorem own_m3 (x : Int32) : (x &&& 3) % 3 = 0 ∨ (x &&& 3) % 3 = 1 ∨ (x &&& 3) % 3 = 2 := by
  have e := Jvm.Kit.i32_mask x 3 (k := 2) (by decide) (by decide)
  have e0 : (0 : Int32).toInt = 0 := rfl
  have e1 : (1 : Int32).toInt = 1 := rfl
  have e2 : (2 : Int32).toInt = 2 := rfl
  have e3 : (3 : Int32).toInt = 3 := rfl
  rw [← Int32.toInt_inj, ← Int32.toInt_inj, ← Int32.toInt_inj, Jvm.Kit.i32_rem_nonneg (by rw [e]; omega), e, e0, e1, e2, e3]
  omega
theorem pd_1 : parseMethodDescriptor "([I[I)V" = some ⟨[(.array .int), (.array .int)], none⟩ := by decide +kernel
theorem pd_2 : parseMethodDescriptor "()[I" = some ⟨[], some (.array .int)⟩ := by decide +kernel
theorem pd_3 : parseMethodDescriptor "(II)Z" = some ⟨[.int, .int], some .boolean⟩ := by decide +kernel
theorem pn_0 : plainName "com/example/anytime_arena/anytimearena/io/VariableTableSetRangesPinLaw" = true := by first | (simp [plainName, overriddenIn]; done) | decide +kernel
theorem ef_0 (m : MethodId) (p0 : Int32) (p1 : Int32) (p2 : Int32) (p3 : Int32) (p4 : Int32) (p5 : Int32) : entryFrame m #[(.int p0), (.int p1), (.int p2), (.int p3), (.int p4), (.int p5)] maxLocals = mkF m 0 #[iv p0, iv p1, iv p2, iv p3, iv p4, iv p5, .unset, .unset, .unset, .unset, .unset, .unset, .unset, .unset] [] := by first | (simp [entryFrame, mkF, argsToLocals, Value.category, maxLocals]; done) | rfl
def Q0 (Z : State) (p0 : Int32) (p1 : Int32) (p2 : Int32) (p3 : Int32) (p4 : Int32) (p5 : Int32) (sd : Addr) (h0 : Heap) (n0 : Nat) (v : Option Value) (h : Heap) (L : List Loc) : Prop := v = some (.int (1 : Int32)) ∧ Fr n0 L
set_option maxRecDepth 65536 in
set_option maxHeartbeats 40000000 in
theorem rm0 (l : Launch) (Z : State) (a0 : Array Value) (hw : ∀ d ∈ tables_1, d.before a0 Z = true) (ws : List Jvm.Cond) (p0 : Int32) (p1 : Int32) (p2 : Int32) (p3 : Int32) (p4 : Int32) (p5 : Int32) (sd : Addr) (h0 : Heap) (n0 : Nat) (Z0 : n0 ≤ h0.size) (S_DEFAULTCAPACITY_EMPTY_ELEMENTDATA : Sta Z h0 "java/util/ArrayList" "DEFAULTCAPACITY_EMPTY_ELEMENTDATA" "[Ljava/lang/Object;" (.ref sd)) :
    MetFree l x (head1 (Jvm.Cond.code x code maxLocals ret :: ws) room_1) (fun a U => a = #[(.int p0), (.int p1), (.int p2), (.int p3), (.int p4), (.int p5)] ∧ Z.Warmed39 U.vm ∧ U.heap = h0) (fun _ _ _ _ _ => True) (fun _ U o U' => ∃ v L, o = .returned v ∧ Q0 Z p0 p1 p2 p3 p4 p5 sd h0 n0 v U'.heap L ∧ FrameEnd U o U' L 15 39) := by
  refine MetFree.of_bodySF (plainFor_of_name pn_0) hisR ?_
  intro p e s m args below meth c s₁ Bd hml0 hP hK
  obtain ⟨rfl, hZ, hh⟩ := hP
  have hx := Bd.exec
  have hby := Bd.bytes
  have hml : c.maxLocals = 14 := hml0
  have hown : s.vm.findClass "com/example/anytime_arena/anytimearena/io/VariableTableSetRangesPinLaw" = some m.cls := findClass_of_methodNamed Bd.named
  have hnm := (name_of_methodNamed Bd.named Bd.method).1
  have X0 : Stand p l e room_1 s m #[(.int p0), (.int p1), (.int p2), (.int p3), (.int p4), (.int p5)] below meth c s₁ [] 0 0 := Stand.of_body Bd
  have e0 : s₁.heap = h0 := by rw [← hh, Bd.state]; rfl
  have N0 := Fr.nil n0
  have K0 := Keep.refl h0 []
  suffices hgo : Goes p.tables e below (fun s₂ o => ∃ v L, o = .returned v ∧ Q0 Z p0 p1 p2 p3 p4 p5 sd h0 n0 v s₂.heap L ∧ FrameEnd s o s₂ L 15 39) (s₁.setTop (mkF m 0 #[iv p0, iv p1, iv p2, iv p3, iv p4, iv p5, .unset, .unset, .unset, .unset, .unset, .unset, .unset, .unset] [])) from goEnd (fun t k => castTop (ef_0 m p0 p1 p2 p3 p4 p5) k) hgo
  refine go (fun t kt => XS.iload X0.here hx rfl (hb hby at_0) rfl kt) ?_
  show Go p e below _ m s₁ 2 #[iv p0, iv p1, iv p2, iv p3, iv p4, iv p5, .unset, .unset, .unset, .unset, .unset, .unset, .unset, .unset] [(.int p4)]
  refine go (fun t kt => XS.iconst X0.here hx rfl (hb hby at_2) kt) ?_
  show Go p e below _ m s₁ 3 #[iv p0, iv p1, iv p2, iv p3, iv p4, iv p5, .unset, .unset, .unset, .unset, .unset, .unset, .unset, .unset] [(.int (3 : Int32)), (.int p4)]
  refine go (fun t kt => XS.iand X0.here hx rfl (hb hby at_3) rfl kt) ?_
  show Go p e below _ m s₁ 4 #[iv p0, iv p1, iv p2, iv p3, iv p4, iv p5, .unset, .unset, .unset, .unset, .unset, .unset, .unset, .unset] [(.int (p4 &&& (3 : Int32)))]
  refine go (fun t kt => XS.iconst X0.here hx rfl (hb hby at_4) kt) ?_
  show Go p e below _ m s₁ 5 #[iv p0, iv p1, iv p2, iv p3, iv p4, iv p5, .unset, .unset, .unset, .unset, .unset, .unset, .unset, .unset] [(.int (3 : Int32)), (.int (p4 &&& (3 : Int32)))]
  refine go (fun t kt => iremM X0 hx rfl (hb hby at_5) rfl (by decide) kt) ?_
  show Go p e below _ m s₁ 6 #[iv p0, iv p1, iv p2, iv p3, iv p4, iv p5, .unset, .unset, .unset, .unset, .unset, .unset, .unset, .unset] [(.int ((p4 &&& (3 : Int32)) % (3 : Int32)))]
  refine go (fun t kt => XS.istore X0.here hx rfl (hb hby at_6) rfl (l' := #[iv p0, iv p1, iv p2, iv p3, iv p4, iv p5, iv ((p4 &&& (3 : Int32)) % (3 : Int32)), .unset, .unset, .unset, .unset, .unset, .unset, .unset]) rfl kt) ?_
  show Go p e below _ m s₁ 8 #[iv p0, iv p1, iv p2, iv p3, iv p4, iv p5, iv ((p4 &&& (3 : Int32)) % (3 : Int32)), .unset, .unset, .unset, .unset, .unset, .unset, .unset] []
  refine go (fun t kt => XS.iload X0.here hx rfl (hb hby at_8) rfl kt) ?_
  show Go p e below _ m s₁ 10 #[iv p0, iv p1, iv p2, iv p3, iv p4, iv p5, iv ((p4 &&& (3 : Int32)) % (3 : Int32)), .unset, .unset, .unset, .unset, .unset, .unset, .unset] [(.int p4)]
  refine go (fun t kt => XS.iconst X0.here hx rfl (hb hby at_10) kt) ?_
  show Go p e below _ m s₁ 11 #[iv p0, iv p1, iv p2, iv p3, iv p4, iv p5, iv ((p4 &&& (3 : Int32)) % (3 : Int32)), .unset, .unset, .unset, .unset, .unset, .unset, .unset] [(.int (2 : Int32)), (.int p4)]
  refine go (fun t kt => XS.iushr X0.here hx rfl (hb hby at_11) rfl kt) ?_
  show Go p e below _ m s₁ 12 #[iv p0, iv p1, iv p2, iv p3, iv p4, iv p5, iv ((p4 &&& (3 : Int32)) % (3 : Int32)), .unset, .unset, .unset, .unset, .unset, .unset, .unset] [(.int ((p4.toUInt32 >>> ((2 : Int32) &&& 31).toUInt32).toInt32))]
  refine go (fun t kt => XS.iconst X0.here hx rfl (hb hby at_12) kt) ?_
  show Go p e below _ m s₁ 13 #[iv p0, iv p1, iv p2, iv p3, iv p4, iv p5, iv ((p4 &&& (3 : Int32)) % (3 : Int32)), .unset, .unset, .unset, .unset, .unset, .unset, .unset] [(.int (3 : Int32)), (.int ((p4.toUInt32 >>> ((2 : Int32) &&& 31).toUInt32).toInt32))]
  refine go (fun t kt => XS.iand X0.here hx rfl (hb hby at_13) rfl kt) ?_
  show Go p e below _ m s₁ 14 #[iv p0, iv p1, iv p2, iv p3, iv p4, iv p5, iv ((p4 &&& (3 : Int32)) % (3 : Int32)), .unset, .unset, .unset, .unset, .unset, .unset, .unset] [(.int (((p4.toUInt32 >>> ((2 : Int32) &&& 31).toUInt32).toInt32) &&& (3 : Int32)))]
  refine go (fun t kt => XS.iconst X0.here hx rfl (hb hby at_14) kt) ?_
  show Go p e below _ m s₁ 15 #[iv p0, iv p1, iv p2, iv p3, iv p4, iv p5, iv ((p4 &&& (3 : Int32)) % (3 : Int32)), .unset, .unset, .unset, .unset, .unset, .unset, .unset] [(.int (3 : Int32)), (.int (((p4.toUInt32 >>> ((2 : Int32) &&& 31).toUInt32).toInt32) &&& (3 : Int32)))]
  refine go (fun t kt => iremM X0 hx rfl (hb hby at_15) rfl (by decide) kt) ?_
  show Go p e below _ m s₁ 16 #[iv p0, iv p1, iv p2, iv p3, iv p4, iv p5, iv ((p4 &&& (3 : Int32)) % (3 : Int32)), .unset, .unset, .unset, .unset, .unset, .unset, .unset] [(.int ((((p4.toUInt32 >>> ((2 : Int32) &&& 31).toUInt32).toInt32) &&& (3 : Int32)) % (3 : Int32)))]
  refine go (fun t kt => XS.istore X0.here hx rfl (hb hby at_16) rfl (l' := #[iv p0, iv p1, iv p2, iv p3, iv p4, iv p5, iv ((p4 &&& (3 : Int32)) % (3 : Int32)), iv ((((p4.toUInt32 >>> ((2 : Int32) &&& 31).toUInt32).toInt32) &&& (3 : Int32)) % (3 : Int32)), .unset, .unset, .unset, .unset, .unset, .unset]) rfl kt) ?_
  show Go p e below _ m s₁ 18 #[iv p0, iv p1, iv p2, iv p3, iv p4, iv p5, iv ((p4 &&& (3 : Int32)) % (3 : Int32)), iv ((((p4.toUInt32 >>> ((2 : Int32) &&& 31).toUInt32).toInt32) &&& (3 : Int32)) % (3 : Int32)), .unset, .unset, .unset, .unset, .unset, .unset] []
  rcases own_m3 p4 with hk1 | hk1 | hk1
  ·
    rw [hk1]
    rcases own_m3 ((p4.toUInt32 >>> ((2 : Int32) &&& 31).toUInt32).toInt32) with hj2 | hj2 | hj2
    ·
      rw [hj2]
      show Go p e below _ m s₁ 18 #[iv p0, iv p1, iv p2, iv p3, iv p4, iv p5, iv (0 : Int32), iv (0 : Int32), .unset, .unset, .unset, .unset, .unset, .unset] []
      refine go (fun t kt => XS.iload X0.here hx rfl (hb hby at_18) rfl kt) ?_
      show Go p e below _ m s₁ 20 #[iv p0, iv p1, iv p2, iv p3, iv p4, iv p5, iv (0 : Int32), iv (0 : Int32), .unset, .unset, .unset, .unset, .unset, .unset] [(.int (0 : Int32))]
      obtain ⟨T3, h3, k3, X3, e3, E3, A3, B3, st3⟩ := newPE X0 hx hZ (hw _ (List.mem_of_getElem? (i := 0) rfl)) e0 (g := (mkF m 20 #[iv p0, iv p1, iv p2, iv p3, iv p4, iv p5, iv (0 : Int32), iv (0 : Int32), .unset, .unset, .unset, .unset, .unset, .unset] [(.int (0 : Int32))])) rfl (hb hby at_20) rfl (by decide) (cap := 0) (by decide) (by decide) (by decide) (by decide) (ad := "[I") rfl
      obtain ⟨b3, g3⟩ : ∃ z, z = h0.size := ⟨_, rfl⟩
      rw [← g3] at A3 B3 st3
      have g_b3 : n0 ≤ b3 := Nat.le_trans Z0 (Nat.le_of_eq g3.symm)
      have sz_b3 : h0.size ≤ b3 := Nat.le_trans K0.1 (Nat.le_of_eq g3.symm)
      replace S_DEFAULTCAPACITY_EMPTY_ELEMENTDATA := S_DEFAULTCAPACITY_EMPTY_ELEMENTDATA.ext E3
      have Zz3 := Nat.le_trans Z0 E3.1
      have Kk3 := K0.ext E3
      have E_b3 := B3
      have V_b3 : Arv Z h3 b3 k3 .int (0 : Int32) [] (.int (0 : Int32)) := (Arv.new A3 (by decide))
      refine go st3 ?_
      show Go p e below _ m T3 22 #[iv p0, iv p1, iv p2, iv p3, iv p4, iv p5, iv (0 : Int32), iv (0 : Int32), .unset, .unset, .unset, .unset, .unset, .unset] [(.ref b3)]
      refine go (fun t kt => XS.astore X3.here hx rfl (hb hby at_22) rfl rfl (l' := #[iv p0, iv p1, iv p2, iv p3, iv p4, iv p5, iv (0 : Int32), iv (0 : Int32), rv b3, .unset, .unset, .unset, .unset, .unset]) rfl kt) ?_
      show Go p e below _ m T3 24 #[iv p0, iv p1, iv p2, iv p3, iv p4, iv p5, iv (0 : Int32), iv (0 : Int32), rv b3, .unset, .unset, .unset, .unset, .unset] []
      refine go (fun t kt => XS.iload X3.here hx rfl (hb hby at_24) rfl kt) ?_
      show Go p e below _ m T3 26 #[iv p0, iv p1, iv p2, iv p3, iv p4, iv p5, iv (0 : Int32), iv (0 : Int32), rv b3, .unset, .unset, .unset, .unset, .unset] [(.int (0 : Int32))]
      obtain ⟨T4, h4, k4, X4, e4, E4, A4, B4, st4⟩ := newPE X3 hx hZ (hw _ (List.mem_of_getElem? (i := 0) rfl)) e3 (g := (mkF m 26 #[iv p0, iv p1, iv p2, iv p3, iv p4, iv p5, iv (0 : Int32), iv (0 : Int32), rv b3, .unset, .unset, .unset, .unset, .unset] [(.int (0 : Int32))])) rfl (hb hby at_26) rfl (by decide) (cap := 0) (by decide) (by decide) (by decide) (by decide) (ad := "[I") rfl
      obtain ⟨b4, g4⟩ : ∃ z, z = h3.size := ⟨_, rfl⟩
      rw [← g4] at A4 B4 st4
      have ne_b3_b4 : b3 ≠ b4 := Nat.ne_of_lt (Nat.lt_of_lt_of_le E_b3.lt (Nat.le_of_eq g4.symm))
      have g_b4 : n0 ≤ b4 := Nat.le_trans Zz3 (Nat.le_of_eq g4.symm)
      have sz_b4 : h0.size ≤ b4 := Nat.le_trans Kk3.1 (Nat.le_of_eq g4.symm)
      replace S_DEFAULTCAPACITY_EMPTY_ELEMENTDATA := S_DEFAULTCAPACITY_EMPTY_ELEMENTDATA.ext E4
      replace E_b3 := E_b3.ext E4
      replace V_b3 := V_b3.ext E4
      have Zz4 := Nat.le_trans Zz3 E4.1
      have Kk4 := Kk3.ext E4
      have E_b4 := B4
      have V_b4 : Arv Z h4 b4 k4 .int (0 : Int32) [] (.int (0 : Int32)) := (Arv.new A4 (by decide))
      refine go st4 ?_
      show Go p e below _ m T4 28 #[iv p0, iv p1, iv p2, iv p3, iv p4, iv p5, iv (0 : Int32), iv (0 : Int32), rv b3, .unset, .unset, .unset, .unset, .unset] [(.ref b4)]
      refine go (fun t kt => XS.astore X4.here hx rfl (hb hby at_28) rfl rfl (l' := #[iv p0, iv p1, iv p2, iv p3, iv p4, iv p5, iv (0 : Int32), iv (0 : Int32), rv b3, rv b4, .unset, .unset, .unset, .unset]) rfl kt) ?_
      show Go p e below _ m T4 30 #[iv p0, iv p1, iv p2, iv p3, iv p4, iv p5, iv (0 : Int32), iv (0 : Int32), rv b3, rv b4, .unset, .unset, .unset, .unset] []
      refine go (fun t kt => XS.iload X4.here hx rfl (hb hby at_30) rfl kt) ?_
      show Go p e below _ m T4 32 #[iv p0, iv p1, iv p2, iv p3, iv p4, iv p5, iv (0 : Int32), iv (0 : Int32), rv b3, rv b4, .unset, .unset, .unset, .unset] [(.int (0 : Int32))]
      refine go (fun t kt => XS.ifYes X4.here hx rfl (pc0 := 32) (pc' := 40) rfl (hb hby at_32) rfl ((if0 _ _).trans (flt (by decide : ¬ ((0 : Int32) < (0 : Int32)))).2.2.2) (by decide) (by decide) kt) ?_
      show Go p e below _ m T4 40 #[iv p0, iv p1, iv p2, iv p3, iv p4, iv p5, iv (0 : Int32), iv (0 : Int32), rv b3, rv b4, .unset, .unset, .unset, .unset] []
      refine go (fun t kt => XS.iload X4.here hx rfl (hb hby at_40) rfl kt) ?_
      show Go p e below _ m T4 42 #[iv p0, iv p1, iv p2, iv p3, iv p4, iv p5, iv (0 : Int32), iv (0 : Int32), rv b3, rv b4, .unset, .unset, .unset, .unset] [(.int (0 : Int32))]
      refine go (fun t kt => XS.iconst X4.here hx rfl (hb hby at_42) kt) ?_
      show Go p e below _ m T4 43 #[iv p0, iv p1, iv p2, iv p3, iv p4, iv p5, iv (0 : Int32), iv (0 : Int32), rv b3, rv b4, .unset, .unset, .unset, .unset] [(.int (1 : Int32)), (.int (0 : Int32))]
      refine go (fun t kt => XS.icmpYes X4.here hx rfl (pc0 := 43) (pc' := 51) rfl (hb hby at_43) rfl (flt (by decide : ¬ ((1 : Int32) < (0 : Int32)))).2.2.2 (by decide) (by decide) kt) ?_
      show Go p e below _ m T4 51 #[iv p0, iv p1, iv p2, iv p3, iv p4, iv p5, iv (0 : Int32), iv (0 : Int32), rv b3, rv b4, .unset, .unset, .unset, .unset] []
      refine go (fun t kt => XS.iload X4.here hx rfl (hb hby at_51) rfl kt) ?_
      show Go p e below _ m T4 53 #[iv p0, iv p1, iv p2, iv p3, iv p4, iv p5, iv (0 : Int32), iv (0 : Int32), rv b3, rv b4, .unset, .unset, .unset, .unset] [(.int (0 : Int32))]
      refine go (fun t kt => XS.ifYes X4.here hx rfl (pc0 := 53) (pc' := 61) rfl (hb hby at_53) rfl ((if0 _ _).trans (flt (by decide : ¬ ((0 : Int32) < (0 : Int32)))).2.2.2) (by decide) (by decide) kt) ?_
      show Go p e below _ m T4 61 #[iv p0, iv p1, iv p2, iv p3, iv p4, iv p5, iv (0 : Int32), iv (0 : Int32), rv b3, rv b4, .unset, .unset, .unset, .unset] []
      refine go (fun t kt => XS.iload X4.here hx rfl (hb hby at_61) rfl kt) ?_
      show Go p e below _ m T4 63 #[iv p0, iv p1, iv p2, iv p3, iv p4, iv p5, iv (0 : Int32), iv (0 : Int32), rv b3, rv b4, .unset, .unset, .unset, .unset] [(.int (0 : Int32))]
      refine go (fun t kt => XS.iconst X4.here hx rfl (hb hby at_63) kt) ?_
      show Go p e below _ m T4 64 #[iv p0, iv p1, iv p2, iv p3, iv p4, iv p5, iv (0 : Int32), iv (0 : Int32), rv b3, rv b4, .unset, .unset, .unset, .unset] [(.int (1 : Int32)), (.int (0 : Int32))]
      refine go (fun t kt => XS.icmpYes X4.here hx rfl (pc0 := 64) (pc' := 72) rfl (hb hby at_64) rfl (flt (by decide : ¬ ((1 : Int32) < (0 : Int32)))).2.2.2 (by decide) (by decide) kt) ?_
      show Go p e below _ m T4 72 #[iv p0, iv p1, iv p2, iv p3, iv p4, iv p5, iv (0 : Int32), iv (0 : Int32), rv b3, rv b4, .unset, .unset, .unset, .unset] []
      obtain ⟨T5, h5, X5, e5, E5, A5, D5, -, st5⟩ := newO X4 hx hZ hown (hw _ (List.mem_of_getElem? (i := 1) rfl)) (hw _ (List.mem_of_getElem? (i := 2) rfl)) (hw _ (List.mem_of_getElem? (i := 3) rfl)) e4 (g := (mkF m 72 #[iv p0, iv p1, iv p2, iv p3, iv p4, iv p5, iv (0 : Int32), iv (0 : Int32), rv b3, rv b4, .unset, .unset, .unset, .unset] [])) rfl (hb hby at_72) (by decide) (by decide)
      obtain ⟨b5, g5⟩ : ∃ z, z = h4.size := ⟨_, rfl⟩
      rw [← g5] at A5 D5 st5
      have ne_b3_b5 : b3 ≠ b5 := Nat.ne_of_lt (Nat.lt_of_lt_of_le E_b3.lt (Nat.le_of_eq g5.symm))
      have ne_b4_b5 : b4 ≠ b5 := Nat.ne_of_lt (Nat.lt_of_lt_of_le E_b4.lt (Nat.le_of_eq g5.symm))
      have g_b5 : n0 ≤ b5 := Nat.le_trans Zz4 (Nat.le_of_eq g5.symm)
      have sz_b5 : h0.size ≤ b5 := Nat.le_trans Kk4.1 (Nat.le_of_eq g5.symm)
      replace S_DEFAULTCAPACITY_EMPTY_ELEMENTDATA := S_DEFAULTCAPACITY_EMPTY_ELEMENTDATA.ext E5
      replace E_b3 := E_b3.ext E5
      replace V_b3 := V_b3.ext E5
      replace E_b4 := E_b4.ext E5
      replace V_b4 := V_b4.ext E5
      have Zz5 := Nat.le_trans Zz4 E5.1
      have Kk5 := Kk4.ext E5
      have E_b5 := A5
      have F_names_b5 : Fld Z h5 b5 "com/example/anytime_arena/anytimearena/io/VariableTable" "names" "Ljava/util/List;" .null := D5 (Or.inr (hw _ (List.mem_of_getElem? (i := 35) rfl))) (ty := (.object "java/util/List")) (by decide)
      have F_types_b5 : Fld Z h5 b5 "com/example/anytime_arena/anytimearena/io/VariableTable" "types" "Ljava/util/List;" .null := D5 (Or.inr (hw _ (List.mem_of_getElem? (i := 37) rfl))) (ty := (.object "java/util/List")) (by decide)
      have F_owners_b5 : Fld Z h5 b5 "com/example/anytime_arena/anytimearena/io/VariableTable" "owners" "Ljava/util/List;" .null := D5 (Or.inr (hw _ (List.mem_of_getElem? (i := 39) rfl))) (ty := (.object "java/util/List")) (by decide)
      have F_slots_b5 : Fld Z h5 b5 "com/example/anytime_arena/anytimearena/io/VariableTable" "slots" "Ljava/util/Map;" .null := D5 (Or.inr (hw _ (List.mem_of_getElem? (i := 57) rfl))) (ty := (.object "java/util/Map")) (by decide)
      have F_low_b5 : Fld Z h5 b5 "com/example/anytime_arena/anytimearena/io/VariableTable" "low" "[I" .null := D5 (Or.inl (hw _ (List.mem_of_getElem? (i := 59) rfl))) (ty := (.array .int)) (by decide)
      have F_high_b5 : Fld Z h5 b5 "com/example/anytime_arena/anytimearena/io/VariableTable" "high" "[I" .null := D5 (Or.inl (hw _ (List.mem_of_getElem? (i := 61) rfl))) (ty := (.array .int)) (by decide)
      refine go st5 ?_
      show Go p e below _ m T5 75 #[iv p0, iv p1, iv p2, iv p3, iv p4, iv p5, iv (0 : Int32), iv (0 : Int32), rv b3, rv b4, .unset, .unset, .unset, .unset] [(.ref b5)]
      refine go (fun t kt => XS.dup X5.here hx rfl (hb hby at_75) rfl rfl kt) ?_
      show Go p e below _ m T5 76 #[iv p0, iv p1, iv p2, iv p3, iv p4, iv p5, iv (0 : Int32), iv (0 : Int32), rv b3, rv b4, .unset, .unset, .unset, .unset] [(.ref b5), (.ref b5)]
      obtain ⟨_, _, ⟨T6, L6, k6, n6⟩, -, X6, ⟨Lc6, hQ6, l6, y6, z6⟩, st6⟩ := X5.specialBack hx (y := (⟨"com/example/anytime_arena/anytimearena/io/VariableTable", "<init>", "()V"⟩ : MethodName)) rfl hown (mvT hZ (hw _ (List.mem_of_getElem? (i := 4) rfl))) (mvT hZ (hw _ (List.mem_of_getElem? (i := 5) rfl))) (mvT hZ (hw _ (List.mem_of_getElem? (i := 6) rfl))) (by decide) (backOf (W := 1) (rm1 l Z a0 hw [] b5 .null .null .null .null .null .null sd h5 n0 Zz5 E_b5 F_names_b5 F_types_b5 F_owners_b5 F_slots_b5 F_low_b5 F_high_b5 S_DEFAULTCAPACITY_EMPTY_ELEMENTDATA g_b5) hZ (hw _ (List.mem_of_getElem? (i := 6) rfl)) (hw _ (List.mem_of_getElem? (i := 3) rfl)) (by decide) (by decide)) (g := (mkF m 76 #[iv p0, iv p1, iv p2, iv p3, iv p4, iv p5, iv (0 : Int32), iv (0 : Int32), rv b3, rv b4, .unset, .unset, .unset, .unset] [(.ref b5), (.ref b5)])) rfl (by rw [hml]; rfl) (Steps.refl _) (a := b5) (argsL := []) (rest := [(.ref b5)]) (lenOf pd_0 rfl) rfl (by show 2 * 0 + _ ≤ _; exact Nat.le_of_eq rfl) (hb hby at_76) (fun _ _ => ⟨rfl, e5, (by decide : 3 + 6 ≤ _), (by decide : 6 + 17 ≤ _)⟩)
      dsimp only [Pt.U, Pt.locs, Pt.cells, Pt.slots] at X6 l6 y6 z6 st6 hQ6
      subst l6 y6 z6
      obtain ⟨rfl, Nq6, Kq6, Eq6, ⟨ul6, Fl6⟩, ⟨uh6, Fh6⟩⟩ := hQ6
      replace S_DEFAULTCAPACITY_EMPTY_ELEMENTDATA := own_sta_keep S_DEFAULTCAPACITY_EMPTY_ELEMENTDATA E_b5 Kq6
      replace E_b3 := E_b3.keep Kq6
      replace V_b3 := V_b3.keep Kq6 (ninS ne_b3_b5 nin0)
      replace E_b4 := E_b4.keep Kq6
      replace V_b4 := V_b4.keep Kq6 (ninS ne_b4_b5 nin0)
      replace E_b5 := E_b5.keep Kq6
      clear F_names_b5
      clear F_types_b5
      clear F_owners_b5
      clear F_slots_b5
      clear F_low_b5
      clear F_high_b5
      have Zz6 := Nat.le_trans Zz5 Kq6.1
      have Kk6 := Kk5.trans Kq6 (allS (Or.inr sz_b5) all0)
      have E_b5 := Eq6
      have F_low_b5 := Fl6
      have F_high_b5 := Fh6
      have N6 := Fr.app N0 Nq6
      refine go (fun t kt => st6.trans kt) ?_
      show Go p e below _ m T6 79 #[iv p0, iv p1, iv p2, iv p3, iv p4, iv p5, iv (0 : Int32), iv (0 : Int32), rv b3, rv b4, .unset, .unset, .unset, .unset] [(.ref b5)]
      refine go (fun t kt => XS.astore X6.here hx rfl (hb hby at_79) rfl rfl (l' := #[iv p0, iv p1, iv p2, iv p3, iv p4, iv p5, iv (0 : Int32), iv (0 : Int32), rv b3, rv b4, rv b5, .unset, .unset, .unset]) rfl kt) ?_
      show Go p e below _ m T6 81 #[iv p0, iv p1, iv p2, iv p3, iv p4, iv p5, iv (0 : Int32), iv (0 : Int32), rv b3, rv b4, rv b5, .unset, .unset, .unset] []
      refine go (fun t kt => XS.aload X6.here hx rfl (hb hby at_81) rfl rfl kt) ?_
      show Go p e below _ m T6 83 #[iv p0, iv p1, iv p2, iv p3, iv p4, iv p5, iv (0 : Int32), iv (0 : Int32), rv b3, rv b4, rv b5, .unset, .unset, .unset] [(.ref b5)]
      refine go (fun t kt => XS.aload X6.here hx rfl (hb hby at_83) rfl rfl kt) ?_
      show Go p e below _ m T6 85 #[iv p0, iv p1, iv p2, iv p3, iv p4, iv p5, iv (0 : Int32), iv (0 : Int32), rv b3, rv b4, rv b5, .unset, .unset, .unset] [(.ref b4), (.ref b5)]
      refine go (fun t kt => XS.aload X6.here hx rfl (hb hby at_85) rfl rfl kt) ?_
      show Go p e below _ m T6 87 #[iv p0, iv p1, iv p2, iv p3, iv p4, iv p5, iv (0 : Int32), iv (0 : Int32), rv b3, rv b4, rv b5, .unset, .unset, .unset] [(.ref b3), (.ref b4), (.ref b5)]
      obtain ⟨cq7, kq7, q7a, q7b, q7c⟩ := isOf hZ rfl E_b5
      obtain ⟨_, _, ⟨T7, L7, k7, n7⟩, -, X7, ⟨Lc7, hQ7, l7, y7, z7⟩, st7⟩ := X6.virtualBack hx (y := (⟨"com/example/anytime_arena/anytimearena/io/VariableTable", "setRanges", "([I[I)V"⟩ : MethodName)) (z := (⟨"com/example/anytime_arena/anytimearena/io/VariableTable", "setRanges", "([I[I)V"⟩ : MethodName)) hown (mvT hZ (hw _ (List.mem_of_getElem? (i := 62) rfl))) (mvT hZ (hw _ (List.mem_of_getElem? (i := 63) rfl))) (notFace_of_selects (args := #[]) (mvT hZ (hw _ (List.mem_of_getElem? (i := 65) rfl)))) (mvT hZ (hw _ (List.mem_of_getElem? (i := 65) rfl))) (mvT hZ (hw _ (List.mem_of_getElem? (i := 64) rfl))) (by decide) (backOf (W := 0) (rm8 l Z a0 hw [] b5 b4 b3 ul6 uh6 k4 (0 : Int32) [] k3 (0 : Int32) [] T6.heap n0 Zz6 E_b5 F_low_b5 F_high_b5 E_b4 V_b4 E_b3 V_b3 (Ne.symm ne_b4_b5) (Ne.symm ne_b3_b5) g_b5 (by decide) (by decide)) hZ (hw _ (List.mem_of_getElem? (i := 66) rfl)) (hw _ (List.mem_of_getElem? (i := 3) rfl)) (by decide) (by decide)) q7a q7c (g := (mkF m 87 #[iv p0, iv p1, iv p2, iv p3, iv p4, iv p5, iv (0 : Int32), iv (0 : Int32), rv b3, rv b4, rv b5, .unset, .unset, .unset] [(.ref b3), (.ref b4), (.ref b5)])) rfl (by rw [hml]; rfl) (Steps.refl _) (argsL := [(.ref b4), (.ref b3)]) (rest := []) (lenOf pd_1 rfl) rfl (by show 2 * 0 + _ ≤ _; exact Nat.le_of_eq rfl) (hb hby at_87) (fun _ _ => ⟨rfl, rfl, (by decide : 9 + 2 ≤ _), (by decide : 23 + 4 ≤ _)⟩)
      dsimp only [Pt.U, Pt.locs, Pt.cells, Pt.slots] at X7 l7 y7 z7 st7 hQ7
      subst l7 y7 z7
      obtain ⟨rfl, Nq7, Kq7, Eq7, c7, d7, lc7, ld7, ne_c7_d7, Fl7, Fh7, Ec7, Vc7, Ed7, Vd7⟩ := hQ7
      have ne_b3_c7 : b3 ≠ c7 := Nat.ne_of_lt (Nat.lt_of_lt_of_le E_b3.lt lc7)
      have ne_b4_c7 : b4 ≠ c7 := Nat.ne_of_lt (Nat.lt_of_lt_of_le E_b4.lt lc7)
      have ne_b5_c7 : b5 ≠ c7 := Nat.ne_of_lt (Nat.lt_of_lt_of_le E_b5.lt lc7)
      have g_c7 : n0 ≤ c7 := Nat.le_trans Zz6 lc7
      have sz_c7 : h0.size ≤ c7 := Nat.le_trans Kk6.1 lc7
      have ne_b3_d7 : b3 ≠ d7 := Nat.ne_of_lt (Nat.lt_of_lt_of_le E_b3.lt ld7)
      have ne_b4_d7 : b4 ≠ d7 := Nat.ne_of_lt (Nat.lt_of_lt_of_le E_b4.lt ld7)
      have ne_b5_d7 : b5 ≠ d7 := Nat.ne_of_lt (Nat.lt_of_lt_of_le E_b5.lt ld7)
      have g_d7 : n0 ≤ d7 := Nat.le_trans Zz6 ld7
      have sz_d7 : h0.size ≤ d7 := Nat.le_trans Kk6.1 ld7
      replace S_DEFAULTCAPACITY_EMPTY_ELEMENTDATA := own_sta_keep S_DEFAULTCAPACITY_EMPTY_ELEMENTDATA E_b5 Kq7
      replace E_b3 := E_b3.keep Kq7
      replace V_b3 := V_b3.keep Kq7 (ninS ne_b3_b5 nin0)
      replace E_b4 := E_b4.keep Kq7
      replace V_b4 := V_b4.keep Kq7 (ninS ne_b4_b5 nin0)
      replace E_b5 := E_b5.keep Kq7
      clear F_low_b5
      clear F_high_b5
      have Zz7 := Nat.le_trans Zz6 Kq7.1
      have Kk7 := Kk6.trans Kq7 (allS (Or.inr sz_b5) all0)
      have E_b5 := Eq7
      have F_low_b5 := Fl7
      have F_high_b5 := Fh7
      have E_c7 := Ec7
      have V_c7 := Vc7
      have E_d7 := Ed7
      have V_d7 := Vd7
      have N7 := Fr.app N6 Nq7
      refine go (fun t kt => st7.trans kt) ?_
      show Go p e below _ m T7 90 #[iv p0, iv p1, iv p2, iv p3, iv p4, iv p5, iv (0 : Int32), iv (0 : Int32), rv b3, rv b4, rv b5, .unset, .unset, .unset] []
      refine go (fun t kt => XS.aload X7.here hx rfl (hb hby at_90) rfl rfl kt) ?_
      show Go p e below _ m T7 92 #[iv p0, iv p1, iv p2, iv p3, iv p4, iv p5, iv (0 : Int32), iv (0 : Int32), rv b3, rv b4, rv b5, .unset, .unset, .unset] [(.ref b5)]
      refine go (fun t kt => XS.aload X7.here hx rfl (hb hby at_92) rfl rfl kt) ?_
      show Go p e below _ m T7 94 #[iv p0, iv p1, iv p2, iv p3, iv p4, iv p5, iv (0 : Int32), iv (0 : Int32), rv b3, rv b4, rv b5, .unset, .unset, .unset] [(.ref b3), (.ref b5)]
      refine go (fun t kt => XS.aload X7.here hx rfl (hb hby at_94) rfl rfl kt) ?_
      show Go p e below _ m T7 96 #[iv p0, iv p1, iv p2, iv p3, iv p4, iv p5, iv (0 : Int32), iv (0 : Int32), rv b3, rv b4, rv b5, .unset, .unset, .unset] [(.ref b4), (.ref b3), (.ref b5)]
      obtain ⟨cq8, kq8, q8a, q8b, q8c⟩ := isOf hZ rfl E_b5
      obtain ⟨_, _, ⟨T8, L8, k8, n8⟩, -, X8, ⟨Lc8, hQ8, l8, y8, z8⟩, st8⟩ := X7.virtualBack hx (y := (⟨"com/example/anytime_arena/anytimearena/io/VariableTable", "setRanges", "([I[I)V"⟩ : MethodName)) (z := (⟨"com/example/anytime_arena/anytimearena/io/VariableTable", "setRanges", "([I[I)V"⟩ : MethodName)) hown (mvT hZ (hw _ (List.mem_of_getElem? (i := 62) rfl))) (mvT hZ (hw _ (List.mem_of_getElem? (i := 63) rfl))) (notFace_of_selects (args := #[]) (mvT hZ (hw _ (List.mem_of_getElem? (i := 65) rfl)))) (mvT hZ (hw _ (List.mem_of_getElem? (i := 65) rfl))) (mvT hZ (hw _ (List.mem_of_getElem? (i := 64) rfl))) (by decide) (backOf (W := 0) (rm8 l Z a0 hw [] b5 b3 b4 (.ref c7) (.ref d7) k3 (0 : Int32) [] k4 (0 : Int32) [] T7.heap n0 Zz7 E_b5 F_low_b5 F_high_b5 E_b3 V_b3 E_b4 V_b4 (Ne.symm ne_b3_b5) (Ne.symm ne_b4_b5) g_b5 (by decide) (by decide)) hZ (hw _ (List.mem_of_getElem? (i := 66) rfl)) (hw _ (List.mem_of_getElem? (i := 3) rfl)) (by decide) (by decide)) q8a q8c (g := (mkF m 96 #[iv p0, iv p1, iv p2, iv p3, iv p4, iv p5, iv (0 : Int32), iv (0 : Int32), rv b3, rv b4, rv b5, .unset, .unset, .unset] [(.ref b4), (.ref b3), (.ref b5)])) rfl (by rw [hml]; rfl) (Steps.refl _) (argsL := [(.ref b3), (.ref b4)]) (rest := []) (lenOf pd_1 rfl) rfl (by show 2 * 0 + _ ≤ _; exact Nat.le_of_eq rfl) (hb hby at_96) (fun _ _ => ⟨rfl, rfl, (by decide : 11 + 2 ≤ _), (by decide : 27 + 4 ≤ _)⟩)
      dsimp only [Pt.U, Pt.locs, Pt.cells, Pt.slots] at X8 l8 y8 z8 st8 hQ8
      subst l8 y8 z8
      obtain ⟨rfl, Nq8, Kq8, Eq8, c8, d8, lc8, ld8, ne_c8_d8, Fl8, Fh8, Ec8, Vc8, Ed8, Vd8⟩ := hQ8
      have ne_b3_c8 : b3 ≠ c8 := Nat.ne_of_lt (Nat.lt_of_lt_of_le E_b3.lt lc8)
      have ne_b4_c8 : b4 ≠ c8 := Nat.ne_of_lt (Nat.lt_of_lt_of_le E_b4.lt lc8)
      have ne_b5_c8 : b5 ≠ c8 := Nat.ne_of_lt (Nat.lt_of_lt_of_le E_b5.lt lc8)
      have ne_c7_c8 : c7 ≠ c8 := Nat.ne_of_lt (Nat.lt_of_lt_of_le E_c7.lt lc8)
      have ne_d7_c8 : d7 ≠ c8 := Nat.ne_of_lt (Nat.lt_of_lt_of_le E_d7.lt lc8)
      have g_c8 : n0 ≤ c8 := Nat.le_trans Zz7 lc8
      have sz_c8 : h0.size ≤ c8 := Nat.le_trans Kk7.1 lc8
      have ne_b3_d8 : b3 ≠ d8 := Nat.ne_of_lt (Nat.lt_of_lt_of_le E_b3.lt ld8)
      have ne_b4_d8 : b4 ≠ d8 := Nat.ne_of_lt (Nat.lt_of_lt_of_le E_b4.lt ld8)
      have ne_b5_d8 : b5 ≠ d8 := Nat.ne_of_lt (Nat.lt_of_lt_of_le E_b5.lt ld8)
      have ne_c7_d8 : c7 ≠ d8 := Nat.ne_of_lt (Nat.lt_of_lt_of_le E_c7.lt ld8)
      have ne_d7_d8 : d7 ≠ d8 := Nat.ne_of_lt (Nat.lt_of_lt_of_le E_d7.lt ld8)
      have g_d8 : n0 ≤ d8 := Nat.le_trans Zz7 ld8
      have sz_d8 : h0.size ≤ d8 := Nat.le_trans Kk7.1 ld8
      replace S_DEFAULTCAPACITY_EMPTY_ELEMENTDATA := own_sta_keep S_DEFAULTCAPACITY_EMPTY_ELEMENTDATA E_b5 Kq8
      replace E_b3 := E_b3.keep Kq8
      replace V_b3 := V_b3.keep Kq8 (ninS ne_b3_b5 nin0)
      replace E_b4 := E_b4.keep Kq8
      replace V_b4 := V_b4.keep Kq8 (ninS ne_b4_b5 nin0)
      replace E_b5 := E_b5.keep Kq8
      clear F_low_b5
      clear F_high_b5
      replace E_c7 := E_c7.keep Kq8
      replace V_c7 := V_c7.keep Kq8 (ninS (Ne.symm ne_b5_c7) nin0)
      replace E_d7 := E_d7.keep Kq8
      replace V_d7 := V_d7.keep Kq8 (ninS (Ne.symm ne_b5_d7) nin0)
      have Zz8 := Nat.le_trans Zz7 Kq8.1
      have Kk8 := Kk7.trans Kq8 (allS (Or.inr sz_b5) all0)
      have E_b5 := Eq8
      have F_low_b5 := Fl8
      have F_high_b5 := Fh8
      have E_c8 := Ec8
      have V_c8 := Vc8
      have E_d8 := Ed8
      have V_d8 := Vd8
      have N8 := Fr.app N7 Nq8
      refine go (fun t kt => st8.trans kt) ?_
      show Go p e below _ m T8 99 #[iv p0, iv p1, iv p2, iv p3, iv p4, iv p5, iv (0 : Int32), iv (0 : Int32), rv b3, rv b4, rv b5, .unset, .unset, .unset] []
      refine go (fun t kt => XS.iload X8.here hx rfl (hb hby at_99) rfl kt) ?_
      show Go p e below _ m T8 101 #[iv p0, iv p1, iv p2, iv p3, iv p4, iv p5, iv (0 : Int32), iv (0 : Int32), rv b3, rv b4, rv b5, .unset, .unset, .unset] [(.int (0 : Int32))]
      refine go (fun t kt => XS.ifYes X8.here hx rfl (pc0 := 101) (pc' := 111) rfl (hb hby at_101) rfl ((if0 _ _).trans (flt (by decide : ¬ ((0 : Int32) < (0 : Int32)))).2.2.2) (by decide) (by decide) kt) ?_
      show Go p e below _ m T8 111 #[iv p0, iv p1, iv p2, iv p3, iv p4, iv p5, iv (0 : Int32), iv (0 : Int32), rv b3, rv b4, rv b5, .unset, .unset, .unset] []
      refine go (fun t kt => XS.iload X8.here hx rfl (hb hby at_111) rfl kt) ?_
      show Go p e below _ m T8 113 #[iv p0, iv p1, iv p2, iv p3, iv p4, iv p5, iv (0 : Int32), iv (0 : Int32), rv b3, rv b4, rv b5, .unset, .unset, .unset] [(.int (0 : Int32))]
      refine go (fun t kt => XS.iconst X8.here hx rfl (hb hby at_113) kt) ?_
      show Go p e below _ m T8 114 #[iv p0, iv p1, iv p2, iv p3, iv p4, iv p5, iv (0 : Int32), iv (0 : Int32), rv b3, rv b4, rv b5, .unset, .unset, .unset] [(.int (1 : Int32)), (.int (0 : Int32))]
      refine go (fun t kt => XS.icmpYes X8.here hx rfl (pc0 := 114) (pc' := 124) rfl (hb hby at_114) rfl (flt (by decide : ¬ ((1 : Int32) < (0 : Int32)))).2.2.2 (by decide) (by decide) kt) ?_
      show Go p e below _ m T8 124 #[iv p0, iv p1, iv p2, iv p3, iv p4, iv p5, iv (0 : Int32), iv (0 : Int32), rv b3, rv b4, rv b5, .unset, .unset, .unset] []
      refine go (fun t kt => XS.iload X8.here hx rfl (hb hby at_124) rfl kt) ?_
      show Go p e below _ m T8 126 #[iv p0, iv p1, iv p2, iv p3, iv p4, iv p5, iv (0 : Int32), iv (0 : Int32), rv b3, rv b4, rv b5, .unset, .unset, .unset] [(.int (0 : Int32))]
      refine go (fun t kt => XS.ifYes X8.here hx rfl (pc0 := 126) (pc' := 136) rfl (hb hby at_126) rfl ((if0 _ _).trans (flt (by decide : ¬ ((0 : Int32) < (0 : Int32)))).2.2.2) (by decide) (by decide) kt) ?_
      show Go p e below _ m T8 136 #[iv p0, iv p1, iv p2, iv p3, iv p4, iv p5, iv (0 : Int32), iv (0 : Int32), rv b3, rv b4, rv b5, .unset, .unset, .unset] []
      refine go (fun t kt => XS.iload X8.here hx rfl (hb hby at_136) rfl kt) ?_
      show Go p e below _ m T8 138 #[iv p0, iv p1, iv p2, iv p3, iv p4, iv p5, iv (0 : Int32), iv (0 : Int32), rv b3, rv b4, rv b5, .unset, .unset, .unset] [(.int (0 : Int32))]
      refine go (fun t kt => XS.iconst X8.here hx rfl (hb hby at_138) kt) ?_
      show Go p e below _ m T8 139 #[iv p0, iv p1, iv p2, iv p3, iv p4, iv p5, iv (0 : Int32), iv (0 : Int32), rv b3, rv b4, rv b5, .unset, .unset, .unset] [(.int (1 : Int32)), (.int (0 : Int32))]
      refine go (fun t kt => XS.icmpYes X8.here hx rfl (pc0 := 139) (pc' := 149) rfl (hb hby at_139) rfl (flt (by decide : ¬ ((1 : Int32) < (0 : Int32)))).2.2.2 (by decide) (by decide) kt) ?_
      show Go p e below _ m T8 149 #[iv p0, iv p1, iv p2, iv p3, iv p4, iv p5, iv (0 : Int32), iv (0 : Int32), rv b3, rv b4, rv b5, .unset, .unset, .unset] []
      refine go (fun t kt => XS.aload X8.here hx rfl (hb hby at_149) rfl rfl kt) ?_
      show Go p e below _ m T8 151 #[iv p0, iv p1, iv p2, iv p3, iv p4, iv p5, iv (0 : Int32), iv (0 : Int32), rv b3, rv b4, rv b5, .unset, .unset, .unset] [(.ref b5)]
      obtain ⟨cq9, kq9, q9a, q9b, q9c⟩ := isOf hZ rfl E_b5
      obtain ⟨_, _, ⟨T9, L9, k9, n9⟩, -, X9, ⟨Lc9, hQ9, l9, y9, z9⟩, st9⟩ := X8.virtualBack hx (y := (⟨"com/example/anytime_arena/anytimearena/io/VariableTable", "low", "()[I"⟩ : MethodName)) (z := (⟨"com/example/anytime_arena/anytimearena/io/VariableTable", "low", "()[I"⟩ : MethodName)) hown (mvT hZ (hw _ (List.mem_of_getElem? (i := 76) rfl))) (mvT hZ (hw _ (List.mem_of_getElem? (i := 77) rfl))) (notFace_of_selects (args := #[]) (mvT hZ (hw _ (List.mem_of_getElem? (i := 79) rfl)))) (mvT hZ (hw _ (List.mem_of_getElem? (i := 79) rfl))) (mvT hZ (hw _ (List.mem_of_getElem? (i := 78) rfl))) (by decide) (backOf (W := 0) (rm9 l Z a0 hw [] b5 c8 k3 (0 : Int32) [] T8.heap n0 Zz8 F_low_b5 E_c8 V_c8 (by decide)) hZ (hw _ (List.mem_of_getElem? (i := 80) rfl)) (hw _ (List.mem_of_getElem? (i := 3) rfl)) (by decide) (by decide)) q9a q9c (g := (mkF m 151 #[iv p0, iv p1, iv p2, iv p3, iv p4, iv p5, iv (0 : Int32), iv (0 : Int32), rv b3, rv b4, rv b5, .unset, .unset, .unset] [(.ref b5)])) rfl (by rw [hml]; rfl) (Steps.refl _) (argsL := []) (rest := []) (lenOf pd_2 rfl) rfl (by show 2 * 0 + _ ≤ _; exact Nat.le_of_eq rfl) (hb hby at_151) (fun _ _ => ⟨rfl, rfl, (by decide : 13 + 1 ≤ _), (by decide : 31 + 2 ≤ _)⟩)
      dsimp only [Pt.U, Pt.locs, Pt.cells, Pt.slots] at X9 l9 y9 z9 st9 hQ9
      subst l9 y9 z9
      obtain ⟨b9, g9⟩ : ∃ z, z = T8.heap.size := ⟨_, rfl⟩
      have ne_b3_b9 : b3 ≠ b9 := Nat.ne_of_lt (Nat.lt_of_lt_of_le E_b3.lt (Nat.le_of_eq g9.symm))
      have ne_b4_b9 : b4 ≠ b9 := Nat.ne_of_lt (Nat.lt_of_lt_of_le E_b4.lt (Nat.le_of_eq g9.symm))
      have ne_b5_b9 : b5 ≠ b9 := Nat.ne_of_lt (Nat.lt_of_lt_of_le E_b5.lt (Nat.le_of_eq g9.symm))
      have ne_c7_b9 : c7 ≠ b9 := Nat.ne_of_lt (Nat.lt_of_lt_of_le E_c7.lt (Nat.le_of_eq g9.symm))
      have ne_d7_b9 : d7 ≠ b9 := Nat.ne_of_lt (Nat.lt_of_lt_of_le E_d7.lt (Nat.le_of_eq g9.symm))
      have ne_c8_b9 : c8 ≠ b9 := Nat.ne_of_lt (Nat.lt_of_lt_of_le E_c8.lt (Nat.le_of_eq g9.symm))
      have ne_d8_b9 : d8 ≠ b9 := Nat.ne_of_lt (Nat.lt_of_lt_of_le E_d8.lt (Nat.le_of_eq g9.symm))
      have g_b9 : n0 ≤ b9 := Nat.le_trans Zz8 (Nat.le_of_eq g9.symm)
      have sz_b9 : h0.size ≤ b9 := Nat.le_trans Kk8.1 (Nat.le_of_eq g9.symm)
      obtain ⟨rfl, Nq9, Kq9, Eq9, Vq9⟩ := hQ9
      rw [← g9] at Eq9 Vq9 st9
      clear S_DEFAULTCAPACITY_EMPTY_ELEMENTDATA
      replace E_b3 := E_b3.keep Kq9
      replace V_b3 := V_b3.keep Kq9 nin0
      replace E_b4 := E_b4.keep Kq9
      replace V_b4 := V_b4.keep Kq9 nin0
      replace E_b5 := E_b5.keep Kq9
      replace E_c7 := E_c7.keep Kq9
      replace V_c7 := V_c7.keep Kq9 nin0
      replace E_d7 := E_d7.keep Kq9
      replace V_d7 := V_d7.keep Kq9 nin0
      replace F_low_b5 := F_low_b5.keep Kq9 nin0
      replace F_high_b5 := F_high_b5.keep Kq9 nin0
      replace E_c8 := E_c8.keep Kq9
      replace V_c8 := V_c8.keep Kq9 nin0
      replace E_d8 := E_d8.keep Kq9
      replace V_d8 := V_d8.keep Kq9 nin0
      have Zz9 := Nat.le_trans Zz8 Kq9.1
      have Kk9 := Kk8.trans Kq9 all0
      have E_b9 := Eq9
      have V_b9 := Vq9
      have N9 := Fr.app N8 Nq9
      refine go (fun t kt => st9.trans kt) ?_
      show Go p e below _ m T9 154 #[iv p0, iv p1, iv p2, iv p3, iv p4, iv p5, iv (0 : Int32), iv (0 : Int32), rv b3, rv b4, rv b5, .unset, .unset, .unset] [(.ref b9)]
      refine go (fun t kt => XS.astore X9.here hx rfl (hb hby at_154) rfl rfl (l' := #[iv p0, iv p1, iv p2, iv p3, iv p4, iv p5, iv (0 : Int32), iv (0 : Int32), rv b3, rv b4, rv b5, rv b9, .unset, .unset]) rfl kt) ?_
      show Go p e below _ m T9 156 #[iv p0, iv p1, iv p2, iv p3, iv p4, iv p5, iv (0 : Int32), iv (0 : Int32), rv b3, rv b4, rv b5, rv b9, .unset, .unset] []
      refine go (fun t kt => XS.aload X9.here hx rfl (hb hby at_156) rfl rfl kt) ?_
      show Go p e below _ m T9 158 #[iv p0, iv p1, iv p2, iv p3, iv p4, iv p5, iv (0 : Int32), iv (0 : Int32), rv b3, rv b4, rv b5, rv b9, .unset, .unset] [(.ref b5)]
      obtain ⟨cq10, kq10, q10a, q10b, q10c⟩ := isOf hZ rfl E_b5
      obtain ⟨_, _, ⟨T10, L10, k10, n10⟩, -, X10, ⟨Lc10, hQ10, l10, y10, z10⟩, st10⟩ := X9.virtualBack hx (y := (⟨"com/example/anytime_arena/anytimearena/io/VariableTable", "high", "()[I"⟩ : MethodName)) (z := (⟨"com/example/anytime_arena/anytimearena/io/VariableTable", "high", "()[I"⟩ : MethodName)) hown (mvT hZ (hw _ (List.mem_of_getElem? (i := 81) rfl))) (mvT hZ (hw _ (List.mem_of_getElem? (i := 82) rfl))) (notFace_of_selects (args := #[]) (mvT hZ (hw _ (List.mem_of_getElem? (i := 84) rfl)))) (mvT hZ (hw _ (List.mem_of_getElem? (i := 84) rfl))) (mvT hZ (hw _ (List.mem_of_getElem? (i := 83) rfl))) (by decide) (backOf (W := 0) (rm10 l Z a0 hw [] b5 d8 k4 (0 : Int32) [] T9.heap n0 Zz9 F_high_b5 E_d8 V_d8 (by decide)) hZ (hw _ (List.mem_of_getElem? (i := 85) rfl)) (hw _ (List.mem_of_getElem? (i := 3) rfl)) (by decide) (by decide)) q10a q10c (g := (mkF m 158 #[iv p0, iv p1, iv p2, iv p3, iv p4, iv p5, iv (0 : Int32), iv (0 : Int32), rv b3, rv b4, rv b5, rv b9, .unset, .unset] [(.ref b5)])) rfl (by rw [hml]; rfl) (Steps.refl _) (argsL := []) (rest := []) (lenOf pd_2 rfl) rfl (by show 2 * 0 + _ ≤ _; exact Nat.le_of_eq rfl) (hb hby at_158) (fun _ _ => ⟨rfl, rfl, (by decide : 14 + 1 ≤ _), (by decide : 33 + 2 ≤ _)⟩)
      dsimp only [Pt.U, Pt.locs, Pt.cells, Pt.slots] at X10 l10 y10 z10 st10 hQ10
      subst l10 y10 z10
      obtain ⟨b10, g10⟩ : ∃ z, z = T9.heap.size := ⟨_, rfl⟩
      have ne_b3_b10 : b3 ≠ b10 := Nat.ne_of_lt (Nat.lt_of_lt_of_le E_b3.lt (Nat.le_of_eq g10.symm))
      have ne_b4_b10 : b4 ≠ b10 := Nat.ne_of_lt (Nat.lt_of_lt_of_le E_b4.lt (Nat.le_of_eq g10.symm))
      have ne_b5_b10 : b5 ≠ b10 := Nat.ne_of_lt (Nat.lt_of_lt_of_le E_b5.lt (Nat.le_of_eq g10.symm))
      have ne_c7_b10 : c7 ≠ b10 := Nat.ne_of_lt (Nat.lt_of_lt_of_le E_c7.lt (Nat.le_of_eq g10.symm))
      have ne_d7_b10 : d7 ≠ b10 := Nat.ne_of_lt (Nat.lt_of_lt_of_le E_d7.lt (Nat.le_of_eq g10.symm))
      have ne_c8_b10 : c8 ≠ b10 := Nat.ne_of_lt (Nat.lt_of_lt_of_le E_c8.lt (Nat.le_of_eq g10.symm))
      have ne_d8_b10 : d8 ≠ b10 := Nat.ne_of_lt (Nat.lt_of_lt_of_le E_d8.lt (Nat.le_of_eq g10.symm))
      have ne_b9_b10 : b9 ≠ b10 := Nat.ne_of_lt (Nat.lt_of_lt_of_le E_b9.lt (Nat.le_of_eq g10.symm))
      have g_b10 : n0 ≤ b10 := Nat.le_trans Zz9 (Nat.le_of_eq g10.symm)
      have sz_b10 : h0.size ≤ b10 := Nat.le_trans Kk9.1 (Nat.le_of_eq g10.symm)
      obtain ⟨rfl, Nq10, Kq10, Eq10, Vq10⟩ := hQ10
      rw [← g10] at Eq10 Vq10 st10
      replace E_b3 := E_b3.keep Kq10
      replace V_b3 := V_b3.keep Kq10 nin0
      replace E_b4 := E_b4.keep Kq10
      replace V_b4 := V_b4.keep Kq10 nin0
      replace E_b5 := E_b5.keep Kq10
      replace E_c7 := E_c7.keep Kq10
      replace V_c7 := V_c7.keep Kq10 nin0
      replace E_d7 := E_d7.keep Kq10
      replace V_d7 := V_d7.keep Kq10 nin0
      replace F_low_b5 := F_low_b5.keep Kq10 nin0
      replace F_high_b5 := F_high_b5.keep Kq10 nin0
      replace E_c8 := E_c8.keep Kq10
      replace V_c8 := V_c8.keep Kq10 nin0
      replace E_d8 := E_d8.keep Kq10
      replace V_d8 := V_d8.keep Kq10 nin0
      replace E_b9 := E_b9.keep Kq10
      replace V_b9 := V_b9.keep Kq10 nin0
      have Zz10 := Nat.le_trans Zz9 Kq10.1
      have Kk10 := Kk9.trans Kq10 all0
      have E_b10 := Eq10
      have V_b10 := Vq10
      have N10 := Fr.app N9 Nq10
      refine go (fun t kt => st10.trans kt) ?_
      show Go p e below _ m T10 161 #[iv p0, iv p1, iv p2, iv p3, iv p4, iv p5, iv (0 : Int32), iv (0 : Int32), rv b3, rv b4, rv b5, rv b9, .unset, .unset] [(.ref b10)]
      refine go (fun t kt => XS.astore X10.here hx rfl (hb hby at_161) rfl rfl (l' := #[iv p0, iv p1, iv p2, iv p3, iv p4, iv p5, iv (0 : Int32), iv (0 : Int32), rv b3, rv b4, rv b5, rv b9, rv b10, .unset]) rfl kt) ?_
      show Go p e below _ m T10 163 #[iv p0, iv p1, iv p2, iv p3, iv p4, iv p5, iv (0 : Int32), iv (0 : Int32), rv b3, rv b4, rv b5, rv b9, rv b10, .unset] []
      refine go (fun t kt => XS.aload X10.here hx rfl (hb hby at_163) rfl rfl kt) ?_
      show Go p e below _ m T10 165 #[iv p0, iv p1, iv p2, iv p3, iv p4, iv p5, iv (0 : Int32), iv (0 : Int32), rv b3, rv b4, rv b5, rv b9, rv b10, .unset] [(.ref b9)]
      obtain ⟨cl11, Ar11, q11, S11, M11, H11, G11⟩ := id V_b9
      refine go (X10.arraylength hx Ar11.1 (State.isArrayOf_alike hZ.alike Ar11.2.1) (g := (mkF m 165 #[iv p0, iv p1, iv p2, iv p3, iv p4, iv p5, iv (0 : Int32), iv (0 : Int32), rv b3, rv b4, rv b5, rv b9, rv b10, .unset] [(.ref b9)])) rfl rfl (hb hby at_165)) ?_
      rw [len_of S11 M11]
      show Go p e below _ m T10 166 #[iv p0, iv p1, iv p2, iv p3, iv p4, iv p5, iv (0 : Int32), iv (0 : Int32), rv b3, rv b4, rv b5, rv b9, rv b10, .unset] [(.int (0 : Int32))]
      refine go (fun t kt => XS.iload X10.here hx rfl (hb hby at_166) rfl kt) ?_
      show Go p e below _ m T10 168 #[iv p0, iv p1, iv p2, iv p3, iv p4, iv p5, iv (0 : Int32), iv (0 : Int32), rv b3, rv b4, rv b5, rv b9, rv b10, .unset] [(.int (0 : Int32)), (.int (0 : Int32))]
      refine go (fun t kt => XS.icmpNo X10.here hx rfl (hb hby at_168) rfl (teq (by decide : ((0 : Int32) = (0 : Int32)))).2 kt) ?_
      show Go p e below _ m T10 171 #[iv p0, iv p1, iv p2, iv p3, iv p4, iv p5, iv (0 : Int32), iv (0 : Int32), rv b3, rv b4, rv b5, rv b9, rv b10, .unset] []
      refine go (fun t kt => XS.aload X10.here hx rfl (hb hby at_171) rfl rfl kt) ?_
      show Go p e below _ m T10 173 #[iv p0, iv p1, iv p2, iv p3, iv p4, iv p5, iv (0 : Int32), iv (0 : Int32), rv b3, rv b4, rv b5, rv b9, rv b10, .unset] [(.ref b10)]
      obtain ⟨cl12, Ar12, q12, S12, M12, H12, G12⟩ := id V_b10
      refine go (X10.arraylength hx Ar12.1 (State.isArrayOf_alike hZ.alike Ar12.2.1) (g := (mkF m 173 #[iv p0, iv p1, iv p2, iv p3, iv p4, iv p5, iv (0 : Int32), iv (0 : Int32), rv b3, rv b4, rv b5, rv b9, rv b10, .unset] [(.ref b10)])) rfl rfl (hb hby at_173)) ?_
      rw [len_of S12 M12]
      show Go p e below _ m T10 174 #[iv p0, iv p1, iv p2, iv p3, iv p4, iv p5, iv (0 : Int32), iv (0 : Int32), rv b3, rv b4, rv b5, rv b9, rv b10, .unset] [(.int (0 : Int32))]
      refine go (fun t kt => XS.iload X10.here hx rfl (hb hby at_174) rfl kt) ?_
      show Go p e below _ m T10 176 #[iv p0, iv p1, iv p2, iv p3, iv p4, iv p5, iv (0 : Int32), iv (0 : Int32), rv b3, rv b4, rv b5, rv b9, rv b10, .unset] [(.int (0 : Int32)), (.int (0 : Int32))]
      refine go (fun t kt => XS.icmpYes X10.here hx rfl (pc0 := 176) (pc' := 181) rfl (hb hby at_176) rfl (teq (by decide : ((0 : Int32) = (0 : Int32)))).1 (by decide) (by decide) kt) ?_
      show Go p e below _ m T10 181 #[iv p0, iv p1, iv p2, iv p3, iv p4, iv p5, iv (0 : Int32), iv (0 : Int32), rv b3, rv b4, rv b5, rv b9, rv b10, .unset] []
      refine go (fun t kt => XS.iconst X10.here hx rfl (hb hby at_181) kt) ?_
      show Go p e below _ m T10 182 #[iv p0, iv p1, iv p2, iv p3, iv p4, iv p5, iv (0 : Int32), iv (0 : Int32), rv b3, rv b4, rv b5, rv b9, rv b10, .unset] [(.int (1 : Int32))]
      refine go (fun t kt => XS.istore X10.here hx rfl (hb hby at_182) rfl (l' := #[iv p0, iv p1, iv p2, iv p3, iv p4, iv p5, iv (0 : Int32), iv (0 : Int32), rv b3, rv b4, rv b5, rv b9, rv b10, iv (1 : Int32)]) rfl kt) ?_
      show Go p e below _ m T10 184 #[iv p0, iv p1, iv p2, iv p3, iv p4, iv p5, iv (0 : Int32), iv (0 : Int32), rv b3, rv b4, rv b5, rv b9, rv b10, iv (1 : Int32)] []
      refine go (fun t kt => XS.iload X10.here hx rfl (hb hby at_184) rfl kt) ?_
      show Go p e below _ m T10 186 #[iv p0, iv p1, iv p2, iv p3, iv p4, iv p5, iv (0 : Int32), iv (0 : Int32), rv b3, rv b4, rv b5, rv b9, rv b10, iv (1 : Int32)] [(.int (0 : Int32))]
      refine go (fun t kt => XS.ifYes X10.here hx rfl (pc0 := 186) (pc' := 209) rfl (hb hby at_186) rfl ((if0 _ _).trans (flt (by decide : ¬ ((0 : Int32) < (0 : Int32)))).2.2.2) (by decide) (by decide) kt) ?_
      show Go p e below _ m T10 209 #[iv p0, iv p1, iv p2, iv p3, iv p4, iv p5, iv (0 : Int32), iv (0 : Int32), rv b3, rv b4, rv b5, rv b9, rv b10, iv (1 : Int32)] []
      refine go (fun t kt => XS.iload X10.here hx rfl (hb hby at_209) rfl kt) ?_
      show Go p e below _ m T10 211 #[iv p0, iv p1, iv p2, iv p3, iv p4, iv p5, iv (0 : Int32), iv (0 : Int32), rv b3, rv b4, rv b5, rv b9, rv b10, iv (1 : Int32)] [(.int (0 : Int32))]
      refine go (fun t kt => XS.iconst X10.here hx rfl (hb hby at_211) kt) ?_
      show Go p e below _ m T10 212 #[iv p0, iv p1, iv p2, iv p3, iv p4, iv p5, iv (0 : Int32), iv (0 : Int32), rv b3, rv b4, rv b5, rv b9, rv b10, iv (1 : Int32)] [(.int (1 : Int32)), (.int (0 : Int32))]
      refine go (fun t kt => XS.icmpYes X10.here hx rfl (pc0 := 212) (pc' := 235) rfl (hb hby at_212) rfl (flt (by decide : ¬ ((1 : Int32) < (0 : Int32)))).2.2.2 (by decide) (by decide) kt) ?_
      show Go p e below _ m T10 235 #[iv p0, iv p1, iv p2, iv p3, iv p4, iv p5, iv (0 : Int32), iv (0 : Int32), rv b3, rv b4, rv b5, rv b9, rv b10, iv (1 : Int32)] []
      refine go (fun t kt => XS.iload X10.here hx rfl (hb hby at_235) rfl kt) ?_
      show Go p e below _ m T10 237 #[iv p0, iv p1, iv p2, iv p3, iv p4, iv p5, iv (0 : Int32), iv (0 : Int32), rv b3, rv b4, rv b5, rv b9, rv b10, iv (1 : Int32)] [(.int (0 : Int32))]
      refine go (fun t kt => XS.ifYes X10.here hx rfl (pc0 := 237) (pc' := 260) rfl (hb hby at_237) rfl ((if0 _ _).trans (flt (by decide : ¬ ((0 : Int32) < (0 : Int32)))).2.2.2) (by decide) (by decide) kt) ?_
      show Go p e below _ m T10 260 #[iv p0, iv p1, iv p2, iv p3, iv p4, iv p5, iv (0 : Int32), iv (0 : Int32), rv b3, rv b4, rv b5, rv b9, rv b10, iv (1 : Int32)] []
      refine go (fun t kt => XS.iload X10.here hx rfl (hb hby at_260) rfl kt) ?_
      show Go p e below _ m T10 262 #[iv p0, iv p1, iv p2, iv p3, iv p4, iv p5, iv (0 : Int32), iv (0 : Int32), rv b3, rv b4, rv b5, rv b9, rv b10, iv (1 : Int32)] [(.int (0 : Int32))]
      refine go (fun t kt => XS.iconst X10.here hx rfl (hb hby at_262) kt) ?_
      show Go p e below _ m T10 263 #[iv p0, iv p1, iv p2, iv p3, iv p4, iv p5, iv (0 : Int32), iv (0 : Int32), rv b3, rv b4, rv b5, rv b9, rv b10, iv (1 : Int32)] [(.int (1 : Int32)), (.int (0 : Int32))]
      refine go (fun t kt => XS.icmpYes X10.here hx rfl (pc0 := 263) (pc' := 286) rfl (hb hby at_263) rfl (flt (by decide : ¬ ((1 : Int32) < (0 : Int32)))).2.2.2 (by decide) (by decide) kt) ?_
      show Go p e below _ m T10 286 #[iv p0, iv p1, iv p2, iv p3, iv p4, iv p5, iv (0 : Int32), iv (0 : Int32), rv b3, rv b4, rv b5, rv b9, rv b10, iv (1 : Int32)] []
      refine go (fun t kt => XS.iload X10.here hx rfl (hb hby at_286) rfl kt) ?_
      show Go p e below _ m T10 288 #[iv p0, iv p1, iv p2, iv p3, iv p4, iv p5, iv (0 : Int32), iv (0 : Int32), rv b3, rv b4, rv b5, rv b9, rv b10, iv (1 : Int32)] [(.int (0 : Int32))]
      refine go (fun t kt => XS.ifYes X10.here hx rfl (pc0 := 288) (pc' := 336) rfl (hb hby at_288) rfl ((if0 _ _).trans (flt (by decide : ¬ ((0 : Int32) < (0 : Int32)))).2.2.2) (by decide) (by decide) kt) ?_
      show Go p e below _ m T10 336 #[iv p0, iv p1, iv p2, iv p3, iv p4, iv p5, iv (0 : Int32), iv (0 : Int32), rv b3, rv b4, rv b5, rv b9, rv b10, iv (1 : Int32)] []
      refine go (fun t kt => XS.iload X10.here hx rfl (hb hby at_336) rfl kt) ?_
      show Go p e below _ m T10 338 #[iv p0, iv p1, iv p2, iv p3, iv p4, iv p5, iv (0 : Int32), iv (0 : Int32), rv b3, rv b4, rv b5, rv b9, rv b10, iv (1 : Int32)] [(.int (0 : Int32))]
      refine go (fun t kt => XS.iconst X10.here hx rfl (hb hby at_338) kt) ?_
      show Go p e below _ m T10 339 #[iv p0, iv p1, iv p2, iv p3, iv p4, iv p5, iv (0 : Int32), iv (0 : Int32), rv b3, rv b4, rv b5, rv b9, rv b10, iv (1 : Int32)] [(.int (1 : Int32)), (.int (0 : Int32))]
      refine go (fun t kt => XS.icmpYes X10.here hx rfl (pc0 := 339) (pc' := 388) rfl (hb hby at_339) rfl (flt (by decide : ¬ ((1 : Int32) < (0 : Int32)))).2.2.2 (by decide) (by decide) kt) ?_
      show Go p e below _ m T10 388 #[iv p0, iv p1, iv p2, iv p3, iv p4, iv p5, iv (0 : Int32), iv (0 : Int32), rv b3, rv b4, rv b5, rv b9, rv b10, iv (1 : Int32)] []
      refine go (fun t kt => XS.iload X10.here hx rfl (hb hby at_388) rfl kt) ?_
      show Go p e below _ m T10 390 #[iv p0, iv p1, iv p2, iv p3, iv p4, iv p5, iv (0 : Int32), iv (0 : Int32), rv b3, rv b4, rv b5, rv b9, rv b10, iv (1 : Int32)] [(.int (1 : Int32))]
      obtain ⟨fs, hr, hrun, hended, hW, hsame⟩ := X10.leave (v := some (.int (1 : Int32))) (fun h => by rw [Bd.returns] at h; cases h)
      refine ⟨_, _, retN X10 hx (t := .boolean) Bd.returns (by simp) (hb hby at_390) hr, hrun, hended, _, _, rfl, ?_, ⟨_, rfl⟩, hW, hsame.mono (by decide) (by decide)⟩
      show Q0 Z p0 p1 p2 p3 p4 p5 sd h0 n0 _ T10.heap _
      exact ⟨rfl, N10⟩
    ·
      rw [hj2]
      show Go p e below _ m s₁ 18 #[iv p0, iv p1, iv p2, iv p3, iv p4, iv p5, iv (0 : Int32), iv (1 : Int32), .unset, .unset, .unset, .unset, .unset, .unset] []
      refine go (fun t kt => XS.iload X0.here hx rfl (hb hby at_18) rfl kt) ?_
      show Go p e below _ m s₁ 20 #[iv p0, iv p1, iv p2, iv p3, iv p4, iv p5, iv (0 : Int32), iv (1 : Int32), .unset, .unset, .unset, .unset, .unset, .unset] [(.int (0 : Int32))]
      obtain ⟨T14, h14, k14, X14, e14, E14, A14, B14, st14⟩ := newPE X0 hx hZ (hw _ (List.mem_of_getElem? (i := 0) rfl)) e0 (g := (mkF m 20 #[iv p0, iv p1, iv p2, iv p3, iv p4, iv p5, iv (0 : Int32), iv (1 : Int32), .unset, .unset, .unset, .unset, .unset, .unset] [(.int (0 : Int32))])) rfl (hb hby at_20) rfl (by decide) (cap := 0) (by decide) (by decide) (by decide) (by decide) (ad := "[I") rfl
      obtain ⟨b14, g14⟩ : ∃ z, z = h0.size := ⟨_, rfl⟩
      rw [← g14] at A14 B14 st14
      have g_b14 : n0 ≤ b14 := Nat.le_trans Z0 (Nat.le_of_eq g14.symm)
      have sz_b14 : h0.size ≤ b14 := Nat.le_trans K0.1 (Nat.le_of_eq g14.symm)
      replace S_DEFAULTCAPACITY_EMPTY_ELEMENTDATA := S_DEFAULTCAPACITY_EMPTY_ELEMENTDATA.ext E14
      have Zz14 := Nat.le_trans Z0 E14.1
      have Kk14 := K0.ext E14
      have E_b14 := B14
      have V_b14 : Arv Z h14 b14 k14 .int (0 : Int32) [] (.int (0 : Int32)) := (Arv.new A14 (by decide))
      refine go st14 ?_
      show Go p e below _ m T14 22 #[iv p0, iv p1, iv p2, iv p3, iv p4, iv p5, iv (0 : Int32), iv (1 : Int32), .unset, .unset, .unset, .unset, .unset, .unset] [(.ref b14)]
      refine go (fun t kt => XS.astore X14.here hx rfl (hb hby at_22) rfl rfl (l' := #[iv p0, iv p1, iv p2, iv p3, iv p4, iv p5, iv (0 : Int32), iv (1 : Int32), rv b14, .unset, .unset, .unset, .unset, .unset]) rfl kt) ?_
      show Go p e below _ m T14 24 #[iv p0, iv p1, iv p2, iv p3, iv p4, iv p5, iv (0 : Int32), iv (1 : Int32), rv b14, .unset, .unset, .unset, .unset, .unset] []
      refine go (fun t kt => XS.iload X14.here hx rfl (hb hby at_24) rfl kt) ?_
      show Go p e below _ m T14 26 #[iv p0, iv p1, iv p2, iv p3, iv p4, iv p5, iv (0 : Int32), iv (1 : Int32), rv b14, .unset, .unset, .unset, .unset, .unset] [(.int (1 : Int32))]
      obtain ⟨T15, h15, k15, X15, e15, E15, A15, B15, st15⟩ := newPE X14 hx hZ (hw _ (List.mem_of_getElem? (i := 0) rfl)) e14 (g := (mkF m 26 #[iv p0, iv p1, iv p2, iv p3, iv p4, iv p5, iv (0 : Int32), iv (1 : Int32), rv b14, .unset, .unset, .unset, .unset, .unset] [(.int (1 : Int32))])) rfl (hb hby at_26) rfl (by decide) (cap := 1) (by decide) (by decide) (by decide) (by decide) (ad := "[I") rfl
      obtain ⟨b15, g15⟩ : ∃ z, z = h14.size := ⟨_, rfl⟩
      rw [← g15] at A15 B15 st15
      have ne_b14_b15 : b14 ≠ b15 := Nat.ne_of_lt (Nat.lt_of_lt_of_le E_b14.lt (Nat.le_of_eq g15.symm))
      have g_b15 : n0 ≤ b15 := Nat.le_trans Zz14 (Nat.le_of_eq g15.symm)
      have sz_b15 : h0.size ≤ b15 := Nat.le_trans Kk14.1 (Nat.le_of_eq g15.symm)
      replace S_DEFAULTCAPACITY_EMPTY_ELEMENTDATA := S_DEFAULTCAPACITY_EMPTY_ELEMENTDATA.ext E15
      replace E_b14 := E_b14.ext E15
      replace V_b14 := V_b14.ext E15
      have Zz15 := Nat.le_trans Zz14 E15.1
      have Kk15 := Kk14.ext E15
      have E_b15 := B15
      have V_b15 : Arv Z h15 b15 k15 .int (1 : Int32) [(.int (0 : Int32))] (.int (0 : Int32)) := (Arv.new A15 (by decide)).pad (pad_rep [] (.int (0 : Int32)) 1)
      refine go st15 ?_
      show Go p e below _ m T15 28 #[iv p0, iv p1, iv p2, iv p3, iv p4, iv p5, iv (0 : Int32), iv (1 : Int32), rv b14, .unset, .unset, .unset, .unset, .unset] [(.ref b15)]
      refine go (fun t kt => XS.astore X15.here hx rfl (hb hby at_28) rfl rfl (l' := #[iv p0, iv p1, iv p2, iv p3, iv p4, iv p5, iv (0 : Int32), iv (1 : Int32), rv b14, rv b15, .unset, .unset, .unset, .unset]) rfl kt) ?_
      show Go p e below _ m T15 30 #[iv p0, iv p1, iv p2, iv p3, iv p4, iv p5, iv (0 : Int32), iv (1 : Int32), rv b14, rv b15, .unset, .unset, .unset, .unset] []
      refine go (fun t kt => XS.iload X15.here hx rfl (hb hby at_30) rfl kt) ?_
      show Go p e below _ m T15 32 #[iv p0, iv p1, iv p2, iv p3, iv p4, iv p5, iv (0 : Int32), iv (1 : Int32), rv b14, rv b15, .unset, .unset, .unset, .unset] [(.int (0 : Int32))]
      refine go (fun t kt => XS.ifYes X15.here hx rfl (pc0 := 32) (pc' := 40) rfl (hb hby at_32) rfl ((if0 _ _).trans (flt (by decide : ¬ ((0 : Int32) < (0 : Int32)))).2.2.2) (by decide) (by decide) kt) ?_
      show Go p e below _ m T15 40 #[iv p0, iv p1, iv p2, iv p3, iv p4, iv p5, iv (0 : Int32), iv (1 : Int32), rv b14, rv b15, .unset, .unset, .unset, .unset] []
      refine go (fun t kt => XS.iload X15.here hx rfl (hb hby at_40) rfl kt) ?_
      show Go p e below _ m T15 42 #[iv p0, iv p1, iv p2, iv p3, iv p4, iv p5, iv (0 : Int32), iv (1 : Int32), rv b14, rv b15, .unset, .unset, .unset, .unset] [(.int (0 : Int32))]
      refine go (fun t kt => XS.iconst X15.here hx rfl (hb hby at_42) kt) ?_
      show Go p e below _ m T15 43 #[iv p0, iv p1, iv p2, iv p3, iv p4, iv p5, iv (0 : Int32), iv (1 : Int32), rv b14, rv b15, .unset, .unset, .unset, .unset] [(.int (1 : Int32)), (.int (0 : Int32))]
      refine go (fun t kt => XS.icmpYes X15.here hx rfl (pc0 := 43) (pc' := 51) rfl (hb hby at_43) rfl (flt (by decide : ¬ ((1 : Int32) < (0 : Int32)))).2.2.2 (by decide) (by decide) kt) ?_
      show Go p e below _ m T15 51 #[iv p0, iv p1, iv p2, iv p3, iv p4, iv p5, iv (0 : Int32), iv (1 : Int32), rv b14, rv b15, .unset, .unset, .unset, .unset] []
      refine go (fun t kt => XS.iload X15.here hx rfl (hb hby at_51) rfl kt) ?_
      show Go p e below _ m T15 53 #[iv p0, iv p1, iv p2, iv p3, iv p4, iv p5, iv (0 : Int32), iv (1 : Int32), rv b14, rv b15, .unset, .unset, .unset, .unset] [(.int (1 : Int32))]
      refine go (fun t kt => XS.ifNo X15.here hx rfl (hb hby at_53) rfl ((if0 _ _).trans (tlt (by decide : ((0 : Int32) < (1 : Int32)))).2.2.2) kt) ?_
      show Go p e below _ m T15 56 #[iv p0, iv p1, iv p2, iv p3, iv p4, iv p5, iv (0 : Int32), iv (1 : Int32), rv b14, rv b15, .unset, .unset, .unset, .unset] []
      refine go (fun t kt => XS.aload X15.here hx rfl (hb hby at_56) rfl rfl kt) ?_
      show Go p e below _ m T15 58 #[iv p0, iv p1, iv p2, iv p3, iv p4, iv p5, iv (0 : Int32), iv (1 : Int32), rv b14, rv b15, .unset, .unset, .unset, .unset] [(.ref b15)]
      refine go (fun t kt => XS.iconst X15.here hx rfl (hb hby at_58) kt) ?_
      show Go p e below _ m T15 59 #[iv p0, iv p1, iv p2, iv p3, iv p4, iv p5, iv (0 : Int32), iv (1 : Int32), rv b14, rv b15, .unset, .unset, .unset, .unset] [(.int (0 : Int32)), (.ref b15)]
      refine go (fun t kt => XS.iloadN X15.here hx rfl (hb hby at_59) rfl kt) ?_
      show Go p e below _ m T15 60 #[iv p0, iv p1, iv p2, iv p3, iv p4, iv p5, iv (0 : Int32), iv (1 : Int32), rv b14, rv b15, .unset, .unset, .unset, .unset] [(.int p1), (.int (0 : Int32)), (.ref b15)]
      obtain ⟨cl16, Ar16, q16, S16, M16, H16, G16⟩ := V_b15
      have hin16 : ¬ ((0 : Int32) < 0 ∨ cl16.slots.size ≤ ((0 : Int32)).toNatClampNeg) := inb_of S16 ⟨by decide, by decide⟩
      obtain ⟨T16, h16, X16, e16, W16, st16⟩ := stI X15 hx hZ e15 Ar16 (j := (0 : Int32)) hin16 (g := (mkF m 60 #[iv p0, iv p1, iv p2, iv p3, iv p4, iv p5, iv (0 : Int32), iv (1 : Int32), rv b14, rv b15, .unset, .unset, .unset, .unset] [(.int p1), (.int (0 : Int32)), (.ref b15)])) rfl rfl (hb hby at_60)
      have V_b15 : Arv Z h16 b15 k15 .int (1 : Int32) [(.int p1)] (.int (0 : Int32)) := Arv.set Ar16 q16 S16 M16 H16 G16 rfl W16 0 rfl (Nat.le_of_ble_eq_true rfl)
      replace S_DEFAULTCAPACITY_EMPTY_ELEMENTDATA := S_DEFAULTCAPACITY_EMPTY_ELEMENTDATA.wr W16
      replace E_b14 := E_b14.wr W16
      replace V_b14 := V_b14.other W16 ne_b14_b15
      replace E_b15 := E_b15.wr W16
      have Zz16 := Nat.le_trans Zz15 (Keep.of_wr W16).1
      have Kk16 := Kk15.wr W16 (Or.inr sz_b15)
      have N16 := Fr.snoc X16 N0 g_b15
      refine go st16 ?_
      show Go p e below _ m T16 61 #[iv p0, iv p1, iv p2, iv p3, iv p4, iv p5, iv (0 : Int32), iv (1 : Int32), rv b14, rv b15, .unset, .unset, .unset, .unset] []
      refine go (fun t kt => XS.iload X16.here hx rfl (hb hby at_61) rfl kt) ?_
      show Go p e below _ m T16 63 #[iv p0, iv p1, iv p2, iv p3, iv p4, iv p5, iv (0 : Int32), iv (1 : Int32), rv b14, rv b15, .unset, .unset, .unset, .unset] [(.int (1 : Int32))]
      refine go (fun t kt => XS.iconst X16.here hx rfl (hb hby at_63) kt) ?_
      show Go p e below _ m T16 64 #[iv p0, iv p1, iv p2, iv p3, iv p4, iv p5, iv (0 : Int32), iv (1 : Int32), rv b14, rv b15, .unset, .unset, .unset, .unset] [(.int (1 : Int32)), (.int (1 : Int32))]
      refine go (fun t kt => XS.icmpYes X16.here hx rfl (pc0 := 64) (pc' := 72) rfl (hb hby at_64) rfl (flt (by decide : ¬ ((1 : Int32) < (1 : Int32)))).2.2.2 (by decide) (by decide) kt) ?_
      show Go p e below _ m T16 72 #[iv p0, iv p1, iv p2, iv p3, iv p4, iv p5, iv (0 : Int32), iv (1 : Int32), rv b14, rv b15, .unset, .unset, .unset, .unset] []
      obtain ⟨T17, h17, X17, e17, E17, A17, D17, -, st17⟩ := newO X16 hx hZ hown (hw _ (List.mem_of_getElem? (i := 1) rfl)) (hw _ (List.mem_of_getElem? (i := 2) rfl)) (hw _ (List.mem_of_getElem? (i := 3) rfl)) e16 (g := (mkF m 72 #[iv p0, iv p1, iv p2, iv p3, iv p4, iv p5, iv (0 : Int32), iv (1 : Int32), rv b14, rv b15, .unset, .unset, .unset, .unset] [])) rfl (hb hby at_72) (by decide) (by decide)
      obtain ⟨b17, g17⟩ : ∃ z, z = h16.size := ⟨_, rfl⟩
      rw [← g17] at A17 D17 st17
      have ne_b14_b17 : b14 ≠ b17 := Nat.ne_of_lt (Nat.lt_of_lt_of_le E_b14.lt (Nat.le_of_eq g17.symm))
      have ne_b15_b17 : b15 ≠ b17 := Nat.ne_of_lt (Nat.lt_of_lt_of_le E_b15.lt (Nat.le_of_eq g17.symm))
      have g_b17 : n0 ≤ b17 := Nat.le_trans Zz16 (Nat.le_of_eq g17.symm)
      have sz_b17 : h0.size ≤ b17 := Nat.le_trans Kk16.1 (Nat.le_of_eq g17.symm)
      replace S_DEFAULTCAPACITY_EMPTY_ELEMENTDATA := S_DEFAULTCAPACITY_EMPTY_ELEMENTDATA.ext E17
      replace E_b14 := E_b14.ext E17
      replace V_b14 := V_b14.ext E17
      replace E_b15 := E_b15.ext E17
      replace V_b15 := V_b15.ext E17
      have Zz17 := Nat.le_trans Zz16 E17.1
      have Kk17 := Kk16.ext E17
      have E_b17 := A17
      have F_names_b17 : Fld Z h17 b17 "com/example/anytime_arena/anytimearena/io/VariableTable" "names" "Ljava/util/List;" .null := D17 (Or.inr (hw _ (List.mem_of_getElem? (i := 35) rfl))) (ty := (.object "java/util/List")) (by decide)
      have F_types_b17 : Fld Z h17 b17 "com/example/anytime_arena/anytimearena/io/VariableTable" "types" "Ljava/util/List;" .null := D17 (Or.inr (hw _ (List.mem_of_getElem? (i := 37) rfl))) (ty := (.object "java/util/List")) (by decide)
      have F_owners_b17 : Fld Z h17 b17 "com/example/anytime_arena/anytimearena/io/VariableTable" "owners" "Ljava/util/List;" .null := D17 (Or.inr (hw _ (List.mem_of_getElem? (i := 39) rfl))) (ty := (.object "java/util/List")) (by decide)
      have F_slots_b17 : Fld Z h17 b17 "com/example/anytime_arena/anytimearena/io/VariableTable" "slots" "Ljava/util/Map;" .null := D17 (Or.inr (hw _ (List.mem_of_getElem? (i := 57) rfl))) (ty := (.object "java/util/Map")) (by decide)
      have F_low_b17 : Fld Z h17 b17 "com/example/anytime_arena/anytimearena/io/VariableTable" "low" "[I" .null := D17 (Or.inl (hw _ (List.mem_of_getElem? (i := 59) rfl))) (ty := (.array .int)) (by decide)
      have F_high_b17 : Fld Z h17 b17 "com/example/anytime_arena/anytimearena/io/VariableTable" "high" "[I" .null := D17 (Or.inl (hw _ (List.mem_of_getElem? (i := 61) rfl))) (ty := (.array .int)) (by decide)
      refine go st17 ?_
      show Go p e below _ m T17 75 #[iv p0, iv p1, iv p2, iv p3, iv p4, iv p5, iv (0 : Int32), iv (1 : Int32), rv b14, rv b15, .unset, .unset, .unset, .unset] [(.ref b17)]
      refine go (fun t kt => XS.dup X17.here hx rfl (hb hby at_75) rfl rfl kt) ?_
      show Go p e below _ m T17 76 #[iv p0, iv p1, iv p2, iv p3, iv p4, iv p5, iv (0 : Int32), iv (1 : Int32), rv b14, rv b15, .unset, .unset, .unset, .unset] [(.ref b17), (.ref b17)]
      obtain ⟨_, _, ⟨T18, L18, k18, n18⟩, -, X18, ⟨Lc18, hQ18, l18, y18, z18⟩, st18⟩ := X17.specialBack hx (y := (⟨"com/example/anytime_arena/anytimearena/io/VariableTable", "<init>", "()V"⟩ : MethodName)) rfl hown (mvT hZ (hw _ (List.mem_of_getElem? (i := 4) rfl))) (mvT hZ (hw _ (List.mem_of_getElem? (i := 5) rfl))) (mvT hZ (hw _ (List.mem_of_getElem? (i := 6) rfl))) (by decide) (backOf (W := 1) (rm1 l Z a0 hw [] b17 .null .null .null .null .null .null sd h17 n0 Zz17 E_b17 F_names_b17 F_types_b17 F_owners_b17 F_slots_b17 F_low_b17 F_high_b17 S_DEFAULTCAPACITY_EMPTY_ELEMENTDATA g_b17) hZ (hw _ (List.mem_of_getElem? (i := 6) rfl)) (hw _ (List.mem_of_getElem? (i := 3) rfl)) (by decide) (by decide)) (g := (mkF m 76 #[iv p0, iv p1, iv p2, iv p3, iv p4, iv p5, iv (0 : Int32), iv (1 : Int32), rv b14, rv b15, .unset, .unset, .unset, .unset] [(.ref b17), (.ref b17)])) rfl (by rw [hml]; rfl) (Steps.refl _) (a := b17) (argsL := []) (rest := [(.ref b17)]) (lenOf pd_0 rfl) rfl (by show 2 * 0 + _ ≤ _; exact Nat.le_of_eq rfl) (hb hby at_76) (fun _ _ => ⟨rfl, e17, (by decide : 3 + 6 ≤ _), (by decide : 7 + 17 ≤ _)⟩)
      dsimp only [Pt.U, Pt.locs, Pt.cells, Pt.slots] at X18 l18 y18 z18 st18 hQ18
      subst l18 y18 z18
      obtain ⟨rfl, Nq18, Kq18, Eq18, ⟨ul18, Fl18⟩, ⟨uh18, Fh18⟩⟩ := hQ18
      replace S_DEFAULTCAPACITY_EMPTY_ELEMENTDATA := own_sta_keep S_DEFAULTCAPACITY_EMPTY_ELEMENTDATA E_b17 Kq18
      replace E_b14 := E_b14.keep Kq18
      replace V_b14 := V_b14.keep Kq18 (ninS ne_b14_b17 nin0)
      replace E_b15 := E_b15.keep Kq18
      replace V_b15 := V_b15.keep Kq18 (ninS ne_b15_b17 nin0)
      replace E_b17 := E_b17.keep Kq18
      clear F_names_b17
      clear F_types_b17
      clear F_owners_b17
      clear F_slots_b17
      clear F_low_b17
      clear F_high_b17
      have Zz18 := Nat.le_trans Zz17 Kq18.1
      have Kk18 := Kk17.trans Kq18 (allS (Or.inr sz_b17) all0)
      have E_b17 := Eq18
      have F_low_b17 := Fl18
      have F_high_b17 := Fh18
      have N18 := Fr.app N16 Nq18
      refine go (fun t kt => st18.trans kt) ?_
      show Go p e below _ m T18 79 #[iv p0, iv p1, iv p2, iv p3, iv p4, iv p5, iv (0 : Int32), iv (1 : Int32), rv b14, rv b15, .unset, .unset, .unset, .unset] [(.ref b17)]
      refine go (fun t kt => XS.astore X18.here hx rfl (hb hby at_79) rfl rfl (l' := #[iv p0, iv p1, iv p2, iv p3, iv p4, iv p5, iv (0 : Int32), iv (1 : Int32), rv b14, rv b15, rv b17, .unset, .unset, .unset]) rfl kt) ?_
      show Go p e below _ m T18 81 #[iv p0, iv p1, iv p2, iv p3, iv p4, iv p5, iv (0 : Int32), iv (1 : Int32), rv b14, rv b15, rv b17, .unset, .unset, .unset] []
      refine go (fun t kt => XS.aload X18.here hx rfl (hb hby at_81) rfl rfl kt) ?_
      show Go p e below _ m T18 83 #[iv p0, iv p1, iv p2, iv p3, iv p4, iv p5, iv (0 : Int32), iv (1 : Int32), rv b14, rv b15, rv b17, .unset, .unset, .unset] [(.ref b17)]
      refine go (fun t kt => XS.aload X18.here hx rfl (hb hby at_83) rfl rfl kt) ?_
      show Go p e below _ m T18 85 #[iv p0, iv p1, iv p2, iv p3, iv p4, iv p5, iv (0 : Int32), iv (1 : Int32), rv b14, rv b15, rv b17, .unset, .unset, .unset] [(.ref b15), (.ref b17)]
      refine go (fun t kt => XS.aload X18.here hx rfl (hb hby at_85) rfl rfl kt) ?_
      show Go p e below _ m T18 87 #[iv p0, iv p1, iv p2, iv p3, iv p4, iv p5, iv (0 : Int32), iv (1 : Int32), rv b14, rv b15, rv b17, .unset, .unset, .unset] [(.ref b14), (.ref b15), (.ref b17)]
      obtain ⟨cq19, kq19, q19a, q19b, q19c⟩ := isOf hZ rfl E_b17
      obtain ⟨_, _, ⟨T19, L19, k19, n19⟩, -, X19, ⟨Lc19, hQ19, l19, y19, z19⟩, st19⟩ := X18.virtualBack hx (y := (⟨"com/example/anytime_arena/anytimearena/io/VariableTable", "setRanges", "([I[I)V"⟩ : MethodName)) (z := (⟨"com/example/anytime_arena/anytimearena/io/VariableTable", "setRanges", "([I[I)V"⟩ : MethodName)) hown (mvT hZ (hw _ (List.mem_of_getElem? (i := 62) rfl))) (mvT hZ (hw _ (List.mem_of_getElem? (i := 63) rfl))) (notFace_of_selects (args := #[]) (mvT hZ (hw _ (List.mem_of_getElem? (i := 65) rfl)))) (mvT hZ (hw _ (List.mem_of_getElem? (i := 65) rfl))) (mvT hZ (hw _ (List.mem_of_getElem? (i := 64) rfl))) (by decide) (backOf (W := 0) (rm8 l Z a0 hw [] b17 b15 b14 ul18 uh18 k15 (1 : Int32) [(.int p1)] k14 (0 : Int32) [] T18.heap n0 Zz18 E_b17 F_low_b17 F_high_b17 E_b15 V_b15 E_b14 V_b14 (Ne.symm ne_b15_b17) (Ne.symm ne_b14_b17) g_b17 (by decide) (by decide)) hZ (hw _ (List.mem_of_getElem? (i := 66) rfl)) (hw _ (List.mem_of_getElem? (i := 3) rfl)) (by decide) (by decide)) q19a q19c (g := (mkF m 87 #[iv p0, iv p1, iv p2, iv p3, iv p4, iv p5, iv (0 : Int32), iv (1 : Int32), rv b14, rv b15, rv b17, .unset, .unset, .unset] [(.ref b14), (.ref b15), (.ref b17)])) rfl (by rw [hml]; rfl) (Steps.refl _) (argsL := [(.ref b15), (.ref b14)]) (rest := []) (lenOf pd_1 rfl) rfl (by show 2 * 0 + _ ≤ _; exact Nat.le_of_eq rfl) (hb hby at_87) (fun _ _ => ⟨rfl, rfl, (by decide : 9 + 2 ≤ _), (by decide : 24 + 4 ≤ _)⟩)
      dsimp only [Pt.U, Pt.locs, Pt.cells, Pt.slots] at X19 l19 y19 z19 st19 hQ19
      subst l19 y19 z19
      obtain ⟨rfl, Nq19, Kq19, Eq19, c19, d19, lc19, ld19, ne_c19_d19, Fl19, Fh19, Ec19, Vc19, Ed19, Vd19⟩ := hQ19
      have ne_b14_c19 : b14 ≠ c19 := Nat.ne_of_lt (Nat.lt_of_lt_of_le E_b14.lt lc19)
      have ne_b15_c19 : b15 ≠ c19 := Nat.ne_of_lt (Nat.lt_of_lt_of_le E_b15.lt lc19)
      have ne_b17_c19 : b17 ≠ c19 := Nat.ne_of_lt (Nat.lt_of_lt_of_le E_b17.lt lc19)
      have g_c19 : n0 ≤ c19 := Nat.le_trans Zz18 lc19
      have sz_c19 : h0.size ≤ c19 := Nat.le_trans Kk18.1 lc19
      have ne_b14_d19 : b14 ≠ d19 := Nat.ne_of_lt (Nat.lt_of_lt_of_le E_b14.lt ld19)
      have ne_b15_d19 : b15 ≠ d19 := Nat.ne_of_lt (Nat.lt_of_lt_of_le E_b15.lt ld19)
      have ne_b17_d19 : b17 ≠ d19 := Nat.ne_of_lt (Nat.lt_of_lt_of_le E_b17.lt ld19)
      have g_d19 : n0 ≤ d19 := Nat.le_trans Zz18 ld19
      have sz_d19 : h0.size ≤ d19 := Nat.le_trans Kk18.1 ld19
      replace S_DEFAULTCAPACITY_EMPTY_ELEMENTDATA := own_sta_keep S_DEFAULTCAPACITY_EMPTY_ELEMENTDATA E_b17 Kq19
      replace E_b14 := E_b14.keep Kq19
      replace V_b14 := V_b14.keep Kq19 (ninS ne_b14_b17 nin0)
      replace E_b15 := E_b15.keep Kq19
      replace V_b15 := V_b15.keep Kq19 (ninS ne_b15_b17 nin0)
      replace E_b17 := E_b17.keep Kq19
      clear F_low_b17
      clear F_high_b17
      have Zz19 := Nat.le_trans Zz18 Kq19.1
      have Kk19 := Kk18.trans Kq19 (allS (Or.inr sz_b17) all0)
      have E_b17 := Eq19
      have F_low_b17 := Fl19
      have F_high_b17 := Fh19
      have E_c19 := Ec19
      have V_c19 := Vc19
      have E_d19 := Ed19
      have V_d19 := Vd19
      have N19 := Fr.app N18 Nq19
      refine go (fun t kt => st19.trans kt) ?_
      show Go p e below _ m T19 90 #[iv p0, iv p1, iv p2, iv p3, iv p4, iv p5, iv (0 : Int32), iv (1 : Int32), rv b14, rv b15, rv b17, .unset, .unset, .unset] []
      refine go (fun t kt => XS.aload X19.here hx rfl (hb hby at_90) rfl rfl kt) ?_
      show Go p e below _ m T19 92 #[iv p0, iv p1, iv p2, iv p3, iv p4, iv p5, iv (0 : Int32), iv (1 : Int32), rv b14, rv b15, rv b17, .unset, .unset, .unset] [(.ref b17)]
      refine go (fun t kt => XS.aload X19.here hx rfl (hb hby at_92) rfl rfl kt) ?_
      show Go p e below _ m T19 94 #[iv p0, iv p1, iv p2, iv p3, iv p4, iv p5, iv (0 : Int32), iv (1 : Int32), rv b14, rv b15, rv b17, .unset, .unset, .unset] [(.ref b14), (.ref b17)]
      refine go (fun t kt => XS.aload X19.here hx rfl (hb hby at_94) rfl rfl kt) ?_
      show Go p e below _ m T19 96 #[iv p0, iv p1, iv p2, iv p3, iv p4, iv p5, iv (0 : Int32), iv (1 : Int32), rv b14, rv b15, rv b17, .unset, .unset, .unset] [(.ref b15), (.ref b14), (.ref b17)]
      obtain ⟨cq20, kq20, q20a, q20b, q20c⟩ := isOf hZ rfl E_b17
      obtain ⟨_, _, ⟨T20, L20, k20, n20⟩, -, X20, ⟨Lc20, hQ20, l20, y20, z20⟩, st20⟩ := X19.virtualBack hx (y := (⟨"com/example/anytime_arena/anytimearena/io/VariableTable", "setRanges", "([I[I)V"⟩ : MethodName)) (z := (⟨"com/example/anytime_arena/anytimearena/io/VariableTable", "setRanges", "([I[I)V"⟩ : MethodName)) hown (mvT hZ (hw _ (List.mem_of_getElem? (i := 62) rfl))) (mvT hZ (hw _ (List.mem_of_getElem? (i := 63) rfl))) (notFace_of_selects (args := #[]) (mvT hZ (hw _ (List.mem_of_getElem? (i := 65) rfl)))) (mvT hZ (hw _ (List.mem_of_getElem? (i := 65) rfl))) (mvT hZ (hw _ (List.mem_of_getElem? (i := 64) rfl))) (by decide) (backOf (W := 0) (rm8 l Z a0 hw [] b17 b14 b15 (.ref c19) (.ref d19) k14 (0 : Int32) [] k15 (1 : Int32) [(.int p1)] T19.heap n0 Zz19 E_b17 F_low_b17 F_high_b17 E_b14 V_b14 E_b15 V_b15 (Ne.symm ne_b14_b17) (Ne.symm ne_b15_b17) g_b17 (by decide) (by decide)) hZ (hw _ (List.mem_of_getElem? (i := 66) rfl)) (hw _ (List.mem_of_getElem? (i := 3) rfl)) (by decide) (by decide)) q20a q20c (g := (mkF m 96 #[iv p0, iv p1, iv p2, iv p3, iv p4, iv p5, iv (0 : Int32), iv (1 : Int32), rv b14, rv b15, rv b17, .unset, .unset, .unset] [(.ref b15), (.ref b14), (.ref b17)])) rfl (by rw [hml]; rfl) (Steps.refl _) (argsL := [(.ref b14), (.ref b15)]) (rest := []) (lenOf pd_1 rfl) rfl (by show 2 * 0 + _ ≤ _; exact Nat.le_of_eq rfl) (hb hby at_96) (fun _ _ => ⟨rfl, rfl, (by decide : 11 + 2 ≤ _), (by decide : 28 + 4 ≤ _)⟩)
      dsimp only [Pt.U, Pt.locs, Pt.cells, Pt.slots] at X20 l20 y20 z20 st20 hQ20
      subst l20 y20 z20
      obtain ⟨rfl, Nq20, Kq20, Eq20, c20, d20, lc20, ld20, ne_c20_d20, Fl20, Fh20, Ec20, Vc20, Ed20, Vd20⟩ := hQ20
      have ne_b14_c20 : b14 ≠ c20 := Nat.ne_of_lt (Nat.lt_of_lt_of_le E_b14.lt lc20)
      have ne_b15_c20 : b15 ≠ c20 := Nat.ne_of_lt (Nat.lt_of_lt_of_le E_b15.lt lc20)
      have ne_b17_c20 : b17 ≠ c20 := Nat.ne_of_lt (Nat.lt_of_lt_of_le E_b17.lt lc20)
      have ne_c19_c20 : c19 ≠ c20 := Nat.ne_of_lt (Nat.lt_of_lt_of_le E_c19.lt lc20)
      have ne_d19_c20 : d19 ≠ c20 := Nat.ne_of_lt (Nat.lt_of_lt_of_le E_d19.lt lc20)
      have g_c20 : n0 ≤ c20 := Nat.le_trans Zz19 lc20
      have sz_c20 : h0.size ≤ c20 := Nat.le_trans Kk19.1 lc20
      have ne_b14_d20 : b14 ≠ d20 := Nat.ne_of_lt (Nat.lt_of_lt_of_le E_b14.lt ld20)
      have ne_b15_d20 : b15 ≠ d20 := Nat.ne_of_lt (Nat.lt_of_lt_of_le E_b15.lt ld20)
      have ne_b17_d20 : b17 ≠ d20 := Nat.ne_of_lt (Nat.lt_of_lt_of_le E_b17.lt ld20)
      have ne_c19_d20 : c19 ≠ d20 := Nat.ne_of_lt (Nat.lt_of_lt_of_le E_c19.lt ld20)
      have ne_d19_d20 : d19 ≠ d20 := Nat.ne_of_lt (Nat.lt_of_lt_of_le E_d19.lt ld20)
      have g_d20 : n0 ≤ d20 := Nat.le_trans Zz19 ld20
      have sz_d20 : h0.size ≤ d20 := Nat.le_trans Kk19.1 ld20
      replace S_DEFAULTCAPACITY_EMPTY_ELEMENTDATA := own_sta_keep S_DEFAULTCAPACITY_EMPTY_ELEMENTDATA E_b17 Kq20
      replace E_b14 := E_b14.keep Kq20
      replace V_b14 := V_b14.keep Kq20 (ninS ne_b14_b17 nin0)
      replace E_b15 := E_b15.keep Kq20
      replace V_b15 := V_b15.keep Kq20 (ninS ne_b15_b17 nin0)
      replace E_b17 := E_b17.keep Kq20
      clear F_low_b17
      clear F_high_b17
      replace E_c19 := E_c19.keep Kq20
      replace V_c19 := V_c19.keep Kq20 (ninS (Ne.symm ne_b17_c19) nin0)
      replace E_d19 := E_d19.keep Kq20
      replace V_d19 := V_d19.keep Kq20 (ninS (Ne.symm ne_b17_d19) nin0)
      have Zz20 := Nat.le_trans Zz19 Kq20.1
      have Kk20 := Kk19.trans Kq20 (allS (Or.inr sz_b17) all0)
      have E_b17 := Eq20
      have F_low_b17 := Fl20
      have F_high_b17 := Fh20
      have E_c20 := Ec20
      have V_c20 := Vc20
      have E_d20 := Ed20
      have V_d20 := Vd20
      have N20 := Fr.app N19 Nq20
      refine go (fun t kt => st20.trans kt) ?_
      show Go p e below _ m T20 99 #[iv p0, iv p1, iv p2, iv p3, iv p4, iv p5, iv (0 : Int32), iv (1 : Int32), rv b14, rv b15, rv b17, .unset, .unset, .unset] []
      refine go (fun t kt => XS.iload X20.here hx rfl (hb hby at_99) rfl kt) ?_
      show Go p e below _ m T20 101 #[iv p0, iv p1, iv p2, iv p3, iv p4, iv p5, iv (0 : Int32), iv (1 : Int32), rv b14, rv b15, rv b17, .unset, .unset, .unset] [(.int (0 : Int32))]
      refine go (fun t kt => XS.ifYes X20.here hx rfl (pc0 := 101) (pc' := 111) rfl (hb hby at_101) rfl ((if0 _ _).trans (flt (by decide : ¬ ((0 : Int32) < (0 : Int32)))).2.2.2) (by decide) (by decide) kt) ?_
      show Go p e below _ m T20 111 #[iv p0, iv p1, iv p2, iv p3, iv p4, iv p5, iv (0 : Int32), iv (1 : Int32), rv b14, rv b15, rv b17, .unset, .unset, .unset] []
      refine go (fun t kt => XS.iload X20.here hx rfl (hb hby at_111) rfl kt) ?_
      show Go p e below _ m T20 113 #[iv p0, iv p1, iv p2, iv p3, iv p4, iv p5, iv (0 : Int32), iv (1 : Int32), rv b14, rv b15, rv b17, .unset, .unset, .unset] [(.int (0 : Int32))]
      refine go (fun t kt => XS.iconst X20.here hx rfl (hb hby at_113) kt) ?_
      show Go p e below _ m T20 114 #[iv p0, iv p1, iv p2, iv p3, iv p4, iv p5, iv (0 : Int32), iv (1 : Int32), rv b14, rv b15, rv b17, .unset, .unset, .unset] [(.int (1 : Int32)), (.int (0 : Int32))]
      refine go (fun t kt => XS.icmpYes X20.here hx rfl (pc0 := 114) (pc' := 124) rfl (hb hby at_114) rfl (flt (by decide : ¬ ((1 : Int32) < (0 : Int32)))).2.2.2 (by decide) (by decide) kt) ?_
      show Go p e below _ m T20 124 #[iv p0, iv p1, iv p2, iv p3, iv p4, iv p5, iv (0 : Int32), iv (1 : Int32), rv b14, rv b15, rv b17, .unset, .unset, .unset] []
      refine go (fun t kt => XS.iload X20.here hx rfl (hb hby at_124) rfl kt) ?_
      show Go p e below _ m T20 126 #[iv p0, iv p1, iv p2, iv p3, iv p4, iv p5, iv (0 : Int32), iv (1 : Int32), rv b14, rv b15, rv b17, .unset, .unset, .unset] [(.int (1 : Int32))]
      refine go (fun t kt => XS.ifNo X20.here hx rfl (hb hby at_126) rfl ((if0 _ _).trans (tlt (by decide : ((0 : Int32) < (1 : Int32)))).2.2.2) kt) ?_
      show Go p e below _ m T20 129 #[iv p0, iv p1, iv p2, iv p3, iv p4, iv p5, iv (0 : Int32), iv (1 : Int32), rv b14, rv b15, rv b17, .unset, .unset, .unset] []
      refine go (fun t kt => XS.aload X20.here hx rfl (hb hby at_129) rfl rfl kt) ?_
      show Go p e below _ m T20 131 #[iv p0, iv p1, iv p2, iv p3, iv p4, iv p5, iv (0 : Int32), iv (1 : Int32), rv b14, rv b15, rv b17, .unset, .unset, .unset] [(.ref b15)]
      refine go (fun t kt => XS.iconst X20.here hx rfl (hb hby at_131) kt) ?_
      show Go p e below _ m T20 132 #[iv p0, iv p1, iv p2, iv p3, iv p4, iv p5, iv (0 : Int32), iv (1 : Int32), rv b14, rv b15, rv b17, .unset, .unset, .unset] [(.int (0 : Int32)), (.ref b15)]
      refine go (fun t kt => XS.iloadN X20.here hx rfl (hb hby at_132) rfl kt) ?_
      show Go p e below _ m T20 133 #[iv p0, iv p1, iv p2, iv p3, iv p4, iv p5, iv (0 : Int32), iv (1 : Int32), rv b14, rv b15, rv b17, .unset, .unset, .unset] [(.int p1), (.int (0 : Int32)), (.ref b15)]
      refine go (fun t kt => XS.iconst X20.here hx rfl (hb hby at_133) kt) ?_
      show Go p e below _ m T20 134 #[iv p0, iv p1, iv p2, iv p3, iv p4, iv p5, iv (0 : Int32), iv (1 : Int32), rv b14, rv b15, rv b17, .unset, .unset, .unset] [(.int (-1 : Int32)), (.int p1), (.int (0 : Int32)), (.ref b15)]
      refine go (fun t kt => XS.ixor X20.here hx rfl (hb hby at_134) rfl kt) ?_
      show Go p e below _ m T20 135 #[iv p0, iv p1, iv p2, iv p3, iv p4, iv p5, iv (0 : Int32), iv (1 : Int32), rv b14, rv b15, rv b17, .unset, .unset, .unset] [(.int (p1 ^^^ (-1 : Int32))), (.int (0 : Int32)), (.ref b15)]
      obtain ⟨cl21, Ar21, q21, S21, M21, H21, G21⟩ := V_b15
      have hin21 : ¬ ((0 : Int32) < 0 ∨ cl21.slots.size ≤ ((0 : Int32)).toNatClampNeg) := inb_of S21 ⟨by decide, by decide⟩
      obtain ⟨T21, h21, X21, e21, W21, st21⟩ := stI X20 hx hZ rfl Ar21 (j := (0 : Int32)) hin21 (g := (mkF m 135 #[iv p0, iv p1, iv p2, iv p3, iv p4, iv p5, iv (0 : Int32), iv (1 : Int32), rv b14, rv b15, rv b17, .unset, .unset, .unset] [(.int (p1 ^^^ (-1 : Int32))), (.int (0 : Int32)), (.ref b15)])) rfl rfl (hb hby at_135)
      have V_b15 : Arv Z h21 b15 k15 .int (1 : Int32) [(.int (p1 ^^^ (-1 : Int32)))] (.int (0 : Int32)) := Arv.set Ar21 q21 S21 M21 H21 G21 rfl W21 0 rfl (Nat.le_of_ble_eq_true rfl)
      replace S_DEFAULTCAPACITY_EMPTY_ELEMENTDATA := S_DEFAULTCAPACITY_EMPTY_ELEMENTDATA.wr W21
      replace E_b14 := E_b14.wr W21
      replace V_b14 := V_b14.other W21 ne_b14_b15
      replace E_b15 := E_b15.wr W21
      replace E_b17 := E_b17.wr W21
      replace E_c19 := E_c19.wr W21
      replace V_c19 := V_c19.other W21 (Ne.symm ne_b15_c19)
      replace E_d19 := E_d19.wr W21
      replace V_d19 := V_d19.other W21 (Ne.symm ne_b15_d19)
      replace F_low_b17 := F_low_b17.other W21 (Or.inl (Ne.symm ne_b15_b17))
      replace F_high_b17 := F_high_b17.other W21 (Or.inl (Ne.symm ne_b15_b17))
      replace E_c20 := E_c20.wr W21
      replace V_c20 := V_c20.other W21 (Ne.symm ne_b15_c20)
      replace E_d20 := E_d20.wr W21
      replace V_d20 := V_d20.other W21 (Ne.symm ne_b15_d20)
      have Zz21 := Nat.le_trans Zz20 (Keep.of_wr W21).1
      have Kk21 := Kk20.wr W21 (Or.inr sz_b15)
      have N21 := Fr.snoc X21 N20 g_b15
      refine go st21 ?_
      show Go p e below _ m T21 136 #[iv p0, iv p1, iv p2, iv p3, iv p4, iv p5, iv (0 : Int32), iv (1 : Int32), rv b14, rv b15, rv b17, .unset, .unset, .unset] []
      refine go (fun t kt => XS.iload X21.here hx rfl (hb hby at_136) rfl kt) ?_
      show Go p e below _ m T21 138 #[iv p0, iv p1, iv p2, iv p3, iv p4, iv p5, iv (0 : Int32), iv (1 : Int32), rv b14, rv b15, rv b17, .unset, .unset, .unset] [(.int (1 : Int32))]
      refine go (fun t kt => XS.iconst X21.here hx rfl (hb hby at_138) kt) ?_
      show Go p e below _ m T21 139 #[iv p0, iv p1, iv p2, iv p3, iv p4, iv p5, iv (0 : Int32), iv (1 : Int32), rv b14, rv b15, rv b17, .unset, .unset, .unset] [(.int (1 : Int32)), (.int (1 : Int32))]
      refine go (fun t kt => XS.icmpYes X21.here hx rfl (pc0 := 139) (pc' := 149) rfl (hb hby at_139) rfl (flt (by decide : ¬ ((1 : Int32) < (1 : Int32)))).2.2.2 (by decide) (by decide) kt) ?_
      show Go p e below _ m T21 149 #[iv p0, iv p1, iv p2, iv p3, iv p4, iv p5, iv (0 : Int32), iv (1 : Int32), rv b14, rv b15, rv b17, .unset, .unset, .unset] []
      refine go (fun t kt => XS.aload X21.here hx rfl (hb hby at_149) rfl rfl kt) ?_
      show Go p e below _ m T21 151 #[iv p0, iv p1, iv p2, iv p3, iv p4, iv p5, iv (0 : Int32), iv (1 : Int32), rv b14, rv b15, rv b17, .unset, .unset, .unset] [(.ref b17)]
      obtain ⟨cq22, kq22, q22a, q22b, q22c⟩ := isOf hZ e21 E_b17
      obtain ⟨_, _, ⟨T22, L22, k22, n22⟩, -, X22, ⟨Lc22, hQ22, l22, y22, z22⟩, st22⟩ := X21.virtualBack hx (y := (⟨"com/example/anytime_arena/anytimearena/io/VariableTable", "low", "()[I"⟩ : MethodName)) (z := (⟨"com/example/anytime_arena/anytimearena/io/VariableTable", "low", "()[I"⟩ : MethodName)) hown (mvT hZ (hw _ (List.mem_of_getElem? (i := 76) rfl))) (mvT hZ (hw _ (List.mem_of_getElem? (i := 77) rfl))) (notFace_of_selects (args := #[]) (mvT hZ (hw _ (List.mem_of_getElem? (i := 79) rfl)))) (mvT hZ (hw _ (List.mem_of_getElem? (i := 79) rfl))) (mvT hZ (hw _ (List.mem_of_getElem? (i := 78) rfl))) (by decide) (backOf (W := 0) (rm9 l Z a0 hw [] b17 c20 k14 (0 : Int32) [] h21 n0 Zz21 F_low_b17 E_c20 V_c20 (by decide)) hZ (hw _ (List.mem_of_getElem? (i := 80) rfl)) (hw _ (List.mem_of_getElem? (i := 3) rfl)) (by decide) (by decide)) q22a q22c (g := (mkF m 151 #[iv p0, iv p1, iv p2, iv p3, iv p4, iv p5, iv (0 : Int32), iv (1 : Int32), rv b14, rv b15, rv b17, .unset, .unset, .unset] [(.ref b17)])) rfl (by rw [hml]; rfl) (Steps.refl _) (argsL := []) (rest := []) (lenOf pd_2 rfl) rfl (by show 2 * 0 + _ ≤ _; exact Nat.le_of_eq rfl) (hb hby at_151) (fun _ _ => ⟨rfl, e21, (by decide : 13 + 1 ≤ _), (by decide : 32 + 2 ≤ _)⟩)
      dsimp only [Pt.U, Pt.locs, Pt.cells, Pt.slots] at X22 l22 y22 z22 st22 hQ22
      subst l22 y22 z22
      obtain ⟨b22, g22⟩ : ∃ z, z = h21.size := ⟨_, rfl⟩
      have ne_b14_b22 : b14 ≠ b22 := Nat.ne_of_lt (Nat.lt_of_lt_of_le E_b14.lt (Nat.le_of_eq g22.symm))
      have ne_b15_b22 : b15 ≠ b22 := Nat.ne_of_lt (Nat.lt_of_lt_of_le E_b15.lt (Nat.le_of_eq g22.symm))
      have ne_b17_b22 : b17 ≠ b22 := Nat.ne_of_lt (Nat.lt_of_lt_of_le E_b17.lt (Nat.le_of_eq g22.symm))
      have ne_c19_b22 : c19 ≠ b22 := Nat.ne_of_lt (Nat.lt_of_lt_of_le E_c19.lt (Nat.le_of_eq g22.symm))
      have ne_d19_b22 : d19 ≠ b22 := Nat.ne_of_lt (Nat.lt_of_lt_of_le E_d19.lt (Nat.le_of_eq g22.symm))
      have ne_c20_b22 : c20 ≠ b22 := Nat.ne_of_lt (Nat.lt_of_lt_of_le E_c20.lt (Nat.le_of_eq g22.symm))
      have ne_d20_b22 : d20 ≠ b22 := Nat.ne_of_lt (Nat.lt_of_lt_of_le E_d20.lt (Nat.le_of_eq g22.symm))
      have g_b22 : n0 ≤ b22 := Nat.le_trans Zz21 (Nat.le_of_eq g22.symm)
      have sz_b22 : h0.size ≤ b22 := Nat.le_trans Kk21.1 (Nat.le_of_eq g22.symm)
      obtain ⟨rfl, Nq22, Kq22, Eq22, Vq22⟩ := hQ22
      rw [← g22] at Eq22 Vq22 st22
      clear S_DEFAULTCAPACITY_EMPTY_ELEMENTDATA
      replace E_b14 := E_b14.keep Kq22
      replace V_b14 := V_b14.keep Kq22 nin0
      replace E_b15 := E_b15.keep Kq22
      replace V_b15 := V_b15.keep Kq22 nin0
      replace E_b17 := E_b17.keep Kq22
      replace E_c19 := E_c19.keep Kq22
      replace V_c19 := V_c19.keep Kq22 nin0
      replace E_d19 := E_d19.keep Kq22
      replace V_d19 := V_d19.keep Kq22 nin0
      replace F_low_b17 := F_low_b17.keep Kq22 nin0
      replace F_high_b17 := F_high_b17.keep Kq22 nin0
      replace E_c20 := E_c20.keep Kq22
      replace V_c20 := V_c20.keep Kq22 nin0
      replace E_d20 := E_d20.keep Kq22
      replace V_d20 := V_d20.keep Kq22 nin0
      have Zz22 := Nat.le_trans Zz21 Kq22.1
      have Kk22 := Kk21.trans Kq22 all0
      have E_b22 := Eq22
      have V_b22 := Vq22
      have N22 := Fr.app N21 Nq22
      refine go (fun t kt => st22.trans kt) ?_
      show Go p e below _ m T22 154 #[iv p0, iv p1, iv p2, iv p3, iv p4, iv p5, iv (0 : Int32), iv (1 : Int32), rv b14, rv b15, rv b17, .unset, .unset, .unset] [(.ref b22)]
      refine go (fun t kt => XS.astore X22.here hx rfl (hb hby at_154) rfl rfl (l' := #[iv p0, iv p1, iv p2, iv p3, iv p4, iv p5, iv (0 : Int32), iv (1 : Int32), rv b14, rv b15, rv b17, rv b22, .unset, .unset]) rfl kt) ?_
      show Go p e below _ m T22 156 #[iv p0, iv p1, iv p2, iv p3, iv p4, iv p5, iv (0 : Int32), iv (1 : Int32), rv b14, rv b15, rv b17, rv b22, .unset, .unset] []
      refine go (fun t kt => XS.aload X22.here hx rfl (hb hby at_156) rfl rfl kt) ?_
      show Go p e below _ m T22 158 #[iv p0, iv p1, iv p2, iv p3, iv p4, iv p5, iv (0 : Int32), iv (1 : Int32), rv b14, rv b15, rv b17, rv b22, .unset, .unset] [(.ref b17)]
      obtain ⟨cq23, kq23, q23a, q23b, q23c⟩ := isOf hZ rfl E_b17
      obtain ⟨_, _, ⟨T23, L23, k23, n23⟩, -, X23, ⟨Lc23, hQ23, l23, y23, z23⟩, st23⟩ := X22.virtualBack hx (y := (⟨"com/example/anytime_arena/anytimearena/io/VariableTable", "high", "()[I"⟩ : MethodName)) (z := (⟨"com/example/anytime_arena/anytimearena/io/VariableTable", "high", "()[I"⟩ : MethodName)) hown (mvT hZ (hw _ (List.mem_of_getElem? (i := 81) rfl))) (mvT hZ (hw _ (List.mem_of_getElem? (i := 82) rfl))) (notFace_of_selects (args := #[]) (mvT hZ (hw _ (List.mem_of_getElem? (i := 84) rfl)))) (mvT hZ (hw _ (List.mem_of_getElem? (i := 84) rfl))) (mvT hZ (hw _ (List.mem_of_getElem? (i := 83) rfl))) (by decide) (backOf (W := 0) (rm10 l Z a0 hw [] b17 d20 k15 (1 : Int32) [(.int p1)] T22.heap n0 Zz22 F_high_b17 E_d20 V_d20 (by decide)) hZ (hw _ (List.mem_of_getElem? (i := 85) rfl)) (hw _ (List.mem_of_getElem? (i := 3) rfl)) (by decide) (by decide)) q23a q23c (g := (mkF m 158 #[iv p0, iv p1, iv p2, iv p3, iv p4, iv p5, iv (0 : Int32), iv (1 : Int32), rv b14, rv b15, rv b17, rv b22, .unset, .unset] [(.ref b17)])) rfl (by rw [hml]; rfl) (Steps.refl _) (argsL := []) (rest := []) (lenOf pd_2 rfl) rfl (by show 2 * 0 + _ ≤ _; exact Nat.le_of_eq rfl) (hb hby at_158) (fun _ _ => ⟨rfl, rfl, (by decide : 14 + 1 ≤ _), (by decide : 34 + 2 ≤ _)⟩)
      dsimp only [Pt.U, Pt.locs, Pt.cells, Pt.slots] at X23 l23 y23 z23 st23 hQ23
      subst l23 y23 z23
      obtain ⟨b23, g23⟩ : ∃ z, z = T22.heap.size := ⟨_, rfl⟩
      have ne_b14_b23 : b14 ≠ b23 := Nat.ne_of_lt (Nat.lt_of_lt_of_le E_b14.lt (Nat.le_of_eq g23.symm))
      have ne_b15_b23 : b15 ≠ b23 := Nat.ne_of_lt (Nat.lt_of_lt_of_le E_b15.lt (Nat.le_of_eq g23.symm))
      have ne_b17_b23 : b17 ≠ b23 := Nat.ne_of_lt (Nat.lt_of_lt_of_le E_b17.lt (Nat.le_of_eq g23.symm))
      have ne_c19_b23 : c19 ≠ b23 := Nat.ne_of_lt (Nat.lt_of_lt_of_le E_c19.lt (Nat.le_of_eq g23.symm))
      have ne_d19_b23 : d19 ≠ b23 := Nat.ne_of_lt (Nat.lt_of_lt_of_le E_d19.lt (Nat.le_of_eq g23.symm))
      have ne_c20_b23 : c20 ≠ b23 := Nat.ne_of_lt (Nat.lt_of_lt_of_le E_c20.lt (Nat.le_of_eq g23.symm))
      have ne_d20_b23 : d20 ≠ b23 := Nat.ne_of_lt (Nat.lt_of_lt_of_le E_d20.lt (Nat.le_of_eq g23.symm))
      have ne_b22_b23 : b22 ≠ b23 := Nat.ne_of_lt (Nat.lt_of_lt_of_le E_b22.lt (Nat.le_of_eq g23.symm))
      have g_b23 : n0 ≤ b23 := Nat.le_trans Zz22 (Nat.le_of_eq g23.symm)
      have sz_b23 : h0.size ≤ b23 := Nat.le_trans Kk22.1 (Nat.le_of_eq g23.symm)
      obtain ⟨rfl, Nq23, Kq23, Eq23, Vq23⟩ := hQ23
      rw [← g23] at Eq23 Vq23 st23
      replace E_b14 := E_b14.keep Kq23
      replace V_b14 := V_b14.keep Kq23 nin0
      replace E_b15 := E_b15.keep Kq23
      replace V_b15 := V_b15.keep Kq23 nin0
      replace E_b17 := E_b17.keep Kq23
      replace E_c19 := E_c19.keep Kq23
      replace V_c19 := V_c19.keep Kq23 nin0
      replace E_d19 := E_d19.keep Kq23
      replace V_d19 := V_d19.keep Kq23 nin0
      replace F_low_b17 := F_low_b17.keep Kq23 nin0
      replace F_high_b17 := F_high_b17.keep Kq23 nin0
      replace E_c20 := E_c20.keep Kq23
      replace V_c20 := V_c20.keep Kq23 nin0
      replace E_d20 := E_d20.keep Kq23
      replace V_d20 := V_d20.keep Kq23 nin0
      replace E_b22 := E_b22.keep Kq23
      replace V_b22 := V_b22.keep Kq23 nin0
      have Zz23 := Nat.le_trans Zz22 Kq23.1
      have Kk23 := Kk22.trans Kq23 all0
      have E_b23 := Eq23
      have V_b23 := Vq23
      have N23 := Fr.app N22 Nq23
      refine go (fun t kt => st23.trans kt) ?_
      show Go p e below _ m T23 161 #[iv p0, iv p1, iv p2, iv p3, iv p4, iv p5, iv (0 : Int32), iv (1 : Int32), rv b14, rv b15, rv b17, rv b22, .unset, .unset] [(.ref b23)]
      refine go (fun t kt => XS.astore X23.here hx rfl (hb hby at_161) rfl rfl (l' := #[iv p0, iv p1, iv p2, iv p3, iv p4, iv p5, iv (0 : Int32), iv (1 : Int32), rv b14, rv b15, rv b17, rv b22, rv b23, .unset]) rfl kt) ?_
      show Go p e below _ m T23 163 #[iv p0, iv p1, iv p2, iv p3, iv p4, iv p5, iv (0 : Int32), iv (1 : Int32), rv b14, rv b15, rv b17, rv b22, rv b23, .unset] []
      refine go (fun t kt => XS.aload X23.here hx rfl (hb hby at_163) rfl rfl kt) ?_
      show Go p e below _ m T23 165 #[iv p0, iv p1, iv p2, iv p3, iv p4, iv p5, iv (0 : Int32), iv (1 : Int32), rv b14, rv b15, rv b17, rv b22, rv b23, .unset] [(.ref b22)]
      obtain ⟨cl24, Ar24, q24, S24, M24, H24, G24⟩ := id V_b22
      refine go (X23.arraylength hx Ar24.1 (State.isArrayOf_alike hZ.alike Ar24.2.1) (g := (mkF m 165 #[iv p0, iv p1, iv p2, iv p3, iv p4, iv p5, iv (0 : Int32), iv (1 : Int32), rv b14, rv b15, rv b17, rv b22, rv b23, .unset] [(.ref b22)])) rfl rfl (hb hby at_165)) ?_
      rw [len_of S24 M24]
      show Go p e below _ m T23 166 #[iv p0, iv p1, iv p2, iv p3, iv p4, iv p5, iv (0 : Int32), iv (1 : Int32), rv b14, rv b15, rv b17, rv b22, rv b23, .unset] [(.int (0 : Int32))]
      refine go (fun t kt => XS.iload X23.here hx rfl (hb hby at_166) rfl kt) ?_
      show Go p e below _ m T23 168 #[iv p0, iv p1, iv p2, iv p3, iv p4, iv p5, iv (0 : Int32), iv (1 : Int32), rv b14, rv b15, rv b17, rv b22, rv b23, .unset] [(.int (0 : Int32)), (.int (0 : Int32))]
      refine go (fun t kt => XS.icmpNo X23.here hx rfl (hb hby at_168) rfl (teq (by decide : ((0 : Int32) = (0 : Int32)))).2 kt) ?_
      show Go p e below _ m T23 171 #[iv p0, iv p1, iv p2, iv p3, iv p4, iv p5, iv (0 : Int32), iv (1 : Int32), rv b14, rv b15, rv b17, rv b22, rv b23, .unset] []
      refine go (fun t kt => XS.aload X23.here hx rfl (hb hby at_171) rfl rfl kt) ?_
      show Go p e below _ m T23 173 #[iv p0, iv p1, iv p2, iv p3, iv p4, iv p5, iv (0 : Int32), iv (1 : Int32), rv b14, rv b15, rv b17, rv b22, rv b23, .unset] [(.ref b23)]
      obtain ⟨cl25, Ar25, q25, S25, M25, H25, G25⟩ := id V_b23
      refine go (X23.arraylength hx Ar25.1 (State.isArrayOf_alike hZ.alike Ar25.2.1) (g := (mkF m 173 #[iv p0, iv p1, iv p2, iv p3, iv p4, iv p5, iv (0 : Int32), iv (1 : Int32), rv b14, rv b15, rv b17, rv b22, rv b23, .unset] [(.ref b23)])) rfl rfl (hb hby at_173)) ?_
      rw [len_of S25 M25]
      show Go p e below _ m T23 174 #[iv p0, iv p1, iv p2, iv p3, iv p4, iv p5, iv (0 : Int32), iv (1 : Int32), rv b14, rv b15, rv b17, rv b22, rv b23, .unset] [(.int (1 : Int32))]
      refine go (fun t kt => XS.iload X23.here hx rfl (hb hby at_174) rfl kt) ?_
      show Go p e below _ m T23 176 #[iv p0, iv p1, iv p2, iv p3, iv p4, iv p5, iv (0 : Int32), iv (1 : Int32), rv b14, rv b15, rv b17, rv b22, rv b23, .unset] [(.int (1 : Int32)), (.int (1 : Int32))]
      refine go (fun t kt => XS.icmpYes X23.here hx rfl (pc0 := 176) (pc' := 181) rfl (hb hby at_176) rfl (teq (by decide : ((1 : Int32) = (1 : Int32)))).1 (by decide) (by decide) kt) ?_
      show Go p e below _ m T23 181 #[iv p0, iv p1, iv p2, iv p3, iv p4, iv p5, iv (0 : Int32), iv (1 : Int32), rv b14, rv b15, rv b17, rv b22, rv b23, .unset] []
      refine go (fun t kt => XS.iconst X23.here hx rfl (hb hby at_181) kt) ?_
      show Go p e below _ m T23 182 #[iv p0, iv p1, iv p2, iv p3, iv p4, iv p5, iv (0 : Int32), iv (1 : Int32), rv b14, rv b15, rv b17, rv b22, rv b23, .unset] [(.int (1 : Int32))]
      refine go (fun t kt => XS.istore X23.here hx rfl (hb hby at_182) rfl (l' := #[iv p0, iv p1, iv p2, iv p3, iv p4, iv p5, iv (0 : Int32), iv (1 : Int32), rv b14, rv b15, rv b17, rv b22, rv b23, iv (1 : Int32)]) rfl kt) ?_
      show Go p e below _ m T23 184 #[iv p0, iv p1, iv p2, iv p3, iv p4, iv p5, iv (0 : Int32), iv (1 : Int32), rv b14, rv b15, rv b17, rv b22, rv b23, iv (1 : Int32)] []
      refine go (fun t kt => XS.iload X23.here hx rfl (hb hby at_184) rfl kt) ?_
      show Go p e below _ m T23 186 #[iv p0, iv p1, iv p2, iv p3, iv p4, iv p5, iv (0 : Int32), iv (1 : Int32), rv b14, rv b15, rv b17, rv b22, rv b23, iv (1 : Int32)] [(.int (0 : Int32))]
      refine go (fun t kt => XS.ifYes X23.here hx rfl (pc0 := 186) (pc' := 209) rfl (hb hby at_186) rfl ((if0 _ _).trans (flt (by decide : ¬ ((0 : Int32) < (0 : Int32)))).2.2.2) (by decide) (by decide) kt) ?_
      show Go p e below _ m T23 209 #[iv p0, iv p1, iv p2, iv p3, iv p4, iv p5, iv (0 : Int32), iv (1 : Int32), rv b14, rv b15, rv b17, rv b22, rv b23, iv (1 : Int32)] []
      refine go (fun t kt => XS.iload X23.here hx rfl (hb hby at_209) rfl kt) ?_
      show Go p e below _ m T23 211 #[iv p0, iv p1, iv p2, iv p3, iv p4, iv p5, iv (0 : Int32), iv (1 : Int32), rv b14, rv b15, rv b17, rv b22, rv b23, iv (1 : Int32)] [(.int (0 : Int32))]
      refine go (fun t kt => XS.iconst X23.here hx rfl (hb hby at_211) kt) ?_
      show Go p e below _ m T23 212 #[iv p0, iv p1, iv p2, iv p3, iv p4, iv p5, iv (0 : Int32), iv (1 : Int32), rv b14, rv b15, rv b17, rv b22, rv b23, iv (1 : Int32)] [(.int (1 : Int32)), (.int (0 : Int32))]
      refine go (fun t kt => XS.icmpYes X23.here hx rfl (pc0 := 212) (pc' := 235) rfl (hb hby at_212) rfl (flt (by decide : ¬ ((1 : Int32) < (0 : Int32)))).2.2.2 (by decide) (by decide) kt) ?_
      show Go p e below _ m T23 235 #[iv p0, iv p1, iv p2, iv p3, iv p4, iv p5, iv (0 : Int32), iv (1 : Int32), rv b14, rv b15, rv b17, rv b22, rv b23, iv (1 : Int32)] []
      refine go (fun t kt => XS.iload X23.here hx rfl (hb hby at_235) rfl kt) ?_
      show Go p e below _ m T23 237 #[iv p0, iv p1, iv p2, iv p3, iv p4, iv p5, iv (0 : Int32), iv (1 : Int32), rv b14, rv b15, rv b17, rv b22, rv b23, iv (1 : Int32)] [(.int (1 : Int32))]
      refine go (fun t kt => XS.ifNo X23.here hx rfl (hb hby at_237) rfl ((if0 _ _).trans (tlt (by decide : ((0 : Int32) < (1 : Int32)))).2.2.2) kt) ?_
      show Go p e below _ m T23 240 #[iv p0, iv p1, iv p2, iv p3, iv p4, iv p5, iv (0 : Int32), iv (1 : Int32), rv b14, rv b15, rv b17, rv b22, rv b23, iv (1 : Int32)] []
      refine go (fun t kt => XS.iload X23.here hx rfl (hb hby at_240) rfl kt) ?_
      show Go p e below _ m T23 242 #[iv p0, iv p1, iv p2, iv p3, iv p4, iv p5, iv (0 : Int32), iv (1 : Int32), rv b14, rv b15, rv b17, rv b22, rv b23, iv (1 : Int32)] [(.int (1 : Int32))]
      refine go (fun t kt => XS.ifNo X23.here hx rfl (hb hby at_242) rfl ((if0 _ _).trans (feq (by decide : ¬ ((1 : Int32) = (0 : Int32)))).1) kt) ?_
      show Go p e below _ m T23 245 #[iv p0, iv p1, iv p2, iv p3, iv p4, iv p5, iv (0 : Int32), iv (1 : Int32), rv b14, rv b15, rv b17, rv b22, rv b23, iv (1 : Int32)] []
      refine go (fun t kt => XS.aload X23.here hx rfl (hb hby at_245) rfl rfl kt) ?_
      show Go p e below _ m T23 247 #[iv p0, iv p1, iv p2, iv p3, iv p4, iv p5, iv (0 : Int32), iv (1 : Int32), rv b14, rv b15, rv b17, rv b22, rv b23, iv (1 : Int32)] [(.ref b23)]
      refine go (fun t kt => XS.iconst X23.here hx rfl (hb hby at_247) kt) ?_
      show Go p e below _ m T23 248 #[iv p0, iv p1, iv p2, iv p3, iv p4, iv p5, iv (0 : Int32), iv (1 : Int32), rv b14, rv b15, rv b17, rv b22, rv b23, iv (1 : Int32)] [(.int (0 : Int32)), (.ref b23)]
      obtain ⟨cl26, Ar26, q26, S26, M26, H26, G26⟩ := id V_b23
      have hin26 : ¬ ((0 : Int32) < 0 ∨ cl26.slots.size ≤ ((0 : Int32)).toNatClampNeg) := inb_of S26 ⟨by decide, by decide⟩
      have hat26 : cl26.slots[((0 : Int32)).toNatClampNeg]? = some (.int p1) := H26.at hin26 rfl
      refine go (X23.iaload hx (j := (0 : Int32)) (v := (.int p1)) Ar26.1 (State.isArrayOf_alike hZ.alike Ar26.2.1) Ar26.2.2 hin26 hat26 (g := (mkF m 248 #[iv p0, iv p1, iv p2, iv p3, iv p4, iv p5, iv (0 : Int32), iv (1 : Int32), rv b14, rv b15, rv b17, rv b22, rv b23, iv (1 : Int32)] [(.int (0 : Int32)), (.ref b23)])) rfl rfl (hb hby at_248)) ?_
      show Go p e below _ m T23 249 #[iv p0, iv p1, iv p2, iv p3, iv p4, iv p5, iv (0 : Int32), iv (1 : Int32), rv b14, rv b15, rv b17, rv b22, rv b23, iv (1 : Int32)] [(.int p1)]
      refine go (fun t kt => XS.iloadN X23.here hx rfl (hb hby at_249) rfl kt) ?_
      show Go p e below _ m T23 250 #[iv p0, iv p1, iv p2, iv p3, iv p4, iv p5, iv (0 : Int32), iv (1 : Int32), rv b14, rv b15, rv b17, rv b22, rv b23, iv (1 : Int32)] [(.int p1), (.int p1)]
      refine go (fun t kt => XS.icmpNo X23.here hx rfl (hb hby at_250) rfl (teq (rfl : p1 = p1)).2 kt) ?_
      show Go p e below _ m T23 253 #[iv p0, iv p1, iv p2, iv p3, iv p4, iv p5, iv (0 : Int32), iv (1 : Int32), rv b14, rv b15, rv b17, rv b22, rv b23, iv (1 : Int32)] []
      refine go (fun t kt => XS.iconst X23.here hx rfl (hb hby at_253) kt) ?_
      show Go p e below _ m T23 254 #[iv p0, iv p1, iv p2, iv p3, iv p4, iv p5, iv (0 : Int32), iv (1 : Int32), rv b14, rv b15, rv b17, rv b22, rv b23, iv (1 : Int32)] [(.int (1 : Int32))]
      refine go (fun t kt => XS.goto X23.here hx rfl (pc0 := 254) (pc' := 258) rfl (hb hby at_254) (by decide) (by decide) kt) ?_
      show Go p e below _ m T23 258 #[iv p0, iv p1, iv p2, iv p3, iv p4, iv p5, iv (0 : Int32), iv (1 : Int32), rv b14, rv b15, rv b17, rv b22, rv b23, iv (1 : Int32)] [(.int (1 : Int32))]
      refine go (fun t kt => XS.istore X23.here hx rfl (hb hby at_258) rfl (l' := #[iv p0, iv p1, iv p2, iv p3, iv p4, iv p5, iv (0 : Int32), iv (1 : Int32), rv b14, rv b15, rv b17, rv b22, rv b23, iv (1 : Int32)]) rfl kt) ?_
      show Go p e below _ m T23 260 #[iv p0, iv p1, iv p2, iv p3, iv p4, iv p5, iv (0 : Int32), iv (1 : Int32), rv b14, rv b15, rv b17, rv b22, rv b23, iv (1 : Int32)] []
      refine go (fun t kt => XS.iload X23.here hx rfl (hb hby at_260) rfl kt) ?_
      show Go p e below _ m T23 262 #[iv p0, iv p1, iv p2, iv p3, iv p4, iv p5, iv (0 : Int32), iv (1 : Int32), rv b14, rv b15, rv b17, rv b22, rv b23, iv (1 : Int32)] [(.int (1 : Int32))]
      refine go (fun t kt => XS.iconst X23.here hx rfl (hb hby at_262) kt) ?_
      show Go p e below _ m T23 263 #[iv p0, iv p1, iv p2, iv p3, iv p4, iv p5, iv (0 : Int32), iv (1 : Int32), rv b14, rv b15, rv b17, rv b22, rv b23, iv (1 : Int32)] [(.int (1 : Int32)), (.int (1 : Int32))]
      refine go (fun t kt => XS.icmpYes X23.here hx rfl (pc0 := 263) (pc' := 286) rfl (hb hby at_263) rfl (flt (by decide : ¬ ((1 : Int32) < (1 : Int32)))).2.2.2 (by decide) (by decide) kt) ?_
      show Go p e below _ m T23 286 #[iv p0, iv p1, iv p2, iv p3, iv p4, iv p5, iv (0 : Int32), iv (1 : Int32), rv b14, rv b15, rv b17, rv b22, rv b23, iv (1 : Int32)] []
      refine go (fun t kt => XS.iload X23.here hx rfl (hb hby at_286) rfl kt) ?_
      show Go p e below _ m T23 288 #[iv p0, iv p1, iv p2, iv p3, iv p4, iv p5, iv (0 : Int32), iv (1 : Int32), rv b14, rv b15, rv b17, rv b22, rv b23, iv (1 : Int32)] [(.int (0 : Int32))]
      refine go (fun t kt => XS.ifYes X23.here hx rfl (pc0 := 288) (pc' := 336) rfl (hb hby at_288) rfl ((if0 _ _).trans (flt (by decide : ¬ ((0 : Int32) < (0 : Int32)))).2.2.2) (by decide) (by decide) kt) ?_
      show Go p e below _ m T23 336 #[iv p0, iv p1, iv p2, iv p3, iv p4, iv p5, iv (0 : Int32), iv (1 : Int32), rv b14, rv b15, rv b17, rv b22, rv b23, iv (1 : Int32)] []
      refine go (fun t kt => XS.iload X23.here hx rfl (hb hby at_336) rfl kt) ?_
      show Go p e below _ m T23 338 #[iv p0, iv p1, iv p2, iv p3, iv p4, iv p5, iv (0 : Int32), iv (1 : Int32), rv b14, rv b15, rv b17, rv b22, rv b23, iv (1 : Int32)] [(.int (0 : Int32))]
      refine go (fun t kt => XS.iconst X23.here hx rfl (hb hby at_338) kt) ?_
      show Go p e below _ m T23 339 #[iv p0, iv p1, iv p2, iv p3, iv p4, iv p5, iv (0 : Int32), iv (1 : Int32), rv b14, rv b15, rv b17, rv b22, rv b23, iv (1 : Int32)] [(.int (1 : Int32)), (.int (0 : Int32))]
      refine go (fun t kt => XS.icmpYes X23.here hx rfl (pc0 := 339) (pc' := 388) rfl (hb hby at_339) rfl (flt (by decide : ¬ ((1 : Int32) < (0 : Int32)))).2.2.2 (by decide) (by decide) kt) ?_
      show Go p e below _ m T23 388 #[iv p0, iv p1, iv p2, iv p3, iv p4, iv p5, iv (0 : Int32), iv (1 : Int32), rv b14, rv b15, rv b17, rv b22, rv b23, iv (1 : Int32)] []
      refine go (fun t kt => XS.iload X23.here hx rfl (hb hby at_388) rfl kt) ?_
      show Go p e below _ m T23 390 #[iv p0, iv p1, iv p2, iv p3, iv p4, iv p5, iv (0 : Int32), iv (1 : Int32), rv b14, rv b15, rv b17, rv b22, rv b23, iv (1 : Int32)] [(.int (1 : Int32))]
      obtain ⟨fs, hr, hrun, hended, hW, hsame⟩ := X23.leave (v := some (.int (1 : Int32))) (fun h => by rw [Bd.returns] at h; cases h)
      refine ⟨_, _, retN X23 hx (t := .boolean) Bd.returns (by simp) (hb hby at_390) hr, hrun, hended, _, _, rfl, ?_, ⟨_, rfl⟩, hW, hsame.mono (by decide) (by decide)⟩
      show Q0 Z p0 p1 p2 p3 p4 p5 sd h0 n0 _ T23.heap _
      exact ⟨rfl, N23⟩
    ·
      rw [hj2]
      show Go p e below _ m s₁ 18 #[iv p0, iv p1, iv p2, iv p3, iv p4, iv p5, iv (0 : Int32), iv (2 : Int32), .unset, .unset, .unset, .unset, .unset, .unset] []
      refine go (fun t kt => XS.iload X0.here hx rfl (hb hby at_18) rfl kt) ?_
      show Go p e below _ m s₁ 20 #[iv p0, iv p1, iv p2, iv p3, iv p4, iv p5, iv (0 : Int32), iv (2 : Int32), .unset, .unset, .unset, .unset, .unset, .unset] [(.int (0 : Int32))]
      obtain ⟨T28, h28, k28, X28, e28, E28, A28, B28, st28⟩ := newPE X0 hx hZ (hw _ (List.mem_of_getElem? (i := 0) rfl)) e0 (g := (mkF m 20 #[iv p0, iv p1, iv p2, iv p3, iv p4, iv p5, iv (0 : Int32), iv (2 : Int32), .unset, .unset, .unset, .unset, .unset, .unset] [(.int (0 : Int32))])) rfl (hb hby at_20) rfl (by decide) (cap := 0) (by decide) (by decide) (by decide) (by decide) (ad := "[I") rfl
      obtain ⟨b28, g28⟩ : ∃ z, z = h0.size := ⟨_, rfl⟩
      rw [← g28] at A28 B28 st28
      have g_b28 : n0 ≤ b28 := Nat.le_trans Z0 (Nat.le_of_eq g28.symm)
      have sz_b28 : h0.size ≤ b28 := Nat.le_trans K0.1 (Nat.le_of_eq g28.symm)
      replace S_DEFAULTCAPACITY_EMPTY_ELEMENTDATA := S_DEFAULTCAPACITY_EMPTY_ELEMENTDATA.ext E28
      have Zz28 := Nat.le_trans Z0 E28.1
      have Kk28 := K0.ext E28
      have E_b28 := B28
      have V_b28 : Arv Z h28 b28 k28 .int (0 : Int32) [] (.int (0 : Int32)) := (Arv.new A28 (by decide))
      refine go st28 ?_
      show Go p e below _ m T28 22 #[iv p0, iv p1, iv p2, iv p3, iv p4, iv p5, iv (0 : Int32), iv (2 : Int32), .unset, .unset, .unset, .unset, .unset, .unset] [(.ref b28)]
      refine go (fun t kt => XS.astore X28.here hx rfl (hb hby at_22) rfl rfl (l' := #[iv p0, iv p1, iv p2, iv p3, iv p4, iv p5, iv (0 : Int32), iv (2 : Int32), rv b28, .unset, .unset, .unset, .unset, .unset]) rfl kt) ?_
      show Go p e below _ m T28 24 #[iv p0, iv p1, iv p2, iv p3, iv p4, iv p5, iv (0 : Int32), iv (2 : Int32), rv b28, .unset, .unset, .unset, .unset, .unset] []
      refine go (fun t kt => XS.iload X28.here hx rfl (hb hby at_24) rfl kt) ?_
      show Go p e below _ m T28 26 #[iv p0, iv p1, iv p2, iv p3, iv p4, iv p5, iv (0 : Int32), iv (2 : Int32), rv b28, .unset, .unset, .unset, .unset, .unset] [(.int (2 : Int32))]
      obtain ⟨T29, h29, k29, X29, e29, E29, A29, B29, st29⟩ := newPE X28 hx hZ (hw _ (List.mem_of_getElem? (i := 0) rfl)) e28 (g := (mkF m 26 #[iv p0, iv p1, iv p2, iv p3, iv p4, iv p5, iv (0 : Int32), iv (2 : Int32), rv b28, .unset, .unset, .unset, .unset, .unset] [(.int (2 : Int32))])) rfl (hb hby at_26) rfl (by decide) (cap := 2) (by decide) (by decide) (by decide) (by decide) (ad := "[I") rfl
      obtain ⟨b29, g29⟩ : ∃ z, z = h28.size := ⟨_, rfl⟩
      rw [← g29] at A29 B29 st29
      have ne_b28_b29 : b28 ≠ b29 := Nat.ne_of_lt (Nat.lt_of_lt_of_le E_b28.lt (Nat.le_of_eq g29.symm))
      have g_b29 : n0 ≤ b29 := Nat.le_trans Zz28 (Nat.le_of_eq g29.symm)
      have sz_b29 : h0.size ≤ b29 := Nat.le_trans Kk28.1 (Nat.le_of_eq g29.symm)
      replace S_DEFAULTCAPACITY_EMPTY_ELEMENTDATA := S_DEFAULTCAPACITY_EMPTY_ELEMENTDATA.ext E29
      replace E_b28 := E_b28.ext E29
      replace V_b28 := V_b28.ext E29
      have Zz29 := Nat.le_trans Zz28 E29.1
      have Kk29 := Kk28.ext E29
      have E_b29 := B29
      have V_b29 : Arv Z h29 b29 k29 .int (2 : Int32) [(.int (0 : Int32)), (.int (0 : Int32))] (.int (0 : Int32)) := (Arv.new A29 (by decide)).pad (pad_rep [] (.int (0 : Int32)) 2)
      refine go st29 ?_
      show Go p e below _ m T29 28 #[iv p0, iv p1, iv p2, iv p3, iv p4, iv p5, iv (0 : Int32), iv (2 : Int32), rv b28, .unset, .unset, .unset, .unset, .unset] [(.ref b29)]
      refine go (fun t kt => XS.astore X29.here hx rfl (hb hby at_28) rfl rfl (l' := #[iv p0, iv p1, iv p2, iv p3, iv p4, iv p5, iv (0 : Int32), iv (2 : Int32), rv b28, rv b29, .unset, .unset, .unset, .unset]) rfl kt) ?_
      show Go p e below _ m T29 30 #[iv p0, iv p1, iv p2, iv p3, iv p4, iv p5, iv (0 : Int32), iv (2 : Int32), rv b28, rv b29, .unset, .unset, .unset, .unset] []
      refine go (fun t kt => XS.iload X29.here hx rfl (hb hby at_30) rfl kt) ?_
      show Go p e below _ m T29 32 #[iv p0, iv p1, iv p2, iv p3, iv p4, iv p5, iv (0 : Int32), iv (2 : Int32), rv b28, rv b29, .unset, .unset, .unset, .unset] [(.int (0 : Int32))]
      refine go (fun t kt => XS.ifYes X29.here hx rfl (pc0 := 32) (pc' := 40) rfl (hb hby at_32) rfl ((if0 _ _).trans (flt (by decide : ¬ ((0 : Int32) < (0 : Int32)))).2.2.2) (by decide) (by decide) kt) ?_
      show Go p e below _ m T29 40 #[iv p0, iv p1, iv p2, iv p3, iv p4, iv p5, iv (0 : Int32), iv (2 : Int32), rv b28, rv b29, .unset, .unset, .unset, .unset] []
      refine go (fun t kt => XS.iload X29.here hx rfl (hb hby at_40) rfl kt) ?_
      show Go p e below _ m T29 42 #[iv p0, iv p1, iv p2, iv p3, iv p4, iv p5, iv (0 : Int32), iv (2 : Int32), rv b28, rv b29, .unset, .unset, .unset, .unset] [(.int (0 : Int32))]
      refine go (fun t kt => XS.iconst X29.here hx rfl (hb hby at_42) kt) ?_
      show Go p e below _ m T29 43 #[iv p0, iv p1, iv p2, iv p3, iv p4, iv p5, iv (0 : Int32), iv (2 : Int32), rv b28, rv b29, .unset, .unset, .unset, .unset] [(.int (1 : Int32)), (.int (0 : Int32))]
      refine go (fun t kt => XS.icmpYes X29.here hx rfl (pc0 := 43) (pc' := 51) rfl (hb hby at_43) rfl (flt (by decide : ¬ ((1 : Int32) < (0 : Int32)))).2.2.2 (by decide) (by decide) kt) ?_
      show Go p e below _ m T29 51 #[iv p0, iv p1, iv p2, iv p3, iv p4, iv p5, iv (0 : Int32), iv (2 : Int32), rv b28, rv b29, .unset, .unset, .unset, .unset] []
      refine go (fun t kt => XS.iload X29.here hx rfl (hb hby at_51) rfl kt) ?_
      show Go p e below _ m T29 53 #[iv p0, iv p1, iv p2, iv p3, iv p4, iv p5, iv (0 : Int32), iv (2 : Int32), rv b28, rv b29, .unset, .unset, .unset, .unset] [(.int (2 : Int32))]
      refine go (fun t kt => XS.ifNo X29.here hx rfl (hb hby at_53) rfl ((if0 _ _).trans (tlt (by decide : ((0 : Int32) < (2 : Int32)))).2.2.2) kt) ?_
      show Go p e below _ m T29 56 #[iv p0, iv p1, iv p2, iv p3, iv p4, iv p5, iv (0 : Int32), iv (2 : Int32), rv b28, rv b29, .unset, .unset, .unset, .unset] []
      refine go (fun t kt => XS.aload X29.here hx rfl (hb hby at_56) rfl rfl kt) ?_
      show Go p e below _ m T29 58 #[iv p0, iv p1, iv p2, iv p3, iv p4, iv p5, iv (0 : Int32), iv (2 : Int32), rv b28, rv b29, .unset, .unset, .unset, .unset] [(.ref b29)]
      refine go (fun t kt => XS.iconst X29.here hx rfl (hb hby at_58) kt) ?_
      show Go p e below _ m T29 59 #[iv p0, iv p1, iv p2, iv p3, iv p4, iv p5, iv (0 : Int32), iv (2 : Int32), rv b28, rv b29, .unset, .unset, .unset, .unset] [(.int (0 : Int32)), (.ref b29)]
      refine go (fun t kt => XS.iloadN X29.here hx rfl (hb hby at_59) rfl kt) ?_
      show Go p e below _ m T29 60 #[iv p0, iv p1, iv p2, iv p3, iv p4, iv p5, iv (0 : Int32), iv (2 : Int32), rv b28, rv b29, .unset, .unset, .unset, .unset] [(.int p1), (.int (0 : Int32)), (.ref b29)]
      obtain ⟨cl30, Ar30, q30, S30, M30, H30, G30⟩ := V_b29
      have hin30 : ¬ ((0 : Int32) < 0 ∨ cl30.slots.size ≤ ((0 : Int32)).toNatClampNeg) := inb_of S30 ⟨by decide, by decide⟩
      obtain ⟨T30, h30, X30, e30, W30, st30⟩ := stI X29 hx hZ e29 Ar30 (j := (0 : Int32)) hin30 (g := (mkF m 60 #[iv p0, iv p1, iv p2, iv p3, iv p4, iv p5, iv (0 : Int32), iv (2 : Int32), rv b28, rv b29, .unset, .unset, .unset, .unset] [(.int p1), (.int (0 : Int32)), (.ref b29)])) rfl rfl (hb hby at_60)
      have V_b29 : Arv Z h30 b29 k29 .int (2 : Int32) [(.int p1), (.int (0 : Int32))] (.int (0 : Int32)) := Arv.set Ar30 q30 S30 M30 H30 G30 rfl W30 0 rfl (Nat.le_of_ble_eq_true rfl)
      replace S_DEFAULTCAPACITY_EMPTY_ELEMENTDATA := S_DEFAULTCAPACITY_EMPTY_ELEMENTDATA.wr W30
      replace E_b28 := E_b28.wr W30
      replace V_b28 := V_b28.other W30 ne_b28_b29
      replace E_b29 := E_b29.wr W30
      have Zz30 := Nat.le_trans Zz29 (Keep.of_wr W30).1
      have Kk30 := Kk29.wr W30 (Or.inr sz_b29)
      have N30 := Fr.snoc X30 N0 g_b29
      refine go st30 ?_
      show Go p e below _ m T30 61 #[iv p0, iv p1, iv p2, iv p3, iv p4, iv p5, iv (0 : Int32), iv (2 : Int32), rv b28, rv b29, .unset, .unset, .unset, .unset] []
      refine go (fun t kt => XS.iload X30.here hx rfl (hb hby at_61) rfl kt) ?_
      show Go p e below _ m T30 63 #[iv p0, iv p1, iv p2, iv p3, iv p4, iv p5, iv (0 : Int32), iv (2 : Int32), rv b28, rv b29, .unset, .unset, .unset, .unset] [(.int (2 : Int32))]
      refine go (fun t kt => XS.iconst X30.here hx rfl (hb hby at_63) kt) ?_
      show Go p e below _ m T30 64 #[iv p0, iv p1, iv p2, iv p3, iv p4, iv p5, iv (0 : Int32), iv (2 : Int32), rv b28, rv b29, .unset, .unset, .unset, .unset] [(.int (1 : Int32)), (.int (2 : Int32))]
      refine go (fun t kt => XS.icmpNo X30.here hx rfl (hb hby at_64) rfl (tlt (by decide : ((1 : Int32) < (2 : Int32)))).2.2.2 kt) ?_
      show Go p e below _ m T30 67 #[iv p0, iv p1, iv p2, iv p3, iv p4, iv p5, iv (0 : Int32), iv (2 : Int32), rv b28, rv b29, .unset, .unset, .unset, .unset] []
      refine go (fun t kt => XS.aload X30.here hx rfl (hb hby at_67) rfl rfl kt) ?_
      show Go p e below _ m T30 69 #[iv p0, iv p1, iv p2, iv p3, iv p4, iv p5, iv (0 : Int32), iv (2 : Int32), rv b28, rv b29, .unset, .unset, .unset, .unset] [(.ref b29)]
      refine go (fun t kt => XS.iconst X30.here hx rfl (hb hby at_69) kt) ?_
      show Go p e below _ m T30 70 #[iv p0, iv p1, iv p2, iv p3, iv p4, iv p5, iv (0 : Int32), iv (2 : Int32), rv b28, rv b29, .unset, .unset, .unset, .unset] [(.int (1 : Int32)), (.ref b29)]
      refine go (fun t kt => XS.iloadN X30.here hx rfl (hb hby at_70) rfl kt) ?_
      show Go p e below _ m T30 71 #[iv p0, iv p1, iv p2, iv p3, iv p4, iv p5, iv (0 : Int32), iv (2 : Int32), rv b28, rv b29, .unset, .unset, .unset, .unset] [(.int p3), (.int (1 : Int32)), (.ref b29)]
      obtain ⟨cl31, Ar31, q31, S31, M31, H31, G31⟩ := V_b29
      have hin31 : ¬ ((1 : Int32) < 0 ∨ cl31.slots.size ≤ ((1 : Int32)).toNatClampNeg) := inb_of S31 ⟨by decide, by decide⟩
      obtain ⟨T31, h31, X31, e31, W31, st31⟩ := stI X30 hx hZ e30 Ar31 (j := (1 : Int32)) hin31 (g := (mkF m 71 #[iv p0, iv p1, iv p2, iv p3, iv p4, iv p5, iv (0 : Int32), iv (2 : Int32), rv b28, rv b29, .unset, .unset, .unset, .unset] [(.int p3), (.int (1 : Int32)), (.ref b29)])) rfl rfl (hb hby at_71)
      have V_b29 : Arv Z h31 b29 k29 .int (2 : Int32) [(.int p1), (.int p3)] (.int (0 : Int32)) := Arv.set Ar31 q31 S31 M31 H31 G31 rfl W31 1 rfl (Nat.le_of_ble_eq_true rfl)
      replace S_DEFAULTCAPACITY_EMPTY_ELEMENTDATA := S_DEFAULTCAPACITY_EMPTY_ELEMENTDATA.wr W31
      replace E_b28 := E_b28.wr W31
      replace V_b28 := V_b28.other W31 ne_b28_b29
      replace E_b29 := E_b29.wr W31
      have Zz31 := Nat.le_trans Zz30 (Keep.of_wr W31).1
      have Kk31 := Kk30.wr W31 (Or.inr sz_b29)
      have N31 := Fr.snoc X31 N30 g_b29
      refine go st31 ?_
      show Go p e below _ m T31 72 #[iv p0, iv p1, iv p2, iv p3, iv p4, iv p5, iv (0 : Int32), iv (2 : Int32), rv b28, rv b29, .unset, .unset, .unset, .unset] []
      obtain ⟨T32, h32, X32, e32, E32, A32, D32, -, st32⟩ := newO X31 hx hZ hown (hw _ (List.mem_of_getElem? (i := 1) rfl)) (hw _ (List.mem_of_getElem? (i := 2) rfl)) (hw _ (List.mem_of_getElem? (i := 3) rfl)) e31 (g := (mkF m 72 #[iv p0, iv p1, iv p2, iv p3, iv p4, iv p5, iv (0 : Int32), iv (2 : Int32), rv b28, rv b29, .unset, .unset, .unset, .unset] [])) rfl (hb hby at_72) (by decide) (by decide)
      obtain ⟨b32, g32⟩ : ∃ z, z = h31.size := ⟨_, rfl⟩
      rw [← g32] at A32 D32 st32
      have ne_b28_b32 : b28 ≠ b32 := Nat.ne_of_lt (Nat.lt_of_lt_of_le E_b28.lt (Nat.le_of_eq g32.symm))
      have ne_b29_b32 : b29 ≠ b32 := Nat.ne_of_lt (Nat.lt_of_lt_of_le E_b29.lt (Nat.le_of_eq g32.symm))
      have g_b32 : n0 ≤ b32 := Nat.le_trans Zz31 (Nat.le_of_eq g32.symm)
      have sz_b32 : h0.size ≤ b32 := Nat.le_trans Kk31.1 (Nat.le_of_eq g32.symm)
      replace S_DEFAULTCAPACITY_EMPTY_ELEMENTDATA := S_DEFAULTCAPACITY_EMPTY_ELEMENTDATA.ext E32
      replace E_b28 := E_b28.ext E32
      replace V_b28 := V_b28.ext E32
      replace E_b29 := E_b29.ext E32
      replace V_b29 := V_b29.ext E32
      have Zz32 := Nat.le_trans Zz31 E32.1
      have Kk32 := Kk31.ext E32
      have E_b32 := A32
      have F_names_b32 : Fld Z h32 b32 "com/example/anytime_arena/anytimearena/io/VariableTable" "names" "Ljava/util/List;" .null := D32 (Or.inr (hw _ (List.mem_of_getElem? (i := 35) rfl))) (ty := (.object "java/util/List")) (by decide)
      have F_types_b32 : Fld Z h32 b32 "com/example/anytime_arena/anytimearena/io/VariableTable" "types" "Ljava/util/List;" .null := D32 (Or.inr (hw _ (List.mem_of_getElem? (i := 37) rfl))) (ty := (.object "java/util/List")) (by decide)
      have F_owners_b32 : Fld Z h32 b32 "com/example/anytime_arena/anytimearena/io/VariableTable" "owners" "Ljava/util/List;" .null := D32 (Or.inr (hw _ (List.mem_of_getElem? (i := 39) rfl))) (ty := (.object "java/util/List")) (by decide)
      have F_slots_b32 : Fld Z h32 b32 "com/example/anytime_arena/anytimearena/io/VariableTable" "slots" "Ljava/util/Map;" .null := D32 (Or.inr (hw _ (List.mem_of_getElem? (i := 57) rfl))) (ty := (.object "java/util/Map")) (by decide)
      have F_low_b32 : Fld Z h32 b32 "com/example/anytime_arena/anytimearena/io/VariableTable" "low" "[I" .null := D32 (Or.inl (hw _ (List.mem_of_getElem? (i := 59) rfl))) (ty := (.array .int)) (by decide)
      have F_high_b32 : Fld Z h32 b32 "com/example/anytime_arena/anytimearena/io/VariableTable" "high" "[I" .null := D32 (Or.inl (hw _ (List.mem_of_getElem? (i := 61) rfl))) (ty := (.array .int)) (by decide)
      refine go st32 ?_
      show Go p e below _ m T32 75 #[iv p0, iv p1, iv p2, iv p3, iv p4, iv p5, iv (0 : Int32), iv (2 : Int32), rv b28, rv b29, .unset, .unset, .unset, .unset] [(.ref b32)]
      refine go (fun t kt => XS.dup X32.here hx rfl (hb hby at_75) rfl rfl kt) ?_
      show Go p e below _ m T32 76 #[iv p0, iv p1, iv p2, iv p3, iv p4, iv p5, iv (0 : Int32), iv (2 : Int32), rv b28, rv b29, .unset, .unset, .unset, .unset] [(.ref b32), (.ref b32)]
      obtain ⟨_, _, ⟨T33, L33, k33, n33⟩, -, X33, ⟨Lc33, hQ33, l33, y33, z33⟩, st33⟩ := X32.specialBack hx (y := (⟨"com/example/anytime_arena/anytimearena/io/VariableTable", "<init>", "()V"⟩ : MethodName)) rfl hown (mvT hZ (hw _ (List.mem_of_getElem? (i := 4) rfl))) (mvT hZ (hw _ (List.mem_of_getElem? (i := 5) rfl))) (mvT hZ (hw _ (List.mem_of_getElem? (i := 6) rfl))) (by decide) (backOf (W := 1) (rm1 l Z a0 hw [] b32 .null .null .null .null .null .null sd h32 n0 Zz32 E_b32 F_names_b32 F_types_b32 F_owners_b32 F_slots_b32 F_low_b32 F_high_b32 S_DEFAULTCAPACITY_EMPTY_ELEMENTDATA g_b32) hZ (hw _ (List.mem_of_getElem? (i := 6) rfl)) (hw _ (List.mem_of_getElem? (i := 3) rfl)) (by decide) (by decide)) (g := (mkF m 76 #[iv p0, iv p1, iv p2, iv p3, iv p4, iv p5, iv (0 : Int32), iv (2 : Int32), rv b28, rv b29, .unset, .unset, .unset, .unset] [(.ref b32), (.ref b32)])) rfl (by rw [hml]; rfl) (Steps.refl _) (a := b32) (argsL := []) (rest := [(.ref b32)]) (lenOf pd_0 rfl) rfl (by show 2 * 0 + _ ≤ _; exact Nat.le_of_eq rfl) (hb hby at_76) (fun _ _ => ⟨rfl, e32, (by decide : 3 + 6 ≤ _), (by decide : 8 + 17 ≤ _)⟩)
      dsimp only [Pt.U, Pt.locs, Pt.cells, Pt.slots] at X33 l33 y33 z33 st33 hQ33
      subst l33 y33 z33
      obtain ⟨rfl, Nq33, Kq33, Eq33, ⟨ul33, Fl33⟩, ⟨uh33, Fh33⟩⟩ := hQ33
      replace S_DEFAULTCAPACITY_EMPTY_ELEMENTDATA := own_sta_keep S_DEFAULTCAPACITY_EMPTY_ELEMENTDATA E_b32 Kq33
      replace E_b28 := E_b28.keep Kq33
      replace V_b28 := V_b28.keep Kq33 (ninS ne_b28_b32 nin0)
      replace E_b29 := E_b29.keep Kq33
      replace V_b29 := V_b29.keep Kq33 (ninS ne_b29_b32 nin0)
      replace E_b32 := E_b32.keep Kq33
      clear F_names_b32
      clear F_types_b32
      clear F_owners_b32
      clear F_slots_b32
      clear F_low_b32
      clear F_high_b32
      have Zz33 := Nat.le_trans Zz32 Kq33.1
      have Kk33 := Kk32.trans Kq33 (allS (Or.inr sz_b32) all0)
      have E_b32 := Eq33
      have F_low_b32 := Fl33
      have F_high_b32 := Fh33
      have N33 := Fr.app N31 Nq33
      refine go (fun t kt => st33.trans kt) ?_
      show Go p e below _ m T33 79 #[iv p0, iv p1, iv p2, iv p3, iv p4, iv p5, iv (0 : Int32), iv (2 : Int32), rv b28, rv b29, .unset, .unset, .unset, .unset] [(.ref b32)]
      refine go (fun t kt => XS.astore X33.here hx rfl (hb hby at_79) rfl rfl (l' := #[iv p0, iv p1, iv p2, iv p3, iv p4, iv p5, iv (0 : Int32), iv (2 : Int32), rv b28, rv b29, rv b32, .unset, .unset, .unset]) rfl kt) ?_
      show Go p e below _ m T33 81 #[iv p0, iv p1, iv p2, iv p3, iv p4, iv p5, iv (0 : Int32), iv (2 : Int32), rv b28, rv b29, rv b32, .unset, .unset, .unset] []
      refine go (fun t kt => XS.aload X33.here hx rfl (hb hby at_81) rfl rfl kt) ?_
      show Go p e below _ m T33 83 #[iv p0, iv p1, iv p2, iv p3, iv p4, iv p5, iv (0 : Int32), iv (2 : Int32), rv b28, rv b29, rv b32, .unset, .unset, .unset] [(.ref b32)]
      refine go (fun t kt => XS.aload X33.here hx rfl (hb hby at_83) rfl rfl kt) ?_
      show Go p e below _ m T33 85 #[iv p0, iv p1, iv p2, iv p3, iv p4, iv p5, iv (0 : Int32), iv (2 : Int32), rv b28, rv b29, rv b32, .unset, .unset, .unset] [(.ref b29), (.ref b32)]
      refine go (fun t kt => XS.aload X33.here hx rfl (hb hby at_85) rfl rfl kt) ?_
      show Go p e below _ m T33 87 #[iv p0, iv p1, iv p2, iv p3, iv p4, iv p5, iv (0 : Int32), iv (2 : Int32), rv b28, rv b29, rv b32, .unset, .unset, .unset] [(.ref b28), (.ref b29), (.ref b32)]
      obtain ⟨cq34, kq34, q34a, q34b, q34c⟩ := isOf hZ rfl E_b32
      obtain ⟨_, _, ⟨T34, L34, k34, n34⟩, -, X34, ⟨Lc34, hQ34, l34, y34, z34⟩, st34⟩ := X33.virtualBack hx (y := (⟨"com/example/anytime_arena/anytimearena/io/VariableTable", "setRanges", "([I[I)V"⟩ : MethodName)) (z := (⟨"com/example/anytime_arena/anytimearena/io/VariableTable", "setRanges", "([I[I)V"⟩ : MethodName)) hown (mvT hZ (hw _ (List.mem_of_getElem? (i := 62) rfl))) (mvT hZ (hw _ (List.mem_of_getElem? (i := 63) rfl))) (notFace_of_selects (args := #[]) (mvT hZ (hw _ (List.mem_of_getElem? (i := 65) rfl)))) (mvT hZ (hw _ (List.mem_of_getElem? (i := 65) rfl))) (mvT hZ (hw _ (List.mem_of_getElem? (i := 64) rfl))) (by decide) (backOf (W := 0) (rm8 l Z a0 hw [] b32 b29 b28 ul33 uh33 k29 (2 : Int32) [(.int p1), (.int p3)] k28 (0 : Int32) [] T33.heap n0 Zz33 E_b32 F_low_b32 F_high_b32 E_b29 V_b29 E_b28 V_b28 (Ne.symm ne_b29_b32) (Ne.symm ne_b28_b32) g_b32 (by decide) (by decide)) hZ (hw _ (List.mem_of_getElem? (i := 66) rfl)) (hw _ (List.mem_of_getElem? (i := 3) rfl)) (by decide) (by decide)) q34a q34c (g := (mkF m 87 #[iv p0, iv p1, iv p2, iv p3, iv p4, iv p5, iv (0 : Int32), iv (2 : Int32), rv b28, rv b29, rv b32, .unset, .unset, .unset] [(.ref b28), (.ref b29), (.ref b32)])) rfl (by rw [hml]; rfl) (Steps.refl _) (argsL := [(.ref b29), (.ref b28)]) (rest := []) (lenOf pd_1 rfl) rfl (by show 2 * 0 + _ ≤ _; exact Nat.le_of_eq rfl) (hb hby at_87) (fun _ _ => ⟨rfl, rfl, (by decide : 9 + 2 ≤ _), (by decide : 25 + 4 ≤ _)⟩)
      dsimp only [Pt.U, Pt.locs, Pt.cells, Pt.slots] at X34 l34 y34 z34 st34 hQ34
      subst l34 y34 z34
      obtain ⟨rfl, Nq34, Kq34, Eq34, c34, d34, lc34, ld34, ne_c34_d34, Fl34, Fh34, Ec34, Vc34, Ed34, Vd34⟩ := hQ34
      have ne_b28_c34 : b28 ≠ c34 := Nat.ne_of_lt (Nat.lt_of_lt_of_le E_b28.lt lc34)
      have ne_b29_c34 : b29 ≠ c34 := Nat.ne_of_lt (Nat.lt_of_lt_of_le E_b29.lt lc34)
      have ne_b32_c34 : b32 ≠ c34 := Nat.ne_of_lt (Nat.lt_of_lt_of_le E_b32.lt lc34)
      have g_c34 : n0 ≤ c34 := Nat.le_trans Zz33 lc34
      have sz_c34 : h0.size ≤ c34 := Nat.le_trans Kk33.1 lc34
      have ne_b28_d34 : b28 ≠ d34 := Nat.ne_of_lt (Nat.lt_of_lt_of_le E_b28.lt ld34)
      have ne_b29_d34 : b29 ≠ d34 := Nat.ne_of_lt (Nat.lt_of_lt_of_le E_b29.lt ld34)
      have ne_b32_d34 : b32 ≠ d34 := Nat.ne_of_lt (Nat.lt_of_lt_of_le E_b32.lt ld34)
      have g_d34 : n0 ≤ d34 := Nat.le_trans Zz33 ld34
      have sz_d34 : h0.size ≤ d34 := Nat.le_trans Kk33.1 ld34
      replace S_DEFAULTCAPACITY_EMPTY_ELEMENTDATA := own_sta_keep S_DEFAULTCAPACITY_EMPTY_ELEMENTDATA E_b32 Kq34
      replace E_b28 := E_b28.keep Kq34
      replace V_b28 := V_b28.keep Kq34 (ninS ne_b28_b32 nin0)
      replace E_b29 := E_b29.keep Kq34
      replace V_b29 := V_b29.keep Kq34 (ninS ne_b29_b32 nin0)
      replace E_b32 := E_b32.keep Kq34
      clear F_low_b32
      clear F_high_b32
      have Zz34 := Nat.le_trans Zz33 Kq34.1
      have Kk34 := Kk33.trans Kq34 (allS (Or.inr sz_b32) all0)
      have E_b32 := Eq34
      have F_low_b32 := Fl34
      have F_high_b32 := Fh34
      have E_c34 := Ec34
      have V_c34 := Vc34
      have E_d34 := Ed34
      have V_d34 := Vd34
      have N34 := Fr.app N33 Nq34
      refine go (fun t kt => st34.trans kt) ?_
      show Go p e below _ m T34 90 #[iv p0, iv p1, iv p2, iv p3, iv p4, iv p5, iv (0 : Int32), iv (2 : Int32), rv b28, rv b29, rv b32, .unset, .unset, .unset] []
      refine go (fun t kt => XS.aload X34.here hx rfl (hb hby at_90) rfl rfl kt) ?_
      show Go p e below _ m T34 92 #[iv p0, iv p1, iv p2, iv p3, iv p4, iv p5, iv (0 : Int32), iv (2 : Int32), rv b28, rv b29, rv b32, .unset, .unset, .unset] [(.ref b32)]
      refine go (fun t kt => XS.aload X34.here hx rfl (hb hby at_92) rfl rfl kt) ?_
      show Go p e below _ m T34 94 #[iv p0, iv p1, iv p2, iv p3, iv p4, iv p5, iv (0 : Int32), iv (2 : Int32), rv b28, rv b29, rv b32, .unset, .unset, .unset] [(.ref b28), (.ref b32)]
      refine go (fun t kt => XS.aload X34.here hx rfl (hb hby at_94) rfl rfl kt) ?_
      show Go p e below _ m T34 96 #[iv p0, iv p1, iv p2, iv p3, iv p4, iv p5, iv (0 : Int32), iv (2 : Int32), rv b28, rv b29, rv b32, .unset, .unset, .unset] [(.ref b29), (.ref b28), (.ref b32)]
      obtain ⟨cq35, kq35, q35a, q35b, q35c⟩ := isOf hZ rfl E_b32
      obtain ⟨_, _, ⟨T35, L35, k35, n35⟩, -, X35, ⟨Lc35, hQ35, l35, y35, z35⟩, st35⟩ := X34.virtualBack hx (y := (⟨"com/example/anytime_arena/anytimearena/io/VariableTable", "setRanges", "([I[I)V"⟩ : MethodName)) (z := (⟨"com/example/anytime_arena/anytimearena/io/VariableTable", "setRanges", "([I[I)V"⟩ : MethodName)) hown (mvT hZ (hw _ (List.mem_of_getElem? (i := 62) rfl))) (mvT hZ (hw _ (List.mem_of_getElem? (i := 63) rfl))) (notFace_of_selects (args := #[]) (mvT hZ (hw _ (List.mem_of_getElem? (i := 65) rfl)))) (mvT hZ (hw _ (List.mem_of_getElem? (i := 65) rfl))) (mvT hZ (hw _ (List.mem_of_getElem? (i := 64) rfl))) (by decide) (backOf (W := 0) (rm8 l Z a0 hw [] b32 b28 b29 (.ref c34) (.ref d34) k28 (0 : Int32) [] k29 (2 : Int32) [(.int p1), (.int p3)] T34.heap n0 Zz34 E_b32 F_low_b32 F_high_b32 E_b28 V_b28 E_b29 V_b29 (Ne.symm ne_b28_b32) (Ne.symm ne_b29_b32) g_b32 (by decide) (by decide)) hZ (hw _ (List.mem_of_getElem? (i := 66) rfl)) (hw _ (List.mem_of_getElem? (i := 3) rfl)) (by decide) (by decide)) q35a q35c (g := (mkF m 96 #[iv p0, iv p1, iv p2, iv p3, iv p4, iv p5, iv (0 : Int32), iv (2 : Int32), rv b28, rv b29, rv b32, .unset, .unset, .unset] [(.ref b29), (.ref b28), (.ref b32)])) rfl (by rw [hml]; rfl) (Steps.refl _) (argsL := [(.ref b28), (.ref b29)]) (rest := []) (lenOf pd_1 rfl) rfl (by show 2 * 0 + _ ≤ _; exact Nat.le_of_eq rfl) (hb hby at_96) (fun _ _ => ⟨rfl, rfl, (by decide : 11 + 2 ≤ _), (by decide : 29 + 4 ≤ _)⟩)
      dsimp only [Pt.U, Pt.locs, Pt.cells, Pt.slots] at X35 l35 y35 z35 st35 hQ35
      subst l35 y35 z35
      obtain ⟨rfl, Nq35, Kq35, Eq35, c35, d35, lc35, ld35, ne_c35_d35, Fl35, Fh35, Ec35, Vc35, Ed35, Vd35⟩ := hQ35
      have ne_b28_c35 : b28 ≠ c35 := Nat.ne_of_lt (Nat.lt_of_lt_of_le E_b28.lt lc35)
      have ne_b29_c35 : b29 ≠ c35 := Nat.ne_of_lt (Nat.lt_of_lt_of_le E_b29.lt lc35)
      have ne_b32_c35 : b32 ≠ c35 := Nat.ne_of_lt (Nat.lt_of_lt_of_le E_b32.lt lc35)
      have ne_c34_c35 : c34 ≠ c35 := Nat.ne_of_lt (Nat.lt_of_lt_of_le E_c34.lt lc35)
      have ne_d34_c35 : d34 ≠ c35 := Nat.ne_of_lt (Nat.lt_of_lt_of_le E_d34.lt lc35)
      have g_c35 : n0 ≤ c35 := Nat.le_trans Zz34 lc35
      have sz_c35 : h0.size ≤ c35 := Nat.le_trans Kk34.1 lc35
      have ne_b28_d35 : b28 ≠ d35 := Nat.ne_of_lt (Nat.lt_of_lt_of_le E_b28.lt ld35)
      have ne_b29_d35 : b29 ≠ d35 := Nat.ne_of_lt (Nat.lt_of_lt_of_le E_b29.lt ld35)
      have ne_b32_d35 : b32 ≠ d35 := Nat.ne_of_lt (Nat.lt_of_lt_of_le E_b32.lt ld35)
      have ne_c34_d35 : c34 ≠ d35 := Nat.ne_of_lt (Nat.lt_of_lt_of_le E_c34.lt ld35)
      have ne_d34_d35 : d34 ≠ d35 := Nat.ne_of_lt (Nat.lt_of_lt_of_le E_d34.lt ld35)
      have g_d35 : n0 ≤ d35 := Nat.le_trans Zz34 ld35
      have sz_d35 : h0.size ≤ d35 := Nat.le_trans Kk34.1 ld35
      replace S_DEFAULTCAPACITY_EMPTY_ELEMENTDATA := own_sta_keep S_DEFAULTCAPACITY_EMPTY_ELEMENTDATA E_b32 Kq35
      replace E_b28 := E_b28.keep Kq35
      replace V_b28 := V_b28.keep Kq35 (ninS ne_b28_b32 nin0)
      replace E_b29 := E_b29.keep Kq35
      replace V_b29 := V_b29.keep Kq35 (ninS ne_b29_b32 nin0)
      replace E_b32 := E_b32.keep Kq35
      clear F_low_b32
      clear F_high_b32
      replace E_c34 := E_c34.keep Kq35
      replace V_c34 := V_c34.keep Kq35 (ninS (Ne.symm ne_b32_c34) nin0)
      replace E_d34 := E_d34.keep Kq35
      replace V_d34 := V_d34.keep Kq35 (ninS (Ne.symm ne_b32_d34) nin0)
      have Zz35 := Nat.le_trans Zz34 Kq35.1
      have Kk35 := Kk34.trans Kq35 (allS (Or.inr sz_b32) all0)
      have E_b32 := Eq35
      have F_low_b32 := Fl35
      have F_high_b32 := Fh35
      have E_c35 := Ec35
      have V_c35 := Vc35
      have E_d35 := Ed35
      have V_d35 := Vd35
      have N35 := Fr.app N34 Nq35
      refine go (fun t kt => st35.trans kt) ?_
      show Go p e below _ m T35 99 #[iv p0, iv p1, iv p2, iv p3, iv p4, iv p5, iv (0 : Int32), iv (2 : Int32), rv b28, rv b29, rv b32, .unset, .unset, .unset] []
      refine go (fun t kt => XS.iload X35.here hx rfl (hb hby at_99) rfl kt) ?_
      show Go p e below _ m T35 101 #[iv p0, iv p1, iv p2, iv p3, iv p4, iv p5, iv (0 : Int32), iv (2 : Int32), rv b28, rv b29, rv b32, .unset, .unset, .unset] [(.int (0 : Int32))]
      refine go (fun t kt => XS.ifYes X35.here hx rfl (pc0 := 101) (pc' := 111) rfl (hb hby at_101) rfl ((if0 _ _).trans (flt (by decide : ¬ ((0 : Int32) < (0 : Int32)))).2.2.2) (by decide) (by decide) kt) ?_
      show Go p e below _ m T35 111 #[iv p0, iv p1, iv p2, iv p3, iv p4, iv p5, iv (0 : Int32), iv (2 : Int32), rv b28, rv b29, rv b32, .unset, .unset, .unset] []
      refine go (fun t kt => XS.iload X35.here hx rfl (hb hby at_111) rfl kt) ?_
      show Go p e below _ m T35 113 #[iv p0, iv p1, iv p2, iv p3, iv p4, iv p5, iv (0 : Int32), iv (2 : Int32), rv b28, rv b29, rv b32, .unset, .unset, .unset] [(.int (0 : Int32))]
      refine go (fun t kt => XS.iconst X35.here hx rfl (hb hby at_113) kt) ?_
      show Go p e below _ m T35 114 #[iv p0, iv p1, iv p2, iv p3, iv p4, iv p5, iv (0 : Int32), iv (2 : Int32), rv b28, rv b29, rv b32, .unset, .unset, .unset] [(.int (1 : Int32)), (.int (0 : Int32))]
      refine go (fun t kt => XS.icmpYes X35.here hx rfl (pc0 := 114) (pc' := 124) rfl (hb hby at_114) rfl (flt (by decide : ¬ ((1 : Int32) < (0 : Int32)))).2.2.2 (by decide) (by decide) kt) ?_
      show Go p e below _ m T35 124 #[iv p0, iv p1, iv p2, iv p3, iv p4, iv p5, iv (0 : Int32), iv (2 : Int32), rv b28, rv b29, rv b32, .unset, .unset, .unset] []
      refine go (fun t kt => XS.iload X35.here hx rfl (hb hby at_124) rfl kt) ?_
      show Go p e below _ m T35 126 #[iv p0, iv p1, iv p2, iv p3, iv p4, iv p5, iv (0 : Int32), iv (2 : Int32), rv b28, rv b29, rv b32, .unset, .unset, .unset] [(.int (2 : Int32))]
      refine go (fun t kt => XS.ifNo X35.here hx rfl (hb hby at_126) rfl ((if0 _ _).trans (tlt (by decide : ((0 : Int32) < (2 : Int32)))).2.2.2) kt) ?_
      show Go p e below _ m T35 129 #[iv p0, iv p1, iv p2, iv p3, iv p4, iv p5, iv (0 : Int32), iv (2 : Int32), rv b28, rv b29, rv b32, .unset, .unset, .unset] []
      refine go (fun t kt => XS.aload X35.here hx rfl (hb hby at_129) rfl rfl kt) ?_
      show Go p e below _ m T35 131 #[iv p0, iv p1, iv p2, iv p3, iv p4, iv p5, iv (0 : Int32), iv (2 : Int32), rv b28, rv b29, rv b32, .unset, .unset, .unset] [(.ref b29)]
      refine go (fun t kt => XS.iconst X35.here hx rfl (hb hby at_131) kt) ?_
      show Go p e below _ m T35 132 #[iv p0, iv p1, iv p2, iv p3, iv p4, iv p5, iv (0 : Int32), iv (2 : Int32), rv b28, rv b29, rv b32, .unset, .unset, .unset] [(.int (0 : Int32)), (.ref b29)]
      refine go (fun t kt => XS.iloadN X35.here hx rfl (hb hby at_132) rfl kt) ?_
      show Go p e below _ m T35 133 #[iv p0, iv p1, iv p2, iv p3, iv p4, iv p5, iv (0 : Int32), iv (2 : Int32), rv b28, rv b29, rv b32, .unset, .unset, .unset] [(.int p1), (.int (0 : Int32)), (.ref b29)]
      refine go (fun t kt => XS.iconst X35.here hx rfl (hb hby at_133) kt) ?_
      show Go p e below _ m T35 134 #[iv p0, iv p1, iv p2, iv p3, iv p4, iv p5, iv (0 : Int32), iv (2 : Int32), rv b28, rv b29, rv b32, .unset, .unset, .unset] [(.int (-1 : Int32)), (.int p1), (.int (0 : Int32)), (.ref b29)]
      refine go (fun t kt => XS.ixor X35.here hx rfl (hb hby at_134) rfl kt) ?_
      show Go p e below _ m T35 135 #[iv p0, iv p1, iv p2, iv p3, iv p4, iv p5, iv (0 : Int32), iv (2 : Int32), rv b28, rv b29, rv b32, .unset, .unset, .unset] [(.int (p1 ^^^ (-1 : Int32))), (.int (0 : Int32)), (.ref b29)]
      obtain ⟨cl36, Ar36, q36, S36, M36, H36, G36⟩ := V_b29
      have hin36 : ¬ ((0 : Int32) < 0 ∨ cl36.slots.size ≤ ((0 : Int32)).toNatClampNeg) := inb_of S36 ⟨by decide, by decide⟩
      obtain ⟨T36, h36, X36, e36, W36, st36⟩ := stI X35 hx hZ rfl Ar36 (j := (0 : Int32)) hin36 (g := (mkF m 135 #[iv p0, iv p1, iv p2, iv p3, iv p4, iv p5, iv (0 : Int32), iv (2 : Int32), rv b28, rv b29, rv b32, .unset, .unset, .unset] [(.int (p1 ^^^ (-1 : Int32))), (.int (0 : Int32)), (.ref b29)])) rfl rfl (hb hby at_135)
      have V_b29 : Arv Z h36 b29 k29 .int (2 : Int32) [(.int (p1 ^^^ (-1 : Int32))), (.int p3)] (.int (0 : Int32)) := Arv.set Ar36 q36 S36 M36 H36 G36 rfl W36 0 rfl (Nat.le_of_ble_eq_true rfl)
      replace S_DEFAULTCAPACITY_EMPTY_ELEMENTDATA := S_DEFAULTCAPACITY_EMPTY_ELEMENTDATA.wr W36
      replace E_b28 := E_b28.wr W36
      replace V_b28 := V_b28.other W36 ne_b28_b29
      replace E_b29 := E_b29.wr W36
      replace E_b32 := E_b32.wr W36
      replace E_c34 := E_c34.wr W36
      replace V_c34 := V_c34.other W36 (Ne.symm ne_b29_c34)
      replace E_d34 := E_d34.wr W36
      replace V_d34 := V_d34.other W36 (Ne.symm ne_b29_d34)
      replace F_low_b32 := F_low_b32.other W36 (Or.inl (Ne.symm ne_b29_b32))
      replace F_high_b32 := F_high_b32.other W36 (Or.inl (Ne.symm ne_b29_b32))
      replace E_c35 := E_c35.wr W36
      replace V_c35 := V_c35.other W36 (Ne.symm ne_b29_c35)
      replace E_d35 := E_d35.wr W36
      replace V_d35 := V_d35.other W36 (Ne.symm ne_b29_d35)
      have Zz36 := Nat.le_trans Zz35 (Keep.of_wr W36).1
      have Kk36 := Kk35.wr W36 (Or.inr sz_b29)
      have N36 := Fr.snoc X36 N35 g_b29
      refine go st36 ?_
      show Go p e below _ m T36 136 #[iv p0, iv p1, iv p2, iv p3, iv p4, iv p5, iv (0 : Int32), iv (2 : Int32), rv b28, rv b29, rv b32, .unset, .unset, .unset] []
      refine go (fun t kt => XS.iload X36.here hx rfl (hb hby at_136) rfl kt) ?_
      show Go p e below _ m T36 138 #[iv p0, iv p1, iv p2, iv p3, iv p4, iv p5, iv (0 : Int32), iv (2 : Int32), rv b28, rv b29, rv b32, .unset, .unset, .unset] [(.int (2 : Int32))]
      refine go (fun t kt => XS.iconst X36.here hx rfl (hb hby at_138) kt) ?_
      show Go p e below _ m T36 139 #[iv p0, iv p1, iv p2, iv p3, iv p4, iv p5, iv (0 : Int32), iv (2 : Int32), rv b28, rv b29, rv b32, .unset, .unset, .unset] [(.int (1 : Int32)), (.int (2 : Int32))]
      refine go (fun t kt => XS.icmpNo X36.here hx rfl (hb hby at_139) rfl (tlt (by decide : ((1 : Int32) < (2 : Int32)))).2.2.2 kt) ?_
      show Go p e below _ m T36 142 #[iv p0, iv p1, iv p2, iv p3, iv p4, iv p5, iv (0 : Int32), iv (2 : Int32), rv b28, rv b29, rv b32, .unset, .unset, .unset] []
      refine go (fun t kt => XS.aload X36.here hx rfl (hb hby at_142) rfl rfl kt) ?_
      show Go p e below _ m T36 144 #[iv p0, iv p1, iv p2, iv p3, iv p4, iv p5, iv (0 : Int32), iv (2 : Int32), rv b28, rv b29, rv b32, .unset, .unset, .unset] [(.ref b29)]
      refine go (fun t kt => XS.iconst X36.here hx rfl (hb hby at_144) kt) ?_
      show Go p e below _ m T36 145 #[iv p0, iv p1, iv p2, iv p3, iv p4, iv p5, iv (0 : Int32), iv (2 : Int32), rv b28, rv b29, rv b32, .unset, .unset, .unset] [(.int (1 : Int32)), (.ref b29)]
      refine go (fun t kt => XS.iloadN X36.here hx rfl (hb hby at_145) rfl kt) ?_
      show Go p e below _ m T36 146 #[iv p0, iv p1, iv p2, iv p3, iv p4, iv p5, iv (0 : Int32), iv (2 : Int32), rv b28, rv b29, rv b32, .unset, .unset, .unset] [(.int p3), (.int (1 : Int32)), (.ref b29)]
      refine go (fun t kt => XS.iconst X36.here hx rfl (hb hby at_146) kt) ?_
      show Go p e below _ m T36 147 #[iv p0, iv p1, iv p2, iv p3, iv p4, iv p5, iv (0 : Int32), iv (2 : Int32), rv b28, rv b29, rv b32, .unset, .unset, .unset] [(.int (-1 : Int32)), (.int p3), (.int (1 : Int32)), (.ref b29)]
      refine go (fun t kt => XS.ixor X36.here hx rfl (hb hby at_147) rfl kt) ?_
      show Go p e below _ m T36 148 #[iv p0, iv p1, iv p2, iv p3, iv p4, iv p5, iv (0 : Int32), iv (2 : Int32), rv b28, rv b29, rv b32, .unset, .unset, .unset] [(.int (p3 ^^^ (-1 : Int32))), (.int (1 : Int32)), (.ref b29)]
      obtain ⟨cl37, Ar37, q37, S37, M37, H37, G37⟩ := V_b29
      have hin37 : ¬ ((1 : Int32) < 0 ∨ cl37.slots.size ≤ ((1 : Int32)).toNatClampNeg) := inb_of S37 ⟨by decide, by decide⟩
      obtain ⟨T37, h37, X37, e37, W37, st37⟩ := stI X36 hx hZ e36 Ar37 (j := (1 : Int32)) hin37 (g := (mkF m 148 #[iv p0, iv p1, iv p2, iv p3, iv p4, iv p5, iv (0 : Int32), iv (2 : Int32), rv b28, rv b29, rv b32, .unset, .unset, .unset] [(.int (p3 ^^^ (-1 : Int32))), (.int (1 : Int32)), (.ref b29)])) rfl rfl (hb hby at_148)
      have V_b29 : Arv Z h37 b29 k29 .int (2 : Int32) [(.int (p1 ^^^ (-1 : Int32))), (.int (p3 ^^^ (-1 : Int32)))] (.int (0 : Int32)) := Arv.set Ar37 q37 S37 M37 H37 G37 rfl W37 1 rfl (Nat.le_of_ble_eq_true rfl)
      replace S_DEFAULTCAPACITY_EMPTY_ELEMENTDATA := S_DEFAULTCAPACITY_EMPTY_ELEMENTDATA.wr W37
      replace E_b28 := E_b28.wr W37
      replace V_b28 := V_b28.other W37 ne_b28_b29
      replace E_b29 := E_b29.wr W37
      replace E_b32 := E_b32.wr W37
      replace E_c34 := E_c34.wr W37
      replace V_c34 := V_c34.other W37 (Ne.symm ne_b29_c34)
      replace E_d34 := E_d34.wr W37
      replace V_d34 := V_d34.other W37 (Ne.symm ne_b29_d34)
      replace F_low_b32 := F_low_b32.other W37 (Or.inl (Ne.symm ne_b29_b32))
      replace F_high_b32 := F_high_b32.other W37 (Or.inl (Ne.symm ne_b29_b32))
      replace E_c35 := E_c35.wr W37
      replace V_c35 := V_c35.other W37 (Ne.symm ne_b29_c35)
      replace E_d35 := E_d35.wr W37
      replace V_d35 := V_d35.other W37 (Ne.symm ne_b29_d35)
      have Zz37 := Nat.le_trans Zz36 (Keep.of_wr W37).1
      have Kk37 := Kk36.wr W37 (Or.inr sz_b29)
      have N37 := Fr.snoc X37 N36 g_b29
      refine go st37 ?_
      show Go p e below _ m T37 149 #[iv p0, iv p1, iv p2, iv p3, iv p4, iv p5, iv (0 : Int32), iv (2 : Int32), rv b28, rv b29, rv b32, .unset, .unset, .unset] []
      refine go (fun t kt => XS.aload X37.here hx rfl (hb hby at_149) rfl rfl kt) ?_
      show Go p e below _ m T37 151 #[iv p0, iv p1, iv p2, iv p3, iv p4, iv p5, iv (0 : Int32), iv (2 : Int32), rv b28, rv b29, rv b32, .unset, .unset, .unset] [(.ref b32)]
      obtain ⟨cq38, kq38, q38a, q38b, q38c⟩ := isOf hZ e37 E_b32
      obtain ⟨_, _, ⟨T38, L38, k38, n38⟩, -, X38, ⟨Lc38, hQ38, l38, y38, z38⟩, st38⟩ := X37.virtualBack hx (y := (⟨"com/example/anytime_arena/anytimearena/io/VariableTable", "low", "()[I"⟩ : MethodName)) (z := (⟨"com/example/anytime_arena/anytimearena/io/VariableTable", "low", "()[I"⟩ : MethodName)) hown (mvT hZ (hw _ (List.mem_of_getElem? (i := 76) rfl))) (mvT hZ (hw _ (List.mem_of_getElem? (i := 77) rfl))) (notFace_of_selects (args := #[]) (mvT hZ (hw _ (List.mem_of_getElem? (i := 79) rfl)))) (mvT hZ (hw _ (List.mem_of_getElem? (i := 79) rfl))) (mvT hZ (hw _ (List.mem_of_getElem? (i := 78) rfl))) (by decide) (backOf (W := 0) (rm9 l Z a0 hw [] b32 c35 k28 (0 : Int32) [] h37 n0 Zz37 F_low_b32 E_c35 V_c35 (by decide)) hZ (hw _ (List.mem_of_getElem? (i := 80) rfl)) (hw _ (List.mem_of_getElem? (i := 3) rfl)) (by decide) (by decide)) q38a q38c (g := (mkF m 151 #[iv p0, iv p1, iv p2, iv p3, iv p4, iv p5, iv (0 : Int32), iv (2 : Int32), rv b28, rv b29, rv b32, .unset, .unset, .unset] [(.ref b32)])) rfl (by rw [hml]; rfl) (Steps.refl _) (argsL := []) (rest := []) (lenOf pd_2 rfl) rfl (by show 2 * 0 + _ ≤ _; exact Nat.le_of_eq rfl) (hb hby at_151) (fun _ _ => ⟨rfl, e37, (by decide : 13 + 1 ≤ _), (by decide : 33 + 2 ≤ _)⟩)
      dsimp only [Pt.U, Pt.locs, Pt.cells, Pt.slots] at X38 l38 y38 z38 st38 hQ38
      subst l38 y38 z38
      obtain ⟨b38, g38⟩ : ∃ z, z = h37.size := ⟨_, rfl⟩
      have ne_b28_b38 : b28 ≠ b38 := Nat.ne_of_lt (Nat.lt_of_lt_of_le E_b28.lt (Nat.le_of_eq g38.symm))
      have ne_b29_b38 : b29 ≠ b38 := Nat.ne_of_lt (Nat.lt_of_lt_of_le E_b29.lt (Nat.le_of_eq g38.symm))
      have ne_b32_b38 : b32 ≠ b38 := Nat.ne_of_lt (Nat.lt_of_lt_of_le E_b32.lt (Nat.le_of_eq g38.symm))
      have ne_c34_b38 : c34 ≠ b38 := Nat.ne_of_lt (Nat.lt_of_lt_of_le E_c34.lt (Nat.le_of_eq g38.symm))
      have ne_d34_b38 : d34 ≠ b38 := Nat.ne_of_lt (Nat.lt_of_lt_of_le E_d34.lt (Nat.le_of_eq g38.symm))
      have ne_c35_b38 : c35 ≠ b38 := Nat.ne_of_lt (Nat.lt_of_lt_of_le E_c35.lt (Nat.le_of_eq g38.symm))
      have ne_d35_b38 : d35 ≠ b38 := Nat.ne_of_lt (Nat.lt_of_lt_of_le E_d35.lt (Nat.le_of_eq g38.symm))
      have g_b38 : n0 ≤ b38 := Nat.le_trans Zz37 (Nat.le_of_eq g38.symm)
      have sz_b38 : h0.size ≤ b38 := Nat.le_trans Kk37.1 (Nat.le_of_eq g38.symm)
      obtain ⟨rfl, Nq38, Kq38, Eq38, Vq38⟩ := hQ38
      rw [← g38] at Eq38 Vq38 st38
      clear S_DEFAULTCAPACITY_EMPTY_ELEMENTDATA
      replace E_b28 := E_b28.keep Kq38
      replace V_b28 := V_b28.keep Kq38 nin0
      replace E_b29 := E_b29.keep Kq38
      replace V_b29 := V_b29.keep Kq38 nin0
      replace E_b32 := E_b32.keep Kq38
      replace E_c34 := E_c34.keep Kq38
      replace V_c34 := V_c34.keep Kq38 nin0
      replace E_d34 := E_d34.keep Kq38
      replace V_d34 := V_d34.keep Kq38 nin0
      replace F_low_b32 := F_low_b32.keep Kq38 nin0
      replace F_high_b32 := F_high_b32.keep Kq38 nin0
      replace E_c35 := E_c35.keep Kq38
      replace V_c35 := V_c35.keep Kq38 nin0
      replace E_d35 := E_d35.keep Kq38
      replace V_d35 := V_d35.keep Kq38 nin0
      have Zz38 := Nat.le_trans Zz37 Kq38.1
      have Kk38 := Kk37.trans Kq38 all0
      have E_b38 := Eq38
      have V_b38 := Vq38
      have N38 := Fr.app N37 Nq38
      refine go (fun t kt => st38.trans kt) ?_
      show Go p e below _ m T38 154 #[iv p0, iv p1, iv p2, iv p3, iv p4, iv p5, iv (0 : Int32), iv (2 : Int32), rv b28, rv b29, rv b32, .unset, .unset, .unset] [(.ref b38)]
      refine go (fun t kt => XS.astore X38.here hx rfl (hb hby at_154) rfl rfl (l' := #[iv p0, iv p1, iv p2, iv p3, iv p4, iv p5, iv (0 : Int32), iv (2 : Int32), rv b28, rv b29, rv b32, rv b38, .unset, .unset]) rfl kt) ?_
      show Go p e below _ m T38 156 #[iv p0, iv p1, iv p2, iv p3, iv p4, iv p5, iv (0 : Int32), iv (2 : Int32), rv b28, rv b29, rv b32, rv b38, .unset, .unset] []
      refine go (fun t kt => XS.aload X38.here hx rfl (hb hby at_156) rfl rfl kt) ?_
      show Go p e below _ m T38 158 #[iv p0, iv p1, iv p2, iv p3, iv p4, iv p5, iv (0 : Int32), iv (2 : Int32), rv b28, rv b29, rv b32, rv b38, .unset, .unset] [(.ref b32)]
      obtain ⟨cq39, kq39, q39a, q39b, q39c⟩ := isOf hZ rfl E_b32
      obtain ⟨_, _, ⟨T39, L39, k39, n39⟩, -, X39, ⟨Lc39, hQ39, l39, y39, z39⟩, st39⟩ := X38.virtualBack hx (y := (⟨"com/example/anytime_arena/anytimearena/io/VariableTable", "high", "()[I"⟩ : MethodName)) (z := (⟨"com/example/anytime_arena/anytimearena/io/VariableTable", "high", "()[I"⟩ : MethodName)) hown (mvT hZ (hw _ (List.mem_of_getElem? (i := 81) rfl))) (mvT hZ (hw _ (List.mem_of_getElem? (i := 82) rfl))) (notFace_of_selects (args := #[]) (mvT hZ (hw _ (List.mem_of_getElem? (i := 84) rfl)))) (mvT hZ (hw _ (List.mem_of_getElem? (i := 84) rfl))) (mvT hZ (hw _ (List.mem_of_getElem? (i := 83) rfl))) (by decide) (backOf (W := 0) (rm10 l Z a0 hw [] b32 d35 k29 (2 : Int32) [(.int p1), (.int p3)] T38.heap n0 Zz38 F_high_b32 E_d35 V_d35 (by decide)) hZ (hw _ (List.mem_of_getElem? (i := 85) rfl)) (hw _ (List.mem_of_getElem? (i := 3) rfl)) (by decide) (by decide)) q39a q39c (g := (mkF m 158 #[iv p0, iv p1, iv p2, iv p3, iv p4, iv p5, iv (0 : Int32), iv (2 : Int32), rv b28, rv b29, rv b32, rv b38, .unset, .unset] [(.ref b32)])) rfl (by rw [hml]; rfl) (Steps.refl _) (argsL := []) (rest := []) (lenOf pd_2 rfl) rfl (by show 2 * 0 + _ ≤ _; exact Nat.le_of_eq rfl) (hb hby at_158) (fun _ _ => ⟨rfl, rfl, (by decide : 14 + 1 ≤ _), (by decide : 35 + 2 ≤ _)⟩)
      dsimp only [Pt.U, Pt.locs, Pt.cells, Pt.slots] at X39 l39 y39 z39 st39 hQ39
      subst l39 y39 z39
      obtain ⟨b39, g39⟩ : ∃ z, z = T38.heap.size := ⟨_, rfl⟩
      have ne_b28_b39 : b28 ≠ b39 := Nat.ne_of_lt (Nat.lt_of_lt_of_le E_b28.lt (Nat.le_of_eq g39.symm))
      have ne_b29_b39 : b29 ≠ b39 := Nat.ne_of_lt (Nat.lt_of_lt_of_le E_b29.lt (Nat.le_of_eq g39.symm))
      have ne_b32_b39 : b32 ≠ b39 := Nat.ne_of_lt (Nat.lt_of_lt_of_le E_b32.lt (Nat.le_of_eq g39.symm))
      have ne_c34_b39 : c34 ≠ b39 := Nat.ne_of_lt (Nat.lt_of_lt_of_le E_c34.lt (Nat.le_of_eq g39.symm))
      have ne_d34_b39 : d34 ≠ b39 := Nat.ne_of_lt (Nat.lt_of_lt_of_le E_d34.lt (Nat.le_of_eq g39.symm))
      have ne_c35_b39 : c35 ≠ b39 := Nat.ne_of_lt (Nat.lt_of_lt_of_le E_c35.lt (Nat.le_of_eq g39.symm))
      have ne_d35_b39 : d35 ≠ b39 := Nat.ne_of_lt (Nat.lt_of_lt_of_le E_d35.lt (Nat.le_of_eq g39.symm))
      have ne_b38_b39 : b38 ≠ b39 := Nat.ne_of_lt (Nat.lt_of_lt_of_le E_b38.lt (Nat.le_of_eq g39.symm))
      have g_b39 : n0 ≤ b39 := Nat.le_trans Zz38 (Nat.le_of_eq g39.symm)
      have sz_b39 : h0.size ≤ b39 := Nat.le_trans Kk38.1 (Nat.le_of_eq g39.symm)
      obtain ⟨rfl, Nq39, Kq39, Eq39, Vq39⟩ := hQ39
      rw [← g39] at Eq39 Vq39 st39
      replace E_b28 := E_b28.keep Kq39
      replace V_b28 := V_b28.keep Kq39 nin0
      replace E_b29 := E_b29.keep Kq39
      replace V_b29 := V_b29.keep Kq39 nin0
      replace E_b32 := E_b32.keep Kq39
      replace E_c34 := E_c34.keep Kq39
      replace V_c34 := V_c34.keep Kq39 nin0
      replace E_d34 := E_d34.keep Kq39
      replace V_d34 := V_d34.keep Kq39 nin0
      replace F_low_b32 := F_low_b32.keep Kq39 nin0
      replace F_high_b32 := F_high_b32.keep Kq39 nin0
      replace E_c35 := E_c35.keep Kq39
      replace V_c35 := V_c35.keep Kq39 nin0
      replace E_d35 := E_d35.keep Kq39
      replace V_d35 := V_d35.keep Kq39 nin0
      replace E_b38 := E_b38.keep Kq39
      replace V_b38 := V_b38.keep Kq39 nin0
      have Zz39 := Nat.le_trans Zz38 Kq39.1
      have Kk39 := Kk38.trans Kq39 all0
      have E_b39 := Eq39
      have V_b39 := Vq39
      have N39 := Fr.app N38 Nq39
      refine go (fun t kt => st39.trans kt) ?_
      show Go p e below _ m T39 161 #[iv p0, iv p1, iv p2, iv p3, iv p4, iv p5, iv (0 : Int32), iv (2 : Int32), rv b28, rv b29, rv b32, rv b38, .unset, .unset] [(.ref b39)]
      refine go (fun t kt => XS.astore X39.here hx rfl (hb hby at_161) rfl rfl (l' := #[iv p0, iv p1, iv p2, iv p3, iv p4, iv p5, iv (0 : Int32), iv (2 : Int32), rv b28, rv b29, rv b32, rv b38, rv b39, .unset]) rfl kt) ?_
      show Go p e below _ m T39 163 #[iv p0, iv p1, iv p2, iv p3, iv p4, iv p5, iv (0 : Int32), iv (2 : Int32), rv b28, rv b29, rv b32, rv b38, rv b39, .unset] []
      refine go (fun t kt => XS.aload X39.here hx rfl (hb hby at_163) rfl rfl kt) ?_
      show Go p e below _ m T39 165 #[iv p0, iv p1, iv p2, iv p3, iv p4, iv p5, iv (0 : Int32), iv (2 : Int32), rv b28, rv b29, rv b32, rv b38, rv b39, .unset] [(.ref b38)]
      obtain ⟨cl40, Ar40, q40, S40, M40, H40, G40⟩ := id V_b38
      refine go (X39.arraylength hx Ar40.1 (State.isArrayOf_alike hZ.alike Ar40.2.1) (g := (mkF m 165 #[iv p0, iv p1, iv p2, iv p3, iv p4, iv p5, iv (0 : Int32), iv (2 : Int32), rv b28, rv b29, rv b32, rv b38, rv b39, .unset] [(.ref b38)])) rfl rfl (hb hby at_165)) ?_
      rw [len_of S40 M40]
      show Go p e below _ m T39 166 #[iv p0, iv p1, iv p2, iv p3, iv p4, iv p5, iv (0 : Int32), iv (2 : Int32), rv b28, rv b29, rv b32, rv b38, rv b39, .unset] [(.int (0 : Int32))]
      refine go (fun t kt => XS.iload X39.here hx rfl (hb hby at_166) rfl kt) ?_
      show Go p e below _ m T39 168 #[iv p0, iv p1, iv p2, iv p3, iv p4, iv p5, iv (0 : Int32), iv (2 : Int32), rv b28, rv b29, rv b32, rv b38, rv b39, .unset] [(.int (0 : Int32)), (.int (0 : Int32))]
      refine go (fun t kt => XS.icmpNo X39.here hx rfl (hb hby at_168) rfl (teq (by decide : ((0 : Int32) = (0 : Int32)))).2 kt) ?_
      show Go p e below _ m T39 171 #[iv p0, iv p1, iv p2, iv p3, iv p4, iv p5, iv (0 : Int32), iv (2 : Int32), rv b28, rv b29, rv b32, rv b38, rv b39, .unset] []
      refine go (fun t kt => XS.aload X39.here hx rfl (hb hby at_171) rfl rfl kt) ?_
      show Go p e below _ m T39 173 #[iv p0, iv p1, iv p2, iv p3, iv p4, iv p5, iv (0 : Int32), iv (2 : Int32), rv b28, rv b29, rv b32, rv b38, rv b39, .unset] [(.ref b39)]
      obtain ⟨cl41, Ar41, q41, S41, M41, H41, G41⟩ := id V_b39
      refine go (X39.arraylength hx Ar41.1 (State.isArrayOf_alike hZ.alike Ar41.2.1) (g := (mkF m 173 #[iv p0, iv p1, iv p2, iv p3, iv p4, iv p5, iv (0 : Int32), iv (2 : Int32), rv b28, rv b29, rv b32, rv b38, rv b39, .unset] [(.ref b39)])) rfl rfl (hb hby at_173)) ?_
      rw [len_of S41 M41]
      show Go p e below _ m T39 174 #[iv p0, iv p1, iv p2, iv p3, iv p4, iv p5, iv (0 : Int32), iv (2 : Int32), rv b28, rv b29, rv b32, rv b38, rv b39, .unset] [(.int (2 : Int32))]
      refine go (fun t kt => XS.iload X39.here hx rfl (hb hby at_174) rfl kt) ?_
      show Go p e below _ m T39 176 #[iv p0, iv p1, iv p2, iv p3, iv p4, iv p5, iv (0 : Int32), iv (2 : Int32), rv b28, rv b29, rv b32, rv b38, rv b39, .unset] [(.int (2 : Int32)), (.int (2 : Int32))]
      refine go (fun t kt => XS.icmpYes X39.here hx rfl (pc0 := 176) (pc' := 181) rfl (hb hby at_176) rfl (teq (by decide : ((2 : Int32) = (2 : Int32)))).1 (by decide) (by decide) kt) ?_
      show Go p e below _ m T39 181 #[iv p0, iv p1, iv p2, iv p3, iv p4, iv p5, iv (0 : Int32), iv (2 : Int32), rv b28, rv b29, rv b32, rv b38, rv b39, .unset] []
      refine go (fun t kt => XS.iconst X39.here hx rfl (hb hby at_181) kt) ?_
      show Go p e below _ m T39 182 #[iv p0, iv p1, iv p2, iv p3, iv p4, iv p5, iv (0 : Int32), iv (2 : Int32), rv b28, rv b29, rv b32, rv b38, rv b39, .unset] [(.int (1 : Int32))]
      refine go (fun t kt => XS.istore X39.here hx rfl (hb hby at_182) rfl (l' := #[iv p0, iv p1, iv p2, iv p3, iv p4, iv p5, iv (0 : Int32), iv (2 : Int32), rv b28, rv b29, rv b32, rv b38, rv b39, iv (1 : Int32)]) rfl kt) ?_
      show Go p e below _ m T39 184 #[iv p0, iv p1, iv p2, iv p3, iv p4, iv p5, iv (0 : Int32), iv (2 : Int32), rv b28, rv b29, rv b32, rv b38, rv b39, iv (1 : Int32)] []
      refine go (fun t kt => XS.iload X39.here hx rfl (hb hby at_184) rfl kt) ?_
      show Go p e below _ m T39 186 #[iv p0, iv p1, iv p2, iv p3, iv p4, iv p5, iv (0 : Int32), iv (2 : Int32), rv b28, rv b29, rv b32, rv b38, rv b39, iv (1 : Int32)] [(.int (0 : Int32))]
      refine go (fun t kt => XS.ifYes X39.here hx rfl (pc0 := 186) (pc' := 209) rfl (hb hby at_186) rfl ((if0 _ _).trans (flt (by decide : ¬ ((0 : Int32) < (0 : Int32)))).2.2.2) (by decide) (by decide) kt) ?_
      show Go p e below _ m T39 209 #[iv p0, iv p1, iv p2, iv p3, iv p4, iv p5, iv (0 : Int32), iv (2 : Int32), rv b28, rv b29, rv b32, rv b38, rv b39, iv (1 : Int32)] []
      refine go (fun t kt => XS.iload X39.here hx rfl (hb hby at_209) rfl kt) ?_
      show Go p e below _ m T39 211 #[iv p0, iv p1, iv p2, iv p3, iv p4, iv p5, iv (0 : Int32), iv (2 : Int32), rv b28, rv b29, rv b32, rv b38, rv b39, iv (1 : Int32)] [(.int (0 : Int32))]
      refine go (fun t kt => XS.iconst X39.here hx rfl (hb hby at_211) kt) ?_
      show Go p e below _ m T39 212 #[iv p0, iv p1, iv p2, iv p3, iv p4, iv p5, iv (0 : Int32), iv (2 : Int32), rv b28, rv b29, rv b32, rv b38, rv b39, iv (1 : Int32)] [(.int (1 : Int32)), (.int (0 : Int32))]
      refine go (fun t kt => XS.icmpYes X39.here hx rfl (pc0 := 212) (pc' := 235) rfl (hb hby at_212) rfl (flt (by decide : ¬ ((1 : Int32) < (0 : Int32)))).2.2.2 (by decide) (by decide) kt) ?_
      show Go p e below _ m T39 235 #[iv p0, iv p1, iv p2, iv p3, iv p4, iv p5, iv (0 : Int32), iv (2 : Int32), rv b28, rv b29, rv b32, rv b38, rv b39, iv (1 : Int32)] []
      refine go (fun t kt => XS.iload X39.here hx rfl (hb hby at_235) rfl kt) ?_
      show Go p e below _ m T39 237 #[iv p0, iv p1, iv p2, iv p3, iv p4, iv p5, iv (0 : Int32), iv (2 : Int32), rv b28, rv b29, rv b32, rv b38, rv b39, iv (1 : Int32)] [(.int (2 : Int32))]
      refine go (fun t kt => XS.ifNo X39.here hx rfl (hb hby at_237) rfl ((if0 _ _).trans (tlt (by decide : ((0 : Int32) < (2 : Int32)))).2.2.2) kt) ?_
      show Go p e below _ m T39 240 #[iv p0, iv p1, iv p2, iv p3, iv p4, iv p5, iv (0 : Int32), iv (2 : Int32), rv b28, rv b29, rv b32, rv b38, rv b39, iv (1 : Int32)] []
      refine go (fun t kt => XS.iload X39.here hx rfl (hb hby at_240) rfl kt) ?_
      show Go p e below _ m T39 242 #[iv p0, iv p1, iv p2, iv p3, iv p4, iv p5, iv (0 : Int32), iv (2 : Int32), rv b28, rv b29, rv b32, rv b38, rv b39, iv (1 : Int32)] [(.int (1 : Int32))]
      refine go (fun t kt => XS.ifNo X39.here hx rfl (hb hby at_242) rfl ((if0 _ _).trans (feq (by decide : ¬ ((1 : Int32) = (0 : Int32)))).1) kt) ?_
      show Go p e below _ m T39 245 #[iv p0, iv p1, iv p2, iv p3, iv p4, iv p5, iv (0 : Int32), iv (2 : Int32), rv b28, rv b29, rv b32, rv b38, rv b39, iv (1 : Int32)] []
      refine go (fun t kt => XS.aload X39.here hx rfl (hb hby at_245) rfl rfl kt) ?_
      show Go p e below _ m T39 247 #[iv p0, iv p1, iv p2, iv p3, iv p4, iv p5, iv (0 : Int32), iv (2 : Int32), rv b28, rv b29, rv b32, rv b38, rv b39, iv (1 : Int32)] [(.ref b39)]
      refine go (fun t kt => XS.iconst X39.here hx rfl (hb hby at_247) kt) ?_
      show Go p e below _ m T39 248 #[iv p0, iv p1, iv p2, iv p3, iv p4, iv p5, iv (0 : Int32), iv (2 : Int32), rv b28, rv b29, rv b32, rv b38, rv b39, iv (1 : Int32)] [(.int (0 : Int32)), (.ref b39)]
      obtain ⟨cl42, Ar42, q42, S42, M42, H42, G42⟩ := id V_b39
      have hin42 : ¬ ((0 : Int32) < 0 ∨ cl42.slots.size ≤ ((0 : Int32)).toNatClampNeg) := inb_of S42 ⟨by decide, by decide⟩
      have hat42 : cl42.slots[((0 : Int32)).toNatClampNeg]? = some (.int p1) := H42.at hin42 rfl
      refine go (X39.iaload hx (j := (0 : Int32)) (v := (.int p1)) Ar42.1 (State.isArrayOf_alike hZ.alike Ar42.2.1) Ar42.2.2 hin42 hat42 (g := (mkF m 248 #[iv p0, iv p1, iv p2, iv p3, iv p4, iv p5, iv (0 : Int32), iv (2 : Int32), rv b28, rv b29, rv b32, rv b38, rv b39, iv (1 : Int32)] [(.int (0 : Int32)), (.ref b39)])) rfl rfl (hb hby at_248)) ?_
      show Go p e below _ m T39 249 #[iv p0, iv p1, iv p2, iv p3, iv p4, iv p5, iv (0 : Int32), iv (2 : Int32), rv b28, rv b29, rv b32, rv b38, rv b39, iv (1 : Int32)] [(.int p1)]
      refine go (fun t kt => XS.iloadN X39.here hx rfl (hb hby at_249) rfl kt) ?_
      show Go p e below _ m T39 250 #[iv p0, iv p1, iv p2, iv p3, iv p4, iv p5, iv (0 : Int32), iv (2 : Int32), rv b28, rv b29, rv b32, rv b38, rv b39, iv (1 : Int32)] [(.int p1), (.int p1)]
      refine go (fun t kt => XS.icmpNo X39.here hx rfl (hb hby at_250) rfl (teq (rfl : p1 = p1)).2 kt) ?_
      show Go p e below _ m T39 253 #[iv p0, iv p1, iv p2, iv p3, iv p4, iv p5, iv (0 : Int32), iv (2 : Int32), rv b28, rv b29, rv b32, rv b38, rv b39, iv (1 : Int32)] []
      refine go (fun t kt => XS.iconst X39.here hx rfl (hb hby at_253) kt) ?_
      show Go p e below _ m T39 254 #[iv p0, iv p1, iv p2, iv p3, iv p4, iv p5, iv (0 : Int32), iv (2 : Int32), rv b28, rv b29, rv b32, rv b38, rv b39, iv (1 : Int32)] [(.int (1 : Int32))]
      refine go (fun t kt => XS.goto X39.here hx rfl (pc0 := 254) (pc' := 258) rfl (hb hby at_254) (by decide) (by decide) kt) ?_
      show Go p e below _ m T39 258 #[iv p0, iv p1, iv p2, iv p3, iv p4, iv p5, iv (0 : Int32), iv (2 : Int32), rv b28, rv b29, rv b32, rv b38, rv b39, iv (1 : Int32)] [(.int (1 : Int32))]
      refine go (fun t kt => XS.istore X39.here hx rfl (hb hby at_258) rfl (l' := #[iv p0, iv p1, iv p2, iv p3, iv p4, iv p5, iv (0 : Int32), iv (2 : Int32), rv b28, rv b29, rv b32, rv b38, rv b39, iv (1 : Int32)]) rfl kt) ?_
      show Go p e below _ m T39 260 #[iv p0, iv p1, iv p2, iv p3, iv p4, iv p5, iv (0 : Int32), iv (2 : Int32), rv b28, rv b29, rv b32, rv b38, rv b39, iv (1 : Int32)] []
      refine go (fun t kt => XS.iload X39.here hx rfl (hb hby at_260) rfl kt) ?_
      show Go p e below _ m T39 262 #[iv p0, iv p1, iv p2, iv p3, iv p4, iv p5, iv (0 : Int32), iv (2 : Int32), rv b28, rv b29, rv b32, rv b38, rv b39, iv (1 : Int32)] [(.int (2 : Int32))]
      refine go (fun t kt => XS.iconst X39.here hx rfl (hb hby at_262) kt) ?_
      show Go p e below _ m T39 263 #[iv p0, iv p1, iv p2, iv p3, iv p4, iv p5, iv (0 : Int32), iv (2 : Int32), rv b28, rv b29, rv b32, rv b38, rv b39, iv (1 : Int32)] [(.int (1 : Int32)), (.int (2 : Int32))]
      refine go (fun t kt => XS.icmpNo X39.here hx rfl (hb hby at_263) rfl (tlt (by decide : ((1 : Int32) < (2 : Int32)))).2.2.2 kt) ?_
      show Go p e below _ m T39 266 #[iv p0, iv p1, iv p2, iv p3, iv p4, iv p5, iv (0 : Int32), iv (2 : Int32), rv b28, rv b29, rv b32, rv b38, rv b39, iv (1 : Int32)] []
      refine go (fun t kt => XS.iload X39.here hx rfl (hb hby at_266) rfl kt) ?_
      show Go p e below _ m T39 268 #[iv p0, iv p1, iv p2, iv p3, iv p4, iv p5, iv (0 : Int32), iv (2 : Int32), rv b28, rv b29, rv b32, rv b38, rv b39, iv (1 : Int32)] [(.int (1 : Int32))]
      refine go (fun t kt => XS.ifNo X39.here hx rfl (hb hby at_268) rfl ((if0 _ _).trans (feq (by decide : ¬ ((1 : Int32) = (0 : Int32)))).1) kt) ?_
      show Go p e below _ m T39 271 #[iv p0, iv p1, iv p2, iv p3, iv p4, iv p5, iv (0 : Int32), iv (2 : Int32), rv b28, rv b29, rv b32, rv b38, rv b39, iv (1 : Int32)] []
      refine go (fun t kt => XS.aload X39.here hx rfl (hb hby at_271) rfl rfl kt) ?_
      show Go p e below _ m T39 273 #[iv p0, iv p1, iv p2, iv p3, iv p4, iv p5, iv (0 : Int32), iv (2 : Int32), rv b28, rv b29, rv b32, rv b38, rv b39, iv (1 : Int32)] [(.ref b39)]
      refine go (fun t kt => XS.iconst X39.here hx rfl (hb hby at_273) kt) ?_
      show Go p e below _ m T39 274 #[iv p0, iv p1, iv p2, iv p3, iv p4, iv p5, iv (0 : Int32), iv (2 : Int32), rv b28, rv b29, rv b32, rv b38, rv b39, iv (1 : Int32)] [(.int (1 : Int32)), (.ref b39)]
      obtain ⟨cl43, Ar43, q43, S43, M43, H43, G43⟩ := id V_b39
      have hin43 : ¬ ((1 : Int32) < 0 ∨ cl43.slots.size ≤ ((1 : Int32)).toNatClampNeg) := inb_of S43 ⟨by decide, by decide⟩
      have hat43 : cl43.slots[((1 : Int32)).toNatClampNeg]? = some (.int p3) := H43.at hin43 rfl
      refine go (X39.iaload hx (j := (1 : Int32)) (v := (.int p3)) Ar43.1 (State.isArrayOf_alike hZ.alike Ar43.2.1) Ar43.2.2 hin43 hat43 (g := (mkF m 274 #[iv p0, iv p1, iv p2, iv p3, iv p4, iv p5, iv (0 : Int32), iv (2 : Int32), rv b28, rv b29, rv b32, rv b38, rv b39, iv (1 : Int32)] [(.int (1 : Int32)), (.ref b39)])) rfl rfl (hb hby at_274)) ?_
      show Go p e below _ m T39 275 #[iv p0, iv p1, iv p2, iv p3, iv p4, iv p5, iv (0 : Int32), iv (2 : Int32), rv b28, rv b29, rv b32, rv b38, rv b39, iv (1 : Int32)] [(.int p3)]
      refine go (fun t kt => XS.iloadN X39.here hx rfl (hb hby at_275) rfl kt) ?_
      show Go p e below _ m T39 276 #[iv p0, iv p1, iv p2, iv p3, iv p4, iv p5, iv (0 : Int32), iv (2 : Int32), rv b28, rv b29, rv b32, rv b38, rv b39, iv (1 : Int32)] [(.int p3), (.int p3)]
      refine go (fun t kt => XS.icmpNo X39.here hx rfl (hb hby at_276) rfl (teq (rfl : p3 = p3)).2 kt) ?_
      show Go p e below _ m T39 279 #[iv p0, iv p1, iv p2, iv p3, iv p4, iv p5, iv (0 : Int32), iv (2 : Int32), rv b28, rv b29, rv b32, rv b38, rv b39, iv (1 : Int32)] []
      refine go (fun t kt => XS.iconst X39.here hx rfl (hb hby at_279) kt) ?_
      show Go p e below _ m T39 280 #[iv p0, iv p1, iv p2, iv p3, iv p4, iv p5, iv (0 : Int32), iv (2 : Int32), rv b28, rv b29, rv b32, rv b38, rv b39, iv (1 : Int32)] [(.int (1 : Int32))]
      refine go (fun t kt => XS.goto X39.here hx rfl (pc0 := 280) (pc' := 284) rfl (hb hby at_280) (by decide) (by decide) kt) ?_
      show Go p e below _ m T39 284 #[iv p0, iv p1, iv p2, iv p3, iv p4, iv p5, iv (0 : Int32), iv (2 : Int32), rv b28, rv b29, rv b32, rv b38, rv b39, iv (1 : Int32)] [(.int (1 : Int32))]
      refine go (fun t kt => XS.istore X39.here hx rfl (hb hby at_284) rfl (l' := #[iv p0, iv p1, iv p2, iv p3, iv p4, iv p5, iv (0 : Int32), iv (2 : Int32), rv b28, rv b29, rv b32, rv b38, rv b39, iv (1 : Int32)]) rfl kt) ?_
      show Go p e below _ m T39 286 #[iv p0, iv p1, iv p2, iv p3, iv p4, iv p5, iv (0 : Int32), iv (2 : Int32), rv b28, rv b29, rv b32, rv b38, rv b39, iv (1 : Int32)] []
      refine go (fun t kt => XS.iload X39.here hx rfl (hb hby at_286) rfl kt) ?_
      show Go p e below _ m T39 288 #[iv p0, iv p1, iv p2, iv p3, iv p4, iv p5, iv (0 : Int32), iv (2 : Int32), rv b28, rv b29, rv b32, rv b38, rv b39, iv (1 : Int32)] [(.int (0 : Int32))]
      refine go (fun t kt => XS.ifYes X39.here hx rfl (pc0 := 288) (pc' := 336) rfl (hb hby at_288) rfl ((if0 _ _).trans (flt (by decide : ¬ ((0 : Int32) < (0 : Int32)))).2.2.2) (by decide) (by decide) kt) ?_
      show Go p e below _ m T39 336 #[iv p0, iv p1, iv p2, iv p3, iv p4, iv p5, iv (0 : Int32), iv (2 : Int32), rv b28, rv b29, rv b32, rv b38, rv b39, iv (1 : Int32)] []
      refine go (fun t kt => XS.iload X39.here hx rfl (hb hby at_336) rfl kt) ?_
      show Go p e below _ m T39 338 #[iv p0, iv p1, iv p2, iv p3, iv p4, iv p5, iv (0 : Int32), iv (2 : Int32), rv b28, rv b29, rv b32, rv b38, rv b39, iv (1 : Int32)] [(.int (0 : Int32))]
      refine go (fun t kt => XS.iconst X39.here hx rfl (hb hby at_338) kt) ?_
      show Go p e below _ m T39 339 #[iv p0, iv p1, iv p2, iv p3, iv p4, iv p5, iv (0 : Int32), iv (2 : Int32), rv b28, rv b29, rv b32, rv b38, rv b39, iv (1 : Int32)] [(.int (1 : Int32)), (.int (0 : Int32))]
      refine go (fun t kt => XS.icmpYes X39.here hx rfl (pc0 := 339) (pc' := 388) rfl (hb hby at_339) rfl (flt (by decide : ¬ ((1 : Int32) < (0 : Int32)))).2.2.2 (by decide) (by decide) kt) ?_
      show Go p e below _ m T39 388 #[iv p0, iv p1, iv p2, iv p3, iv p4, iv p5, iv (0 : Int32), iv (2 : Int32), rv b28, rv b29, rv b32, rv b38, rv b39, iv (1 : Int32)] []
      refine go (fun t kt => XS.iload X39.here hx rfl (hb hby at_388) rfl kt) ?_
      show Go p e below _ m T39 390 #[iv p0, iv p1, iv p2, iv p3, iv p4, iv p5, iv (0 : Int32), iv (2 : Int32), rv b28, rv b29, rv b32, rv b38, rv b39, iv (1 : Int32)] [(.int (1 : Int32))]
      obtain ⟨fs, hr, hrun, hended, hW, hsame⟩ := X39.leave (v := some (.int (1 : Int32))) (fun h => by rw [Bd.returns] at h; cases h)
      refine ⟨_, _, retN X39 hx (t := .boolean) Bd.returns (by simp) (hb hby at_390) hr, hrun, hended, _, _, rfl, ?_, ⟨_, rfl⟩, hW, hsame.mono (by decide) (by decide)⟩
      show Q0 Z p0 p1 p2 p3 p4 p5 sd h0 n0 _ T39.heap _
      exact ⟨rfl, N39⟩
  ·
    rw [hk1]
    rcases own_m3 ((p4.toUInt32 >>> ((2 : Int32) &&& 31).toUInt32).toInt32) with hj2 | hj2 | hj2
    ·
      rw [hj2]
      show Go p e below _ m s₁ 18 #[iv p0, iv p1, iv p2, iv p3, iv p4, iv p5, iv (1 : Int32), iv (0 : Int32), .unset, .unset, .unset, .unset, .unset, .unset] []
      refine go (fun t kt => XS.iload X0.here hx rfl (hb hby at_18) rfl kt) ?_
      show Go p e below _ m s₁ 20 #[iv p0, iv p1, iv p2, iv p3, iv p4, iv p5, iv (1 : Int32), iv (0 : Int32), .unset, .unset, .unset, .unset, .unset, .unset] [(.int (1 : Int32))]
      obtain ⟨T45, h45, k45, X45, e45, E45, A45, B45, st45⟩ := newPE X0 hx hZ (hw _ (List.mem_of_getElem? (i := 0) rfl)) e0 (g := (mkF m 20 #[iv p0, iv p1, iv p2, iv p3, iv p4, iv p5, iv (1 : Int32), iv (0 : Int32), .unset, .unset, .unset, .unset, .unset, .unset] [(.int (1 : Int32))])) rfl (hb hby at_20) rfl (by decide) (cap := 1) (by decide) (by decide) (by decide) (by decide) (ad := "[I") rfl
      obtain ⟨b45, g45⟩ : ∃ z, z = h0.size := ⟨_, rfl⟩
      rw [← g45] at A45 B45 st45
      have g_b45 : n0 ≤ b45 := Nat.le_trans Z0 (Nat.le_of_eq g45.symm)
      have sz_b45 : h0.size ≤ b45 := Nat.le_trans K0.1 (Nat.le_of_eq g45.symm)
      replace S_DEFAULTCAPACITY_EMPTY_ELEMENTDATA := S_DEFAULTCAPACITY_EMPTY_ELEMENTDATA.ext E45
      have Zz45 := Nat.le_trans Z0 E45.1
      have Kk45 := K0.ext E45
      have E_b45 := B45
      have V_b45 : Arv Z h45 b45 k45 .int (1 : Int32) [(.int (0 : Int32))] (.int (0 : Int32)) := (Arv.new A45 (by decide)).pad (pad_rep [] (.int (0 : Int32)) 1)
      refine go st45 ?_
      show Go p e below _ m T45 22 #[iv p0, iv p1, iv p2, iv p3, iv p4, iv p5, iv (1 : Int32), iv (0 : Int32), .unset, .unset, .unset, .unset, .unset, .unset] [(.ref b45)]
      refine go (fun t kt => XS.astore X45.here hx rfl (hb hby at_22) rfl rfl (l' := #[iv p0, iv p1, iv p2, iv p3, iv p4, iv p5, iv (1 : Int32), iv (0 : Int32), rv b45, .unset, .unset, .unset, .unset, .unset]) rfl kt) ?_
      show Go p e below _ m T45 24 #[iv p0, iv p1, iv p2, iv p3, iv p4, iv p5, iv (1 : Int32), iv (0 : Int32), rv b45, .unset, .unset, .unset, .unset, .unset] []
      refine go (fun t kt => XS.iload X45.here hx rfl (hb hby at_24) rfl kt) ?_
      show Go p e below _ m T45 26 #[iv p0, iv p1, iv p2, iv p3, iv p4, iv p5, iv (1 : Int32), iv (0 : Int32), rv b45, .unset, .unset, .unset, .unset, .unset] [(.int (0 : Int32))]
      obtain ⟨T46, h46, k46, X46, e46, E46, A46, B46, st46⟩ := newPE X45 hx hZ (hw _ (List.mem_of_getElem? (i := 0) rfl)) e45 (g := (mkF m 26 #[iv p0, iv p1, iv p2, iv p3, iv p4, iv p5, iv (1 : Int32), iv (0 : Int32), rv b45, .unset, .unset, .unset, .unset, .unset] [(.int (0 : Int32))])) rfl (hb hby at_26) rfl (by decide) (cap := 0) (by decide) (by decide) (by decide) (by decide) (ad := "[I") rfl
      obtain ⟨b46, g46⟩ : ∃ z, z = h45.size := ⟨_, rfl⟩
      rw [← g46] at A46 B46 st46
      have ne_b45_b46 : b45 ≠ b46 := Nat.ne_of_lt (Nat.lt_of_lt_of_le E_b45.lt (Nat.le_of_eq g46.symm))
      have g_b46 : n0 ≤ b46 := Nat.le_trans Zz45 (Nat.le_of_eq g46.symm)
      have sz_b46 : h0.size ≤ b46 := Nat.le_trans Kk45.1 (Nat.le_of_eq g46.symm)
      replace S_DEFAULTCAPACITY_EMPTY_ELEMENTDATA := S_DEFAULTCAPACITY_EMPTY_ELEMENTDATA.ext E46
      replace E_b45 := E_b45.ext E46
      replace V_b45 := V_b45.ext E46
      have Zz46 := Nat.le_trans Zz45 E46.1
      have Kk46 := Kk45.ext E46
      have E_b46 := B46
      have V_b46 : Arv Z h46 b46 k46 .int (0 : Int32) [] (.int (0 : Int32)) := (Arv.new A46 (by decide))
      refine go st46 ?_
      show Go p e below _ m T46 28 #[iv p0, iv p1, iv p2, iv p3, iv p4, iv p5, iv (1 : Int32), iv (0 : Int32), rv b45, .unset, .unset, .unset, .unset, .unset] [(.ref b46)]
      refine go (fun t kt => XS.astore X46.here hx rfl (hb hby at_28) rfl rfl (l' := #[iv p0, iv p1, iv p2, iv p3, iv p4, iv p5, iv (1 : Int32), iv (0 : Int32), rv b45, rv b46, .unset, .unset, .unset, .unset]) rfl kt) ?_
      show Go p e below _ m T46 30 #[iv p0, iv p1, iv p2, iv p3, iv p4, iv p5, iv (1 : Int32), iv (0 : Int32), rv b45, rv b46, .unset, .unset, .unset, .unset] []
      refine go (fun t kt => XS.iload X46.here hx rfl (hb hby at_30) rfl kt) ?_
      show Go p e below _ m T46 32 #[iv p0, iv p1, iv p2, iv p3, iv p4, iv p5, iv (1 : Int32), iv (0 : Int32), rv b45, rv b46, .unset, .unset, .unset, .unset] [(.int (1 : Int32))]
      refine go (fun t kt => XS.ifNo X46.here hx rfl (hb hby at_32) rfl ((if0 _ _).trans (tlt (by decide : ((0 : Int32) < (1 : Int32)))).2.2.2) kt) ?_
      show Go p e below _ m T46 35 #[iv p0, iv p1, iv p2, iv p3, iv p4, iv p5, iv (1 : Int32), iv (0 : Int32), rv b45, rv b46, .unset, .unset, .unset, .unset] []
      refine go (fun t kt => XS.aload X46.here hx rfl (hb hby at_35) rfl rfl kt) ?_
      show Go p e below _ m T46 37 #[iv p0, iv p1, iv p2, iv p3, iv p4, iv p5, iv (1 : Int32), iv (0 : Int32), rv b45, rv b46, .unset, .unset, .unset, .unset] [(.ref b45)]
      refine go (fun t kt => XS.iconst X46.here hx rfl (hb hby at_37) kt) ?_
      show Go p e below _ m T46 38 #[iv p0, iv p1, iv p2, iv p3, iv p4, iv p5, iv (1 : Int32), iv (0 : Int32), rv b45, rv b46, .unset, .unset, .unset, .unset] [(.int (0 : Int32)), (.ref b45)]
      refine go (fun t kt => XS.iloadN X46.here hx rfl (hb hby at_38) rfl kt) ?_
      show Go p e below _ m T46 39 #[iv p0, iv p1, iv p2, iv p3, iv p4, iv p5, iv (1 : Int32), iv (0 : Int32), rv b45, rv b46, .unset, .unset, .unset, .unset] [(.int p0), (.int (0 : Int32)), (.ref b45)]
      obtain ⟨cl47, Ar47, q47, S47, M47, H47, G47⟩ := V_b45
      have hin47 : ¬ ((0 : Int32) < 0 ∨ cl47.slots.size ≤ ((0 : Int32)).toNatClampNeg) := inb_of S47 ⟨by decide, by decide⟩
      obtain ⟨T47, h47, X47, e47, W47, st47⟩ := stI X46 hx hZ e46 Ar47 (j := (0 : Int32)) hin47 (g := (mkF m 39 #[iv p0, iv p1, iv p2, iv p3, iv p4, iv p5, iv (1 : Int32), iv (0 : Int32), rv b45, rv b46, .unset, .unset, .unset, .unset] [(.int p0), (.int (0 : Int32)), (.ref b45)])) rfl rfl (hb hby at_39)
      have V_b45 : Arv Z h47 b45 k45 .int (1 : Int32) [(.int p0)] (.int (0 : Int32)) := Arv.set Ar47 q47 S47 M47 H47 G47 rfl W47 0 rfl (Nat.le_of_ble_eq_true rfl)
      replace S_DEFAULTCAPACITY_EMPTY_ELEMENTDATA := S_DEFAULTCAPACITY_EMPTY_ELEMENTDATA.wr W47
      replace E_b45 := E_b45.wr W47
      replace E_b46 := E_b46.wr W47
      replace V_b46 := V_b46.other W47 (Ne.symm ne_b45_b46)
      have Zz47 := Nat.le_trans Zz46 (Keep.of_wr W47).1
      have Kk47 := Kk46.wr W47 (Or.inr sz_b45)
      have N47 := Fr.snoc X47 N0 g_b45
      refine go st47 ?_
      show Go p e below _ m T47 40 #[iv p0, iv p1, iv p2, iv p3, iv p4, iv p5, iv (1 : Int32), iv (0 : Int32), rv b45, rv b46, .unset, .unset, .unset, .unset] []
      refine go (fun t kt => XS.iload X47.here hx rfl (hb hby at_40) rfl kt) ?_
      show Go p e below _ m T47 42 #[iv p0, iv p1, iv p2, iv p3, iv p4, iv p5, iv (1 : Int32), iv (0 : Int32), rv b45, rv b46, .unset, .unset, .unset, .unset] [(.int (1 : Int32))]
      refine go (fun t kt => XS.iconst X47.here hx rfl (hb hby at_42) kt) ?_
      show Go p e below _ m T47 43 #[iv p0, iv p1, iv p2, iv p3, iv p4, iv p5, iv (1 : Int32), iv (0 : Int32), rv b45, rv b46, .unset, .unset, .unset, .unset] [(.int (1 : Int32)), (.int (1 : Int32))]
      refine go (fun t kt => XS.icmpYes X47.here hx rfl (pc0 := 43) (pc' := 51) rfl (hb hby at_43) rfl (flt (by decide : ¬ ((1 : Int32) < (1 : Int32)))).2.2.2 (by decide) (by decide) kt) ?_
      show Go p e below _ m T47 51 #[iv p0, iv p1, iv p2, iv p3, iv p4, iv p5, iv (1 : Int32), iv (0 : Int32), rv b45, rv b46, .unset, .unset, .unset, .unset] []
      refine go (fun t kt => XS.iload X47.here hx rfl (hb hby at_51) rfl kt) ?_
      show Go p e below _ m T47 53 #[iv p0, iv p1, iv p2, iv p3, iv p4, iv p5, iv (1 : Int32), iv (0 : Int32), rv b45, rv b46, .unset, .unset, .unset, .unset] [(.int (0 : Int32))]
      refine go (fun t kt => XS.ifYes X47.here hx rfl (pc0 := 53) (pc' := 61) rfl (hb hby at_53) rfl ((if0 _ _).trans (flt (by decide : ¬ ((0 : Int32) < (0 : Int32)))).2.2.2) (by decide) (by decide) kt) ?_
      show Go p e below _ m T47 61 #[iv p0, iv p1, iv p2, iv p3, iv p4, iv p5, iv (1 : Int32), iv (0 : Int32), rv b45, rv b46, .unset, .unset, .unset, .unset] []
      refine go (fun t kt => XS.iload X47.here hx rfl (hb hby at_61) rfl kt) ?_
      show Go p e below _ m T47 63 #[iv p0, iv p1, iv p2, iv p3, iv p4, iv p5, iv (1 : Int32), iv (0 : Int32), rv b45, rv b46, .unset, .unset, .unset, .unset] [(.int (0 : Int32))]
      refine go (fun t kt => XS.iconst X47.here hx rfl (hb hby at_63) kt) ?_
      show Go p e below _ m T47 64 #[iv p0, iv p1, iv p2, iv p3, iv p4, iv p5, iv (1 : Int32), iv (0 : Int32), rv b45, rv b46, .unset, .unset, .unset, .unset] [(.int (1 : Int32)), (.int (0 : Int32))]
      refine go (fun t kt => XS.icmpYes X47.here hx rfl (pc0 := 64) (pc' := 72) rfl (hb hby at_64) rfl (flt (by decide : ¬ ((1 : Int32) < (0 : Int32)))).2.2.2 (by decide) (by decide) kt) ?_
      show Go p e below _ m T47 72 #[iv p0, iv p1, iv p2, iv p3, iv p4, iv p5, iv (1 : Int32), iv (0 : Int32), rv b45, rv b46, .unset, .unset, .unset, .unset] []
      obtain ⟨T48, h48, X48, e48, E48, A48, D48, -, st48⟩ := newO X47 hx hZ hown (hw _ (List.mem_of_getElem? (i := 1) rfl)) (hw _ (List.mem_of_getElem? (i := 2) rfl)) (hw _ (List.mem_of_getElem? (i := 3) rfl)) e47 (g := (mkF m 72 #[iv p0, iv p1, iv p2, iv p3, iv p4, iv p5, iv (1 : Int32), iv (0 : Int32), rv b45, rv b46, .unset, .unset, .unset, .unset] [])) rfl (hb hby at_72) (by decide) (by decide)
      obtain ⟨b48, g48⟩ : ∃ z, z = h47.size := ⟨_, rfl⟩
      rw [← g48] at A48 D48 st48
      have ne_b45_b48 : b45 ≠ b48 := Nat.ne_of_lt (Nat.lt_of_lt_of_le E_b45.lt (Nat.le_of_eq g48.symm))
      have ne_b46_b48 : b46 ≠ b48 := Nat.ne_of_lt (Nat.lt_of_lt_of_le E_b46.lt (Nat.le_of_eq g48.symm))
      have g_b48 : n0 ≤ b48 := Nat.le_trans Zz47 (Nat.le_of_eq g48.symm)
      have sz_b48 : h0.size ≤ b48 := Nat.le_trans Kk47.1 (Nat.le_of_eq g48.symm)
      replace S_DEFAULTCAPACITY_EMPTY_ELEMENTDATA := S_DEFAULTCAPACITY_EMPTY_ELEMENTDATA.ext E48
      replace E_b45 := E_b45.ext E48
      replace V_b45 := V_b45.ext E48
      replace E_b46 := E_b46.ext E48
      replace V_b46 := V_b46.ext E48
      have Zz48 := Nat.le_trans Zz47 E48.1
      have Kk48 := Kk47.ext E48
      have E_b48 := A48
      have F_names_b48 : Fld Z h48 b48 "com/example/anytime_arena/anytimearena/io/VariableTable" "names" "Ljava/util/List;" .null := D48 (Or.inr (hw _ (List.mem_of_getElem? (i := 35) rfl))) (ty := (.object "java/util/List")) (by decide)
      have F_types_b48 : Fld Z h48 b48 "com/example/anytime_arena/anytimearena/io/VariableTable" "types" "Ljava/util/List;" .null := D48 (Or.inr (hw _ (List.mem_of_getElem? (i := 37) rfl))) (ty := (.object "java/util/List")) (by decide)
      have F_owners_b48 : Fld Z h48 b48 "com/example/anytime_arena/anytimearena/io/VariableTable" "owners" "Ljava/util/List;" .null := D48 (Or.inr (hw _ (List.mem_of_getElem? (i := 39) rfl))) (ty := (.object "java/util/List")) (by decide)
      have F_slots_b48 : Fld Z h48 b48 "com/example/anytime_arena/anytimearena/io/VariableTable" "slots" "Ljava/util/Map;" .null := D48 (Or.inr (hw _ (List.mem_of_getElem? (i := 57) rfl))) (ty := (.object "java/util/Map")) (by decide)
      have F_low_b48 : Fld Z h48 b48 "com/example/anytime_arena/anytimearena/io/VariableTable" "low" "[I" .null := D48 (Or.inl (hw _ (List.mem_of_getElem? (i := 59) rfl))) (ty := (.array .int)) (by decide)
      have F_high_b48 : Fld Z h48 b48 "com/example/anytime_arena/anytimearena/io/VariableTable" "high" "[I" .null := D48 (Or.inl (hw _ (List.mem_of_getElem? (i := 61) rfl))) (ty := (.array .int)) (by decide)
      refine go st48 ?_
      show Go p e below _ m T48 75 #[iv p0, iv p1, iv p2, iv p3, iv p4, iv p5, iv (1 : Int32), iv (0 : Int32), rv b45, rv b46, .unset, .unset, .unset, .unset] [(.ref b48)]
      refine go (fun t kt => XS.dup X48.here hx rfl (hb hby at_75) rfl rfl kt) ?_
      show Go p e below _ m T48 76 #[iv p0, iv p1, iv p2, iv p3, iv p4, iv p5, iv (1 : Int32), iv (0 : Int32), rv b45, rv b46, .unset, .unset, .unset, .unset] [(.ref b48), (.ref b48)]
      obtain ⟨_, _, ⟨T49, L49, k49, n49⟩, -, X49, ⟨Lc49, hQ49, l49, y49, z49⟩, st49⟩ := X48.specialBack hx (y := (⟨"com/example/anytime_arena/anytimearena/io/VariableTable", "<init>", "()V"⟩ : MethodName)) rfl hown (mvT hZ (hw _ (List.mem_of_getElem? (i := 4) rfl))) (mvT hZ (hw _ (List.mem_of_getElem? (i := 5) rfl))) (mvT hZ (hw _ (List.mem_of_getElem? (i := 6) rfl))) (by decide) (backOf (W := 1) (rm1 l Z a0 hw [] b48 .null .null .null .null .null .null sd h48 n0 Zz48 E_b48 F_names_b48 F_types_b48 F_owners_b48 F_slots_b48 F_low_b48 F_high_b48 S_DEFAULTCAPACITY_EMPTY_ELEMENTDATA g_b48) hZ (hw _ (List.mem_of_getElem? (i := 6) rfl)) (hw _ (List.mem_of_getElem? (i := 3) rfl)) (by decide) (by decide)) (g := (mkF m 76 #[iv p0, iv p1, iv p2, iv p3, iv p4, iv p5, iv (1 : Int32), iv (0 : Int32), rv b45, rv b46, .unset, .unset, .unset, .unset] [(.ref b48), (.ref b48)])) rfl (by rw [hml]; rfl) (Steps.refl _) (a := b48) (argsL := []) (rest := [(.ref b48)]) (lenOf pd_0 rfl) rfl (by show 2 * 0 + _ ≤ _; exact Nat.le_of_eq rfl) (hb hby at_76) (fun _ _ => ⟨rfl, e48, (by decide : 3 + 6 ≤ _), (by decide : 7 + 17 ≤ _)⟩)
      dsimp only [Pt.U, Pt.locs, Pt.cells, Pt.slots] at X49 l49 y49 z49 st49 hQ49
      subst l49 y49 z49
      obtain ⟨rfl, Nq49, Kq49, Eq49, ⟨ul49, Fl49⟩, ⟨uh49, Fh49⟩⟩ := hQ49
      replace S_DEFAULTCAPACITY_EMPTY_ELEMENTDATA := own_sta_keep S_DEFAULTCAPACITY_EMPTY_ELEMENTDATA E_b48 Kq49
      replace E_b45 := E_b45.keep Kq49
      replace V_b45 := V_b45.keep Kq49 (ninS ne_b45_b48 nin0)
      replace E_b46 := E_b46.keep Kq49
      replace V_b46 := V_b46.keep Kq49 (ninS ne_b46_b48 nin0)
      replace E_b48 := E_b48.keep Kq49
      clear F_names_b48
      clear F_types_b48
      clear F_owners_b48
      clear F_slots_b48
      clear F_low_b48
      clear F_high_b48
      have Zz49 := Nat.le_trans Zz48 Kq49.1
      have Kk49 := Kk48.trans Kq49 (allS (Or.inr sz_b48) all0)
      have E_b48 := Eq49
      have F_low_b48 := Fl49
      have F_high_b48 := Fh49
      have N49 := Fr.app N47 Nq49
      refine go (fun t kt => st49.trans kt) ?_
      show Go p e below _ m T49 79 #[iv p0, iv p1, iv p2, iv p3, iv p4, iv p5, iv (1 : Int32), iv (0 : Int32), rv b45, rv b46, .unset, .unset, .unset, .unset] [(.ref b48)]
      refine go (fun t kt => XS.astore X49.here hx rfl (hb hby at_79) rfl rfl (l' := #[iv p0, iv p1, iv p2, iv p3, iv p4, iv p5, iv (1 : Int32), iv (0 : Int32), rv b45, rv b46, rv b48, .unset, .unset, .unset]) rfl kt) ?_
      show Go p e below _ m T49 81 #[iv p0, iv p1, iv p2, iv p3, iv p4, iv p5, iv (1 : Int32), iv (0 : Int32), rv b45, rv b46, rv b48, .unset, .unset, .unset] []
      refine go (fun t kt => XS.aload X49.here hx rfl (hb hby at_81) rfl rfl kt) ?_
      show Go p e below _ m T49 83 #[iv p0, iv p1, iv p2, iv p3, iv p4, iv p5, iv (1 : Int32), iv (0 : Int32), rv b45, rv b46, rv b48, .unset, .unset, .unset] [(.ref b48)]
      refine go (fun t kt => XS.aload X49.here hx rfl (hb hby at_83) rfl rfl kt) ?_
      show Go p e below _ m T49 85 #[iv p0, iv p1, iv p2, iv p3, iv p4, iv p5, iv (1 : Int32), iv (0 : Int32), rv b45, rv b46, rv b48, .unset, .unset, .unset] [(.ref b46), (.ref b48)]
      refine go (fun t kt => XS.aload X49.here hx rfl (hb hby at_85) rfl rfl kt) ?_
      show Go p e below _ m T49 87 #[iv p0, iv p1, iv p2, iv p3, iv p4, iv p5, iv (1 : Int32), iv (0 : Int32), rv b45, rv b46, rv b48, .unset, .unset, .unset] [(.ref b45), (.ref b46), (.ref b48)]
      obtain ⟨cq50, kq50, q50a, q50b, q50c⟩ := isOf hZ rfl E_b48
      obtain ⟨_, _, ⟨T50, L50, k50, n50⟩, -, X50, ⟨Lc50, hQ50, l50, y50, z50⟩, st50⟩ := X49.virtualBack hx (y := (⟨"com/example/anytime_arena/anytimearena/io/VariableTable", "setRanges", "([I[I)V"⟩ : MethodName)) (z := (⟨"com/example/anytime_arena/anytimearena/io/VariableTable", "setRanges", "([I[I)V"⟩ : MethodName)) hown (mvT hZ (hw _ (List.mem_of_getElem? (i := 62) rfl))) (mvT hZ (hw _ (List.mem_of_getElem? (i := 63) rfl))) (notFace_of_selects (args := #[]) (mvT hZ (hw _ (List.mem_of_getElem? (i := 65) rfl)))) (mvT hZ (hw _ (List.mem_of_getElem? (i := 65) rfl))) (mvT hZ (hw _ (List.mem_of_getElem? (i := 64) rfl))) (by decide) (backOf (W := 0) (rm8 l Z a0 hw [] b48 b46 b45 ul49 uh49 k46 (0 : Int32) [] k45 (1 : Int32) [(.int p0)] T49.heap n0 Zz49 E_b48 F_low_b48 F_high_b48 E_b46 V_b46 E_b45 V_b45 (Ne.symm ne_b46_b48) (Ne.symm ne_b45_b48) g_b48 (by decide) (by decide)) hZ (hw _ (List.mem_of_getElem? (i := 66) rfl)) (hw _ (List.mem_of_getElem? (i := 3) rfl)) (by decide) (by decide)) q50a q50c (g := (mkF m 87 #[iv p0, iv p1, iv p2, iv p3, iv p4, iv p5, iv (1 : Int32), iv (0 : Int32), rv b45, rv b46, rv b48, .unset, .unset, .unset] [(.ref b45), (.ref b46), (.ref b48)])) rfl (by rw [hml]; rfl) (Steps.refl _) (argsL := [(.ref b46), (.ref b45)]) (rest := []) (lenOf pd_1 rfl) rfl (by show 2 * 0 + _ ≤ _; exact Nat.le_of_eq rfl) (hb hby at_87) (fun _ _ => ⟨rfl, rfl, (by decide : 9 + 2 ≤ _), (by decide : 24 + 4 ≤ _)⟩)
      dsimp only [Pt.U, Pt.locs, Pt.cells, Pt.slots] at X50 l50 y50 z50 st50 hQ50
      subst l50 y50 z50
      obtain ⟨rfl, Nq50, Kq50, Eq50, c50, d50, lc50, ld50, ne_c50_d50, Fl50, Fh50, Ec50, Vc50, Ed50, Vd50⟩ := hQ50
      have ne_b45_c50 : b45 ≠ c50 := Nat.ne_of_lt (Nat.lt_of_lt_of_le E_b45.lt lc50)
      have ne_b46_c50 : b46 ≠ c50 := Nat.ne_of_lt (Nat.lt_of_lt_of_le E_b46.lt lc50)
      have ne_b48_c50 : b48 ≠ c50 := Nat.ne_of_lt (Nat.lt_of_lt_of_le E_b48.lt lc50)
      have g_c50 : n0 ≤ c50 := Nat.le_trans Zz49 lc50
      have sz_c50 : h0.size ≤ c50 := Nat.le_trans Kk49.1 lc50
      have ne_b45_d50 : b45 ≠ d50 := Nat.ne_of_lt (Nat.lt_of_lt_of_le E_b45.lt ld50)
      have ne_b46_d50 : b46 ≠ d50 := Nat.ne_of_lt (Nat.lt_of_lt_of_le E_b46.lt ld50)
      have ne_b48_d50 : b48 ≠ d50 := Nat.ne_of_lt (Nat.lt_of_lt_of_le E_b48.lt ld50)
      have g_d50 : n0 ≤ d50 := Nat.le_trans Zz49 ld50
      have sz_d50 : h0.size ≤ d50 := Nat.le_trans Kk49.1 ld50
      replace S_DEFAULTCAPACITY_EMPTY_ELEMENTDATA := own_sta_keep S_DEFAULTCAPACITY_EMPTY_ELEMENTDATA E_b48 Kq50
      replace E_b45 := E_b45.keep Kq50
      replace V_b45 := V_b45.keep Kq50 (ninS ne_b45_b48 nin0)
      replace E_b46 := E_b46.keep Kq50
      replace V_b46 := V_b46.keep Kq50 (ninS ne_b46_b48 nin0)
      replace E_b48 := E_b48.keep Kq50
      clear F_low_b48
      clear F_high_b48
      have Zz50 := Nat.le_trans Zz49 Kq50.1
      have Kk50 := Kk49.trans Kq50 (allS (Or.inr sz_b48) all0)
      have E_b48 := Eq50
      have F_low_b48 := Fl50
      have F_high_b48 := Fh50
      have E_c50 := Ec50
      have V_c50 := Vc50
      have E_d50 := Ed50
      have V_d50 := Vd50
      have N50 := Fr.app N49 Nq50
      refine go (fun t kt => st50.trans kt) ?_
      show Go p e below _ m T50 90 #[iv p0, iv p1, iv p2, iv p3, iv p4, iv p5, iv (1 : Int32), iv (0 : Int32), rv b45, rv b46, rv b48, .unset, .unset, .unset] []
      refine go (fun t kt => XS.aload X50.here hx rfl (hb hby at_90) rfl rfl kt) ?_
      show Go p e below _ m T50 92 #[iv p0, iv p1, iv p2, iv p3, iv p4, iv p5, iv (1 : Int32), iv (0 : Int32), rv b45, rv b46, rv b48, .unset, .unset, .unset] [(.ref b48)]
      refine go (fun t kt => XS.aload X50.here hx rfl (hb hby at_92) rfl rfl kt) ?_
      show Go p e below _ m T50 94 #[iv p0, iv p1, iv p2, iv p3, iv p4, iv p5, iv (1 : Int32), iv (0 : Int32), rv b45, rv b46, rv b48, .unset, .unset, .unset] [(.ref b45), (.ref b48)]
      refine go (fun t kt => XS.aload X50.here hx rfl (hb hby at_94) rfl rfl kt) ?_
      show Go p e below _ m T50 96 #[iv p0, iv p1, iv p2, iv p3, iv p4, iv p5, iv (1 : Int32), iv (0 : Int32), rv b45, rv b46, rv b48, .unset, .unset, .unset] [(.ref b46), (.ref b45), (.ref b48)]
      obtain ⟨cq51, kq51, q51a, q51b, q51c⟩ := isOf hZ rfl E_b48
      obtain ⟨_, _, ⟨T51, L51, k51, n51⟩, -, X51, ⟨Lc51, hQ51, l51, y51, z51⟩, st51⟩ := X50.virtualBack hx (y := (⟨"com/example/anytime_arena/anytimearena/io/VariableTable", "setRanges", "([I[I)V"⟩ : MethodName)) (z := (⟨"com/example/anytime_arena/anytimearena/io/VariableTable", "setRanges", "([I[I)V"⟩ : MethodName)) hown (mvT hZ (hw _ (List.mem_of_getElem? (i := 62) rfl))) (mvT hZ (hw _ (List.mem_of_getElem? (i := 63) rfl))) (notFace_of_selects (args := #[]) (mvT hZ (hw _ (List.mem_of_getElem? (i := 65) rfl)))) (mvT hZ (hw _ (List.mem_of_getElem? (i := 65) rfl))) (mvT hZ (hw _ (List.mem_of_getElem? (i := 64) rfl))) (by decide) (backOf (W := 0) (rm8 l Z a0 hw [] b48 b45 b46 (.ref c50) (.ref d50) k45 (1 : Int32) [(.int p0)] k46 (0 : Int32) [] T50.heap n0 Zz50 E_b48 F_low_b48 F_high_b48 E_b45 V_b45 E_b46 V_b46 (Ne.symm ne_b45_b48) (Ne.symm ne_b46_b48) g_b48 (by decide) (by decide)) hZ (hw _ (List.mem_of_getElem? (i := 66) rfl)) (hw _ (List.mem_of_getElem? (i := 3) rfl)) (by decide) (by decide)) q51a q51c (g := (mkF m 96 #[iv p0, iv p1, iv p2, iv p3, iv p4, iv p5, iv (1 : Int32), iv (0 : Int32), rv b45, rv b46, rv b48, .unset, .unset, .unset] [(.ref b46), (.ref b45), (.ref b48)])) rfl (by rw [hml]; rfl) (Steps.refl _) (argsL := [(.ref b45), (.ref b46)]) (rest := []) (lenOf pd_1 rfl) rfl (by show 2 * 0 + _ ≤ _; exact Nat.le_of_eq rfl) (hb hby at_96) (fun _ _ => ⟨rfl, rfl, (by decide : 11 + 2 ≤ _), (by decide : 28 + 4 ≤ _)⟩)
      dsimp only [Pt.U, Pt.locs, Pt.cells, Pt.slots] at X51 l51 y51 z51 st51 hQ51
      subst l51 y51 z51
      obtain ⟨rfl, Nq51, Kq51, Eq51, c51, d51, lc51, ld51, ne_c51_d51, Fl51, Fh51, Ec51, Vc51, Ed51, Vd51⟩ := hQ51
      have ne_b45_c51 : b45 ≠ c51 := Nat.ne_of_lt (Nat.lt_of_lt_of_le E_b45.lt lc51)
      have ne_b46_c51 : b46 ≠ c51 := Nat.ne_of_lt (Nat.lt_of_lt_of_le E_b46.lt lc51)
      have ne_b48_c51 : b48 ≠ c51 := Nat.ne_of_lt (Nat.lt_of_lt_of_le E_b48.lt lc51)
      have ne_c50_c51 : c50 ≠ c51 := Nat.ne_of_lt (Nat.lt_of_lt_of_le E_c50.lt lc51)
      have ne_d50_c51 : d50 ≠ c51 := Nat.ne_of_lt (Nat.lt_of_lt_of_le E_d50.lt lc51)
      have g_c51 : n0 ≤ c51 := Nat.le_trans Zz50 lc51
      have sz_c51 : h0.size ≤ c51 := Nat.le_trans Kk50.1 lc51
      have ne_b45_d51 : b45 ≠ d51 := Nat.ne_of_lt (Nat.lt_of_lt_of_le E_b45.lt ld51)
      have ne_b46_d51 : b46 ≠ d51 := Nat.ne_of_lt (Nat.lt_of_lt_of_le E_b46.lt ld51)
      have ne_b48_d51 : b48 ≠ d51 := Nat.ne_of_lt (Nat.lt_of_lt_of_le E_b48.lt ld51)
      have ne_c50_d51 : c50 ≠ d51 := Nat.ne_of_lt (Nat.lt_of_lt_of_le E_c50.lt ld51)
      have ne_d50_d51 : d50 ≠ d51 := Nat.ne_of_lt (Nat.lt_of_lt_of_le E_d50.lt ld51)
      have g_d51 : n0 ≤ d51 := Nat.le_trans Zz50 ld51
      have sz_d51 : h0.size ≤ d51 := Nat.le_trans Kk50.1 ld51
      replace S_DEFAULTCAPACITY_EMPTY_ELEMENTDATA := own_sta_keep S_DEFAULTCAPACITY_EMPTY_ELEMENTDATA E_b48 Kq51
      replace E_b45 := E_b45.keep Kq51
      replace V_b45 := V_b45.keep Kq51 (ninS ne_b45_b48 nin0)
      replace E_b46 := E_b46.keep Kq51
      replace V_b46 := V_b46.keep Kq51 (ninS ne_b46_b48 nin0)
      replace E_b48 := E_b48.keep Kq51
      clear F_low_b48
      clear F_high_b48
      replace E_c50 := E_c50.keep Kq51
      replace V_c50 := V_c50.keep Kq51 (ninS (Ne.symm ne_b48_c50) nin0)
      replace E_d50 := E_d50.keep Kq51
      replace V_d50 := V_d50.keep Kq51 (ninS (Ne.symm ne_b48_d50) nin0)
      have Zz51 := Nat.le_trans Zz50 Kq51.1
      have Kk51 := Kk50.trans Kq51 (allS (Or.inr sz_b48) all0)
      have E_b48 := Eq51
      have F_low_b48 := Fl51
      have F_high_b48 := Fh51
      have E_c51 := Ec51
      have V_c51 := Vc51
      have E_d51 := Ed51
      have V_d51 := Vd51
      have N51 := Fr.app N50 Nq51
      refine go (fun t kt => st51.trans kt) ?_
      show Go p e below _ m T51 99 #[iv p0, iv p1, iv p2, iv p3, iv p4, iv p5, iv (1 : Int32), iv (0 : Int32), rv b45, rv b46, rv b48, .unset, .unset, .unset] []
      refine go (fun t kt => XS.iload X51.here hx rfl (hb hby at_99) rfl kt) ?_
      show Go p e below _ m T51 101 #[iv p0, iv p1, iv p2, iv p3, iv p4, iv p5, iv (1 : Int32), iv (0 : Int32), rv b45, rv b46, rv b48, .unset, .unset, .unset] [(.int (1 : Int32))]
      refine go (fun t kt => XS.ifNo X51.here hx rfl (hb hby at_101) rfl ((if0 _ _).trans (tlt (by decide : ((0 : Int32) < (1 : Int32)))).2.2.2) kt) ?_
      show Go p e below _ m T51 104 #[iv p0, iv p1, iv p2, iv p3, iv p4, iv p5, iv (1 : Int32), iv (0 : Int32), rv b45, rv b46, rv b48, .unset, .unset, .unset] []
      refine go (fun t kt => XS.aload X51.here hx rfl (hb hby at_104) rfl rfl kt) ?_
      show Go p e below _ m T51 106 #[iv p0, iv p1, iv p2, iv p3, iv p4, iv p5, iv (1 : Int32), iv (0 : Int32), rv b45, rv b46, rv b48, .unset, .unset, .unset] [(.ref b45)]
      refine go (fun t kt => XS.iconst X51.here hx rfl (hb hby at_106) kt) ?_
      show Go p e below _ m T51 107 #[iv p0, iv p1, iv p2, iv p3, iv p4, iv p5, iv (1 : Int32), iv (0 : Int32), rv b45, rv b46, rv b48, .unset, .unset, .unset] [(.int (0 : Int32)), (.ref b45)]
      refine go (fun t kt => XS.iloadN X51.here hx rfl (hb hby at_107) rfl kt) ?_
      show Go p e below _ m T51 108 #[iv p0, iv p1, iv p2, iv p3, iv p4, iv p5, iv (1 : Int32), iv (0 : Int32), rv b45, rv b46, rv b48, .unset, .unset, .unset] [(.int p0), (.int (0 : Int32)), (.ref b45)]
      refine go (fun t kt => XS.iconst X51.here hx rfl (hb hby at_108) kt) ?_
      show Go p e below _ m T51 109 #[iv p0, iv p1, iv p2, iv p3, iv p4, iv p5, iv (1 : Int32), iv (0 : Int32), rv b45, rv b46, rv b48, .unset, .unset, .unset] [(.int (-1 : Int32)), (.int p0), (.int (0 : Int32)), (.ref b45)]
      refine go (fun t kt => XS.ixor X51.here hx rfl (hb hby at_109) rfl kt) ?_
      show Go p e below _ m T51 110 #[iv p0, iv p1, iv p2, iv p3, iv p4, iv p5, iv (1 : Int32), iv (0 : Int32), rv b45, rv b46, rv b48, .unset, .unset, .unset] [(.int (p0 ^^^ (-1 : Int32))), (.int (0 : Int32)), (.ref b45)]
      obtain ⟨cl52, Ar52, q52, S52, M52, H52, G52⟩ := V_b45
      have hin52 : ¬ ((0 : Int32) < 0 ∨ cl52.slots.size ≤ ((0 : Int32)).toNatClampNeg) := inb_of S52 ⟨by decide, by decide⟩
      obtain ⟨T52, h52, X52, e52, W52, st52⟩ := stI X51 hx hZ rfl Ar52 (j := (0 : Int32)) hin52 (g := (mkF m 110 #[iv p0, iv p1, iv p2, iv p3, iv p4, iv p5, iv (1 : Int32), iv (0 : Int32), rv b45, rv b46, rv b48, .unset, .unset, .unset] [(.int (p0 ^^^ (-1 : Int32))), (.int (0 : Int32)), (.ref b45)])) rfl rfl (hb hby at_110)
      have V_b45 : Arv Z h52 b45 k45 .int (1 : Int32) [(.int (p0 ^^^ (-1 : Int32)))] (.int (0 : Int32)) := Arv.set Ar52 q52 S52 M52 H52 G52 rfl W52 0 rfl (Nat.le_of_ble_eq_true rfl)
      replace S_DEFAULTCAPACITY_EMPTY_ELEMENTDATA := S_DEFAULTCAPACITY_EMPTY_ELEMENTDATA.wr W52
      replace E_b45 := E_b45.wr W52
      replace E_b46 := E_b46.wr W52
      replace V_b46 := V_b46.other W52 (Ne.symm ne_b45_b46)
      replace E_b48 := E_b48.wr W52
      replace E_c50 := E_c50.wr W52
      replace V_c50 := V_c50.other W52 (Ne.symm ne_b45_c50)
      replace E_d50 := E_d50.wr W52
      replace V_d50 := V_d50.other W52 (Ne.symm ne_b45_d50)
      replace F_low_b48 := F_low_b48.other W52 (Or.inl (Ne.symm ne_b45_b48))
      replace F_high_b48 := F_high_b48.other W52 (Or.inl (Ne.symm ne_b45_b48))
      replace E_c51 := E_c51.wr W52
      replace V_c51 := V_c51.other W52 (Ne.symm ne_b45_c51)
      replace E_d51 := E_d51.wr W52
      replace V_d51 := V_d51.other W52 (Ne.symm ne_b45_d51)
      have Zz52 := Nat.le_trans Zz51 (Keep.of_wr W52).1
      have Kk52 := Kk51.wr W52 (Or.inr sz_b45)
      have N52 := Fr.snoc X52 N51 g_b45
      refine go st52 ?_
      show Go p e below _ m T52 111 #[iv p0, iv p1, iv p2, iv p3, iv p4, iv p5, iv (1 : Int32), iv (0 : Int32), rv b45, rv b46, rv b48, .unset, .unset, .unset] []
      refine go (fun t kt => XS.iload X52.here hx rfl (hb hby at_111) rfl kt) ?_
      show Go p e below _ m T52 113 #[iv p0, iv p1, iv p2, iv p3, iv p4, iv p5, iv (1 : Int32), iv (0 : Int32), rv b45, rv b46, rv b48, .unset, .unset, .unset] [(.int (1 : Int32))]
      refine go (fun t kt => XS.iconst X52.here hx rfl (hb hby at_113) kt) ?_
      show Go p e below _ m T52 114 #[iv p0, iv p1, iv p2, iv p3, iv p4, iv p5, iv (1 : Int32), iv (0 : Int32), rv b45, rv b46, rv b48, .unset, .unset, .unset] [(.int (1 : Int32)), (.int (1 : Int32))]
      refine go (fun t kt => XS.icmpYes X52.here hx rfl (pc0 := 114) (pc' := 124) rfl (hb hby at_114) rfl (flt (by decide : ¬ ((1 : Int32) < (1 : Int32)))).2.2.2 (by decide) (by decide) kt) ?_
      show Go p e below _ m T52 124 #[iv p0, iv p1, iv p2, iv p3, iv p4, iv p5, iv (1 : Int32), iv (0 : Int32), rv b45, rv b46, rv b48, .unset, .unset, .unset] []
      refine go (fun t kt => XS.iload X52.here hx rfl (hb hby at_124) rfl kt) ?_
      show Go p e below _ m T52 126 #[iv p0, iv p1, iv p2, iv p3, iv p4, iv p5, iv (1 : Int32), iv (0 : Int32), rv b45, rv b46, rv b48, .unset, .unset, .unset] [(.int (0 : Int32))]
      refine go (fun t kt => XS.ifYes X52.here hx rfl (pc0 := 126) (pc' := 136) rfl (hb hby at_126) rfl ((if0 _ _).trans (flt (by decide : ¬ ((0 : Int32) < (0 : Int32)))).2.2.2) (by decide) (by decide) kt) ?_
      show Go p e below _ m T52 136 #[iv p0, iv p1, iv p2, iv p3, iv p4, iv p5, iv (1 : Int32), iv (0 : Int32), rv b45, rv b46, rv b48, .unset, .unset, .unset] []
      refine go (fun t kt => XS.iload X52.here hx rfl (hb hby at_136) rfl kt) ?_
      show Go p e below _ m T52 138 #[iv p0, iv p1, iv p2, iv p3, iv p4, iv p5, iv (1 : Int32), iv (0 : Int32), rv b45, rv b46, rv b48, .unset, .unset, .unset] [(.int (0 : Int32))]
      refine go (fun t kt => XS.iconst X52.here hx rfl (hb hby at_138) kt) ?_
      show Go p e below _ m T52 139 #[iv p0, iv p1, iv p2, iv p3, iv p4, iv p5, iv (1 : Int32), iv (0 : Int32), rv b45, rv b46, rv b48, .unset, .unset, .unset] [(.int (1 : Int32)), (.int (0 : Int32))]
      refine go (fun t kt => XS.icmpYes X52.here hx rfl (pc0 := 139) (pc' := 149) rfl (hb hby at_139) rfl (flt (by decide : ¬ ((1 : Int32) < (0 : Int32)))).2.2.2 (by decide) (by decide) kt) ?_
      show Go p e below _ m T52 149 #[iv p0, iv p1, iv p2, iv p3, iv p4, iv p5, iv (1 : Int32), iv (0 : Int32), rv b45, rv b46, rv b48, .unset, .unset, .unset] []
      refine go (fun t kt => XS.aload X52.here hx rfl (hb hby at_149) rfl rfl kt) ?_
      show Go p e below _ m T52 151 #[iv p0, iv p1, iv p2, iv p3, iv p4, iv p5, iv (1 : Int32), iv (0 : Int32), rv b45, rv b46, rv b48, .unset, .unset, .unset] [(.ref b48)]
      obtain ⟨cq53, kq53, q53a, q53b, q53c⟩ := isOf hZ e52 E_b48
      obtain ⟨_, _, ⟨T53, L53, k53, n53⟩, -, X53, ⟨Lc53, hQ53, l53, y53, z53⟩, st53⟩ := X52.virtualBack hx (y := (⟨"com/example/anytime_arena/anytimearena/io/VariableTable", "low", "()[I"⟩ : MethodName)) (z := (⟨"com/example/anytime_arena/anytimearena/io/VariableTable", "low", "()[I"⟩ : MethodName)) hown (mvT hZ (hw _ (List.mem_of_getElem? (i := 76) rfl))) (mvT hZ (hw _ (List.mem_of_getElem? (i := 77) rfl))) (notFace_of_selects (args := #[]) (mvT hZ (hw _ (List.mem_of_getElem? (i := 79) rfl)))) (mvT hZ (hw _ (List.mem_of_getElem? (i := 79) rfl))) (mvT hZ (hw _ (List.mem_of_getElem? (i := 78) rfl))) (by decide) (backOf (W := 0) (rm9 l Z a0 hw [] b48 c51 k45 (1 : Int32) [(.int p0)] h52 n0 Zz52 F_low_b48 E_c51 V_c51 (by decide)) hZ (hw _ (List.mem_of_getElem? (i := 80) rfl)) (hw _ (List.mem_of_getElem? (i := 3) rfl)) (by decide) (by decide)) q53a q53c (g := (mkF m 151 #[iv p0, iv p1, iv p2, iv p3, iv p4, iv p5, iv (1 : Int32), iv (0 : Int32), rv b45, rv b46, rv b48, .unset, .unset, .unset] [(.ref b48)])) rfl (by rw [hml]; rfl) (Steps.refl _) (argsL := []) (rest := []) (lenOf pd_2 rfl) rfl (by show 2 * 0 + _ ≤ _; exact Nat.le_of_eq rfl) (hb hby at_151) (fun _ _ => ⟨rfl, e52, (by decide : 13 + 1 ≤ _), (by decide : 32 + 2 ≤ _)⟩)
      dsimp only [Pt.U, Pt.locs, Pt.cells, Pt.slots] at X53 l53 y53 z53 st53 hQ53
      subst l53 y53 z53
      obtain ⟨b53, g53⟩ : ∃ z, z = h52.size := ⟨_, rfl⟩
      have ne_b45_b53 : b45 ≠ b53 := Nat.ne_of_lt (Nat.lt_of_lt_of_le E_b45.lt (Nat.le_of_eq g53.symm))
      have ne_b46_b53 : b46 ≠ b53 := Nat.ne_of_lt (Nat.lt_of_lt_of_le E_b46.lt (Nat.le_of_eq g53.symm))
      have ne_b48_b53 : b48 ≠ b53 := Nat.ne_of_lt (Nat.lt_of_lt_of_le E_b48.lt (Nat.le_of_eq g53.symm))
      have ne_c50_b53 : c50 ≠ b53 := Nat.ne_of_lt (Nat.lt_of_lt_of_le E_c50.lt (Nat.le_of_eq g53.symm))
      have ne_d50_b53 : d50 ≠ b53 := Nat.ne_of_lt (Nat.lt_of_lt_of_le E_d50.lt (Nat.le_of_eq g53.symm))
      have ne_c51_b53 : c51 ≠ b53 := Nat.ne_of_lt (Nat.lt_of_lt_of_le E_c51.lt (Nat.le_of_eq g53.symm))
      have ne_d51_b53 : d51 ≠ b53 := Nat.ne_of_lt (Nat.lt_of_lt_of_le E_d51.lt (Nat.le_of_eq g53.symm))
      have g_b53 : n0 ≤ b53 := Nat.le_trans Zz52 (Nat.le_of_eq g53.symm)
      have sz_b53 : h0.size ≤ b53 := Nat.le_trans Kk52.1 (Nat.le_of_eq g53.symm)
      obtain ⟨rfl, Nq53, Kq53, Eq53, Vq53⟩ := hQ53
      rw [← g53] at Eq53 Vq53 st53
      clear S_DEFAULTCAPACITY_EMPTY_ELEMENTDATA
      replace E_b45 := E_b45.keep Kq53
      replace V_b45 := V_b45.keep Kq53 nin0
      replace E_b46 := E_b46.keep Kq53
      replace V_b46 := V_b46.keep Kq53 nin0
      replace E_b48 := E_b48.keep Kq53
      replace E_c50 := E_c50.keep Kq53
      replace V_c50 := V_c50.keep Kq53 nin0
      replace E_d50 := E_d50.keep Kq53
      replace V_d50 := V_d50.keep Kq53 nin0
      replace F_low_b48 := F_low_b48.keep Kq53 nin0
      replace F_high_b48 := F_high_b48.keep Kq53 nin0
      replace E_c51 := E_c51.keep Kq53
      replace V_c51 := V_c51.keep Kq53 nin0
      replace E_d51 := E_d51.keep Kq53
      replace V_d51 := V_d51.keep Kq53 nin0
      have Zz53 := Nat.le_trans Zz52 Kq53.1
      have Kk53 := Kk52.trans Kq53 all0
      have E_b53 := Eq53
      have V_b53 := Vq53
      have N53 := Fr.app N52 Nq53
      refine go (fun t kt => st53.trans kt) ?_
      show Go p e below _ m T53 154 #[iv p0, iv p1, iv p2, iv p3, iv p4, iv p5, iv (1 : Int32), iv (0 : Int32), rv b45, rv b46, rv b48, .unset, .unset, .unset] [(.ref b53)]
      refine go (fun t kt => XS.astore X53.here hx rfl (hb hby at_154) rfl rfl (l' := #[iv p0, iv p1, iv p2, iv p3, iv p4, iv p5, iv (1 : Int32), iv (0 : Int32), rv b45, rv b46, rv b48, rv b53, .unset, .unset]) rfl kt) ?_
      show Go p e below _ m T53 156 #[iv p0, iv p1, iv p2, iv p3, iv p4, iv p5, iv (1 : Int32), iv (0 : Int32), rv b45, rv b46, rv b48, rv b53, .unset, .unset] []
      refine go (fun t kt => XS.aload X53.here hx rfl (hb hby at_156) rfl rfl kt) ?_
      show Go p e below _ m T53 158 #[iv p0, iv p1, iv p2, iv p3, iv p4, iv p5, iv (1 : Int32), iv (0 : Int32), rv b45, rv b46, rv b48, rv b53, .unset, .unset] [(.ref b48)]
      obtain ⟨cq54, kq54, q54a, q54b, q54c⟩ := isOf hZ rfl E_b48
      obtain ⟨_, _, ⟨T54, L54, k54, n54⟩, -, X54, ⟨Lc54, hQ54, l54, y54, z54⟩, st54⟩ := X53.virtualBack hx (y := (⟨"com/example/anytime_arena/anytimearena/io/VariableTable", "high", "()[I"⟩ : MethodName)) (z := (⟨"com/example/anytime_arena/anytimearena/io/VariableTable", "high", "()[I"⟩ : MethodName)) hown (mvT hZ (hw _ (List.mem_of_getElem? (i := 81) rfl))) (mvT hZ (hw _ (List.mem_of_getElem? (i := 82) rfl))) (notFace_of_selects (args := #[]) (mvT hZ (hw _ (List.mem_of_getElem? (i := 84) rfl)))) (mvT hZ (hw _ (List.mem_of_getElem? (i := 84) rfl))) (mvT hZ (hw _ (List.mem_of_getElem? (i := 83) rfl))) (by decide) (backOf (W := 0) (rm10 l Z a0 hw [] b48 d51 k46 (0 : Int32) [] T53.heap n0 Zz53 F_high_b48 E_d51 V_d51 (by decide)) hZ (hw _ (List.mem_of_getElem? (i := 85) rfl)) (hw _ (List.mem_of_getElem? (i := 3) rfl)) (by decide) (by decide)) q54a q54c (g := (mkF m 158 #[iv p0, iv p1, iv p2, iv p3, iv p4, iv p5, iv (1 : Int32), iv (0 : Int32), rv b45, rv b46, rv b48, rv b53, .unset, .unset] [(.ref b48)])) rfl (by rw [hml]; rfl) (Steps.refl _) (argsL := []) (rest := []) (lenOf pd_2 rfl) rfl (by show 2 * 0 + _ ≤ _; exact Nat.le_of_eq rfl) (hb hby at_158) (fun _ _ => ⟨rfl, rfl, (by decide : 14 + 1 ≤ _), (by decide : 34 + 2 ≤ _)⟩)
      dsimp only [Pt.U, Pt.locs, Pt.cells, Pt.slots] at X54 l54 y54 z54 st54 hQ54
      subst l54 y54 z54
      obtain ⟨b54, g54⟩ : ∃ z, z = T53.heap.size := ⟨_, rfl⟩
      have ne_b45_b54 : b45 ≠ b54 := Nat.ne_of_lt (Nat.lt_of_lt_of_le E_b45.lt (Nat.le_of_eq g54.symm))
      have ne_b46_b54 : b46 ≠ b54 := Nat.ne_of_lt (Nat.lt_of_lt_of_le E_b46.lt (Nat.le_of_eq g54.symm))
      have ne_b48_b54 : b48 ≠ b54 := Nat.ne_of_lt (Nat.lt_of_lt_of_le E_b48.lt (Nat.le_of_eq g54.symm))
      have ne_c50_b54 : c50 ≠ b54 := Nat.ne_of_lt (Nat.lt_of_lt_of_le E_c50.lt (Nat.le_of_eq g54.symm))
      have ne_d50_b54 : d50 ≠ b54 := Nat.ne_of_lt (Nat.lt_of_lt_of_le E_d50.lt (Nat.le_of_eq g54.symm))
      have ne_c51_b54 : c51 ≠ b54 := Nat.ne_of_lt (Nat.lt_of_lt_of_le E_c51.lt (Nat.le_of_eq g54.symm))
      have ne_d51_b54 : d51 ≠ b54 := Nat.ne_of_lt (Nat.lt_of_lt_of_le E_d51.lt (Nat.le_of_eq g54.symm))
      have ne_b53_b54 : b53 ≠ b54 := Nat.ne_of_lt (Nat.lt_of_lt_of_le E_b53.lt (Nat.le_of_eq g54.symm))
      have g_b54 : n0 ≤ b54 := Nat.le_trans Zz53 (Nat.le_of_eq g54.symm)
      have sz_b54 : h0.size ≤ b54 := Nat.le_trans Kk53.1 (Nat.le_of_eq g54.symm)
      obtain ⟨rfl, Nq54, Kq54, Eq54, Vq54⟩ := hQ54
      rw [← g54] at Eq54 Vq54 st54
      replace E_b45 := E_b45.keep Kq54
      replace V_b45 := V_b45.keep Kq54 nin0
      replace E_b46 := E_b46.keep Kq54
      replace V_b46 := V_b46.keep Kq54 nin0
      replace E_b48 := E_b48.keep Kq54
      replace E_c50 := E_c50.keep Kq54
      replace V_c50 := V_c50.keep Kq54 nin0
      replace E_d50 := E_d50.keep Kq54
      replace V_d50 := V_d50.keep Kq54 nin0
      replace F_low_b48 := F_low_b48.keep Kq54 nin0
      replace F_high_b48 := F_high_b48.keep Kq54 nin0
      replace E_c51 := E_c51.keep Kq54
      replace V_c51 := V_c51.keep Kq54 nin0
      replace E_d51 := E_d51.keep Kq54
      replace V_d51 := V_d51.keep Kq54 nin0
      replace E_b53 := E_b53.keep Kq54
      replace V_b53 := V_b53.keep Kq54 nin0
      have Zz54 := Nat.le_trans Zz53 Kq54.1
      have Kk54 := Kk53.trans Kq54 all0
      have E_b54 := Eq54
      have V_b54 := Vq54
      have N54 := Fr.app N53 Nq54
      refine go (fun t kt => st54.trans kt) ?_
      show Go p e below _ m T54 161 #[iv p0, iv p1, iv p2, iv p3, iv p4, iv p5, iv (1 : Int32), iv (0 : Int32), rv b45, rv b46, rv b48, rv b53, .unset, .unset] [(.ref b54)]
      refine go (fun t kt => XS.astore X54.here hx rfl (hb hby at_161) rfl rfl (l' := #[iv p0, iv p1, iv p2, iv p3, iv p4, iv p5, iv (1 : Int32), iv (0 : Int32), rv b45, rv b46, rv b48, rv b53, rv b54, .unset]) rfl kt) ?_
      show Go p e below _ m T54 163 #[iv p0, iv p1, iv p2, iv p3, iv p4, iv p5, iv (1 : Int32), iv (0 : Int32), rv b45, rv b46, rv b48, rv b53, rv b54, .unset] []
      refine go (fun t kt => XS.aload X54.here hx rfl (hb hby at_163) rfl rfl kt) ?_
      show Go p e below _ m T54 165 #[iv p0, iv p1, iv p2, iv p3, iv p4, iv p5, iv (1 : Int32), iv (0 : Int32), rv b45, rv b46, rv b48, rv b53, rv b54, .unset] [(.ref b53)]
      obtain ⟨cl55, Ar55, q55, S55, M55, H55, G55⟩ := id V_b53
      refine go (X54.arraylength hx Ar55.1 (State.isArrayOf_alike hZ.alike Ar55.2.1) (g := (mkF m 165 #[iv p0, iv p1, iv p2, iv p3, iv p4, iv p5, iv (1 : Int32), iv (0 : Int32), rv b45, rv b46, rv b48, rv b53, rv b54, .unset] [(.ref b53)])) rfl rfl (hb hby at_165)) ?_
      rw [len_of S55 M55]
      show Go p e below _ m T54 166 #[iv p0, iv p1, iv p2, iv p3, iv p4, iv p5, iv (1 : Int32), iv (0 : Int32), rv b45, rv b46, rv b48, rv b53, rv b54, .unset] [(.int (1 : Int32))]
      refine go (fun t kt => XS.iload X54.here hx rfl (hb hby at_166) rfl kt) ?_
      show Go p e below _ m T54 168 #[iv p0, iv p1, iv p2, iv p3, iv p4, iv p5, iv (1 : Int32), iv (0 : Int32), rv b45, rv b46, rv b48, rv b53, rv b54, .unset] [(.int (1 : Int32)), (.int (1 : Int32))]
      refine go (fun t kt => XS.icmpNo X54.here hx rfl (hb hby at_168) rfl (teq (by decide : ((1 : Int32) = (1 : Int32)))).2 kt) ?_
      show Go p e below _ m T54 171 #[iv p0, iv p1, iv p2, iv p3, iv p4, iv p5, iv (1 : Int32), iv (0 : Int32), rv b45, rv b46, rv b48, rv b53, rv b54, .unset] []
      refine go (fun t kt => XS.aload X54.here hx rfl (hb hby at_171) rfl rfl kt) ?_
      show Go p e below _ m T54 173 #[iv p0, iv p1, iv p2, iv p3, iv p4, iv p5, iv (1 : Int32), iv (0 : Int32), rv b45, rv b46, rv b48, rv b53, rv b54, .unset] [(.ref b54)]
      obtain ⟨cl56, Ar56, q56, S56, M56, H56, G56⟩ := id V_b54
      refine go (X54.arraylength hx Ar56.1 (State.isArrayOf_alike hZ.alike Ar56.2.1) (g := (mkF m 173 #[iv p0, iv p1, iv p2, iv p3, iv p4, iv p5, iv (1 : Int32), iv (0 : Int32), rv b45, rv b46, rv b48, rv b53, rv b54, .unset] [(.ref b54)])) rfl rfl (hb hby at_173)) ?_
      rw [len_of S56 M56]
      show Go p e below _ m T54 174 #[iv p0, iv p1, iv p2, iv p3, iv p4, iv p5, iv (1 : Int32), iv (0 : Int32), rv b45, rv b46, rv b48, rv b53, rv b54, .unset] [(.int (0 : Int32))]
      refine go (fun t kt => XS.iload X54.here hx rfl (hb hby at_174) rfl kt) ?_
      show Go p e below _ m T54 176 #[iv p0, iv p1, iv p2, iv p3, iv p4, iv p5, iv (1 : Int32), iv (0 : Int32), rv b45, rv b46, rv b48, rv b53, rv b54, .unset] [(.int (0 : Int32)), (.int (0 : Int32))]
      refine go (fun t kt => XS.icmpYes X54.here hx rfl (pc0 := 176) (pc' := 181) rfl (hb hby at_176) rfl (teq (by decide : ((0 : Int32) = (0 : Int32)))).1 (by decide) (by decide) kt) ?_
      show Go p e below _ m T54 181 #[iv p0, iv p1, iv p2, iv p3, iv p4, iv p5, iv (1 : Int32), iv (0 : Int32), rv b45, rv b46, rv b48, rv b53, rv b54, .unset] []
      refine go (fun t kt => XS.iconst X54.here hx rfl (hb hby at_181) kt) ?_
      show Go p e below _ m T54 182 #[iv p0, iv p1, iv p2, iv p3, iv p4, iv p5, iv (1 : Int32), iv (0 : Int32), rv b45, rv b46, rv b48, rv b53, rv b54, .unset] [(.int (1 : Int32))]
      refine go (fun t kt => XS.istore X54.here hx rfl (hb hby at_182) rfl (l' := #[iv p0, iv p1, iv p2, iv p3, iv p4, iv p5, iv (1 : Int32), iv (0 : Int32), rv b45, rv b46, rv b48, rv b53, rv b54, iv (1 : Int32)]) rfl kt) ?_
      show Go p e below _ m T54 184 #[iv p0, iv p1, iv p2, iv p3, iv p4, iv p5, iv (1 : Int32), iv (0 : Int32), rv b45, rv b46, rv b48, rv b53, rv b54, iv (1 : Int32)] []
      refine go (fun t kt => XS.iload X54.here hx rfl (hb hby at_184) rfl kt) ?_
      show Go p e below _ m T54 186 #[iv p0, iv p1, iv p2, iv p3, iv p4, iv p5, iv (1 : Int32), iv (0 : Int32), rv b45, rv b46, rv b48, rv b53, rv b54, iv (1 : Int32)] [(.int (1 : Int32))]
      refine go (fun t kt => XS.ifNo X54.here hx rfl (hb hby at_186) rfl ((if0 _ _).trans (tlt (by decide : ((0 : Int32) < (1 : Int32)))).2.2.2) kt) ?_
      show Go p e below _ m T54 189 #[iv p0, iv p1, iv p2, iv p3, iv p4, iv p5, iv (1 : Int32), iv (0 : Int32), rv b45, rv b46, rv b48, rv b53, rv b54, iv (1 : Int32)] []
      refine go (fun t kt => XS.iload X54.here hx rfl (hb hby at_189) rfl kt) ?_
      show Go p e below _ m T54 191 #[iv p0, iv p1, iv p2, iv p3, iv p4, iv p5, iv (1 : Int32), iv (0 : Int32), rv b45, rv b46, rv b48, rv b53, rv b54, iv (1 : Int32)] [(.int (1 : Int32))]
      refine go (fun t kt => XS.ifNo X54.here hx rfl (hb hby at_191) rfl ((if0 _ _).trans (feq (by decide : ¬ ((1 : Int32) = (0 : Int32)))).1) kt) ?_
      show Go p e below _ m T54 194 #[iv p0, iv p1, iv p2, iv p3, iv p4, iv p5, iv (1 : Int32), iv (0 : Int32), rv b45, rv b46, rv b48, rv b53, rv b54, iv (1 : Int32)] []
      refine go (fun t kt => XS.aload X54.here hx rfl (hb hby at_194) rfl rfl kt) ?_
      show Go p e below _ m T54 196 #[iv p0, iv p1, iv p2, iv p3, iv p4, iv p5, iv (1 : Int32), iv (0 : Int32), rv b45, rv b46, rv b48, rv b53, rv b54, iv (1 : Int32)] [(.ref b53)]
      refine go (fun t kt => XS.iconst X54.here hx rfl (hb hby at_196) kt) ?_
      show Go p e below _ m T54 197 #[iv p0, iv p1, iv p2, iv p3, iv p4, iv p5, iv (1 : Int32), iv (0 : Int32), rv b45, rv b46, rv b48, rv b53, rv b54, iv (1 : Int32)] [(.int (0 : Int32)), (.ref b53)]
      obtain ⟨cl57, Ar57, q57, S57, M57, H57, G57⟩ := id V_b53
      have hin57 : ¬ ((0 : Int32) < 0 ∨ cl57.slots.size ≤ ((0 : Int32)).toNatClampNeg) := inb_of S57 ⟨by decide, by decide⟩
      have hat57 : cl57.slots[((0 : Int32)).toNatClampNeg]? = some (.int p0) := H57.at hin57 rfl
      refine go (X54.iaload hx (j := (0 : Int32)) (v := (.int p0)) Ar57.1 (State.isArrayOf_alike hZ.alike Ar57.2.1) Ar57.2.2 hin57 hat57 (g := (mkF m 197 #[iv p0, iv p1, iv p2, iv p3, iv p4, iv p5, iv (1 : Int32), iv (0 : Int32), rv b45, rv b46, rv b48, rv b53, rv b54, iv (1 : Int32)] [(.int (0 : Int32)), (.ref b53)])) rfl rfl (hb hby at_197)) ?_
      show Go p e below _ m T54 198 #[iv p0, iv p1, iv p2, iv p3, iv p4, iv p5, iv (1 : Int32), iv (0 : Int32), rv b45, rv b46, rv b48, rv b53, rv b54, iv (1 : Int32)] [(.int p0)]
      refine go (fun t kt => XS.iloadN X54.here hx rfl (hb hby at_198) rfl kt) ?_
      show Go p e below _ m T54 199 #[iv p0, iv p1, iv p2, iv p3, iv p4, iv p5, iv (1 : Int32), iv (0 : Int32), rv b45, rv b46, rv b48, rv b53, rv b54, iv (1 : Int32)] [(.int p0), (.int p0)]
      refine go (fun t kt => XS.icmpNo X54.here hx rfl (hb hby at_199) rfl (teq (rfl : p0 = p0)).2 kt) ?_
      show Go p e below _ m T54 202 #[iv p0, iv p1, iv p2, iv p3, iv p4, iv p5, iv (1 : Int32), iv (0 : Int32), rv b45, rv b46, rv b48, rv b53, rv b54, iv (1 : Int32)] []
      refine go (fun t kt => XS.iconst X54.here hx rfl (hb hby at_202) kt) ?_
      show Go p e below _ m T54 203 #[iv p0, iv p1, iv p2, iv p3, iv p4, iv p5, iv (1 : Int32), iv (0 : Int32), rv b45, rv b46, rv b48, rv b53, rv b54, iv (1 : Int32)] [(.int (1 : Int32))]
      refine go (fun t kt => XS.goto X54.here hx rfl (pc0 := 203) (pc' := 207) rfl (hb hby at_203) (by decide) (by decide) kt) ?_
      show Go p e below _ m T54 207 #[iv p0, iv p1, iv p2, iv p3, iv p4, iv p5, iv (1 : Int32), iv (0 : Int32), rv b45, rv b46, rv b48, rv b53, rv b54, iv (1 : Int32)] [(.int (1 : Int32))]
      refine go (fun t kt => XS.istore X54.here hx rfl (hb hby at_207) rfl (l' := #[iv p0, iv p1, iv p2, iv p3, iv p4, iv p5, iv (1 : Int32), iv (0 : Int32), rv b45, rv b46, rv b48, rv b53, rv b54, iv (1 : Int32)]) rfl kt) ?_
      show Go p e below _ m T54 209 #[iv p0, iv p1, iv p2, iv p3, iv p4, iv p5, iv (1 : Int32), iv (0 : Int32), rv b45, rv b46, rv b48, rv b53, rv b54, iv (1 : Int32)] []
      refine go (fun t kt => XS.iload X54.here hx rfl (hb hby at_209) rfl kt) ?_
      show Go p e below _ m T54 211 #[iv p0, iv p1, iv p2, iv p3, iv p4, iv p5, iv (1 : Int32), iv (0 : Int32), rv b45, rv b46, rv b48, rv b53, rv b54, iv (1 : Int32)] [(.int (1 : Int32))]
      refine go (fun t kt => XS.iconst X54.here hx rfl (hb hby at_211) kt) ?_
      show Go p e below _ m T54 212 #[iv p0, iv p1, iv p2, iv p3, iv p4, iv p5, iv (1 : Int32), iv (0 : Int32), rv b45, rv b46, rv b48, rv b53, rv b54, iv (1 : Int32)] [(.int (1 : Int32)), (.int (1 : Int32))]
      refine go (fun t kt => XS.icmpYes X54.here hx rfl (pc0 := 212) (pc' := 235) rfl (hb hby at_212) rfl (flt (by decide : ¬ ((1 : Int32) < (1 : Int32)))).2.2.2 (by decide) (by decide) kt) ?_
      show Go p e below _ m T54 235 #[iv p0, iv p1, iv p2, iv p3, iv p4, iv p5, iv (1 : Int32), iv (0 : Int32), rv b45, rv b46, rv b48, rv b53, rv b54, iv (1 : Int32)] []
      refine go (fun t kt => XS.iload X54.here hx rfl (hb hby at_235) rfl kt) ?_
      show Go p e below _ m T54 237 #[iv p0, iv p1, iv p2, iv p3, iv p4, iv p5, iv (1 : Int32), iv (0 : Int32), rv b45, rv b46, rv b48, rv b53, rv b54, iv (1 : Int32)] [(.int (0 : Int32))]
      refine go (fun t kt => XS.ifYes X54.here hx rfl (pc0 := 237) (pc' := 260) rfl (hb hby at_237) rfl ((if0 _ _).trans (flt (by decide : ¬ ((0 : Int32) < (0 : Int32)))).2.2.2) (by decide) (by decide) kt) ?_
      show Go p e below _ m T54 260 #[iv p0, iv p1, iv p2, iv p3, iv p4, iv p5, iv (1 : Int32), iv (0 : Int32), rv b45, rv b46, rv b48, rv b53, rv b54, iv (1 : Int32)] []
      refine go (fun t kt => XS.iload X54.here hx rfl (hb hby at_260) rfl kt) ?_
      show Go p e below _ m T54 262 #[iv p0, iv p1, iv p2, iv p3, iv p4, iv p5, iv (1 : Int32), iv (0 : Int32), rv b45, rv b46, rv b48, rv b53, rv b54, iv (1 : Int32)] [(.int (0 : Int32))]
      refine go (fun t kt => XS.iconst X54.here hx rfl (hb hby at_262) kt) ?_
      show Go p e below _ m T54 263 #[iv p0, iv p1, iv p2, iv p3, iv p4, iv p5, iv (1 : Int32), iv (0 : Int32), rv b45, rv b46, rv b48, rv b53, rv b54, iv (1 : Int32)] [(.int (1 : Int32)), (.int (0 : Int32))]
      refine go (fun t kt => XS.icmpYes X54.here hx rfl (pc0 := 263) (pc' := 286) rfl (hb hby at_263) rfl (flt (by decide : ¬ ((1 : Int32) < (0 : Int32)))).2.2.2 (by decide) (by decide) kt) ?_
      show Go p e below _ m T54 286 #[iv p0, iv p1, iv p2, iv p3, iv p4, iv p5, iv (1 : Int32), iv (0 : Int32), rv b45, rv b46, rv b48, rv b53, rv b54, iv (1 : Int32)] []
      refine go (fun t kt => XS.iload X54.here hx rfl (hb hby at_286) rfl kt) ?_
      show Go p e below _ m T54 288 #[iv p0, iv p1, iv p2, iv p3, iv p4, iv p5, iv (1 : Int32), iv (0 : Int32), rv b45, rv b46, rv b48, rv b53, rv b54, iv (1 : Int32)] [(.int (1 : Int32))]
      refine go (fun t kt => XS.ifNo X54.here hx rfl (hb hby at_288) rfl ((if0 _ _).trans (tlt (by decide : ((0 : Int32) < (1 : Int32)))).2.2.2) kt) ?_
      show Go p e below _ m T54 291 #[iv p0, iv p1, iv p2, iv p3, iv p4, iv p5, iv (1 : Int32), iv (0 : Int32), rv b45, rv b46, rv b48, rv b53, rv b54, iv (1 : Int32)] []
      refine go (fun t kt => XS.iload X54.here hx rfl (hb hby at_291) rfl kt) ?_
      show Go p e below _ m T54 293 #[iv p0, iv p1, iv p2, iv p3, iv p4, iv p5, iv (1 : Int32), iv (0 : Int32), rv b45, rv b46, rv b48, rv b53, rv b54, iv (1 : Int32)] [(.int (0 : Int32))]
      refine go (fun t kt => XS.ifYes X54.here hx rfl (pc0 := 293) (pc' := 336) rfl (hb hby at_293) rfl ((if0 _ _).trans (flt (by decide : ¬ ((0 : Int32) < (0 : Int32)))).2.2.2) (by decide) (by decide) kt) ?_
      show Go p e below _ m T54 336 #[iv p0, iv p1, iv p2, iv p3, iv p4, iv p5, iv (1 : Int32), iv (0 : Int32), rv b45, rv b46, rv b48, rv b53, rv b54, iv (1 : Int32)] []
      refine go (fun t kt => XS.iload X54.here hx rfl (hb hby at_336) rfl kt) ?_
      show Go p e below _ m T54 338 #[iv p0, iv p1, iv p2, iv p3, iv p4, iv p5, iv (1 : Int32), iv (0 : Int32), rv b45, rv b46, rv b48, rv b53, rv b54, iv (1 : Int32)] [(.int (1 : Int32))]
      refine go (fun t kt => XS.iconst X54.here hx rfl (hb hby at_338) kt) ?_
      show Go p e below _ m T54 339 #[iv p0, iv p1, iv p2, iv p3, iv p4, iv p5, iv (1 : Int32), iv (0 : Int32), rv b45, rv b46, rv b48, rv b53, rv b54, iv (1 : Int32)] [(.int (1 : Int32)), (.int (1 : Int32))]
      refine go (fun t kt => XS.icmpYes X54.here hx rfl (pc0 := 339) (pc' := 388) rfl (hb hby at_339) rfl (flt (by decide : ¬ ((1 : Int32) < (1 : Int32)))).2.2.2 (by decide) (by decide) kt) ?_
      show Go p e below _ m T54 388 #[iv p0, iv p1, iv p2, iv p3, iv p4, iv p5, iv (1 : Int32), iv (0 : Int32), rv b45, rv b46, rv b48, rv b53, rv b54, iv (1 : Int32)] []
      refine go (fun t kt => XS.iload X54.here hx rfl (hb hby at_388) rfl kt) ?_
      show Go p e below _ m T54 390 #[iv p0, iv p1, iv p2, iv p3, iv p4, iv p5, iv (1 : Int32), iv (0 : Int32), rv b45, rv b46, rv b48, rv b53, rv b54, iv (1 : Int32)] [(.int (1 : Int32))]
      obtain ⟨fs, hr, hrun, hended, hW, hsame⟩ := X54.leave (v := some (.int (1 : Int32))) (fun h => by rw [Bd.returns] at h; cases h)
      refine ⟨_, _, retN X54 hx (t := .boolean) Bd.returns (by simp) (hb hby at_390) hr, hrun, hended, _, _, rfl, ?_, ⟨_, rfl⟩, hW, hsame.mono (by decide) (by decide)⟩
      show Q0 Z p0 p1 p2 p3 p4 p5 sd h0 n0 _ T54.heap _
      exact ⟨rfl, N54⟩
    ·
      rw [hj2]
      show Go p e below _ m s₁ 18 #[iv p0, iv p1, iv p2, iv p3, iv p4, iv p5, iv (1 : Int32), iv (1 : Int32), .unset, .unset, .unset, .unset, .unset, .unset] []
      refine go (fun t kt => XS.iload X0.here hx rfl (hb hby at_18) rfl kt) ?_
      show Go p e below _ m s₁ 20 #[iv p0, iv p1, iv p2, iv p3, iv p4, iv p5, iv (1 : Int32), iv (1 : Int32), .unset, .unset, .unset, .unset, .unset, .unset] [(.int (1 : Int32))]
      obtain ⟨T59, h59, k59, X59, e59, E59, A59, B59, st59⟩ := newPE X0 hx hZ (hw _ (List.mem_of_getElem? (i := 0) rfl)) e0 (g := (mkF m 20 #[iv p0, iv p1, iv p2, iv p3, iv p4, iv p5, iv (1 : Int32), iv (1 : Int32), .unset, .unset, .unset, .unset, .unset, .unset] [(.int (1 : Int32))])) rfl (hb hby at_20) rfl (by decide) (cap := 1) (by decide) (by decide) (by decide) (by decide) (ad := "[I") rfl
      obtain ⟨b59, g59⟩ : ∃ z, z = h0.size := ⟨_, rfl⟩
      rw [← g59] at A59 B59 st59
      have g_b59 : n0 ≤ b59 := Nat.le_trans Z0 (Nat.le_of_eq g59.symm)
      have sz_b59 : h0.size ≤ b59 := Nat.le_trans K0.1 (Nat.le_of_eq g59.symm)
      replace S_DEFAULTCAPACITY_EMPTY_ELEMENTDATA := S_DEFAULTCAPACITY_EMPTY_ELEMENTDATA.ext E59
      have Zz59 := Nat.le_trans Z0 E59.1
      have Kk59 := K0.ext E59
      have E_b59 := B59
      have V_b59 : Arv Z h59 b59 k59 .int (1 : Int32) [(.int (0 : Int32))] (.int (0 : Int32)) := (Arv.new A59 (by decide)).pad (pad_rep [] (.int (0 : Int32)) 1)
      refine go st59 ?_
      show Go p e below _ m T59 22 #[iv p0, iv p1, iv p2, iv p3, iv p4, iv p5, iv (1 : Int32), iv (1 : Int32), .unset, .unset, .unset, .unset, .unset, .unset] [(.ref b59)]
      refine go (fun t kt => XS.astore X59.here hx rfl (hb hby at_22) rfl rfl (l' := #[iv p0, iv p1, iv p2, iv p3, iv p4, iv p5, iv (1 : Int32), iv (1 : Int32), rv b59, .unset, .unset, .unset, .unset, .unset]) rfl kt) ?_
      show Go p e below _ m T59 24 #[iv p0, iv p1, iv p2, iv p3, iv p4, iv p5, iv (1 : Int32), iv (1 : Int32), rv b59, .unset, .unset, .unset, .unset, .unset] []
      refine go (fun t kt => XS.iload X59.here hx rfl (hb hby at_24) rfl kt) ?_
      show Go p e below _ m T59 26 #[iv p0, iv p1, iv p2, iv p3, iv p4, iv p5, iv (1 : Int32), iv (1 : Int32), rv b59, .unset, .unset, .unset, .unset, .unset] [(.int (1 : Int32))]
      obtain ⟨T60, h60, k60, X60, e60, E60, A60, B60, st60⟩ := newPE X59 hx hZ (hw _ (List.mem_of_getElem? (i := 0) rfl)) e59 (g := (mkF m 26 #[iv p0, iv p1, iv p2, iv p3, iv p4, iv p5, iv (1 : Int32), iv (1 : Int32), rv b59, .unset, .unset, .unset, .unset, .unset] [(.int (1 : Int32))])) rfl (hb hby at_26) rfl (by decide) (cap := 1) (by decide) (by decide) (by decide) (by decide) (ad := "[I") rfl
      obtain ⟨b60, g60⟩ : ∃ z, z = h59.size := ⟨_, rfl⟩
      rw [← g60] at A60 B60 st60
      have ne_b59_b60 : b59 ≠ b60 := Nat.ne_of_lt (Nat.lt_of_lt_of_le E_b59.lt (Nat.le_of_eq g60.symm))
      have g_b60 : n0 ≤ b60 := Nat.le_trans Zz59 (Nat.le_of_eq g60.symm)
      have sz_b60 : h0.size ≤ b60 := Nat.le_trans Kk59.1 (Nat.le_of_eq g60.symm)
      replace S_DEFAULTCAPACITY_EMPTY_ELEMENTDATA := S_DEFAULTCAPACITY_EMPTY_ELEMENTDATA.ext E60
      replace E_b59 := E_b59.ext E60
      replace V_b59 := V_b59.ext E60
      have Zz60 := Nat.le_trans Zz59 E60.1
      have Kk60 := Kk59.ext E60
      have E_b60 := B60
      have V_b60 : Arv Z h60 b60 k60 .int (1 : Int32) [(.int (0 : Int32))] (.int (0 : Int32)) := (Arv.new A60 (by decide)).pad (pad_rep [] (.int (0 : Int32)) 1)
      refine go st60 ?_
      show Go p e below _ m T60 28 #[iv p0, iv p1, iv p2, iv p3, iv p4, iv p5, iv (1 : Int32), iv (1 : Int32), rv b59, .unset, .unset, .unset, .unset, .unset] [(.ref b60)]
      refine go (fun t kt => XS.astore X60.here hx rfl (hb hby at_28) rfl rfl (l' := #[iv p0, iv p1, iv p2, iv p3, iv p4, iv p5, iv (1 : Int32), iv (1 : Int32), rv b59, rv b60, .unset, .unset, .unset, .unset]) rfl kt) ?_
      show Go p e below _ m T60 30 #[iv p0, iv p1, iv p2, iv p3, iv p4, iv p5, iv (1 : Int32), iv (1 : Int32), rv b59, rv b60, .unset, .unset, .unset, .unset] []
      refine go (fun t kt => XS.iload X60.here hx rfl (hb hby at_30) rfl kt) ?_
      show Go p e below _ m T60 32 #[iv p0, iv p1, iv p2, iv p3, iv p4, iv p5, iv (1 : Int32), iv (1 : Int32), rv b59, rv b60, .unset, .unset, .unset, .unset] [(.int (1 : Int32))]
      refine go (fun t kt => XS.ifNo X60.here hx rfl (hb hby at_32) rfl ((if0 _ _).trans (tlt (by decide : ((0 : Int32) < (1 : Int32)))).2.2.2) kt) ?_
      show Go p e below _ m T60 35 #[iv p0, iv p1, iv p2, iv p3, iv p4, iv p5, iv (1 : Int32), iv (1 : Int32), rv b59, rv b60, .unset, .unset, .unset, .unset] []
      refine go (fun t kt => XS.aload X60.here hx rfl (hb hby at_35) rfl rfl kt) ?_
      show Go p e below _ m T60 37 #[iv p0, iv p1, iv p2, iv p3, iv p4, iv p5, iv (1 : Int32), iv (1 : Int32), rv b59, rv b60, .unset, .unset, .unset, .unset] [(.ref b59)]
      refine go (fun t kt => XS.iconst X60.here hx rfl (hb hby at_37) kt) ?_
      show Go p e below _ m T60 38 #[iv p0, iv p1, iv p2, iv p3, iv p4, iv p5, iv (1 : Int32), iv (1 : Int32), rv b59, rv b60, .unset, .unset, .unset, .unset] [(.int (0 : Int32)), (.ref b59)]
      refine go (fun t kt => XS.iloadN X60.here hx rfl (hb hby at_38) rfl kt) ?_
      show Go p e below _ m T60 39 #[iv p0, iv p1, iv p2, iv p3, iv p4, iv p5, iv (1 : Int32), iv (1 : Int32), rv b59, rv b60, .unset, .unset, .unset, .unset] [(.int p0), (.int (0 : Int32)), (.ref b59)]
      obtain ⟨cl61, Ar61, q61, S61, M61, H61, G61⟩ := V_b59
      have hin61 : ¬ ((0 : Int32) < 0 ∨ cl61.slots.size ≤ ((0 : Int32)).toNatClampNeg) := inb_of S61 ⟨by decide, by decide⟩
      obtain ⟨T61, h61, X61, e61, W61, st61⟩ := stI X60 hx hZ e60 Ar61 (j := (0 : Int32)) hin61 (g := (mkF m 39 #[iv p0, iv p1, iv p2, iv p3, iv p4, iv p5, iv (1 : Int32), iv (1 : Int32), rv b59, rv b60, .unset, .unset, .unset, .unset] [(.int p0), (.int (0 : Int32)), (.ref b59)])) rfl rfl (hb hby at_39)
      have V_b59 : Arv Z h61 b59 k59 .int (1 : Int32) [(.int p0)] (.int (0 : Int32)) := Arv.set Ar61 q61 S61 M61 H61 G61 rfl W61 0 rfl (Nat.le_of_ble_eq_true rfl)
      replace S_DEFAULTCAPACITY_EMPTY_ELEMENTDATA := S_DEFAULTCAPACITY_EMPTY_ELEMENTDATA.wr W61
      replace E_b59 := E_b59.wr W61
      replace E_b60 := E_b60.wr W61
      replace V_b60 := V_b60.other W61 (Ne.symm ne_b59_b60)
      have Zz61 := Nat.le_trans Zz60 (Keep.of_wr W61).1
      have Kk61 := Kk60.wr W61 (Or.inr sz_b59)
      have N61 := Fr.snoc X61 N0 g_b59
      refine go st61 ?_
      show Go p e below _ m T61 40 #[iv p0, iv p1, iv p2, iv p3, iv p4, iv p5, iv (1 : Int32), iv (1 : Int32), rv b59, rv b60, .unset, .unset, .unset, .unset] []
      refine go (fun t kt => XS.iload X61.here hx rfl (hb hby at_40) rfl kt) ?_
      show Go p e below _ m T61 42 #[iv p0, iv p1, iv p2, iv p3, iv p4, iv p5, iv (1 : Int32), iv (1 : Int32), rv b59, rv b60, .unset, .unset, .unset, .unset] [(.int (1 : Int32))]
      refine go (fun t kt => XS.iconst X61.here hx rfl (hb hby at_42) kt) ?_
      show Go p e below _ m T61 43 #[iv p0, iv p1, iv p2, iv p3, iv p4, iv p5, iv (1 : Int32), iv (1 : Int32), rv b59, rv b60, .unset, .unset, .unset, .unset] [(.int (1 : Int32)), (.int (1 : Int32))]
      refine go (fun t kt => XS.icmpYes X61.here hx rfl (pc0 := 43) (pc' := 51) rfl (hb hby at_43) rfl (flt (by decide : ¬ ((1 : Int32) < (1 : Int32)))).2.2.2 (by decide) (by decide) kt) ?_
      show Go p e below _ m T61 51 #[iv p0, iv p1, iv p2, iv p3, iv p4, iv p5, iv (1 : Int32), iv (1 : Int32), rv b59, rv b60, .unset, .unset, .unset, .unset] []
      refine go (fun t kt => XS.iload X61.here hx rfl (hb hby at_51) rfl kt) ?_
      show Go p e below _ m T61 53 #[iv p0, iv p1, iv p2, iv p3, iv p4, iv p5, iv (1 : Int32), iv (1 : Int32), rv b59, rv b60, .unset, .unset, .unset, .unset] [(.int (1 : Int32))]
      refine go (fun t kt => XS.ifNo X61.here hx rfl (hb hby at_53) rfl ((if0 _ _).trans (tlt (by decide : ((0 : Int32) < (1 : Int32)))).2.2.2) kt) ?_
      show Go p e below _ m T61 56 #[iv p0, iv p1, iv p2, iv p3, iv p4, iv p5, iv (1 : Int32), iv (1 : Int32), rv b59, rv b60, .unset, .unset, .unset, .unset] []
      refine go (fun t kt => XS.aload X61.here hx rfl (hb hby at_56) rfl rfl kt) ?_
      show Go p e below _ m T61 58 #[iv p0, iv p1, iv p2, iv p3, iv p4, iv p5, iv (1 : Int32), iv (1 : Int32), rv b59, rv b60, .unset, .unset, .unset, .unset] [(.ref b60)]
      refine go (fun t kt => XS.iconst X61.here hx rfl (hb hby at_58) kt) ?_
      show Go p e below _ m T61 59 #[iv p0, iv p1, iv p2, iv p3, iv p4, iv p5, iv (1 : Int32), iv (1 : Int32), rv b59, rv b60, .unset, .unset, .unset, .unset] [(.int (0 : Int32)), (.ref b60)]
      refine go (fun t kt => XS.iloadN X61.here hx rfl (hb hby at_59) rfl kt) ?_
      show Go p e below _ m T61 60 #[iv p0, iv p1, iv p2, iv p3, iv p4, iv p5, iv (1 : Int32), iv (1 : Int32), rv b59, rv b60, .unset, .unset, .unset, .unset] [(.int p1), (.int (0 : Int32)), (.ref b60)]
      obtain ⟨cl62, Ar62, q62, S62, M62, H62, G62⟩ := V_b60
      have hin62 : ¬ ((0 : Int32) < 0 ∨ cl62.slots.size ≤ ((0 : Int32)).toNatClampNeg) := inb_of S62 ⟨by decide, by decide⟩
      obtain ⟨T62, h62, X62, e62, W62, st62⟩ := stI X61 hx hZ e61 Ar62 (j := (0 : Int32)) hin62 (g := (mkF m 60 #[iv p0, iv p1, iv p2, iv p3, iv p4, iv p5, iv (1 : Int32), iv (1 : Int32), rv b59, rv b60, .unset, .unset, .unset, .unset] [(.int p1), (.int (0 : Int32)), (.ref b60)])) rfl rfl (hb hby at_60)
      have V_b60 : Arv Z h62 b60 k60 .int (1 : Int32) [(.int p1)] (.int (0 : Int32)) := Arv.set Ar62 q62 S62 M62 H62 G62 rfl W62 0 rfl (Nat.le_of_ble_eq_true rfl)
      replace S_DEFAULTCAPACITY_EMPTY_ELEMENTDATA := S_DEFAULTCAPACITY_EMPTY_ELEMENTDATA.wr W62
      replace E_b59 := E_b59.wr W62
      replace V_b59 := V_b59.other W62 ne_b59_b60
      replace E_b60 := E_b60.wr W62
      have Zz62 := Nat.le_trans Zz61 (Keep.of_wr W62).1
      have Kk62 := Kk61.wr W62 (Or.inr sz_b60)
      have N62 := Fr.snoc X62 N61 g_b60
      refine go st62 ?_
      show Go p e below _ m T62 61 #[iv p0, iv p1, iv p2, iv p3, iv p4, iv p5, iv (1 : Int32), iv (1 : Int32), rv b59, rv b60, .unset, .unset, .unset, .unset] []
      refine go (fun t kt => XS.iload X62.here hx rfl (hb hby at_61) rfl kt) ?_
      show Go p e below _ m T62 63 #[iv p0, iv p1, iv p2, iv p3, iv p4, iv p5, iv (1 : Int32), iv (1 : Int32), rv b59, rv b60, .unset, .unset, .unset, .unset] [(.int (1 : Int32))]
      refine go (fun t kt => XS.iconst X62.here hx rfl (hb hby at_63) kt) ?_
      show Go p e below _ m T62 64 #[iv p0, iv p1, iv p2, iv p3, iv p4, iv p5, iv (1 : Int32), iv (1 : Int32), rv b59, rv b60, .unset, .unset, .unset, .unset] [(.int (1 : Int32)), (.int (1 : Int32))]
      refine go (fun t kt => XS.icmpYes X62.here hx rfl (pc0 := 64) (pc' := 72) rfl (hb hby at_64) rfl (flt (by decide : ¬ ((1 : Int32) < (1 : Int32)))).2.2.2 (by decide) (by decide) kt) ?_
      show Go p e below _ m T62 72 #[iv p0, iv p1, iv p2, iv p3, iv p4, iv p5, iv (1 : Int32), iv (1 : Int32), rv b59, rv b60, .unset, .unset, .unset, .unset] []
      obtain ⟨T63, h63, X63, e63, E63, A63, D63, -, st63⟩ := newO X62 hx hZ hown (hw _ (List.mem_of_getElem? (i := 1) rfl)) (hw _ (List.mem_of_getElem? (i := 2) rfl)) (hw _ (List.mem_of_getElem? (i := 3) rfl)) e62 (g := (mkF m 72 #[iv p0, iv p1, iv p2, iv p3, iv p4, iv p5, iv (1 : Int32), iv (1 : Int32), rv b59, rv b60, .unset, .unset, .unset, .unset] [])) rfl (hb hby at_72) (by decide) (by decide)
      obtain ⟨b63, g63⟩ : ∃ z, z = h62.size := ⟨_, rfl⟩
      rw [← g63] at A63 D63 st63
      have ne_b59_b63 : b59 ≠ b63 := Nat.ne_of_lt (Nat.lt_of_lt_of_le E_b59.lt (Nat.le_of_eq g63.symm))
      have ne_b60_b63 : b60 ≠ b63 := Nat.ne_of_lt (Nat.lt_of_lt_of_le E_b60.lt (Nat.le_of_eq g63.symm))
      have g_b63 : n0 ≤ b63 := Nat.le_trans Zz62 (Nat.le_of_eq g63.symm)
      have sz_b63 : h0.size ≤ b63 := Nat.le_trans Kk62.1 (Nat.le_of_eq g63.symm)
      replace S_DEFAULTCAPACITY_EMPTY_ELEMENTDATA := S_DEFAULTCAPACITY_EMPTY_ELEMENTDATA.ext E63
      replace E_b59 := E_b59.ext E63
      replace V_b59 := V_b59.ext E63
      replace E_b60 := E_b60.ext E63
      replace V_b60 := V_b60.ext E63
      have Zz63 := Nat.le_trans Zz62 E63.1
      have Kk63 := Kk62.ext E63
      have E_b63 := A63
      have F_names_b63 : Fld Z h63 b63 "com/example/anytime_arena/anytimearena/io/VariableTable" "names" "Ljava/util/List;" .null := D63 (Or.inr (hw _ (List.mem_of_getElem? (i := 35) rfl))) (ty := (.object "java/util/List")) (by decide)
      have F_types_b63 : Fld Z h63 b63 "com/example/anytime_arena/anytimearena/io/VariableTable" "types" "Ljava/util/List;" .null := D63 (Or.inr (hw _ (List.mem_of_getElem? (i := 37) rfl))) (ty := (.object "java/util/List")) (by decide)
      have F_owners_b63 : Fld Z h63 b63 "com/example/anytime_arena/anytimearena/io/VariableTable" "owners" "Ljava/util/List;" .null := D63 (Or.inr (hw _ (List.mem_of_getElem? (i := 39) rfl))) (ty := (.object "java/util/List")) (by decide)
      have F_slots_b63 : Fld Z h63 b63 "com/example/anytime_arena/anytimearena/io/VariableTable" "slots" "Ljava/util/Map;" .null := D63 (Or.inr (hw _ (List.mem_of_getElem? (i := 57) rfl))) (ty := (.object "java/util/Map")) (by decide)
      have F_low_b63 : Fld Z h63 b63 "com/example/anytime_arena/anytimearena/io/VariableTable" "low" "[I" .null := D63 (Or.inl (hw _ (List.mem_of_getElem? (i := 59) rfl))) (ty := (.array .int)) (by decide)
      have F_high_b63 : Fld Z h63 b63 "com/example/anytime_arena/anytimearena/io/VariableTable" "high" "[I" .null := D63 (Or.inl (hw _ (List.mem_of_getElem? (i := 61) rfl))) (ty := (.array .int)) (by decide)
      refine go st63 ?_
      show Go p e below _ m T63 75 #[iv p0, iv p1, iv p2, iv p3, iv p4, iv p5, iv (1 : Int32), iv (1 : Int32), rv b59, rv b60, .unset, .unset, .unset, .unset] [(.ref b63)]
      refine go (fun t kt => XS.dup X63.here hx rfl (hb hby at_75) rfl rfl kt) ?_
      show Go p e below _ m T63 76 #[iv p0, iv p1, iv p2, iv p3, iv p4, iv p5, iv (1 : Int32), iv (1 : Int32), rv b59, rv b60, .unset, .unset, .unset, .unset] [(.ref b63), (.ref b63)]
      obtain ⟨_, _, ⟨T64, L64, k64, n64⟩, -, X64, ⟨Lc64, hQ64, l64, y64, z64⟩, st64⟩ := X63.specialBack hx (y := (⟨"com/example/anytime_arena/anytimearena/io/VariableTable", "<init>", "()V"⟩ : MethodName)) rfl hown (mvT hZ (hw _ (List.mem_of_getElem? (i := 4) rfl))) (mvT hZ (hw _ (List.mem_of_getElem? (i := 5) rfl))) (mvT hZ (hw _ (List.mem_of_getElem? (i := 6) rfl))) (by decide) (backOf (W := 1) (rm1 l Z a0 hw [] b63 .null .null .null .null .null .null sd h63 n0 Zz63 E_b63 F_names_b63 F_types_b63 F_owners_b63 F_slots_b63 F_low_b63 F_high_b63 S_DEFAULTCAPACITY_EMPTY_ELEMENTDATA g_b63) hZ (hw _ (List.mem_of_getElem? (i := 6) rfl)) (hw _ (List.mem_of_getElem? (i := 3) rfl)) (by decide) (by decide)) (g := (mkF m 76 #[iv p0, iv p1, iv p2, iv p3, iv p4, iv p5, iv (1 : Int32), iv (1 : Int32), rv b59, rv b60, .unset, .unset, .unset, .unset] [(.ref b63), (.ref b63)])) rfl (by rw [hml]; rfl) (Steps.refl _) (a := b63) (argsL := []) (rest := [(.ref b63)]) (lenOf pd_0 rfl) rfl (by show 2 * 0 + _ ≤ _; exact Nat.le_of_eq rfl) (hb hby at_76) (fun _ _ => ⟨rfl, e63, (by decide : 3 + 6 ≤ _), (by decide : 8 + 17 ≤ _)⟩)
      dsimp only [Pt.U, Pt.locs, Pt.cells, Pt.slots] at X64 l64 y64 z64 st64 hQ64
      subst l64 y64 z64
      obtain ⟨rfl, Nq64, Kq64, Eq64, ⟨ul64, Fl64⟩, ⟨uh64, Fh64⟩⟩ := hQ64
      replace S_DEFAULTCAPACITY_EMPTY_ELEMENTDATA := own_sta_keep S_DEFAULTCAPACITY_EMPTY_ELEMENTDATA E_b63 Kq64
      replace E_b59 := E_b59.keep Kq64
      replace V_b59 := V_b59.keep Kq64 (ninS ne_b59_b63 nin0)
      replace E_b60 := E_b60.keep Kq64
      replace V_b60 := V_b60.keep Kq64 (ninS ne_b60_b63 nin0)
      replace E_b63 := E_b63.keep Kq64
      clear F_names_b63
      clear F_types_b63
      clear F_owners_b63
      clear F_slots_b63
      clear F_low_b63
      clear F_high_b63
      have Zz64 := Nat.le_trans Zz63 Kq64.1
      have Kk64 := Kk63.trans Kq64 (allS (Or.inr sz_b63) all0)
      have E_b63 := Eq64
      have F_low_b63 := Fl64
      have F_high_b63 := Fh64
      have N64 := Fr.app N62 Nq64
      refine go (fun t kt => st64.trans kt) ?_
      show Go p e below _ m T64 79 #[iv p0, iv p1, iv p2, iv p3, iv p4, iv p5, iv (1 : Int32), iv (1 : Int32), rv b59, rv b60, .unset, .unset, .unset, .unset] [(.ref b63)]
      refine go (fun t kt => XS.astore X64.here hx rfl (hb hby at_79) rfl rfl (l' := #[iv p0, iv p1, iv p2, iv p3, iv p4, iv p5, iv (1 : Int32), iv (1 : Int32), rv b59, rv b60, rv b63, .unset, .unset, .unset]) rfl kt) ?_
      show Go p e below _ m T64 81 #[iv p0, iv p1, iv p2, iv p3, iv p4, iv p5, iv (1 : Int32), iv (1 : Int32), rv b59, rv b60, rv b63, .unset, .unset, .unset] []
      refine go (fun t kt => XS.aload X64.here hx rfl (hb hby at_81) rfl rfl kt) ?_
      show Go p e below _ m T64 83 #[iv p0, iv p1, iv p2, iv p3, iv p4, iv p5, iv (1 : Int32), iv (1 : Int32), rv b59, rv b60, rv b63, .unset, .unset, .unset] [(.ref b63)]
      refine go (fun t kt => XS.aload X64.here hx rfl (hb hby at_83) rfl rfl kt) ?_
      show Go p e below _ m T64 85 #[iv p0, iv p1, iv p2, iv p3, iv p4, iv p5, iv (1 : Int32), iv (1 : Int32), rv b59, rv b60, rv b63, .unset, .unset, .unset] [(.ref b60), (.ref b63)]
      refine go (fun t kt => XS.aload X64.here hx rfl (hb hby at_85) rfl rfl kt) ?_
      show Go p e below _ m T64 87 #[iv p0, iv p1, iv p2, iv p3, iv p4, iv p5, iv (1 : Int32), iv (1 : Int32), rv b59, rv b60, rv b63, .unset, .unset, .unset] [(.ref b59), (.ref b60), (.ref b63)]
      obtain ⟨cq65, kq65, q65a, q65b, q65c⟩ := isOf hZ rfl E_b63
      obtain ⟨_, _, ⟨T65, L65, k65, n65⟩, -, X65, ⟨Lc65, hQ65, l65, y65, z65⟩, st65⟩ := X64.virtualBack hx (y := (⟨"com/example/anytime_arena/anytimearena/io/VariableTable", "setRanges", "([I[I)V"⟩ : MethodName)) (z := (⟨"com/example/anytime_arena/anytimearena/io/VariableTable", "setRanges", "([I[I)V"⟩ : MethodName)) hown (mvT hZ (hw _ (List.mem_of_getElem? (i := 62) rfl))) (mvT hZ (hw _ (List.mem_of_getElem? (i := 63) rfl))) (notFace_of_selects (args := #[]) (mvT hZ (hw _ (List.mem_of_getElem? (i := 65) rfl)))) (mvT hZ (hw _ (List.mem_of_getElem? (i := 65) rfl))) (mvT hZ (hw _ (List.mem_of_getElem? (i := 64) rfl))) (by decide) (backOf (W := 0) (rm8 l Z a0 hw [] b63 b60 b59 ul64 uh64 k60 (1 : Int32) [(.int p1)] k59 (1 : Int32) [(.int p0)] T64.heap n0 Zz64 E_b63 F_low_b63 F_high_b63 E_b60 V_b60 E_b59 V_b59 (Ne.symm ne_b60_b63) (Ne.symm ne_b59_b63) g_b63 (by decide) (by decide)) hZ (hw _ (List.mem_of_getElem? (i := 66) rfl)) (hw _ (List.mem_of_getElem? (i := 3) rfl)) (by decide) (by decide)) q65a q65c (g := (mkF m 87 #[iv p0, iv p1, iv p2, iv p3, iv p4, iv p5, iv (1 : Int32), iv (1 : Int32), rv b59, rv b60, rv b63, .unset, .unset, .unset] [(.ref b59), (.ref b60), (.ref b63)])) rfl (by rw [hml]; rfl) (Steps.refl _) (argsL := [(.ref b60), (.ref b59)]) (rest := []) (lenOf pd_1 rfl) rfl (by show 2 * 0 + _ ≤ _; exact Nat.le_of_eq rfl) (hb hby at_87) (fun _ _ => ⟨rfl, rfl, (by decide : 9 + 2 ≤ _), (by decide : 25 + 4 ≤ _)⟩)
      dsimp only [Pt.U, Pt.locs, Pt.cells, Pt.slots] at X65 l65 y65 z65 st65 hQ65
      subst l65 y65 z65
      obtain ⟨rfl, Nq65, Kq65, Eq65, c65, d65, lc65, ld65, ne_c65_d65, Fl65, Fh65, Ec65, Vc65, Ed65, Vd65⟩ := hQ65
      have ne_b59_c65 : b59 ≠ c65 := Nat.ne_of_lt (Nat.lt_of_lt_of_le E_b59.lt lc65)
      have ne_b60_c65 : b60 ≠ c65 := Nat.ne_of_lt (Nat.lt_of_lt_of_le E_b60.lt lc65)
      have ne_b63_c65 : b63 ≠ c65 := Nat.ne_of_lt (Nat.lt_of_lt_of_le E_b63.lt lc65)
      have g_c65 : n0 ≤ c65 := Nat.le_trans Zz64 lc65
      have sz_c65 : h0.size ≤ c65 := Nat.le_trans Kk64.1 lc65
      have ne_b59_d65 : b59 ≠ d65 := Nat.ne_of_lt (Nat.lt_of_lt_of_le E_b59.lt ld65)
      have ne_b60_d65 : b60 ≠ d65 := Nat.ne_of_lt (Nat.lt_of_lt_of_le E_b60.lt ld65)
      have ne_b63_d65 : b63 ≠ d65 := Nat.ne_of_lt (Nat.lt_of_lt_of_le E_b63.lt ld65)
      have g_d65 : n0 ≤ d65 := Nat.le_trans Zz64 ld65
      have sz_d65 : h0.size ≤ d65 := Nat.le_trans Kk64.1 ld65
      replace S_DEFAULTCAPACITY_EMPTY_ELEMENTDATA := own_sta_keep S_DEFAULTCAPACITY_EMPTY_ELEMENTDATA E_b63 Kq65
      replace E_b59 := E_b59.keep Kq65
      replace V_b59 := V_b59.keep Kq65 (ninS ne_b59_b63 nin0)
      replace E_b60 := E_b60.keep Kq65
      replace V_b60 := V_b60.keep Kq65 (ninS ne_b60_b63 nin0)
      replace E_b63 := E_b63.keep Kq65
      clear F_low_b63
      clear F_high_b63
      have Zz65 := Nat.le_trans Zz64 Kq65.1
      have Kk65 := Kk64.trans Kq65 (allS (Or.inr sz_b63) all0)
      have E_b63 := Eq65
      have F_low_b63 := Fl65
      have F_high_b63 := Fh65
      have E_c65 := Ec65
      have V_c65 := Vc65
      have E_d65 := Ed65
      have V_d65 := Vd65
      have N65 := Fr.app N64 Nq65
      refine go (fun t kt => st65.trans kt) ?_
      show Go p e below _ m T65 90 #[iv p0, iv p1, iv p2, iv p3, iv p4, iv p5, iv (1 : Int32), iv (1 : Int32), rv b59, rv b60, rv b63, .unset, .unset, .unset] []
      refine go (fun t kt => XS.aload X65.here hx rfl (hb hby at_90) rfl rfl kt) ?_
      show Go p e below _ m T65 92 #[iv p0, iv p1, iv p2, iv p3, iv p4, iv p5, iv (1 : Int32), iv (1 : Int32), rv b59, rv b60, rv b63, .unset, .unset, .unset] [(.ref b63)]
      refine go (fun t kt => XS.aload X65.here hx rfl (hb hby at_92) rfl rfl kt) ?_
      show Go p e below _ m T65 94 #[iv p0, iv p1, iv p2, iv p3, iv p4, iv p5, iv (1 : Int32), iv (1 : Int32), rv b59, rv b60, rv b63, .unset, .unset, .unset] [(.ref b59), (.ref b63)]
      refine go (fun t kt => XS.aload X65.here hx rfl (hb hby at_94) rfl rfl kt) ?_
      show Go p e below _ m T65 96 #[iv p0, iv p1, iv p2, iv p3, iv p4, iv p5, iv (1 : Int32), iv (1 : Int32), rv b59, rv b60, rv b63, .unset, .unset, .unset] [(.ref b60), (.ref b59), (.ref b63)]
      obtain ⟨cq66, kq66, q66a, q66b, q66c⟩ := isOf hZ rfl E_b63
      obtain ⟨_, _, ⟨T66, L66, k66, n66⟩, -, X66, ⟨Lc66, hQ66, l66, y66, z66⟩, st66⟩ := X65.virtualBack hx (y := (⟨"com/example/anytime_arena/anytimearena/io/VariableTable", "setRanges", "([I[I)V"⟩ : MethodName)) (z := (⟨"com/example/anytime_arena/anytimearena/io/VariableTable", "setRanges", "([I[I)V"⟩ : MethodName)) hown (mvT hZ (hw _ (List.mem_of_getElem? (i := 62) rfl))) (mvT hZ (hw _ (List.mem_of_getElem? (i := 63) rfl))) (notFace_of_selects (args := #[]) (mvT hZ (hw _ (List.mem_of_getElem? (i := 65) rfl)))) (mvT hZ (hw _ (List.mem_of_getElem? (i := 65) rfl))) (mvT hZ (hw _ (List.mem_of_getElem? (i := 64) rfl))) (by decide) (backOf (W := 0) (rm8 l Z a0 hw [] b63 b59 b60 (.ref c65) (.ref d65) k59 (1 : Int32) [(.int p0)] k60 (1 : Int32) [(.int p1)] T65.heap n0 Zz65 E_b63 F_low_b63 F_high_b63 E_b59 V_b59 E_b60 V_b60 (Ne.symm ne_b59_b63) (Ne.symm ne_b60_b63) g_b63 (by decide) (by decide)) hZ (hw _ (List.mem_of_getElem? (i := 66) rfl)) (hw _ (List.mem_of_getElem? (i := 3) rfl)) (by decide) (by decide)) q66a q66c (g := (mkF m 96 #[iv p0, iv p1, iv p2, iv p3, iv p4, iv p5, iv (1 : Int32), iv (1 : Int32), rv b59, rv b60, rv b63, .unset, .unset, .unset] [(.ref b60), (.ref b59), (.ref b63)])) rfl (by rw [hml]; rfl) (Steps.refl _) (argsL := [(.ref b59), (.ref b60)]) (rest := []) (lenOf pd_1 rfl) rfl (by show 2 * 0 + _ ≤ _; exact Nat.le_of_eq rfl) (hb hby at_96) (fun _ _ => ⟨rfl, rfl, (by decide : 11 + 2 ≤ _), (by decide : 29 + 4 ≤ _)⟩)
      dsimp only [Pt.U, Pt.locs, Pt.cells, Pt.slots] at X66 l66 y66 z66 st66 hQ66
      subst l66 y66 z66
      obtain ⟨rfl, Nq66, Kq66, Eq66, c66, d66, lc66, ld66, ne_c66_d66, Fl66, Fh66, Ec66, Vc66, Ed66, Vd66⟩ := hQ66
      have ne_b59_c66 : b59 ≠ c66 := Nat.ne_of_lt (Nat.lt_of_lt_of_le E_b59.lt lc66)
      have ne_b60_c66 : b60 ≠ c66 := Nat.ne_of_lt (Nat.lt_of_lt_of_le E_b60.lt lc66)
      have ne_b63_c66 : b63 ≠ c66 := Nat.ne_of_lt (Nat.lt_of_lt_of_le E_b63.lt lc66)
      have ne_c65_c66 : c65 ≠ c66 := Nat.ne_of_lt (Nat.lt_of_lt_of_le E_c65.lt lc66)
      have ne_d65_c66 : d65 ≠ c66 := Nat.ne_of_lt (Nat.lt_of_lt_of_le E_d65.lt lc66)
      have g_c66 : n0 ≤ c66 := Nat.le_trans Zz65 lc66
      have sz_c66 : h0.size ≤ c66 := Nat.le_trans Kk65.1 lc66
      have ne_b59_d66 : b59 ≠ d66 := Nat.ne_of_lt (Nat.lt_of_lt_of_le E_b59.lt ld66)
      have ne_b60_d66 : b60 ≠ d66 := Nat.ne_of_lt (Nat.lt_of_lt_of_le E_b60.lt ld66)
      have ne_b63_d66 : b63 ≠ d66 := Nat.ne_of_lt (Nat.lt_of_lt_of_le E_b63.lt ld66)
      have ne_c65_d66 : c65 ≠ d66 := Nat.ne_of_lt (Nat.lt_of_lt_of_le E_c65.lt ld66)
      have ne_d65_d66 : d65 ≠ d66 := Nat.ne_of_lt (Nat.lt_of_lt_of_le E_d65.lt ld66)
      have g_d66 : n0 ≤ d66 := Nat.le_trans Zz65 ld66
      have sz_d66 : h0.size ≤ d66 := Nat.le_trans Kk65.1 ld66
      replace S_DEFAULTCAPACITY_EMPTY_ELEMENTDATA := own_sta_keep S_DEFAULTCAPACITY_EMPTY_ELEMENTDATA E_b63 Kq66
      replace E_b59 := E_b59.keep Kq66
      replace V_b59 := V_b59.keep Kq66 (ninS ne_b59_b63 nin0)
      replace E_b60 := E_b60.keep Kq66
      replace V_b60 := V_b60.keep Kq66 (ninS ne_b60_b63 nin0)
      replace E_b63 := E_b63.keep Kq66
      clear F_low_b63
      clear F_high_b63
      replace E_c65 := E_c65.keep Kq66
      replace V_c65 := V_c65.keep Kq66 (ninS (Ne.symm ne_b63_c65) nin0)
      replace E_d65 := E_d65.keep Kq66
      replace V_d65 := V_d65.keep Kq66 (ninS (Ne.symm ne_b63_d65) nin0)
      have Zz66 := Nat.le_trans Zz65 Kq66.1
      have Kk66 := Kk65.trans Kq66 (allS (Or.inr sz_b63) all0)
      have E_b63 := Eq66
      have F_low_b63 := Fl66
      have F_high_b63 := Fh66
      have E_c66 := Ec66
      have V_c66 := Vc66
      have E_d66 := Ed66
      have V_d66 := Vd66
      have N66 := Fr.app N65 Nq66
      refine go (fun t kt => st66.trans kt) ?_
      show Go p e below _ m T66 99 #[iv p0, iv p1, iv p2, iv p3, iv p4, iv p5, iv (1 : Int32), iv (1 : Int32), rv b59, rv b60, rv b63, .unset, .unset, .unset] []
      refine go (fun t kt => XS.iload X66.here hx rfl (hb hby at_99) rfl kt) ?_
      show Go p e below _ m T66 101 #[iv p0, iv p1, iv p2, iv p3, iv p4, iv p5, iv (1 : Int32), iv (1 : Int32), rv b59, rv b60, rv b63, .unset, .unset, .unset] [(.int (1 : Int32))]
      refine go (fun t kt => XS.ifNo X66.here hx rfl (hb hby at_101) rfl ((if0 _ _).trans (tlt (by decide : ((0 : Int32) < (1 : Int32)))).2.2.2) kt) ?_
      show Go p e below _ m T66 104 #[iv p0, iv p1, iv p2, iv p3, iv p4, iv p5, iv (1 : Int32), iv (1 : Int32), rv b59, rv b60, rv b63, .unset, .unset, .unset] []
      refine go (fun t kt => XS.aload X66.here hx rfl (hb hby at_104) rfl rfl kt) ?_
      show Go p e below _ m T66 106 #[iv p0, iv p1, iv p2, iv p3, iv p4, iv p5, iv (1 : Int32), iv (1 : Int32), rv b59, rv b60, rv b63, .unset, .unset, .unset] [(.ref b59)]
      refine go (fun t kt => XS.iconst X66.here hx rfl (hb hby at_106) kt) ?_
      show Go p e below _ m T66 107 #[iv p0, iv p1, iv p2, iv p3, iv p4, iv p5, iv (1 : Int32), iv (1 : Int32), rv b59, rv b60, rv b63, .unset, .unset, .unset] [(.int (0 : Int32)), (.ref b59)]
      refine go (fun t kt => XS.iloadN X66.here hx rfl (hb hby at_107) rfl kt) ?_
      show Go p e below _ m T66 108 #[iv p0, iv p1, iv p2, iv p3, iv p4, iv p5, iv (1 : Int32), iv (1 : Int32), rv b59, rv b60, rv b63, .unset, .unset, .unset] [(.int p0), (.int (0 : Int32)), (.ref b59)]
      refine go (fun t kt => XS.iconst X66.here hx rfl (hb hby at_108) kt) ?_
      show Go p e below _ m T66 109 #[iv p0, iv p1, iv p2, iv p3, iv p4, iv p5, iv (1 : Int32), iv (1 : Int32), rv b59, rv b60, rv b63, .unset, .unset, .unset] [(.int (-1 : Int32)), (.int p0), (.int (0 : Int32)), (.ref b59)]
      refine go (fun t kt => XS.ixor X66.here hx rfl (hb hby at_109) rfl kt) ?_
      show Go p e below _ m T66 110 #[iv p0, iv p1, iv p2, iv p3, iv p4, iv p5, iv (1 : Int32), iv (1 : Int32), rv b59, rv b60, rv b63, .unset, .unset, .unset] [(.int (p0 ^^^ (-1 : Int32))), (.int (0 : Int32)), (.ref b59)]
      obtain ⟨cl67, Ar67, q67, S67, M67, H67, G67⟩ := V_b59
      have hin67 : ¬ ((0 : Int32) < 0 ∨ cl67.slots.size ≤ ((0 : Int32)).toNatClampNeg) := inb_of S67 ⟨by decide, by decide⟩
      obtain ⟨T67, h67, X67, e67, W67, st67⟩ := stI X66 hx hZ rfl Ar67 (j := (0 : Int32)) hin67 (g := (mkF m 110 #[iv p0, iv p1, iv p2, iv p3, iv p4, iv p5, iv (1 : Int32), iv (1 : Int32), rv b59, rv b60, rv b63, .unset, .unset, .unset] [(.int (p0 ^^^ (-1 : Int32))), (.int (0 : Int32)), (.ref b59)])) rfl rfl (hb hby at_110)
      have V_b59 : Arv Z h67 b59 k59 .int (1 : Int32) [(.int (p0 ^^^ (-1 : Int32)))] (.int (0 : Int32)) := Arv.set Ar67 q67 S67 M67 H67 G67 rfl W67 0 rfl (Nat.le_of_ble_eq_true rfl)
      replace S_DEFAULTCAPACITY_EMPTY_ELEMENTDATA := S_DEFAULTCAPACITY_EMPTY_ELEMENTDATA.wr W67
      replace E_b59 := E_b59.wr W67
      replace E_b60 := E_b60.wr W67
      replace V_b60 := V_b60.other W67 (Ne.symm ne_b59_b60)
      replace E_b63 := E_b63.wr W67
      replace E_c65 := E_c65.wr W67
      replace V_c65 := V_c65.other W67 (Ne.symm ne_b59_c65)
      replace E_d65 := E_d65.wr W67
      replace V_d65 := V_d65.other W67 (Ne.symm ne_b59_d65)
      replace F_low_b63 := F_low_b63.other W67 (Or.inl (Ne.symm ne_b59_b63))
      replace F_high_b63 := F_high_b63.other W67 (Or.inl (Ne.symm ne_b59_b63))
      replace E_c66 := E_c66.wr W67
      replace V_c66 := V_c66.other W67 (Ne.symm ne_b59_c66)
      replace E_d66 := E_d66.wr W67
      replace V_d66 := V_d66.other W67 (Ne.symm ne_b59_d66)
      have Zz67 := Nat.le_trans Zz66 (Keep.of_wr W67).1
      have Kk67 := Kk66.wr W67 (Or.inr sz_b59)
      have N67 := Fr.snoc X67 N66 g_b59
      refine go st67 ?_
      show Go p e below _ m T67 111 #[iv p0, iv p1, iv p2, iv p3, iv p4, iv p5, iv (1 : Int32), iv (1 : Int32), rv b59, rv b60, rv b63, .unset, .unset, .unset] []
      refine go (fun t kt => XS.iload X67.here hx rfl (hb hby at_111) rfl kt) ?_
      show Go p e below _ m T67 113 #[iv p0, iv p1, iv p2, iv p3, iv p4, iv p5, iv (1 : Int32), iv (1 : Int32), rv b59, rv b60, rv b63, .unset, .unset, .unset] [(.int (1 : Int32))]
      refine go (fun t kt => XS.iconst X67.here hx rfl (hb hby at_113) kt) ?_
      show Go p e below _ m T67 114 #[iv p0, iv p1, iv p2, iv p3, iv p4, iv p5, iv (1 : Int32), iv (1 : Int32), rv b59, rv b60, rv b63, .unset, .unset, .unset] [(.int (1 : Int32)), (.int (1 : Int32))]
      refine go (fun t kt => XS.icmpYes X67.here hx rfl (pc0 := 114) (pc' := 124) rfl (hb hby at_114) rfl (flt (by decide : ¬ ((1 : Int32) < (1 : Int32)))).2.2.2 (by decide) (by decide) kt) ?_
      show Go p e below _ m T67 124 #[iv p0, iv p1, iv p2, iv p3, iv p4, iv p5, iv (1 : Int32), iv (1 : Int32), rv b59, rv b60, rv b63, .unset, .unset, .unset] []
      refine go (fun t kt => XS.iload X67.here hx rfl (hb hby at_124) rfl kt) ?_
      show Go p e below _ m T67 126 #[iv p0, iv p1, iv p2, iv p3, iv p4, iv p5, iv (1 : Int32), iv (1 : Int32), rv b59, rv b60, rv b63, .unset, .unset, .unset] [(.int (1 : Int32))]
      refine go (fun t kt => XS.ifNo X67.here hx rfl (hb hby at_126) rfl ((if0 _ _).trans (tlt (by decide : ((0 : Int32) < (1 : Int32)))).2.2.2) kt) ?_
      show Go p e below _ m T67 129 #[iv p0, iv p1, iv p2, iv p3, iv p4, iv p5, iv (1 : Int32), iv (1 : Int32), rv b59, rv b60, rv b63, .unset, .unset, .unset] []
      refine go (fun t kt => XS.aload X67.here hx rfl (hb hby at_129) rfl rfl kt) ?_
      show Go p e below _ m T67 131 #[iv p0, iv p1, iv p2, iv p3, iv p4, iv p5, iv (1 : Int32), iv (1 : Int32), rv b59, rv b60, rv b63, .unset, .unset, .unset] [(.ref b60)]
      refine go (fun t kt => XS.iconst X67.here hx rfl (hb hby at_131) kt) ?_
      show Go p e below _ m T67 132 #[iv p0, iv p1, iv p2, iv p3, iv p4, iv p5, iv (1 : Int32), iv (1 : Int32), rv b59, rv b60, rv b63, .unset, .unset, .unset] [(.int (0 : Int32)), (.ref b60)]
      refine go (fun t kt => XS.iloadN X67.here hx rfl (hb hby at_132) rfl kt) ?_
      show Go p e below _ m T67 133 #[iv p0, iv p1, iv p2, iv p3, iv p4, iv p5, iv (1 : Int32), iv (1 : Int32), rv b59, rv b60, rv b63, .unset, .unset, .unset] [(.int p1), (.int (0 : Int32)), (.ref b60)]
      refine go (fun t kt => XS.iconst X67.here hx rfl (hb hby at_133) kt) ?_
      show Go p e below _ m T67 134 #[iv p0, iv p1, iv p2, iv p3, iv p4, iv p5, iv (1 : Int32), iv (1 : Int32), rv b59, rv b60, rv b63, .unset, .unset, .unset] [(.int (-1 : Int32)), (.int p1), (.int (0 : Int32)), (.ref b60)]
      refine go (fun t kt => XS.ixor X67.here hx rfl (hb hby at_134) rfl kt) ?_
      show Go p e below _ m T67 135 #[iv p0, iv p1, iv p2, iv p3, iv p4, iv p5, iv (1 : Int32), iv (1 : Int32), rv b59, rv b60, rv b63, .unset, .unset, .unset] [(.int (p1 ^^^ (-1 : Int32))), (.int (0 : Int32)), (.ref b60)]
      obtain ⟨cl68, Ar68, q68, S68, M68, H68, G68⟩ := V_b60
      have hin68 : ¬ ((0 : Int32) < 0 ∨ cl68.slots.size ≤ ((0 : Int32)).toNatClampNeg) := inb_of S68 ⟨by decide, by decide⟩
      obtain ⟨T68, h68, X68, e68, W68, st68⟩ := stI X67 hx hZ e67 Ar68 (j := (0 : Int32)) hin68 (g := (mkF m 135 #[iv p0, iv p1, iv p2, iv p3, iv p4, iv p5, iv (1 : Int32), iv (1 : Int32), rv b59, rv b60, rv b63, .unset, .unset, .unset] [(.int (p1 ^^^ (-1 : Int32))), (.int (0 : Int32)), (.ref b60)])) rfl rfl (hb hby at_135)
      have V_b60 : Arv Z h68 b60 k60 .int (1 : Int32) [(.int (p1 ^^^ (-1 : Int32)))] (.int (0 : Int32)) := Arv.set Ar68 q68 S68 M68 H68 G68 rfl W68 0 rfl (Nat.le_of_ble_eq_true rfl)
      replace S_DEFAULTCAPACITY_EMPTY_ELEMENTDATA := S_DEFAULTCAPACITY_EMPTY_ELEMENTDATA.wr W68
      replace E_b59 := E_b59.wr W68
      replace V_b59 := V_b59.other W68 ne_b59_b60
      replace E_b60 := E_b60.wr W68
      replace E_b63 := E_b63.wr W68
      replace E_c65 := E_c65.wr W68
      replace V_c65 := V_c65.other W68 (Ne.symm ne_b60_c65)
      replace E_d65 := E_d65.wr W68
      replace V_d65 := V_d65.other W68 (Ne.symm ne_b60_d65)
      replace F_low_b63 := F_low_b63.other W68 (Or.inl (Ne.symm ne_b60_b63))
      replace F_high_b63 := F_high_b63.other W68 (Or.inl (Ne.symm ne_b60_b63))
      replace E_c66 := E_c66.wr W68
      replace V_c66 := V_c66.other W68 (Ne.symm ne_b60_c66)
      replace E_d66 := E_d66.wr W68
      replace V_d66 := V_d66.other W68 (Ne.symm ne_b60_d66)
      have Zz68 := Nat.le_trans Zz67 (Keep.of_wr W68).1
      have Kk68 := Kk67.wr W68 (Or.inr sz_b60)
      have N68 := Fr.snoc X68 N67 g_b60
      refine go st68 ?_
      show Go p e below _ m T68 136 #[iv p0, iv p1, iv p2, iv p3, iv p4, iv p5, iv (1 : Int32), iv (1 : Int32), rv b59, rv b60, rv b63, .unset, .unset, .unset] []
      refine go (fun t kt => XS.iload X68.here hx rfl (hb hby at_136) rfl kt) ?_
      show Go p e below _ m T68 138 #[iv p0, iv p1, iv p2, iv p3, iv p4, iv p5, iv (1 : Int32), iv (1 : Int32), rv b59, rv b60, rv b63, .unset, .unset, .unset] [(.int (1 : Int32))]
      refine go (fun t kt => XS.iconst X68.here hx rfl (hb hby at_138) kt) ?_
      show Go p e below _ m T68 139 #[iv p0, iv p1, iv p2, iv p3, iv p4, iv p5, iv (1 : Int32), iv (1 : Int32), rv b59, rv b60, rv b63, .unset, .unset, .unset] [(.int (1 : Int32)), (.int (1 : Int32))]
      refine go (fun t kt => XS.icmpYes X68.here hx rfl (pc0 := 139) (pc' := 149) rfl (hb hby at_139) rfl (flt (by decide : ¬ ((1 : Int32) < (1 : Int32)))).2.2.2 (by decide) (by decide) kt) ?_
      show Go p e below _ m T68 149 #[iv p0, iv p1, iv p2, iv p3, iv p4, iv p5, iv (1 : Int32), iv (1 : Int32), rv b59, rv b60, rv b63, .unset, .unset, .unset] []
      refine go (fun t kt => XS.aload X68.here hx rfl (hb hby at_149) rfl rfl kt) ?_
      show Go p e below _ m T68 151 #[iv p0, iv p1, iv p2, iv p3, iv p4, iv p5, iv (1 : Int32), iv (1 : Int32), rv b59, rv b60, rv b63, .unset, .unset, .unset] [(.ref b63)]
      obtain ⟨cq69, kq69, q69a, q69b, q69c⟩ := isOf hZ e68 E_b63
      obtain ⟨_, _, ⟨T69, L69, k69, n69⟩, -, X69, ⟨Lc69, hQ69, l69, y69, z69⟩, st69⟩ := X68.virtualBack hx (y := (⟨"com/example/anytime_arena/anytimearena/io/VariableTable", "low", "()[I"⟩ : MethodName)) (z := (⟨"com/example/anytime_arena/anytimearena/io/VariableTable", "low", "()[I"⟩ : MethodName)) hown (mvT hZ (hw _ (List.mem_of_getElem? (i := 76) rfl))) (mvT hZ (hw _ (List.mem_of_getElem? (i := 77) rfl))) (notFace_of_selects (args := #[]) (mvT hZ (hw _ (List.mem_of_getElem? (i := 79) rfl)))) (mvT hZ (hw _ (List.mem_of_getElem? (i := 79) rfl))) (mvT hZ (hw _ (List.mem_of_getElem? (i := 78) rfl))) (by decide) (backOf (W := 0) (rm9 l Z a0 hw [] b63 c66 k59 (1 : Int32) [(.int p0)] h68 n0 Zz68 F_low_b63 E_c66 V_c66 (by decide)) hZ (hw _ (List.mem_of_getElem? (i := 80) rfl)) (hw _ (List.mem_of_getElem? (i := 3) rfl)) (by decide) (by decide)) q69a q69c (g := (mkF m 151 #[iv p0, iv p1, iv p2, iv p3, iv p4, iv p5, iv (1 : Int32), iv (1 : Int32), rv b59, rv b60, rv b63, .unset, .unset, .unset] [(.ref b63)])) rfl (by rw [hml]; rfl) (Steps.refl _) (argsL := []) (rest := []) (lenOf pd_2 rfl) rfl (by show 2 * 0 + _ ≤ _; exact Nat.le_of_eq rfl) (hb hby at_151) (fun _ _ => ⟨rfl, e68, (by decide : 13 + 1 ≤ _), (by decide : 33 + 2 ≤ _)⟩)
      dsimp only [Pt.U, Pt.locs, Pt.cells, Pt.slots] at X69 l69 y69 z69 st69 hQ69
      subst l69 y69 z69
      obtain ⟨b69, g69⟩ : ∃ z, z = h68.size := ⟨_, rfl⟩
      have ne_b59_b69 : b59 ≠ b69 := Nat.ne_of_lt (Nat.lt_of_lt_of_le E_b59.lt (Nat.le_of_eq g69.symm))
      have ne_b60_b69 : b60 ≠ b69 := Nat.ne_of_lt (Nat.lt_of_lt_of_le E_b60.lt (Nat.le_of_eq g69.symm))
      have ne_b63_b69 : b63 ≠ b69 := Nat.ne_of_lt (Nat.lt_of_lt_of_le E_b63.lt (Nat.le_of_eq g69.symm))
      have ne_c65_b69 : c65 ≠ b69 := Nat.ne_of_lt (Nat.lt_of_lt_of_le E_c65.lt (Nat.le_of_eq g69.symm))
      have ne_d65_b69 : d65 ≠ b69 := Nat.ne_of_lt (Nat.lt_of_lt_of_le E_d65.lt (Nat.le_of_eq g69.symm))
      have ne_c66_b69 : c66 ≠ b69 := Nat.ne_of_lt (Nat.lt_of_lt_of_le E_c66.lt (Nat.le_of_eq g69.symm))
      have ne_d66_b69 : d66 ≠ b69 := Nat.ne_of_lt (Nat.lt_of_lt_of_le E_d66.lt (Nat.le_of_eq g69.symm))
      have g_b69 : n0 ≤ b69 := Nat.le_trans Zz68 (Nat.le_of_eq g69.symm)
      have sz_b69 : h0.size ≤ b69 := Nat.le_trans Kk68.1 (Nat.le_of_eq g69.symm)
      obtain ⟨rfl, Nq69, Kq69, Eq69, Vq69⟩ := hQ69
      rw [← g69] at Eq69 Vq69 st69
      clear S_DEFAULTCAPACITY_EMPTY_ELEMENTDATA
      replace E_b59 := E_b59.keep Kq69
      replace V_b59 := V_b59.keep Kq69 nin0
      replace E_b60 := E_b60.keep Kq69
      replace V_b60 := V_b60.keep Kq69 nin0
      replace E_b63 := E_b63.keep Kq69
      replace E_c65 := E_c65.keep Kq69
      replace V_c65 := V_c65.keep Kq69 nin0
      replace E_d65 := E_d65.keep Kq69
      replace V_d65 := V_d65.keep Kq69 nin0
      replace F_low_b63 := F_low_b63.keep Kq69 nin0
      replace F_high_b63 := F_high_b63.keep Kq69 nin0
      replace E_c66 := E_c66.keep Kq69
      replace V_c66 := V_c66.keep Kq69 nin0
      replace E_d66 := E_d66.keep Kq69
      replace V_d66 := V_d66.keep Kq69 nin0
      have Zz69 := Nat.le_trans Zz68 Kq69.1
      have Kk69 := Kk68.trans Kq69 all0
      have E_b69 := Eq69
      have V_b69 := Vq69
      have N69 := Fr.app N68 Nq69
      refine go (fun t kt => st69.trans kt) ?_
      show Go p e below _ m T69 154 #[iv p0, iv p1, iv p2, iv p3, iv p4, iv p5, iv (1 : Int32), iv (1 : Int32), rv b59, rv b60, rv b63, .unset, .unset, .unset] [(.ref b69)]
      refine go (fun t kt => XS.astore X69.here hx rfl (hb hby at_154) rfl rfl (l' := #[iv p0, iv p1, iv p2, iv p3, iv p4, iv p5, iv (1 : Int32), iv (1 : Int32), rv b59, rv b60, rv b63, rv b69, .unset, .unset]) rfl kt) ?_
      show Go p e below _ m T69 156 #[iv p0, iv p1, iv p2, iv p3, iv p4, iv p5, iv (1 : Int32), iv (1 : Int32), rv b59, rv b60, rv b63, rv b69, .unset, .unset] []
      refine go (fun t kt => XS.aload X69.here hx rfl (hb hby at_156) rfl rfl kt) ?_
      show Go p e below _ m T69 158 #[iv p0, iv p1, iv p2, iv p3, iv p4, iv p5, iv (1 : Int32), iv (1 : Int32), rv b59, rv b60, rv b63, rv b69, .unset, .unset] [(.ref b63)]
      obtain ⟨cq70, kq70, q70a, q70b, q70c⟩ := isOf hZ rfl E_b63
      obtain ⟨_, _, ⟨T70, L70, k70, n70⟩, -, X70, ⟨Lc70, hQ70, l70, y70, z70⟩, st70⟩ := X69.virtualBack hx (y := (⟨"com/example/anytime_arena/anytimearena/io/VariableTable", "high", "()[I"⟩ : MethodName)) (z := (⟨"com/example/anytime_arena/anytimearena/io/VariableTable", "high", "()[I"⟩ : MethodName)) hown (mvT hZ (hw _ (List.mem_of_getElem? (i := 81) rfl))) (mvT hZ (hw _ (List.mem_of_getElem? (i := 82) rfl))) (notFace_of_selects (args := #[]) (mvT hZ (hw _ (List.mem_of_getElem? (i := 84) rfl)))) (mvT hZ (hw _ (List.mem_of_getElem? (i := 84) rfl))) (mvT hZ (hw _ (List.mem_of_getElem? (i := 83) rfl))) (by decide) (backOf (W := 0) (rm10 l Z a0 hw [] b63 d66 k60 (1 : Int32) [(.int p1)] T69.heap n0 Zz69 F_high_b63 E_d66 V_d66 (by decide)) hZ (hw _ (List.mem_of_getElem? (i := 85) rfl)) (hw _ (List.mem_of_getElem? (i := 3) rfl)) (by decide) (by decide)) q70a q70c (g := (mkF m 158 #[iv p0, iv p1, iv p2, iv p3, iv p4, iv p5, iv (1 : Int32), iv (1 : Int32), rv b59, rv b60, rv b63, rv b69, .unset, .unset] [(.ref b63)])) rfl (by rw [hml]; rfl) (Steps.refl _) (argsL := []) (rest := []) (lenOf pd_2 rfl) rfl (by show 2 * 0 + _ ≤ _; exact Nat.le_of_eq rfl) (hb hby at_158) (fun _ _ => ⟨rfl, rfl, (by decide : 14 + 1 ≤ _), (by decide : 35 + 2 ≤ _)⟩)
      dsimp only [Pt.U, Pt.locs, Pt.cells, Pt.slots] at X70 l70 y70 z70 st70 hQ70
      subst l70 y70 z70
      obtain ⟨b70, g70⟩ : ∃ z, z = T69.heap.size := ⟨_, rfl⟩
      have ne_b59_b70 : b59 ≠ b70 := Nat.ne_of_lt (Nat.lt_of_lt_of_le E_b59.lt (Nat.le_of_eq g70.symm))
      have ne_b60_b70 : b60 ≠ b70 := Nat.ne_of_lt (Nat.lt_of_lt_of_le E_b60.lt (Nat.le_of_eq g70.symm))
      have ne_b63_b70 : b63 ≠ b70 := Nat.ne_of_lt (Nat.lt_of_lt_of_le E_b63.lt (Nat.le_of_eq g70.symm))
      have ne_c65_b70 : c65 ≠ b70 := Nat.ne_of_lt (Nat.lt_of_lt_of_le E_c65.lt (Nat.le_of_eq g70.symm))
      have ne_d65_b70 : d65 ≠ b70 := Nat.ne_of_lt (Nat.lt_of_lt_of_le E_d65.lt (Nat.le_of_eq g70.symm))
      have ne_c66_b70 : c66 ≠ b70 := Nat.ne_of_lt (Nat.lt_of_lt_of_le E_c66.lt (Nat.le_of_eq g70.symm))
      have ne_d66_b70 : d66 ≠ b70 := Nat.ne_of_lt (Nat.lt_of_lt_of_le E_d66.lt (Nat.le_of_eq g70.symm))
      have ne_b69_b70 : b69 ≠ b70 := Nat.ne_of_lt (Nat.lt_of_lt_of_le E_b69.lt (Nat.le_of_eq g70.symm))
      have g_b70 : n0 ≤ b70 := Nat.le_trans Zz69 (Nat.le_of_eq g70.symm)
      have sz_b70 : h0.size ≤ b70 := Nat.le_trans Kk69.1 (Nat.le_of_eq g70.symm)
      obtain ⟨rfl, Nq70, Kq70, Eq70, Vq70⟩ := hQ70
      rw [← g70] at Eq70 Vq70 st70
      replace E_b59 := E_b59.keep Kq70
      replace V_b59 := V_b59.keep Kq70 nin0
      replace E_b60 := E_b60.keep Kq70
      replace V_b60 := V_b60.keep Kq70 nin0
      replace E_b63 := E_b63.keep Kq70
      replace E_c65 := E_c65.keep Kq70
      replace V_c65 := V_c65.keep Kq70 nin0
      replace E_d65 := E_d65.keep Kq70
      replace V_d65 := V_d65.keep Kq70 nin0
      replace F_low_b63 := F_low_b63.keep Kq70 nin0
      replace F_high_b63 := F_high_b63.keep Kq70 nin0
      replace E_c66 := E_c66.keep Kq70
      replace V_c66 := V_c66.keep Kq70 nin0
      replace E_d66 := E_d66.keep Kq70
      replace V_d66 := V_d66.keep Kq70 nin0
      replace E_b69 := E_b69.keep Kq70
      replace V_b69 := V_b69.keep Kq70 nin0
      have Zz70 := Nat.le_trans Zz69 Kq70.1
      have Kk70 := Kk69.trans Kq70 all0
      have E_b70 := Eq70
      have V_b70 := Vq70
      have N70 := Fr.app N69 Nq70
      refine go (fun t kt => st70.trans kt) ?_
      show Go p e below _ m T70 161 #[iv p0, iv p1, iv p2, iv p3, iv p4, iv p5, iv (1 : Int32), iv (1 : Int32), rv b59, rv b60, rv b63, rv b69, .unset, .unset] [(.ref b70)]
      refine go (fun t kt => XS.astore X70.here hx rfl (hb hby at_161) rfl rfl (l' := #[iv p0, iv p1, iv p2, iv p3, iv p4, iv p5, iv (1 : Int32), iv (1 : Int32), rv b59, rv b60, rv b63, rv b69, rv b70, .unset]) rfl kt) ?_
      show Go p e below _ m T70 163 #[iv p0, iv p1, iv p2, iv p3, iv p4, iv p5, iv (1 : Int32), iv (1 : Int32), rv b59, rv b60, rv b63, rv b69, rv b70, .unset] []
      refine go (fun t kt => XS.aload X70.here hx rfl (hb hby at_163) rfl rfl kt) ?_
      show Go p e below _ m T70 165 #[iv p0, iv p1, iv p2, iv p3, iv p4, iv p5, iv (1 : Int32), iv (1 : Int32), rv b59, rv b60, rv b63, rv b69, rv b70, .unset] [(.ref b69)]
      obtain ⟨cl71, Ar71, q71, S71, M71, H71, G71⟩ := id V_b69
      refine go (X70.arraylength hx Ar71.1 (State.isArrayOf_alike hZ.alike Ar71.2.1) (g := (mkF m 165 #[iv p0, iv p1, iv p2, iv p3, iv p4, iv p5, iv (1 : Int32), iv (1 : Int32), rv b59, rv b60, rv b63, rv b69, rv b70, .unset] [(.ref b69)])) rfl rfl (hb hby at_165)) ?_
      rw [len_of S71 M71]
      show Go p e below _ m T70 166 #[iv p0, iv p1, iv p2, iv p3, iv p4, iv p5, iv (1 : Int32), iv (1 : Int32), rv b59, rv b60, rv b63, rv b69, rv b70, .unset] [(.int (1 : Int32))]
      refine go (fun t kt => XS.iload X70.here hx rfl (hb hby at_166) rfl kt) ?_
      show Go p e below _ m T70 168 #[iv p0, iv p1, iv p2, iv p3, iv p4, iv p5, iv (1 : Int32), iv (1 : Int32), rv b59, rv b60, rv b63, rv b69, rv b70, .unset] [(.int (1 : Int32)), (.int (1 : Int32))]
      refine go (fun t kt => XS.icmpNo X70.here hx rfl (hb hby at_168) rfl (teq (by decide : ((1 : Int32) = (1 : Int32)))).2 kt) ?_
      show Go p e below _ m T70 171 #[iv p0, iv p1, iv p2, iv p3, iv p4, iv p5, iv (1 : Int32), iv (1 : Int32), rv b59, rv b60, rv b63, rv b69, rv b70, .unset] []
      refine go (fun t kt => XS.aload X70.here hx rfl (hb hby at_171) rfl rfl kt) ?_
      show Go p e below _ m T70 173 #[iv p0, iv p1, iv p2, iv p3, iv p4, iv p5, iv (1 : Int32), iv (1 : Int32), rv b59, rv b60, rv b63, rv b69, rv b70, .unset] [(.ref b70)]
      obtain ⟨cl72, Ar72, q72, S72, M72, H72, G72⟩ := id V_b70
      refine go (X70.arraylength hx Ar72.1 (State.isArrayOf_alike hZ.alike Ar72.2.1) (g := (mkF m 173 #[iv p0, iv p1, iv p2, iv p3, iv p4, iv p5, iv (1 : Int32), iv (1 : Int32), rv b59, rv b60, rv b63, rv b69, rv b70, .unset] [(.ref b70)])) rfl rfl (hb hby at_173)) ?_
      rw [len_of S72 M72]
      show Go p e below _ m T70 174 #[iv p0, iv p1, iv p2, iv p3, iv p4, iv p5, iv (1 : Int32), iv (1 : Int32), rv b59, rv b60, rv b63, rv b69, rv b70, .unset] [(.int (1 : Int32))]
      refine go (fun t kt => XS.iload X70.here hx rfl (hb hby at_174) rfl kt) ?_
      show Go p e below _ m T70 176 #[iv p0, iv p1, iv p2, iv p3, iv p4, iv p5, iv (1 : Int32), iv (1 : Int32), rv b59, rv b60, rv b63, rv b69, rv b70, .unset] [(.int (1 : Int32)), (.int (1 : Int32))]
      refine go (fun t kt => XS.icmpYes X70.here hx rfl (pc0 := 176) (pc' := 181) rfl (hb hby at_176) rfl (teq (by decide : ((1 : Int32) = (1 : Int32)))).1 (by decide) (by decide) kt) ?_
      show Go p e below _ m T70 181 #[iv p0, iv p1, iv p2, iv p3, iv p4, iv p5, iv (1 : Int32), iv (1 : Int32), rv b59, rv b60, rv b63, rv b69, rv b70, .unset] []
      refine go (fun t kt => XS.iconst X70.here hx rfl (hb hby at_181) kt) ?_
      show Go p e below _ m T70 182 #[iv p0, iv p1, iv p2, iv p3, iv p4, iv p5, iv (1 : Int32), iv (1 : Int32), rv b59, rv b60, rv b63, rv b69, rv b70, .unset] [(.int (1 : Int32))]
      refine go (fun t kt => XS.istore X70.here hx rfl (hb hby at_182) rfl (l' := #[iv p0, iv p1, iv p2, iv p3, iv p4, iv p5, iv (1 : Int32), iv (1 : Int32), rv b59, rv b60, rv b63, rv b69, rv b70, iv (1 : Int32)]) rfl kt) ?_
      show Go p e below _ m T70 184 #[iv p0, iv p1, iv p2, iv p3, iv p4, iv p5, iv (1 : Int32), iv (1 : Int32), rv b59, rv b60, rv b63, rv b69, rv b70, iv (1 : Int32)] []
      refine go (fun t kt => XS.iload X70.here hx rfl (hb hby at_184) rfl kt) ?_
      show Go p e below _ m T70 186 #[iv p0, iv p1, iv p2, iv p3, iv p4, iv p5, iv (1 : Int32), iv (1 : Int32), rv b59, rv b60, rv b63, rv b69, rv b70, iv (1 : Int32)] [(.int (1 : Int32))]
      refine go (fun t kt => XS.ifNo X70.here hx rfl (hb hby at_186) rfl ((if0 _ _).trans (tlt (by decide : ((0 : Int32) < (1 : Int32)))).2.2.2) kt) ?_
      show Go p e below _ m T70 189 #[iv p0, iv p1, iv p2, iv p3, iv p4, iv p5, iv (1 : Int32), iv (1 : Int32), rv b59, rv b60, rv b63, rv b69, rv b70, iv (1 : Int32)] []
      refine go (fun t kt => XS.iload X70.here hx rfl (hb hby at_189) rfl kt) ?_
      show Go p e below _ m T70 191 #[iv p0, iv p1, iv p2, iv p3, iv p4, iv p5, iv (1 : Int32), iv (1 : Int32), rv b59, rv b60, rv b63, rv b69, rv b70, iv (1 : Int32)] [(.int (1 : Int32))]
      refine go (fun t kt => XS.ifNo X70.here hx rfl (hb hby at_191) rfl ((if0 _ _).trans (feq (by decide : ¬ ((1 : Int32) = (0 : Int32)))).1) kt) ?_
      show Go p e below _ m T70 194 #[iv p0, iv p1, iv p2, iv p3, iv p4, iv p5, iv (1 : Int32), iv (1 : Int32), rv b59, rv b60, rv b63, rv b69, rv b70, iv (1 : Int32)] []
      refine go (fun t kt => XS.aload X70.here hx rfl (hb hby at_194) rfl rfl kt) ?_
      show Go p e below _ m T70 196 #[iv p0, iv p1, iv p2, iv p3, iv p4, iv p5, iv (1 : Int32), iv (1 : Int32), rv b59, rv b60, rv b63, rv b69, rv b70, iv (1 : Int32)] [(.ref b69)]
      refine go (fun t kt => XS.iconst X70.here hx rfl (hb hby at_196) kt) ?_
      show Go p e below _ m T70 197 #[iv p0, iv p1, iv p2, iv p3, iv p4, iv p5, iv (1 : Int32), iv (1 : Int32), rv b59, rv b60, rv b63, rv b69, rv b70, iv (1 : Int32)] [(.int (0 : Int32)), (.ref b69)]
      obtain ⟨cl73, Ar73, q73, S73, M73, H73, G73⟩ := id V_b69
      have hin73 : ¬ ((0 : Int32) < 0 ∨ cl73.slots.size ≤ ((0 : Int32)).toNatClampNeg) := inb_of S73 ⟨by decide, by decide⟩
      have hat73 : cl73.slots[((0 : Int32)).toNatClampNeg]? = some (.int p0) := H73.at hin73 rfl
      refine go (X70.iaload hx (j := (0 : Int32)) (v := (.int p0)) Ar73.1 (State.isArrayOf_alike hZ.alike Ar73.2.1) Ar73.2.2 hin73 hat73 (g := (mkF m 197 #[iv p0, iv p1, iv p2, iv p3, iv p4, iv p5, iv (1 : Int32), iv (1 : Int32), rv b59, rv b60, rv b63, rv b69, rv b70, iv (1 : Int32)] [(.int (0 : Int32)), (.ref b69)])) rfl rfl (hb hby at_197)) ?_
      show Go p e below _ m T70 198 #[iv p0, iv p1, iv p2, iv p3, iv p4, iv p5, iv (1 : Int32), iv (1 : Int32), rv b59, rv b60, rv b63, rv b69, rv b70, iv (1 : Int32)] [(.int p0)]
      refine go (fun t kt => XS.iloadN X70.here hx rfl (hb hby at_198) rfl kt) ?_
      show Go p e below _ m T70 199 #[iv p0, iv p1, iv p2, iv p3, iv p4, iv p5, iv (1 : Int32), iv (1 : Int32), rv b59, rv b60, rv b63, rv b69, rv b70, iv (1 : Int32)] [(.int p0), (.int p0)]
      refine go (fun t kt => XS.icmpNo X70.here hx rfl (hb hby at_199) rfl (teq (rfl : p0 = p0)).2 kt) ?_
      show Go p e below _ m T70 202 #[iv p0, iv p1, iv p2, iv p3, iv p4, iv p5, iv (1 : Int32), iv (1 : Int32), rv b59, rv b60, rv b63, rv b69, rv b70, iv (1 : Int32)] []
      refine go (fun t kt => XS.iconst X70.here hx rfl (hb hby at_202) kt) ?_
      show Go p e below _ m T70 203 #[iv p0, iv p1, iv p2, iv p3, iv p4, iv p5, iv (1 : Int32), iv (1 : Int32), rv b59, rv b60, rv b63, rv b69, rv b70, iv (1 : Int32)] [(.int (1 : Int32))]
      refine go (fun t kt => XS.goto X70.here hx rfl (pc0 := 203) (pc' := 207) rfl (hb hby at_203) (by decide) (by decide) kt) ?_
      show Go p e below _ m T70 207 #[iv p0, iv p1, iv p2, iv p3, iv p4, iv p5, iv (1 : Int32), iv (1 : Int32), rv b59, rv b60, rv b63, rv b69, rv b70, iv (1 : Int32)] [(.int (1 : Int32))]
      refine go (fun t kt => XS.istore X70.here hx rfl (hb hby at_207) rfl (l' := #[iv p0, iv p1, iv p2, iv p3, iv p4, iv p5, iv (1 : Int32), iv (1 : Int32), rv b59, rv b60, rv b63, rv b69, rv b70, iv (1 : Int32)]) rfl kt) ?_
      show Go p e below _ m T70 209 #[iv p0, iv p1, iv p2, iv p3, iv p4, iv p5, iv (1 : Int32), iv (1 : Int32), rv b59, rv b60, rv b63, rv b69, rv b70, iv (1 : Int32)] []
      refine go (fun t kt => XS.iload X70.here hx rfl (hb hby at_209) rfl kt) ?_
      show Go p e below _ m T70 211 #[iv p0, iv p1, iv p2, iv p3, iv p4, iv p5, iv (1 : Int32), iv (1 : Int32), rv b59, rv b60, rv b63, rv b69, rv b70, iv (1 : Int32)] [(.int (1 : Int32))]
      refine go (fun t kt => XS.iconst X70.here hx rfl (hb hby at_211) kt) ?_
      show Go p e below _ m T70 212 #[iv p0, iv p1, iv p2, iv p3, iv p4, iv p5, iv (1 : Int32), iv (1 : Int32), rv b59, rv b60, rv b63, rv b69, rv b70, iv (1 : Int32)] [(.int (1 : Int32)), (.int (1 : Int32))]
      refine go (fun t kt => XS.icmpYes X70.here hx rfl (pc0 := 212) (pc' := 235) rfl (hb hby at_212) rfl (flt (by decide : ¬ ((1 : Int32) < (1 : Int32)))).2.2.2 (by decide) (by decide) kt) ?_
      show Go p e below _ m T70 235 #[iv p0, iv p1, iv p2, iv p3, iv p4, iv p5, iv (1 : Int32), iv (1 : Int32), rv b59, rv b60, rv b63, rv b69, rv b70, iv (1 : Int32)] []
      refine go (fun t kt => XS.iload X70.here hx rfl (hb hby at_235) rfl kt) ?_
      show Go p e below _ m T70 237 #[iv p0, iv p1, iv p2, iv p3, iv p4, iv p5, iv (1 : Int32), iv (1 : Int32), rv b59, rv b60, rv b63, rv b69, rv b70, iv (1 : Int32)] [(.int (1 : Int32))]
      refine go (fun t kt => XS.ifNo X70.here hx rfl (hb hby at_237) rfl ((if0 _ _).trans (tlt (by decide : ((0 : Int32) < (1 : Int32)))).2.2.2) kt) ?_
      show Go p e below _ m T70 240 #[iv p0, iv p1, iv p2, iv p3, iv p4, iv p5, iv (1 : Int32), iv (1 : Int32), rv b59, rv b60, rv b63, rv b69, rv b70, iv (1 : Int32)] []
      refine go (fun t kt => XS.iload X70.here hx rfl (hb hby at_240) rfl kt) ?_
      show Go p e below _ m T70 242 #[iv p0, iv p1, iv p2, iv p3, iv p4, iv p5, iv (1 : Int32), iv (1 : Int32), rv b59, rv b60, rv b63, rv b69, rv b70, iv (1 : Int32)] [(.int (1 : Int32))]
      refine go (fun t kt => XS.ifNo X70.here hx rfl (hb hby at_242) rfl ((if0 _ _).trans (feq (by decide : ¬ ((1 : Int32) = (0 : Int32)))).1) kt) ?_
      show Go p e below _ m T70 245 #[iv p0, iv p1, iv p2, iv p3, iv p4, iv p5, iv (1 : Int32), iv (1 : Int32), rv b59, rv b60, rv b63, rv b69, rv b70, iv (1 : Int32)] []
      refine go (fun t kt => XS.aload X70.here hx rfl (hb hby at_245) rfl rfl kt) ?_
      show Go p e below _ m T70 247 #[iv p0, iv p1, iv p2, iv p3, iv p4, iv p5, iv (1 : Int32), iv (1 : Int32), rv b59, rv b60, rv b63, rv b69, rv b70, iv (1 : Int32)] [(.ref b70)]
      refine go (fun t kt => XS.iconst X70.here hx rfl (hb hby at_247) kt) ?_
      show Go p e below _ m T70 248 #[iv p0, iv p1, iv p2, iv p3, iv p4, iv p5, iv (1 : Int32), iv (1 : Int32), rv b59, rv b60, rv b63, rv b69, rv b70, iv (1 : Int32)] [(.int (0 : Int32)), (.ref b70)]
      obtain ⟨cl74, Ar74, q74, S74, M74, H74, G74⟩ := id V_b70
      have hin74 : ¬ ((0 : Int32) < 0 ∨ cl74.slots.size ≤ ((0 : Int32)).toNatClampNeg) := inb_of S74 ⟨by decide, by decide⟩
      have hat74 : cl74.slots[((0 : Int32)).toNatClampNeg]? = some (.int p1) := H74.at hin74 rfl
      refine go (X70.iaload hx (j := (0 : Int32)) (v := (.int p1)) Ar74.1 (State.isArrayOf_alike hZ.alike Ar74.2.1) Ar74.2.2 hin74 hat74 (g := (mkF m 248 #[iv p0, iv p1, iv p2, iv p3, iv p4, iv p5, iv (1 : Int32), iv (1 : Int32), rv b59, rv b60, rv b63, rv b69, rv b70, iv (1 : Int32)] [(.int (0 : Int32)), (.ref b70)])) rfl rfl (hb hby at_248)) ?_
      show Go p e below _ m T70 249 #[iv p0, iv p1, iv p2, iv p3, iv p4, iv p5, iv (1 : Int32), iv (1 : Int32), rv b59, rv b60, rv b63, rv b69, rv b70, iv (1 : Int32)] [(.int p1)]
      refine go (fun t kt => XS.iloadN X70.here hx rfl (hb hby at_249) rfl kt) ?_
      show Go p e below _ m T70 250 #[iv p0, iv p1, iv p2, iv p3, iv p4, iv p5, iv (1 : Int32), iv (1 : Int32), rv b59, rv b60, rv b63, rv b69, rv b70, iv (1 : Int32)] [(.int p1), (.int p1)]
      refine go (fun t kt => XS.icmpNo X70.here hx rfl (hb hby at_250) rfl (teq (rfl : p1 = p1)).2 kt) ?_
      show Go p e below _ m T70 253 #[iv p0, iv p1, iv p2, iv p3, iv p4, iv p5, iv (1 : Int32), iv (1 : Int32), rv b59, rv b60, rv b63, rv b69, rv b70, iv (1 : Int32)] []
      refine go (fun t kt => XS.iconst X70.here hx rfl (hb hby at_253) kt) ?_
      show Go p e below _ m T70 254 #[iv p0, iv p1, iv p2, iv p3, iv p4, iv p5, iv (1 : Int32), iv (1 : Int32), rv b59, rv b60, rv b63, rv b69, rv b70, iv (1 : Int32)] [(.int (1 : Int32))]
      refine go (fun t kt => XS.goto X70.here hx rfl (pc0 := 254) (pc' := 258) rfl (hb hby at_254) (by decide) (by decide) kt) ?_
      show Go p e below _ m T70 258 #[iv p0, iv p1, iv p2, iv p3, iv p4, iv p5, iv (1 : Int32), iv (1 : Int32), rv b59, rv b60, rv b63, rv b69, rv b70, iv (1 : Int32)] [(.int (1 : Int32))]
      refine go (fun t kt => XS.istore X70.here hx rfl (hb hby at_258) rfl (l' := #[iv p0, iv p1, iv p2, iv p3, iv p4, iv p5, iv (1 : Int32), iv (1 : Int32), rv b59, rv b60, rv b63, rv b69, rv b70, iv (1 : Int32)]) rfl kt) ?_
      show Go p e below _ m T70 260 #[iv p0, iv p1, iv p2, iv p3, iv p4, iv p5, iv (1 : Int32), iv (1 : Int32), rv b59, rv b60, rv b63, rv b69, rv b70, iv (1 : Int32)] []
      refine go (fun t kt => XS.iload X70.here hx rfl (hb hby at_260) rfl kt) ?_
      show Go p e below _ m T70 262 #[iv p0, iv p1, iv p2, iv p3, iv p4, iv p5, iv (1 : Int32), iv (1 : Int32), rv b59, rv b60, rv b63, rv b69, rv b70, iv (1 : Int32)] [(.int (1 : Int32))]
      refine go (fun t kt => XS.iconst X70.here hx rfl (hb hby at_262) kt) ?_
      show Go p e below _ m T70 263 #[iv p0, iv p1, iv p2, iv p3, iv p4, iv p5, iv (1 : Int32), iv (1 : Int32), rv b59, rv b60, rv b63, rv b69, rv b70, iv (1 : Int32)] [(.int (1 : Int32)), (.int (1 : Int32))]
      refine go (fun t kt => XS.icmpYes X70.here hx rfl (pc0 := 263) (pc' := 286) rfl (hb hby at_263) rfl (flt (by decide : ¬ ((1 : Int32) < (1 : Int32)))).2.2.2 (by decide) (by decide) kt) ?_
      show Go p e below _ m T70 286 #[iv p0, iv p1, iv p2, iv p3, iv p4, iv p5, iv (1 : Int32), iv (1 : Int32), rv b59, rv b60, rv b63, rv b69, rv b70, iv (1 : Int32)] []
      refine go (fun t kt => XS.iload X70.here hx rfl (hb hby at_286) rfl kt) ?_
      show Go p e below _ m T70 288 #[iv p0, iv p1, iv p2, iv p3, iv p4, iv p5, iv (1 : Int32), iv (1 : Int32), rv b59, rv b60, rv b63, rv b69, rv b70, iv (1 : Int32)] [(.int (1 : Int32))]
      refine go (fun t kt => XS.ifNo X70.here hx rfl (hb hby at_288) rfl ((if0 _ _).trans (tlt (by decide : ((0 : Int32) < (1 : Int32)))).2.2.2) kt) ?_
      show Go p e below _ m T70 291 #[iv p0, iv p1, iv p2, iv p3, iv p4, iv p5, iv (1 : Int32), iv (1 : Int32), rv b59, rv b60, rv b63, rv b69, rv b70, iv (1 : Int32)] []
      refine go (fun t kt => XS.iload X70.here hx rfl (hb hby at_291) rfl kt) ?_
      show Go p e below _ m T70 293 #[iv p0, iv p1, iv p2, iv p3, iv p4, iv p5, iv (1 : Int32), iv (1 : Int32), rv b59, rv b60, rv b63, rv b69, rv b70, iv (1 : Int32)] [(.int (1 : Int32))]
      refine go (fun t kt => XS.ifNo X70.here hx rfl (hb hby at_293) rfl ((if0 _ _).trans (tlt (by decide : ((0 : Int32) < (1 : Int32)))).2.2.2) kt) ?_
      show Go p e below _ m T70 296 #[iv p0, iv p1, iv p2, iv p3, iv p4, iv p5, iv (1 : Int32), iv (1 : Int32), rv b59, rv b60, rv b63, rv b69, rv b70, iv (1 : Int32)] []
      refine go (fun t kt => XS.iload X70.here hx rfl (hb hby at_296) rfl kt) ?_
      show Go p e below _ m T70 298 #[iv p0, iv p1, iv p2, iv p3, iv p4, iv p5, iv (1 : Int32), iv (1 : Int32), rv b59, rv b60, rv b63, rv b69, rv b70, iv (1 : Int32)] [(.int (1 : Int32))]
      refine go (fun t kt => XS.ifNo X70.here hx rfl (hb hby at_298) rfl ((if0 _ _).trans (feq (by decide : ¬ ((1 : Int32) = (0 : Int32)))).1) kt) ?_
      show Go p e below _ m T70 301 #[iv p0, iv p1, iv p2, iv p3, iv p4, iv p5, iv (1 : Int32), iv (1 : Int32), rv b59, rv b60, rv b63, rv b69, rv b70, iv (1 : Int32)] []
      refine go (fun t kt => XS.aload X70.here hx rfl (hb hby at_301) rfl rfl kt) ?_
      show Go p e below _ m T70 303 #[iv p0, iv p1, iv p2, iv p3, iv p4, iv p5, iv (1 : Int32), iv (1 : Int32), rv b59, rv b60, rv b63, rv b69, rv b70, iv (1 : Int32)] [(.ref b63)]
      refine go (fun t kt => XS.iconst X70.here hx rfl (hb hby at_303) kt) ?_
      show Go p e below _ m T70 304 #[iv p0, iv p1, iv p2, iv p3, iv p4, iv p5, iv (1 : Int32), iv (1 : Int32), rv b59, rv b60, rv b63, rv b69, rv b70, iv (1 : Int32)] [(.int (0 : Int32)), (.ref b63)]
      refine go (fun t kt => XS.iload X70.here hx rfl (hb hby at_304) rfl kt) ?_
      show Go p e below _ m T70 306 #[iv p0, iv p1, iv p2, iv p3, iv p4, iv p5, iv (1 : Int32), iv (1 : Int32), rv b59, rv b60, rv b63, rv b69, rv b70, iv (1 : Int32)] [(.int p5), (.int (0 : Int32)), (.ref b63)]
      obtain ⟨cq75, kq75, q75a, q75b, q75c⟩ := isOf hZ rfl E_b63
      obtain ⟨_, _, ⟨T75, L75, k75, n75⟩, -, X75, ⟨Lc75, hQ75, l75, y75, z75⟩, st75⟩ := X70.virtualBack hx (y := (⟨"com/example/anytime_arena/anytimearena/io/VariableTable", "inRange", "(II)Z"⟩ : MethodName)) (z := (⟨"com/example/anytime_arena/anytimearena/io/VariableTable", "inRange", "(II)Z"⟩ : MethodName)) hown (mvT hZ (hw _ (List.mem_of_getElem? (i := 86) rfl))) (mvT hZ (hw _ (List.mem_of_getElem? (i := 87) rfl))) (notFace_of_selects (args := #[]) (mvT hZ (hw _ (List.mem_of_getElem? (i := 89) rfl)))) (mvT hZ (hw _ (List.mem_of_getElem? (i := 89) rfl))) (mvT hZ (hw _ (List.mem_of_getElem? (i := 88) rfl))) (by decide) (backOf (W := 0) (rm11 l Z a0 hw [] b63 (0 : Int32) p5 c66 d66 k59 (1 : Int32) [(.int p0)] k60 (1 : Int32) [(.int p1)] p0 p1 T70.heap n0 Zz70 F_low_b63 F_high_b63 V_c66 V_d66 ⟨by decide, by decide⟩ ⟨by decide, by decide⟩ rfl rfl) hZ (hw _ (List.mem_of_getElem? (i := 90) rfl)) (hw _ (List.mem_of_getElem? (i := 3) rfl)) (by decide) (by decide)) q75a q75c (g := (mkF m 306 #[iv p0, iv p1, iv p2, iv p3, iv p4, iv p5, iv (1 : Int32), iv (1 : Int32), rv b59, rv b60, rv b63, rv b69, rv b70, iv (1 : Int32)] [(.int p5), (.int (0 : Int32)), (.ref b63)])) rfl (by rw [hml]; rfl) (Steps.refl _) (argsL := [(.int (0 : Int32)), (.int p5)]) (rest := []) (lenOf pd_3 rfl) rfl (by show 2 * 0 + _ ≤ _; exact Nat.le_of_eq rfl) (hb hby at_306) (fun _ _ => ⟨rfl, rfl, (by decide : 15 + 0 ≤ _), (by decide : 37 + 0 ≤ _)⟩)
      dsimp only [Pt.U, Pt.locs, Pt.cells, Pt.slots] at X75 l75 y75 z75 st75 hQ75
      subst l75 y75 z75
      obtain ⟨rfl, Nq75, e75⟩ := hQ75
      have N75 := Fr.app N70 Nq75
      refine go (fun t kt => st75.trans kt) ?_
      show Go p e below _ m T75 309 #[iv p0, iv p1, iv p2, iv p3, iv p4, iv p5, iv (1 : Int32), iv (1 : Int32), rv b59, rv b60, rv b63, rv b69, rv b70, iv (1 : Int32)] [(.int (own_inR p5 p0 p1))]
      refine go (fun t kt => XS.iload X75.here hx rfl (hb hby at_309) rfl kt) ?_
      show Go p e below _ m T75 311 #[iv p0, iv p1, iv p2, iv p3, iv p4, iv p5, iv (1 : Int32), iv (1 : Int32), rv b59, rv b60, rv b63, rv b69, rv b70, iv (1 : Int32)] [(.int p5), (.int (own_inR p5 p0 p1))]
      refine go (fun t kt => XS.iloadN X75.here hx rfl (hb hby at_311) rfl kt) ?_
      show Go p e below _ m T75 312 #[iv p0, iv p1, iv p2, iv p3, iv p4, iv p5, iv (1 : Int32), iv (1 : Int32), rv b59, rv b60, rv b63, rv b69, rv b70, iv (1 : Int32)] [(.int p0), (.int p5), (.int (own_inR p5 p0 p1))]
      by_cases hc76 : p5 < p0
      ·
        refine go (fun t kt => XS.icmpYes X75.here hx rfl (pc0 := 312) (pc' := 325) rfl (hb hby at_312) rfl (tlt hc76).1 (by decide) (by decide) kt) ?_
        show Go p e below _ m T75 325 #[iv p0, iv p1, iv p2, iv p3, iv p4, iv p5, iv (1 : Int32), iv (1 : Int32), rv b59, rv b60, rv b63, rv b69, rv b70, iv (1 : Int32)] [(.int (own_inR p5 p0 p1))]
        refine go (fun t kt => XS.iconst X75.here hx rfl (hb hby at_325) kt) ?_
        show Go p e below _ m T75 326 #[iv p0, iv p1, iv p2, iv p3, iv p4, iv p5, iv (1 : Int32), iv (1 : Int32), rv b59, rv b60, rv b63, rv b69, rv b70, iv (1 : Int32)] [(.int (0 : Int32)), (.int (own_inR p5 p0 p1))]
        refine go (fun t kt => XS.icmpNo X75.here hx rfl (hb hby at_326) rfl (teq (own_r1 _ _ _ hc76)).2 kt) ?_
        show Go p e below _ m T75 329 #[iv p0, iv p1, iv p2, iv p3, iv p4, iv p5, iv (1 : Int32), iv (1 : Int32), rv b59, rv b60, rv b63, rv b69, rv b70, iv (1 : Int32)] []
        refine go (fun t kt => XS.iconst X75.here hx rfl (hb hby at_329) kt) ?_
        show Go p e below _ m T75 330 #[iv p0, iv p1, iv p2, iv p3, iv p4, iv p5, iv (1 : Int32), iv (1 : Int32), rv b59, rv b60, rv b63, rv b69, rv b70, iv (1 : Int32)] [(.int (1 : Int32))]
        refine go (fun t kt => XS.goto X75.here hx rfl (pc0 := 330) (pc' := 334) rfl (hb hby at_330) (by decide) (by decide) kt) ?_
        show Go p e below _ m T75 334 #[iv p0, iv p1, iv p2, iv p3, iv p4, iv p5, iv (1 : Int32), iv (1 : Int32), rv b59, rv b60, rv b63, rv b69, rv b70, iv (1 : Int32)] [(.int (1 : Int32))]
        refine go (fun t kt => XS.istore X75.here hx rfl (hb hby at_334) rfl (l' := #[iv p0, iv p1, iv p2, iv p3, iv p4, iv p5, iv (1 : Int32), iv (1 : Int32), rv b59, rv b60, rv b63, rv b69, rv b70, iv (1 : Int32)]) rfl kt) ?_
        show Go p e below _ m T75 336 #[iv p0, iv p1, iv p2, iv p3, iv p4, iv p5, iv (1 : Int32), iv (1 : Int32), rv b59, rv b60, rv b63, rv b69, rv b70, iv (1 : Int32)] []
        refine go (fun t kt => XS.iload X75.here hx rfl (hb hby at_336) rfl kt) ?_
        show Go p e below _ m T75 338 #[iv p0, iv p1, iv p2, iv p3, iv p4, iv p5, iv (1 : Int32), iv (1 : Int32), rv b59, rv b60, rv b63, rv b69, rv b70, iv (1 : Int32)] [(.int (1 : Int32))]
        refine go (fun t kt => XS.iconst X75.here hx rfl (hb hby at_338) kt) ?_
        show Go p e below _ m T75 339 #[iv p0, iv p1, iv p2, iv p3, iv p4, iv p5, iv (1 : Int32), iv (1 : Int32), rv b59, rv b60, rv b63, rv b69, rv b70, iv (1 : Int32)] [(.int (1 : Int32)), (.int (1 : Int32))]
        refine go (fun t kt => XS.icmpYes X75.here hx rfl (pc0 := 339) (pc' := 388) rfl (hb hby at_339) rfl (flt (by decide : ¬ ((1 : Int32) < (1 : Int32)))).2.2.2 (by decide) (by decide) kt) ?_
        show Go p e below _ m T75 388 #[iv p0, iv p1, iv p2, iv p3, iv p4, iv p5, iv (1 : Int32), iv (1 : Int32), rv b59, rv b60, rv b63, rv b69, rv b70, iv (1 : Int32)] []
        refine go (fun t kt => XS.iload X75.here hx rfl (hb hby at_388) rfl kt) ?_
        show Go p e below _ m T75 390 #[iv p0, iv p1, iv p2, iv p3, iv p4, iv p5, iv (1 : Int32), iv (1 : Int32), rv b59, rv b60, rv b63, rv b69, rv b70, iv (1 : Int32)] [(.int (1 : Int32))]
        obtain ⟨fs, hr, hrun, hended, hW, hsame⟩ := X75.leave (v := some (.int (1 : Int32))) (fun h => by rw [Bd.returns] at h; cases h)
        refine ⟨_, _, retN X75 hx (t := .boolean) Bd.returns (by simp) (hb hby at_390) hr, hrun, hended, _, _, rfl, ?_, ⟨_, rfl⟩, hW, hsame.mono (by decide) (by decide)⟩
        show Q0 Z p0 p1 p2 p3 p4 p5 sd h0 n0 _ T75.heap _
        rw [e75]
        exact ⟨rfl, N75⟩
      ·
        refine go (fun t kt => XS.icmpNo X75.here hx rfl (hb hby at_312) rfl (flt hc76).1 kt) ?_
        show Go p e below _ m T75 315 #[iv p0, iv p1, iv p2, iv p3, iv p4, iv p5, iv (1 : Int32), iv (1 : Int32), rv b59, rv b60, rv b63, rv b69, rv b70, iv (1 : Int32)] [(.int (own_inR p5 p0 p1))]
        refine go (fun t kt => XS.iload X75.here hx rfl (hb hby at_315) rfl kt) ?_
        show Go p e below _ m T75 317 #[iv p0, iv p1, iv p2, iv p3, iv p4, iv p5, iv (1 : Int32), iv (1 : Int32), rv b59, rv b60, rv b63, rv b69, rv b70, iv (1 : Int32)] [(.int p5), (.int (own_inR p5 p0 p1))]
        refine go (fun t kt => XS.iloadN X75.here hx rfl (hb hby at_317) rfl kt) ?_
        show Go p e below _ m T75 318 #[iv p0, iv p1, iv p2, iv p3, iv p4, iv p5, iv (1 : Int32), iv (1 : Int32), rv b59, rv b60, rv b63, rv b69, rv b70, iv (1 : Int32)] [(.int p1), (.int p5), (.int (own_inR p5 p0 p1))]
        by_cases hc78 : p1 < p5
        ·
          refine go (fun t kt => XS.icmpYes X75.here hx rfl (pc0 := 318) (pc' := 325) rfl (hb hby at_318) rfl (tlt hc78).2.2.1 (by decide) (by decide) kt) ?_
          show Go p e below _ m T75 325 #[iv p0, iv p1, iv p2, iv p3, iv p4, iv p5, iv (1 : Int32), iv (1 : Int32), rv b59, rv b60, rv b63, rv b69, rv b70, iv (1 : Int32)] [(.int (own_inR p5 p0 p1))]
          refine go (fun t kt => XS.iconst X75.here hx rfl (hb hby at_325) kt) ?_
          show Go p e below _ m T75 326 #[iv p0, iv p1, iv p2, iv p3, iv p4, iv p5, iv (1 : Int32), iv (1 : Int32), rv b59, rv b60, rv b63, rv b69, rv b70, iv (1 : Int32)] [(.int (0 : Int32)), (.int (own_inR p5 p0 p1))]
          refine go (fun t kt => XS.icmpNo X75.here hx rfl (hb hby at_326) rfl (teq (own_r2 _ _ _ hc76 hc78)).2 kt) ?_
          show Go p e below _ m T75 329 #[iv p0, iv p1, iv p2, iv p3, iv p4, iv p5, iv (1 : Int32), iv (1 : Int32), rv b59, rv b60, rv b63, rv b69, rv b70, iv (1 : Int32)] []
          refine go (fun t kt => XS.iconst X75.here hx rfl (hb hby at_329) kt) ?_
          show Go p e below _ m T75 330 #[iv p0, iv p1, iv p2, iv p3, iv p4, iv p5, iv (1 : Int32), iv (1 : Int32), rv b59, rv b60, rv b63, rv b69, rv b70, iv (1 : Int32)] [(.int (1 : Int32))]
          refine go (fun t kt => XS.goto X75.here hx rfl (pc0 := 330) (pc' := 334) rfl (hb hby at_330) (by decide) (by decide) kt) ?_
          show Go p e below _ m T75 334 #[iv p0, iv p1, iv p2, iv p3, iv p4, iv p5, iv (1 : Int32), iv (1 : Int32), rv b59, rv b60, rv b63, rv b69, rv b70, iv (1 : Int32)] [(.int (1 : Int32))]
          refine go (fun t kt => XS.istore X75.here hx rfl (hb hby at_334) rfl (l' := #[iv p0, iv p1, iv p2, iv p3, iv p4, iv p5, iv (1 : Int32), iv (1 : Int32), rv b59, rv b60, rv b63, rv b69, rv b70, iv (1 : Int32)]) rfl kt) ?_
          show Go p e below _ m T75 336 #[iv p0, iv p1, iv p2, iv p3, iv p4, iv p5, iv (1 : Int32), iv (1 : Int32), rv b59, rv b60, rv b63, rv b69, rv b70, iv (1 : Int32)] []
          refine go (fun t kt => XS.iload X75.here hx rfl (hb hby at_336) rfl kt) ?_
          show Go p e below _ m T75 338 #[iv p0, iv p1, iv p2, iv p3, iv p4, iv p5, iv (1 : Int32), iv (1 : Int32), rv b59, rv b60, rv b63, rv b69, rv b70, iv (1 : Int32)] [(.int (1 : Int32))]
          refine go (fun t kt => XS.iconst X75.here hx rfl (hb hby at_338) kt) ?_
          show Go p e below _ m T75 339 #[iv p0, iv p1, iv p2, iv p3, iv p4, iv p5, iv (1 : Int32), iv (1 : Int32), rv b59, rv b60, rv b63, rv b69, rv b70, iv (1 : Int32)] [(.int (1 : Int32)), (.int (1 : Int32))]
          refine go (fun t kt => XS.icmpYes X75.here hx rfl (pc0 := 339) (pc' := 388) rfl (hb hby at_339) rfl (flt (by decide : ¬ ((1 : Int32) < (1 : Int32)))).2.2.2 (by decide) (by decide) kt) ?_
          show Go p e below _ m T75 388 #[iv p0, iv p1, iv p2, iv p3, iv p4, iv p5, iv (1 : Int32), iv (1 : Int32), rv b59, rv b60, rv b63, rv b69, rv b70, iv (1 : Int32)] []
          refine go (fun t kt => XS.iload X75.here hx rfl (hb hby at_388) rfl kt) ?_
          show Go p e below _ m T75 390 #[iv p0, iv p1, iv p2, iv p3, iv p4, iv p5, iv (1 : Int32), iv (1 : Int32), rv b59, rv b60, rv b63, rv b69, rv b70, iv (1 : Int32)] [(.int (1 : Int32))]
          obtain ⟨fs, hr, hrun, hended, hW, hsame⟩ := X75.leave (v := some (.int (1 : Int32))) (fun h => by rw [Bd.returns] at h; cases h)
          refine ⟨_, _, retN X75 hx (t := .boolean) Bd.returns (by simp) (hb hby at_390) hr, hrun, hended, _, _, rfl, ?_, ⟨_, rfl⟩, hW, hsame.mono (by decide) (by decide)⟩
          show Q0 Z p0 p1 p2 p3 p4 p5 sd h0 n0 _ T75.heap _
          rw [e75]
          exact ⟨rfl, N75⟩
        ·
          refine go (fun t kt => XS.icmpNo X75.here hx rfl (hb hby at_318) rfl (flt hc78).2.2.1 kt) ?_
          show Go p e below _ m T75 321 #[iv p0, iv p1, iv p2, iv p3, iv p4, iv p5, iv (1 : Int32), iv (1 : Int32), rv b59, rv b60, rv b63, rv b69, rv b70, iv (1 : Int32)] [(.int (own_inR p5 p0 p1))]
          refine go (fun t kt => XS.iconst X75.here hx rfl (hb hby at_321) kt) ?_
          show Go p e below _ m T75 322 #[iv p0, iv p1, iv p2, iv p3, iv p4, iv p5, iv (1 : Int32), iv (1 : Int32), rv b59, rv b60, rv b63, rv b69, rv b70, iv (1 : Int32)] [(.int (1 : Int32)), (.int (own_inR p5 p0 p1))]
          refine go (fun t kt => XS.goto X75.here hx rfl (pc0 := 322) (pc' := 326) rfl (hb hby at_322) (by decide) (by decide) kt) ?_
          show Go p e below _ m T75 326 #[iv p0, iv p1, iv p2, iv p3, iv p4, iv p5, iv (1 : Int32), iv (1 : Int32), rv b59, rv b60, rv b63, rv b69, rv b70, iv (1 : Int32)] [(.int (1 : Int32)), (.int (own_inR p5 p0 p1))]
          refine go (fun t kt => XS.icmpNo X75.here hx rfl (hb hby at_326) rfl (teq (own_r3 _ _ _ hc76 hc78)).2 kt) ?_
          show Go p e below _ m T75 329 #[iv p0, iv p1, iv p2, iv p3, iv p4, iv p5, iv (1 : Int32), iv (1 : Int32), rv b59, rv b60, rv b63, rv b69, rv b70, iv (1 : Int32)] []
          refine go (fun t kt => XS.iconst X75.here hx rfl (hb hby at_329) kt) ?_
          show Go p e below _ m T75 330 #[iv p0, iv p1, iv p2, iv p3, iv p4, iv p5, iv (1 : Int32), iv (1 : Int32), rv b59, rv b60, rv b63, rv b69, rv b70, iv (1 : Int32)] [(.int (1 : Int32))]
          refine go (fun t kt => XS.goto X75.here hx rfl (pc0 := 330) (pc' := 334) rfl (hb hby at_330) (by decide) (by decide) kt) ?_
          show Go p e below _ m T75 334 #[iv p0, iv p1, iv p2, iv p3, iv p4, iv p5, iv (1 : Int32), iv (1 : Int32), rv b59, rv b60, rv b63, rv b69, rv b70, iv (1 : Int32)] [(.int (1 : Int32))]
          refine go (fun t kt => XS.istore X75.here hx rfl (hb hby at_334) rfl (l' := #[iv p0, iv p1, iv p2, iv p3, iv p4, iv p5, iv (1 : Int32), iv (1 : Int32), rv b59, rv b60, rv b63, rv b69, rv b70, iv (1 : Int32)]) rfl kt) ?_
          show Go p e below _ m T75 336 #[iv p0, iv p1, iv p2, iv p3, iv p4, iv p5, iv (1 : Int32), iv (1 : Int32), rv b59, rv b60, rv b63, rv b69, rv b70, iv (1 : Int32)] []
          refine go (fun t kt => XS.iload X75.here hx rfl (hb hby at_336) rfl kt) ?_
          show Go p e below _ m T75 338 #[iv p0, iv p1, iv p2, iv p3, iv p4, iv p5, iv (1 : Int32), iv (1 : Int32), rv b59, rv b60, rv b63, rv b69, rv b70, iv (1 : Int32)] [(.int (1 : Int32))]
          refine go (fun t kt => XS.iconst X75.here hx rfl (hb hby at_338) kt) ?_
          show Go p e below _ m T75 339 #[iv p0, iv p1, iv p2, iv p3, iv p4, iv p5, iv (1 : Int32), iv (1 : Int32), rv b59, rv b60, rv b63, rv b69, rv b70, iv (1 : Int32)] [(.int (1 : Int32)), (.int (1 : Int32))]
          refine go (fun t kt => XS.icmpYes X75.here hx rfl (pc0 := 339) (pc' := 388) rfl (hb hby at_339) rfl (flt (by decide : ¬ ((1 : Int32) < (1 : Int32)))).2.2.2 (by decide) (by decide) kt) ?_
          show Go p e below _ m T75 388 #[iv p0, iv p1, iv p2, iv p3, iv p4, iv p5, iv (1 : Int32), iv (1 : Int32), rv b59, rv b60, rv b63, rv b69, rv b70, iv (1 : Int32)] []
          refine go (fun t kt => XS.iload X75.here hx rfl (hb hby at_388) rfl kt) ?_
          show Go p e below _ m T75 390 #[iv p0, iv p1, iv p2, iv p3, iv p4, iv p5, iv (1 : Int32), iv (1 : Int32), rv b59, rv b60, rv b63, rv b69, rv b70, iv (1 : Int32)] [(.int (1 : Int32))]
          obtain ⟨fs, hr, hrun, hended, hW, hsame⟩ := X75.leave (v := some (.int (1 : Int32))) (fun h => by rw [Bd.returns] at h; cases h)
          refine ⟨_, _, retN X75 hx (t := .boolean) Bd.returns (by simp) (hb hby at_390) hr, hrun, hended, _, _, rfl, ?_, ⟨_, rfl⟩, hW, hsame.mono (by decide) (by decide)⟩
          show Q0 Z p0 p1 p2 p3 p4 p5 sd h0 n0 _ T75.heap _
          rw [e75]
          exact ⟨rfl, N75⟩
    ·
      rw [hj2]
      show Go p e below _ m s₁ 18 #[iv p0, iv p1, iv p2, iv p3, iv p4, iv p5, iv (1 : Int32), iv (2 : Int32), .unset, .unset, .unset, .unset, .unset, .unset] []
      refine go (fun t kt => XS.iload X0.here hx rfl (hb hby at_18) rfl kt) ?_
      show Go p e below _ m s₁ 20 #[iv p0, iv p1, iv p2, iv p3, iv p4, iv p5, iv (1 : Int32), iv (2 : Int32), .unset, .unset, .unset, .unset, .unset, .unset] [(.int (1 : Int32))]
      obtain ⟨T81, h81, k81, X81, e81, E81, A81, B81, st81⟩ := newPE X0 hx hZ (hw _ (List.mem_of_getElem? (i := 0) rfl)) e0 (g := (mkF m 20 #[iv p0, iv p1, iv p2, iv p3, iv p4, iv p5, iv (1 : Int32), iv (2 : Int32), .unset, .unset, .unset, .unset, .unset, .unset] [(.int (1 : Int32))])) rfl (hb hby at_20) rfl (by decide) (cap := 1) (by decide) (by decide) (by decide) (by decide) (ad := "[I") rfl
      obtain ⟨b81, g81⟩ : ∃ z, z = h0.size := ⟨_, rfl⟩
      rw [← g81] at A81 B81 st81
      have g_b81 : n0 ≤ b81 := Nat.le_trans Z0 (Nat.le_of_eq g81.symm)
      have sz_b81 : h0.size ≤ b81 := Nat.le_trans K0.1 (Nat.le_of_eq g81.symm)
      replace S_DEFAULTCAPACITY_EMPTY_ELEMENTDATA := S_DEFAULTCAPACITY_EMPTY_ELEMENTDATA.ext E81
      have Zz81 := Nat.le_trans Z0 E81.1
      have Kk81 := K0.ext E81
      have E_b81 := B81
      have V_b81 : Arv Z h81 b81 k81 .int (1 : Int32) [(.int (0 : Int32))] (.int (0 : Int32)) := (Arv.new A81 (by decide)).pad (pad_rep [] (.int (0 : Int32)) 1)
      refine go st81 ?_
      show Go p e below _ m T81 22 #[iv p0, iv p1, iv p2, iv p3, iv p4, iv p5, iv (1 : Int32), iv (2 : Int32), .unset, .unset, .unset, .unset, .unset, .unset] [(.ref b81)]
      refine go (fun t kt => XS.astore X81.here hx rfl (hb hby at_22) rfl rfl (l' := #[iv p0, iv p1, iv p2, iv p3, iv p4, iv p5, iv (1 : Int32), iv (2 : Int32), rv b81, .unset, .unset, .unset, .unset, .unset]) rfl kt) ?_
      show Go p e below _ m T81 24 #[iv p0, iv p1, iv p2, iv p3, iv p4, iv p5, iv (1 : Int32), iv (2 : Int32), rv b81, .unset, .unset, .unset, .unset, .unset] []
      refine go (fun t kt => XS.iload X81.here hx rfl (hb hby at_24) rfl kt) ?_
      show Go p e below _ m T81 26 #[iv p0, iv p1, iv p2, iv p3, iv p4, iv p5, iv (1 : Int32), iv (2 : Int32), rv b81, .unset, .unset, .unset, .unset, .unset] [(.int (2 : Int32))]
      obtain ⟨T82, h82, k82, X82, e82, E82, A82, B82, st82⟩ := newPE X81 hx hZ (hw _ (List.mem_of_getElem? (i := 0) rfl)) e81 (g := (mkF m 26 #[iv p0, iv p1, iv p2, iv p3, iv p4, iv p5, iv (1 : Int32), iv (2 : Int32), rv b81, .unset, .unset, .unset, .unset, .unset] [(.int (2 : Int32))])) rfl (hb hby at_26) rfl (by decide) (cap := 2) (by decide) (by decide) (by decide) (by decide) (ad := "[I") rfl
      obtain ⟨b82, g82⟩ : ∃ z, z = h81.size := ⟨_, rfl⟩
      rw [← g82] at A82 B82 st82
      have ne_b81_b82 : b81 ≠ b82 := Nat.ne_of_lt (Nat.lt_of_lt_of_le E_b81.lt (Nat.le_of_eq g82.symm))
      have g_b82 : n0 ≤ b82 := Nat.le_trans Zz81 (Nat.le_of_eq g82.symm)
      have sz_b82 : h0.size ≤ b82 := Nat.le_trans Kk81.1 (Nat.le_of_eq g82.symm)
      replace S_DEFAULTCAPACITY_EMPTY_ELEMENTDATA := S_DEFAULTCAPACITY_EMPTY_ELEMENTDATA.ext E82
      replace E_b81 := E_b81.ext E82
      replace V_b81 := V_b81.ext E82
      have Zz82 := Nat.le_trans Zz81 E82.1
      have Kk82 := Kk81.ext E82
      have E_b82 := B82
      have V_b82 : Arv Z h82 b82 k82 .int (2 : Int32) [(.int (0 : Int32)), (.int (0 : Int32))] (.int (0 : Int32)) := (Arv.new A82 (by decide)).pad (pad_rep [] (.int (0 : Int32)) 2)
      refine go st82 ?_
      show Go p e below _ m T82 28 #[iv p0, iv p1, iv p2, iv p3, iv p4, iv p5, iv (1 : Int32), iv (2 : Int32), rv b81, .unset, .unset, .unset, .unset, .unset] [(.ref b82)]
      refine go (fun t kt => XS.astore X82.here hx rfl (hb hby at_28) rfl rfl (l' := #[iv p0, iv p1, iv p2, iv p3, iv p4, iv p5, iv (1 : Int32), iv (2 : Int32), rv b81, rv b82, .unset, .unset, .unset, .unset]) rfl kt) ?_
      show Go p e below _ m T82 30 #[iv p0, iv p1, iv p2, iv p3, iv p4, iv p5, iv (1 : Int32), iv (2 : Int32), rv b81, rv b82, .unset, .unset, .unset, .unset] []
      refine go (fun t kt => XS.iload X82.here hx rfl (hb hby at_30) rfl kt) ?_
      show Go p e below _ m T82 32 #[iv p0, iv p1, iv p2, iv p3, iv p4, iv p5, iv (1 : Int32), iv (2 : Int32), rv b81, rv b82, .unset, .unset, .unset, .unset] [(.int (1 : Int32))]
      refine go (fun t kt => XS.ifNo X82.here hx rfl (hb hby at_32) rfl ((if0 _ _).trans (tlt (by decide : ((0 : Int32) < (1 : Int32)))).2.2.2) kt) ?_
      show Go p e below _ m T82 35 #[iv p0, iv p1, iv p2, iv p3, iv p4, iv p5, iv (1 : Int32), iv (2 : Int32), rv b81, rv b82, .unset, .unset, .unset, .unset] []
      refine go (fun t kt => XS.aload X82.here hx rfl (hb hby at_35) rfl rfl kt) ?_
      show Go p e below _ m T82 37 #[iv p0, iv p1, iv p2, iv p3, iv p4, iv p5, iv (1 : Int32), iv (2 : Int32), rv b81, rv b82, .unset, .unset, .unset, .unset] [(.ref b81)]
      refine go (fun t kt => XS.iconst X82.here hx rfl (hb hby at_37) kt) ?_
      show Go p e below _ m T82 38 #[iv p0, iv p1, iv p2, iv p3, iv p4, iv p5, iv (1 : Int32), iv (2 : Int32), rv b81, rv b82, .unset, .unset, .unset, .unset] [(.int (0 : Int32)), (.ref b81)]
      refine go (fun t kt => XS.iloadN X82.here hx rfl (hb hby at_38) rfl kt) ?_
      show Go p e below _ m T82 39 #[iv p0, iv p1, iv p2, iv p3, iv p4, iv p5, iv (1 : Int32), iv (2 : Int32), rv b81, rv b82, .unset, .unset, .unset, .unset] [(.int p0), (.int (0 : Int32)), (.ref b81)]
      obtain ⟨cl83, Ar83, q83, S83, M83, H83, G83⟩ := V_b81
      have hin83 : ¬ ((0 : Int32) < 0 ∨ cl83.slots.size ≤ ((0 : Int32)).toNatClampNeg) := inb_of S83 ⟨by decide, by decide⟩
      obtain ⟨T83, h83, X83, e83, W83, st83⟩ := stI X82 hx hZ e82 Ar83 (j := (0 : Int32)) hin83 (g := (mkF m 39 #[iv p0, iv p1, iv p2, iv p3, iv p4, iv p5, iv (1 : Int32), iv (2 : Int32), rv b81, rv b82, .unset, .unset, .unset, .unset] [(.int p0), (.int (0 : Int32)), (.ref b81)])) rfl rfl (hb hby at_39)
      have V_b81 : Arv Z h83 b81 k81 .int (1 : Int32) [(.int p0)] (.int (0 : Int32)) := Arv.set Ar83 q83 S83 M83 H83 G83 rfl W83 0 rfl (Nat.le_of_ble_eq_true rfl)
      replace S_DEFAULTCAPACITY_EMPTY_ELEMENTDATA := S_DEFAULTCAPACITY_EMPTY_ELEMENTDATA.wr W83
      replace E_b81 := E_b81.wr W83
      replace E_b82 := E_b82.wr W83
      replace V_b82 := V_b82.other W83 (Ne.symm ne_b81_b82)
      have Zz83 := Nat.le_trans Zz82 (Keep.of_wr W83).1
      have Kk83 := Kk82.wr W83 (Or.inr sz_b81)
      have N83 := Fr.snoc X83 N0 g_b81
      refine go st83 ?_
      show Go p e below _ m T83 40 #[iv p0, iv p1, iv p2, iv p3, iv p4, iv p5, iv (1 : Int32), iv (2 : Int32), rv b81, rv b82, .unset, .unset, .unset, .unset] []
      refine go (fun t kt => XS.iload X83.here hx rfl (hb hby at_40) rfl kt) ?_
      show Go p e below _ m T83 42 #[iv p0, iv p1, iv p2, iv p3, iv p4, iv p5, iv (1 : Int32), iv (2 : Int32), rv b81, rv b82, .unset, .unset, .unset, .unset] [(.int (1 : Int32))]
      refine go (fun t kt => XS.iconst X83.here hx rfl (hb hby at_42) kt) ?_
      show Go p e below _ m T83 43 #[iv p0, iv p1, iv p2, iv p3, iv p4, iv p5, iv (1 : Int32), iv (2 : Int32), rv b81, rv b82, .unset, .unset, .unset, .unset] [(.int (1 : Int32)), (.int (1 : Int32))]
      refine go (fun t kt => XS.icmpYes X83.here hx rfl (pc0 := 43) (pc' := 51) rfl (hb hby at_43) rfl (flt (by decide : ¬ ((1 : Int32) < (1 : Int32)))).2.2.2 (by decide) (by decide) kt) ?_
      show Go p e below _ m T83 51 #[iv p0, iv p1, iv p2, iv p3, iv p4, iv p5, iv (1 : Int32), iv (2 : Int32), rv b81, rv b82, .unset, .unset, .unset, .unset] []
      refine go (fun t kt => XS.iload X83.here hx rfl (hb hby at_51) rfl kt) ?_
      show Go p e below _ m T83 53 #[iv p0, iv p1, iv p2, iv p3, iv p4, iv p5, iv (1 : Int32), iv (2 : Int32), rv b81, rv b82, .unset, .unset, .unset, .unset] [(.int (2 : Int32))]
      refine go (fun t kt => XS.ifNo X83.here hx rfl (hb hby at_53) rfl ((if0 _ _).trans (tlt (by decide : ((0 : Int32) < (2 : Int32)))).2.2.2) kt) ?_
      show Go p e below _ m T83 56 #[iv p0, iv p1, iv p2, iv p3, iv p4, iv p5, iv (1 : Int32), iv (2 : Int32), rv b81, rv b82, .unset, .unset, .unset, .unset] []
      refine go (fun t kt => XS.aload X83.here hx rfl (hb hby at_56) rfl rfl kt) ?_
      show Go p e below _ m T83 58 #[iv p0, iv p1, iv p2, iv p3, iv p4, iv p5, iv (1 : Int32), iv (2 : Int32), rv b81, rv b82, .unset, .unset, .unset, .unset] [(.ref b82)]
      refine go (fun t kt => XS.iconst X83.here hx rfl (hb hby at_58) kt) ?_
      show Go p e below _ m T83 59 #[iv p0, iv p1, iv p2, iv p3, iv p4, iv p5, iv (1 : Int32), iv (2 : Int32), rv b81, rv b82, .unset, .unset, .unset, .unset] [(.int (0 : Int32)), (.ref b82)]
      refine go (fun t kt => XS.iloadN X83.here hx rfl (hb hby at_59) rfl kt) ?_
      show Go p e below _ m T83 60 #[iv p0, iv p1, iv p2, iv p3, iv p4, iv p5, iv (1 : Int32), iv (2 : Int32), rv b81, rv b82, .unset, .unset, .unset, .unset] [(.int p1), (.int (0 : Int32)), (.ref b82)]
      obtain ⟨cl84, Ar84, q84, S84, M84, H84, G84⟩ := V_b82
      have hin84 : ¬ ((0 : Int32) < 0 ∨ cl84.slots.size ≤ ((0 : Int32)).toNatClampNeg) := inb_of S84 ⟨by decide, by decide⟩
      obtain ⟨T84, h84, X84, e84, W84, st84⟩ := stI X83 hx hZ e83 Ar84 (j := (0 : Int32)) hin84 (g := (mkF m 60 #[iv p0, iv p1, iv p2, iv p3, iv p4, iv p5, iv (1 : Int32), iv (2 : Int32), rv b81, rv b82, .unset, .unset, .unset, .unset] [(.int p1), (.int (0 : Int32)), (.ref b82)])) rfl rfl (hb hby at_60)
      have V_b82 : Arv Z h84 b82 k82 .int (2 : Int32) [(.int p1), (.int (0 : Int32))] (.int (0 : Int32)) := Arv.set Ar84 q84 S84 M84 H84 G84 rfl W84 0 rfl (Nat.le_of_ble_eq_true rfl)
      replace S_DEFAULTCAPACITY_EMPTY_ELEMENTDATA := S_DEFAULTCAPACITY_EMPTY_ELEMENTDATA.wr W84
      replace E_b81 := E_b81.wr W84
      replace V_b81 := V_b81.other W84 ne_b81_b82
      replace E_b82 := E_b82.wr W84
      have Zz84 := Nat.le_trans Zz83 (Keep.of_wr W84).1
      have Kk84 := Kk83.wr W84 (Or.inr sz_b82)
      have N84 := Fr.snoc X84 N83 g_b82
      refine go st84 ?_
      show Go p e below _ m T84 61 #[iv p0, iv p1, iv p2, iv p3, iv p4, iv p5, iv (1 : Int32), iv (2 : Int32), rv b81, rv b82, .unset, .unset, .unset, .unset] []
      refine go (fun t kt => XS.iload X84.here hx rfl (hb hby at_61) rfl kt) ?_
      show Go p e below _ m T84 63 #[iv p0, iv p1, iv p2, iv p3, iv p4, iv p5, iv (1 : Int32), iv (2 : Int32), rv b81, rv b82, .unset, .unset, .unset, .unset] [(.int (2 : Int32))]
      refine go (fun t kt => XS.iconst X84.here hx rfl (hb hby at_63) kt) ?_
      show Go p e below _ m T84 64 #[iv p0, iv p1, iv p2, iv p3, iv p4, iv p5, iv (1 : Int32), iv (2 : Int32), rv b81, rv b82, .unset, .unset, .unset, .unset] [(.int (1 : Int32)), (.int (2 : Int32))]
      refine go (fun t kt => XS.icmpNo X84.here hx rfl (hb hby at_64) rfl (tlt (by decide : ((1 : Int32) < (2 : Int32)))).2.2.2 kt) ?_
      show Go p e below _ m T84 67 #[iv p0, iv p1, iv p2, iv p3, iv p4, iv p5, iv (1 : Int32), iv (2 : Int32), rv b81, rv b82, .unset, .unset, .unset, .unset] []
      refine go (fun t kt => XS.aload X84.here hx rfl (hb hby at_67) rfl rfl kt) ?_
      show Go p e below _ m T84 69 #[iv p0, iv p1, iv p2, iv p3, iv p4, iv p5, iv (1 : Int32), iv (2 : Int32), rv b81, rv b82, .unset, .unset, .unset, .unset] [(.ref b82)]
      refine go (fun t kt => XS.iconst X84.here hx rfl (hb hby at_69) kt) ?_
      show Go p e below _ m T84 70 #[iv p0, iv p1, iv p2, iv p3, iv p4, iv p5, iv (1 : Int32), iv (2 : Int32), rv b81, rv b82, .unset, .unset, .unset, .unset] [(.int (1 : Int32)), (.ref b82)]
      refine go (fun t kt => XS.iloadN X84.here hx rfl (hb hby at_70) rfl kt) ?_
      show Go p e below _ m T84 71 #[iv p0, iv p1, iv p2, iv p3, iv p4, iv p5, iv (1 : Int32), iv (2 : Int32), rv b81, rv b82, .unset, .unset, .unset, .unset] [(.int p3), (.int (1 : Int32)), (.ref b82)]
      obtain ⟨cl85, Ar85, q85, S85, M85, H85, G85⟩ := V_b82
      have hin85 : ¬ ((1 : Int32) < 0 ∨ cl85.slots.size ≤ ((1 : Int32)).toNatClampNeg) := inb_of S85 ⟨by decide, by decide⟩
      obtain ⟨T85, h85, X85, e85, W85, st85⟩ := stI X84 hx hZ e84 Ar85 (j := (1 : Int32)) hin85 (g := (mkF m 71 #[iv p0, iv p1, iv p2, iv p3, iv p4, iv p5, iv (1 : Int32), iv (2 : Int32), rv b81, rv b82, .unset, .unset, .unset, .unset] [(.int p3), (.int (1 : Int32)), (.ref b82)])) rfl rfl (hb hby at_71)
      have V_b82 : Arv Z h85 b82 k82 .int (2 : Int32) [(.int p1), (.int p3)] (.int (0 : Int32)) := Arv.set Ar85 q85 S85 M85 H85 G85 rfl W85 1 rfl (Nat.le_of_ble_eq_true rfl)
      replace S_DEFAULTCAPACITY_EMPTY_ELEMENTDATA := S_DEFAULTCAPACITY_EMPTY_ELEMENTDATA.wr W85
      replace E_b81 := E_b81.wr W85
      replace V_b81 := V_b81.other W85 ne_b81_b82
      replace E_b82 := E_b82.wr W85
      have Zz85 := Nat.le_trans Zz84 (Keep.of_wr W85).1
      have Kk85 := Kk84.wr W85 (Or.inr sz_b82)
      have N85 := Fr.snoc X85 N84 g_b82
      refine go st85 ?_
      show Go p e below _ m T85 72 #[iv p0, iv p1, iv p2, iv p3, iv p4, iv p5, iv (1 : Int32), iv (2 : Int32), rv b81, rv b82, .unset, .unset, .unset, .unset] []
      obtain ⟨T86, h86, X86, e86, E86, A86, D86, -, st86⟩ := newO X85 hx hZ hown (hw _ (List.mem_of_getElem? (i := 1) rfl)) (hw _ (List.mem_of_getElem? (i := 2) rfl)) (hw _ (List.mem_of_getElem? (i := 3) rfl)) e85 (g := (mkF m 72 #[iv p0, iv p1, iv p2, iv p3, iv p4, iv p5, iv (1 : Int32), iv (2 : Int32), rv b81, rv b82, .unset, .unset, .unset, .unset] [])) rfl (hb hby at_72) (by decide) (by decide)
      obtain ⟨b86, g86⟩ : ∃ z, z = h85.size := ⟨_, rfl⟩
      rw [← g86] at A86 D86 st86
      have ne_b81_b86 : b81 ≠ b86 := Nat.ne_of_lt (Nat.lt_of_lt_of_le E_b81.lt (Nat.le_of_eq g86.symm))
      have ne_b82_b86 : b82 ≠ b86 := Nat.ne_of_lt (Nat.lt_of_lt_of_le E_b82.lt (Nat.le_of_eq g86.symm))
      have g_b86 : n0 ≤ b86 := Nat.le_trans Zz85 (Nat.le_of_eq g86.symm)
      have sz_b86 : h0.size ≤ b86 := Nat.le_trans Kk85.1 (Nat.le_of_eq g86.symm)
      replace S_DEFAULTCAPACITY_EMPTY_ELEMENTDATA := S_DEFAULTCAPACITY_EMPTY_ELEMENTDATA.ext E86
      replace E_b81 := E_b81.ext E86
      replace V_b81 := V_b81.ext E86
      replace E_b82 := E_b82.ext E86
      replace V_b82 := V_b82.ext E86
      have Zz86 := Nat.le_trans Zz85 E86.1
      have Kk86 := Kk85.ext E86
      have E_b86 := A86
      have F_names_b86 : Fld Z h86 b86 "com/example/anytime_arena/anytimearena/io/VariableTable" "names" "Ljava/util/List;" .null := D86 (Or.inr (hw _ (List.mem_of_getElem? (i := 35) rfl))) (ty := (.object "java/util/List")) (by decide)
      have F_types_b86 : Fld Z h86 b86 "com/example/anytime_arena/anytimearena/io/VariableTable" "types" "Ljava/util/List;" .null := D86 (Or.inr (hw _ (List.mem_of_getElem? (i := 37) rfl))) (ty := (.object "java/util/List")) (by decide)
      have F_owners_b86 : Fld Z h86 b86 "com/example/anytime_arena/anytimearena/io/VariableTable" "owners" "Ljava/util/List;" .null := D86 (Or.inr (hw _ (List.mem_of_getElem? (i := 39) rfl))) (ty := (.object "java/util/List")) (by decide)
      have F_slots_b86 : Fld Z h86 b86 "com/example/anytime_arena/anytimearena/io/VariableTable" "slots" "Ljava/util/Map;" .null := D86 (Or.inr (hw _ (List.mem_of_getElem? (i := 57) rfl))) (ty := (.object "java/util/Map")) (by decide)
      have F_low_b86 : Fld Z h86 b86 "com/example/anytime_arena/anytimearena/io/VariableTable" "low" "[I" .null := D86 (Or.inl (hw _ (List.mem_of_getElem? (i := 59) rfl))) (ty := (.array .int)) (by decide)
      have F_high_b86 : Fld Z h86 b86 "com/example/anytime_arena/anytimearena/io/VariableTable" "high" "[I" .null := D86 (Or.inl (hw _ (List.mem_of_getElem? (i := 61) rfl))) (ty := (.array .int)) (by decide)
      refine go st86 ?_
      show Go p e below _ m T86 75 #[iv p0, iv p1, iv p2, iv p3, iv p4, iv p5, iv (1 : Int32), iv (2 : Int32), rv b81, rv b82, .unset, .unset, .unset, .unset] [(.ref b86)]
      refine go (fun t kt => XS.dup X86.here hx rfl (hb hby at_75) rfl rfl kt) ?_
      show Go p e below _ m T86 76 #[iv p0, iv p1, iv p2, iv p3, iv p4, iv p5, iv (1 : Int32), iv (2 : Int32), rv b81, rv b82, .unset, .unset, .unset, .unset] [(.ref b86), (.ref b86)]
      obtain ⟨_, _, ⟨T87, L87, k87, n87⟩, -, X87, ⟨Lc87, hQ87, l87, y87, z87⟩, st87⟩ := X86.specialBack hx (y := (⟨"com/example/anytime_arena/anytimearena/io/VariableTable", "<init>", "()V"⟩ : MethodName)) rfl hown (mvT hZ (hw _ (List.mem_of_getElem? (i := 4) rfl))) (mvT hZ (hw _ (List.mem_of_getElem? (i := 5) rfl))) (mvT hZ (hw _ (List.mem_of_getElem? (i := 6) rfl))) (by decide) (backOf (W := 1) (rm1 l Z a0 hw [] b86 .null .null .null .null .null .null sd h86 n0 Zz86 E_b86 F_names_b86 F_types_b86 F_owners_b86 F_slots_b86 F_low_b86 F_high_b86 S_DEFAULTCAPACITY_EMPTY_ELEMENTDATA g_b86) hZ (hw _ (List.mem_of_getElem? (i := 6) rfl)) (hw _ (List.mem_of_getElem? (i := 3) rfl)) (by decide) (by decide)) (g := (mkF m 76 #[iv p0, iv p1, iv p2, iv p3, iv p4, iv p5, iv (1 : Int32), iv (2 : Int32), rv b81, rv b82, .unset, .unset, .unset, .unset] [(.ref b86), (.ref b86)])) rfl (by rw [hml]; rfl) (Steps.refl _) (a := b86) (argsL := []) (rest := [(.ref b86)]) (lenOf pd_0 rfl) rfl (by show 2 * 0 + _ ≤ _; exact Nat.le_of_eq rfl) (hb hby at_76) (fun _ _ => ⟨rfl, e86, (by decide : 3 + 6 ≤ _), (by decide : 9 + 17 ≤ _)⟩)
      dsimp only [Pt.U, Pt.locs, Pt.cells, Pt.slots] at X87 l87 y87 z87 st87 hQ87
      subst l87 y87 z87
      obtain ⟨rfl, Nq87, Kq87, Eq87, ⟨ul87, Fl87⟩, ⟨uh87, Fh87⟩⟩ := hQ87
      replace S_DEFAULTCAPACITY_EMPTY_ELEMENTDATA := own_sta_keep S_DEFAULTCAPACITY_EMPTY_ELEMENTDATA E_b86 Kq87
      replace E_b81 := E_b81.keep Kq87
      replace V_b81 := V_b81.keep Kq87 (ninS ne_b81_b86 nin0)
      replace E_b82 := E_b82.keep Kq87
      replace V_b82 := V_b82.keep Kq87 (ninS ne_b82_b86 nin0)
      replace E_b86 := E_b86.keep Kq87
      clear F_names_b86
      clear F_types_b86
      clear F_owners_b86
      clear F_slots_b86
      clear F_low_b86
      clear F_high_b86
      have Zz87 := Nat.le_trans Zz86 Kq87.1
      have Kk87 := Kk86.trans Kq87 (allS (Or.inr sz_b86) all0)
      have E_b86 := Eq87
      have F_low_b86 := Fl87
      have F_high_b86 := Fh87
      have N87 := Fr.app N85 Nq87
      refine go (fun t kt => st87.trans kt) ?_
      show Go p e below _ m T87 79 #[iv p0, iv p1, iv p2, iv p3, iv p4, iv p5, iv (1 : Int32), iv (2 : Int32), rv b81, rv b82, .unset, .unset, .unset, .unset] [(.ref b86)]
      refine go (fun t kt => XS.astore X87.here hx rfl (hb hby at_79) rfl rfl (l' := #[iv p0, iv p1, iv p2, iv p3, iv p4, iv p5, iv (1 : Int32), iv (2 : Int32), rv b81, rv b82, rv b86, .unset, .unset, .unset]) rfl kt) ?_
      show Go p e below _ m T87 81 #[iv p0, iv p1, iv p2, iv p3, iv p4, iv p5, iv (1 : Int32), iv (2 : Int32), rv b81, rv b82, rv b86, .unset, .unset, .unset] []
      refine go (fun t kt => XS.aload X87.here hx rfl (hb hby at_81) rfl rfl kt) ?_
      show Go p e below _ m T87 83 #[iv p0, iv p1, iv p2, iv p3, iv p4, iv p5, iv (1 : Int32), iv (2 : Int32), rv b81, rv b82, rv b86, .unset, .unset, .unset] [(.ref b86)]
      refine go (fun t kt => XS.aload X87.here hx rfl (hb hby at_83) rfl rfl kt) ?_
      show Go p e below _ m T87 85 #[iv p0, iv p1, iv p2, iv p3, iv p4, iv p5, iv (1 : Int32), iv (2 : Int32), rv b81, rv b82, rv b86, .unset, .unset, .unset] [(.ref b82), (.ref b86)]
      refine go (fun t kt => XS.aload X87.here hx rfl (hb hby at_85) rfl rfl kt) ?_
      show Go p e below _ m T87 87 #[iv p0, iv p1, iv p2, iv p3, iv p4, iv p5, iv (1 : Int32), iv (2 : Int32), rv b81, rv b82, rv b86, .unset, .unset, .unset] [(.ref b81), (.ref b82), (.ref b86)]
      obtain ⟨cq88, kq88, q88a, q88b, q88c⟩ := isOf hZ rfl E_b86
      obtain ⟨_, _, ⟨T88, L88, k88, n88⟩, -, X88, ⟨Lc88, hQ88, l88, y88, z88⟩, st88⟩ := X87.virtualBack hx (y := (⟨"com/example/anytime_arena/anytimearena/io/VariableTable", "setRanges", "([I[I)V"⟩ : MethodName)) (z := (⟨"com/example/anytime_arena/anytimearena/io/VariableTable", "setRanges", "([I[I)V"⟩ : MethodName)) hown (mvT hZ (hw _ (List.mem_of_getElem? (i := 62) rfl))) (mvT hZ (hw _ (List.mem_of_getElem? (i := 63) rfl))) (notFace_of_selects (args := #[]) (mvT hZ (hw _ (List.mem_of_getElem? (i := 65) rfl)))) (mvT hZ (hw _ (List.mem_of_getElem? (i := 65) rfl))) (mvT hZ (hw _ (List.mem_of_getElem? (i := 64) rfl))) (by decide) (backOf (W := 0) (rm8 l Z a0 hw [] b86 b82 b81 ul87 uh87 k82 (2 : Int32) [(.int p1), (.int p3)] k81 (1 : Int32) [(.int p0)] T87.heap n0 Zz87 E_b86 F_low_b86 F_high_b86 E_b82 V_b82 E_b81 V_b81 (Ne.symm ne_b82_b86) (Ne.symm ne_b81_b86) g_b86 (by decide) (by decide)) hZ (hw _ (List.mem_of_getElem? (i := 66) rfl)) (hw _ (List.mem_of_getElem? (i := 3) rfl)) (by decide) (by decide)) q88a q88c (g := (mkF m 87 #[iv p0, iv p1, iv p2, iv p3, iv p4, iv p5, iv (1 : Int32), iv (2 : Int32), rv b81, rv b82, rv b86, .unset, .unset, .unset] [(.ref b81), (.ref b82), (.ref b86)])) rfl (by rw [hml]; rfl) (Steps.refl _) (argsL := [(.ref b82), (.ref b81)]) (rest := []) (lenOf pd_1 rfl) rfl (by show 2 * 0 + _ ≤ _; exact Nat.le_of_eq rfl) (hb hby at_87) (fun _ _ => ⟨rfl, rfl, (by decide : 9 + 2 ≤ _), (by decide : 26 + 4 ≤ _)⟩)
      dsimp only [Pt.U, Pt.locs, Pt.cells, Pt.slots] at X88 l88 y88 z88 st88 hQ88
      subst l88 y88 z88
      obtain ⟨rfl, Nq88, Kq88, Eq88, c88, d88, lc88, ld88, ne_c88_d88, Fl88, Fh88, Ec88, Vc88, Ed88, Vd88⟩ := hQ88
      have ne_b81_c88 : b81 ≠ c88 := Nat.ne_of_lt (Nat.lt_of_lt_of_le E_b81.lt lc88)
      have ne_b82_c88 : b82 ≠ c88 := Nat.ne_of_lt (Nat.lt_of_lt_of_le E_b82.lt lc88)
      have ne_b86_c88 : b86 ≠ c88 := Nat.ne_of_lt (Nat.lt_of_lt_of_le E_b86.lt lc88)
      have g_c88 : n0 ≤ c88 := Nat.le_trans Zz87 lc88
      have sz_c88 : h0.size ≤ c88 := Nat.le_trans Kk87.1 lc88
      have ne_b81_d88 : b81 ≠ d88 := Nat.ne_of_lt (Nat.lt_of_lt_of_le E_b81.lt ld88)
      have ne_b82_d88 : b82 ≠ d88 := Nat.ne_of_lt (Nat.lt_of_lt_of_le E_b82.lt ld88)
      have ne_b86_d88 : b86 ≠ d88 := Nat.ne_of_lt (Nat.lt_of_lt_of_le E_b86.lt ld88)
      have g_d88 : n0 ≤ d88 := Nat.le_trans Zz87 ld88
      have sz_d88 : h0.size ≤ d88 := Nat.le_trans Kk87.1 ld88
      replace S_DEFAULTCAPACITY_EMPTY_ELEMENTDATA := own_sta_keep S_DEFAULTCAPACITY_EMPTY_ELEMENTDATA E_b86 Kq88
      replace E_b81 := E_b81.keep Kq88
      replace V_b81 := V_b81.keep Kq88 (ninS ne_b81_b86 nin0)
      replace E_b82 := E_b82.keep Kq88
      replace V_b82 := V_b82.keep Kq88 (ninS ne_b82_b86 nin0)
      replace E_b86 := E_b86.keep Kq88
      clear F_low_b86
      clear F_high_b86
      have Zz88 := Nat.le_trans Zz87 Kq88.1
      have Kk88 := Kk87.trans Kq88 (allS (Or.inr sz_b86) all0)
      have E_b86 := Eq88
      have F_low_b86 := Fl88
      have F_high_b86 := Fh88
      have E_c88 := Ec88
      have V_c88 := Vc88
      have E_d88 := Ed88
      have V_d88 := Vd88
      have N88 := Fr.app N87 Nq88
      refine go (fun t kt => st88.trans kt) ?_
      show Go p e below _ m T88 90 #[iv p0, iv p1, iv p2, iv p3, iv p4, iv p5, iv (1 : Int32), iv (2 : Int32), rv b81, rv b82, rv b86, .unset, .unset, .unset] []
      refine go (fun t kt => XS.aload X88.here hx rfl (hb hby at_90) rfl rfl kt) ?_
      show Go p e below _ m T88 92 #[iv p0, iv p1, iv p2, iv p3, iv p4, iv p5, iv (1 : Int32), iv (2 : Int32), rv b81, rv b82, rv b86, .unset, .unset, .unset] [(.ref b86)]
      refine go (fun t kt => XS.aload X88.here hx rfl (hb hby at_92) rfl rfl kt) ?_
      show Go p e below _ m T88 94 #[iv p0, iv p1, iv p2, iv p3, iv p4, iv p5, iv (1 : Int32), iv (2 : Int32), rv b81, rv b82, rv b86, .unset, .unset, .unset] [(.ref b81), (.ref b86)]
      refine go (fun t kt => XS.aload X88.here hx rfl (hb hby at_94) rfl rfl kt) ?_
      show Go p e below _ m T88 96 #[iv p0, iv p1, iv p2, iv p3, iv p4, iv p5, iv (1 : Int32), iv (2 : Int32), rv b81, rv b82, rv b86, .unset, .unset, .unset] [(.ref b82), (.ref b81), (.ref b86)]
      obtain ⟨cq89, kq89, q89a, q89b, q89c⟩ := isOf hZ rfl E_b86
      obtain ⟨_, _, ⟨T89, L89, k89, n89⟩, -, X89, ⟨Lc89, hQ89, l89, y89, z89⟩, st89⟩ := X88.virtualBack hx (y := (⟨"com/example/anytime_arena/anytimearena/io/VariableTable", "setRanges", "([I[I)V"⟩ : MethodName)) (z := (⟨"com/example/anytime_arena/anytimearena/io/VariableTable", "setRanges", "([I[I)V"⟩ : MethodName)) hown (mvT hZ (hw _ (List.mem_of_getElem? (i := 62) rfl))) (mvT hZ (hw _ (List.mem_of_getElem? (i := 63) rfl))) (notFace_of_selects (args := #[]) (mvT hZ (hw _ (List.mem_of_getElem? (i := 65) rfl)))) (mvT hZ (hw _ (List.mem_of_getElem? (i := 65) rfl))) (mvT hZ (hw _ (List.mem_of_getElem? (i := 64) rfl))) (by decide) (backOf (W := 0) (rm8 l Z a0 hw [] b86 b81 b82 (.ref c88) (.ref d88) k81 (1 : Int32) [(.int p0)] k82 (2 : Int32) [(.int p1), (.int p3)] T88.heap n0 Zz88 E_b86 F_low_b86 F_high_b86 E_b81 V_b81 E_b82 V_b82 (Ne.symm ne_b81_b86) (Ne.symm ne_b82_b86) g_b86 (by decide) (by decide)) hZ (hw _ (List.mem_of_getElem? (i := 66) rfl)) (hw _ (List.mem_of_getElem? (i := 3) rfl)) (by decide) (by decide)) q89a q89c (g := (mkF m 96 #[iv p0, iv p1, iv p2, iv p3, iv p4, iv p5, iv (1 : Int32), iv (2 : Int32), rv b81, rv b82, rv b86, .unset, .unset, .unset] [(.ref b82), (.ref b81), (.ref b86)])) rfl (by rw [hml]; rfl) (Steps.refl _) (argsL := [(.ref b81), (.ref b82)]) (rest := []) (lenOf pd_1 rfl) rfl (by show 2 * 0 + _ ≤ _; exact Nat.le_of_eq rfl) (hb hby at_96) (fun _ _ => ⟨rfl, rfl, (by decide : 11 + 2 ≤ _), (by decide : 30 + 4 ≤ _)⟩)
      dsimp only [Pt.U, Pt.locs, Pt.cells, Pt.slots] at X89 l89 y89 z89 st89 hQ89
      subst l89 y89 z89
      obtain ⟨rfl, Nq89, Kq89, Eq89, c89, d89, lc89, ld89, ne_c89_d89, Fl89, Fh89, Ec89, Vc89, Ed89, Vd89⟩ := hQ89
      have ne_b81_c89 : b81 ≠ c89 := Nat.ne_of_lt (Nat.lt_of_lt_of_le E_b81.lt lc89)
      have ne_b82_c89 : b82 ≠ c89 := Nat.ne_of_lt (Nat.lt_of_lt_of_le E_b82.lt lc89)
      have ne_b86_c89 : b86 ≠ c89 := Nat.ne_of_lt (Nat.lt_of_lt_of_le E_b86.lt lc89)
      have ne_c88_c89 : c88 ≠ c89 := Nat.ne_of_lt (Nat.lt_of_lt_of_le E_c88.lt lc89)
      have ne_d88_c89 : d88 ≠ c89 := Nat.ne_of_lt (Nat.lt_of_lt_of_le E_d88.lt lc89)
      have g_c89 : n0 ≤ c89 := Nat.le_trans Zz88 lc89
      have sz_c89 : h0.size ≤ c89 := Nat.le_trans Kk88.1 lc89
      have ne_b81_d89 : b81 ≠ d89 := Nat.ne_of_lt (Nat.lt_of_lt_of_le E_b81.lt ld89)
      have ne_b82_d89 : b82 ≠ d89 := Nat.ne_of_lt (Nat.lt_of_lt_of_le E_b82.lt ld89)
      have ne_b86_d89 : b86 ≠ d89 := Nat.ne_of_lt (Nat.lt_of_lt_of_le E_b86.lt ld89)
      have ne_c88_d89 : c88 ≠ d89 := Nat.ne_of_lt (Nat.lt_of_lt_of_le E_c88.lt ld89)
      have ne_d88_d89 : d88 ≠ d89 := Nat.ne_of_lt (Nat.lt_of_lt_of_le E_d88.lt ld89)
      have g_d89 : n0 ≤ d89 := Nat.le_trans Zz88 ld89
      have sz_d89 : h0.size ≤ d89 := Nat.le_trans Kk88.1 ld89
      replace S_DEFAULTCAPACITY_EMPTY_ELEMENTDATA := own_sta_keep S_DEFAULTCAPACITY_EMPTY_ELEMENTDATA E_b86 Kq89
      replace E_b81 := E_b81.keep Kq89
      replace V_b81 := V_b81.keep Kq89 (ninS ne_b81_b86 nin0)
      replace E_b82 := E_b82.keep Kq89
      replace V_b82 := V_b82.keep Kq89 (ninS ne_b82_b86 nin0)
      replace E_b86 := E_b86.keep Kq89
      clear F_low_b86
      clear F_high_b86
      replace E_c88 := E_c88.keep Kq89
      replace V_c88 := V_c88.keep Kq89 (ninS (Ne.symm ne_b86_c88) nin0)
      replace E_d88 := E_d88.keep Kq89
      replace V_d88 := V_d88.keep Kq89 (ninS (Ne.symm ne_b86_d88) nin0)
      have Zz89 := Nat.le_trans Zz88 Kq89.1
      have Kk89 := Kk88.trans Kq89 (allS (Or.inr sz_b86) all0)
      have E_b86 := Eq89
      have F_low_b86 := Fl89
      have F_high_b86 := Fh89
      have E_c89 := Ec89
      have V_c89 := Vc89
      have E_d89 := Ed89
      have V_d89 := Vd89
      have N89 := Fr.app N88 Nq89
      refine go (fun t kt => st89.trans kt) ?_
      show Go p e below _ m T89 99 #[iv p0, iv p1, iv p2, iv p3, iv p4, iv p5, iv (1 : Int32), iv (2 : Int32), rv b81, rv b82, rv b86, .unset, .unset, .unset] []
      refine go (fun t kt => XS.iload X89.here hx rfl (hb hby at_99) rfl kt) ?_
      show Go p e below _ m T89 101 #[iv p0, iv p1, iv p2, iv p3, iv p4, iv p5, iv (1 : Int32), iv (2 : Int32), rv b81, rv b82, rv b86, .unset, .unset, .unset] [(.int (1 : Int32))]
      refine go (fun t kt => XS.ifNo X89.here hx rfl (hb hby at_101) rfl ((if0 _ _).trans (tlt (by decide : ((0 : Int32) < (1 : Int32)))).2.2.2) kt) ?_
      show Go p e below _ m T89 104 #[iv p0, iv p1, iv p2, iv p3, iv p4, iv p5, iv (1 : Int32), iv (2 : Int32), rv b81, rv b82, rv b86, .unset, .unset, .unset] []
      refine go (fun t kt => XS.aload X89.here hx rfl (hb hby at_104) rfl rfl kt) ?_
      show Go p e below _ m T89 106 #[iv p0, iv p1, iv p2, iv p3, iv p4, iv p5, iv (1 : Int32), iv (2 : Int32), rv b81, rv b82, rv b86, .unset, .unset, .unset] [(.ref b81)]
      refine go (fun t kt => XS.iconst X89.here hx rfl (hb hby at_106) kt) ?_
      show Go p e below _ m T89 107 #[iv p0, iv p1, iv p2, iv p3, iv p4, iv p5, iv (1 : Int32), iv (2 : Int32), rv b81, rv b82, rv b86, .unset, .unset, .unset] [(.int (0 : Int32)), (.ref b81)]
      refine go (fun t kt => XS.iloadN X89.here hx rfl (hb hby at_107) rfl kt) ?_
      show Go p e below _ m T89 108 #[iv p0, iv p1, iv p2, iv p3, iv p4, iv p5, iv (1 : Int32), iv (2 : Int32), rv b81, rv b82, rv b86, .unset, .unset, .unset] [(.int p0), (.int (0 : Int32)), (.ref b81)]
      refine go (fun t kt => XS.iconst X89.here hx rfl (hb hby at_108) kt) ?_
      show Go p e below _ m T89 109 #[iv p0, iv p1, iv p2, iv p3, iv p4, iv p5, iv (1 : Int32), iv (2 : Int32), rv b81, rv b82, rv b86, .unset, .unset, .unset] [(.int (-1 : Int32)), (.int p0), (.int (0 : Int32)), (.ref b81)]
      refine go (fun t kt => XS.ixor X89.here hx rfl (hb hby at_109) rfl kt) ?_
      show Go p e below _ m T89 110 #[iv p0, iv p1, iv p2, iv p3, iv p4, iv p5, iv (1 : Int32), iv (2 : Int32), rv b81, rv b82, rv b86, .unset, .unset, .unset] [(.int (p0 ^^^ (-1 : Int32))), (.int (0 : Int32)), (.ref b81)]
      obtain ⟨cl90, Ar90, q90, S90, M90, H90, G90⟩ := V_b81
      have hin90 : ¬ ((0 : Int32) < 0 ∨ cl90.slots.size ≤ ((0 : Int32)).toNatClampNeg) := inb_of S90 ⟨by decide, by decide⟩
      obtain ⟨T90, h90, X90, e90, W90, st90⟩ := stI X89 hx hZ rfl Ar90 (j := (0 : Int32)) hin90 (g := (mkF m 110 #[iv p0, iv p1, iv p2, iv p3, iv p4, iv p5, iv (1 : Int32), iv (2 : Int32), rv b81, rv b82, rv b86, .unset, .unset, .unset] [(.int (p0 ^^^ (-1 : Int32))), (.int (0 : Int32)), (.ref b81)])) rfl rfl (hb hby at_110)
      have V_b81 : Arv Z h90 b81 k81 .int (1 : Int32) [(.int (p0 ^^^ (-1 : Int32)))] (.int (0 : Int32)) := Arv.set Ar90 q90 S90 M90 H90 G90 rfl W90 0 rfl (Nat.le_of_ble_eq_true rfl)
      replace S_DEFAULTCAPACITY_EMPTY_ELEMENTDATA := S_DEFAULTCAPACITY_EMPTY_ELEMENTDATA.wr W90
      replace E_b81 := E_b81.wr W90
      replace E_b82 := E_b82.wr W90
      replace V_b82 := V_b82.other W90 (Ne.symm ne_b81_b82)
      replace E_b86 := E_b86.wr W90
      replace E_c88 := E_c88.wr W90
      replace V_c88 := V_c88.other W90 (Ne.symm ne_b81_c88)
      replace E_d88 := E_d88.wr W90
      replace V_d88 := V_d88.other W90 (Ne.symm ne_b81_d88)
      replace F_low_b86 := F_low_b86.other W90 (Or.inl (Ne.symm ne_b81_b86))
      replace F_high_b86 := F_high_b86.other W90 (Or.inl (Ne.symm ne_b81_b86))
      replace E_c89 := E_c89.wr W90
      replace V_c89 := V_c89.other W90 (Ne.symm ne_b81_c89)
      replace E_d89 := E_d89.wr W90
      replace V_d89 := V_d89.other W90 (Ne.symm ne_b81_d89)
      have Zz90 := Nat.le_trans Zz89 (Keep.of_wr W90).1
      have Kk90 := Kk89.wr W90 (Or.inr sz_b81)
      have N90 := Fr.snoc X90 N89 g_b81
      refine go st90 ?_
      show Go p e below _ m T90 111 #[iv p0, iv p1, iv p2, iv p3, iv p4, iv p5, iv (1 : Int32), iv (2 : Int32), rv b81, rv b82, rv b86, .unset, .unset, .unset] []
      refine go (fun t kt => XS.iload X90.here hx rfl (hb hby at_111) rfl kt) ?_
      show Go p e below _ m T90 113 #[iv p0, iv p1, iv p2, iv p3, iv p4, iv p5, iv (1 : Int32), iv (2 : Int32), rv b81, rv b82, rv b86, .unset, .unset, .unset] [(.int (1 : Int32))]
      refine go (fun t kt => XS.iconst X90.here hx rfl (hb hby at_113) kt) ?_
      show Go p e below _ m T90 114 #[iv p0, iv p1, iv p2, iv p3, iv p4, iv p5, iv (1 : Int32), iv (2 : Int32), rv b81, rv b82, rv b86, .unset, .unset, .unset] [(.int (1 : Int32)), (.int (1 : Int32))]
      refine go (fun t kt => XS.icmpYes X90.here hx rfl (pc0 := 114) (pc' := 124) rfl (hb hby at_114) rfl (flt (by decide : ¬ ((1 : Int32) < (1 : Int32)))).2.2.2 (by decide) (by decide) kt) ?_
      show Go p e below _ m T90 124 #[iv p0, iv p1, iv p2, iv p3, iv p4, iv p5, iv (1 : Int32), iv (2 : Int32), rv b81, rv b82, rv b86, .unset, .unset, .unset] []
      refine go (fun t kt => XS.iload X90.here hx rfl (hb hby at_124) rfl kt) ?_
      show Go p e below _ m T90 126 #[iv p0, iv p1, iv p2, iv p3, iv p4, iv p5, iv (1 : Int32), iv (2 : Int32), rv b81, rv b82, rv b86, .unset, .unset, .unset] [(.int (2 : Int32))]
      refine go (fun t kt => XS.ifNo X90.here hx rfl (hb hby at_126) rfl ((if0 _ _).trans (tlt (by decide : ((0 : Int32) < (2 : Int32)))).2.2.2) kt) ?_
      show Go p e below _ m T90 129 #[iv p0, iv p1, iv p2, iv p3, iv p4, iv p5, iv (1 : Int32), iv (2 : Int32), rv b81, rv b82, rv b86, .unset, .unset, .unset] []
      refine go (fun t kt => XS.aload X90.here hx rfl (hb hby at_129) rfl rfl kt) ?_
      show Go p e below _ m T90 131 #[iv p0, iv p1, iv p2, iv p3, iv p4, iv p5, iv (1 : Int32), iv (2 : Int32), rv b81, rv b82, rv b86, .unset, .unset, .unset] [(.ref b82)]
      refine go (fun t kt => XS.iconst X90.here hx rfl (hb hby at_131) kt) ?_
      show Go p e below _ m T90 132 #[iv p0, iv p1, iv p2, iv p3, iv p4, iv p5, iv (1 : Int32), iv (2 : Int32), rv b81, rv b82, rv b86, .unset, .unset, .unset] [(.int (0 : Int32)), (.ref b82)]
      refine go (fun t kt => XS.iloadN X90.here hx rfl (hb hby at_132) rfl kt) ?_
      show Go p e below _ m T90 133 #[iv p0, iv p1, iv p2, iv p3, iv p4, iv p5, iv (1 : Int32), iv (2 : Int32), rv b81, rv b82, rv b86, .unset, .unset, .unset] [(.int p1), (.int (0 : Int32)), (.ref b82)]
      refine go (fun t kt => XS.iconst X90.here hx rfl (hb hby at_133) kt) ?_
      show Go p e below _ m T90 134 #[iv p0, iv p1, iv p2, iv p3, iv p4, iv p5, iv (1 : Int32), iv (2 : Int32), rv b81, rv b82, rv b86, .unset, .unset, .unset] [(.int (-1 : Int32)), (.int p1), (.int (0 : Int32)), (.ref b82)]
      refine go (fun t kt => XS.ixor X90.here hx rfl (hb hby at_134) rfl kt) ?_
      show Go p e below _ m T90 135 #[iv p0, iv p1, iv p2, iv p3, iv p4, iv p5, iv (1 : Int32), iv (2 : Int32), rv b81, rv b82, rv b86, .unset, .unset, .unset] [(.int (p1 ^^^ (-1 : Int32))), (.int (0 : Int32)), (.ref b82)]
      obtain ⟨cl91, Ar91, q91, S91, M91, H91, G91⟩ := V_b82
      have hin91 : ¬ ((0 : Int32) < 0 ∨ cl91.slots.size ≤ ((0 : Int32)).toNatClampNeg) := inb_of S91 ⟨by decide, by decide⟩
      obtain ⟨T91, h91, X91, e91, W91, st91⟩ := stI X90 hx hZ e90 Ar91 (j := (0 : Int32)) hin91 (g := (mkF m 135 #[iv p0, iv p1, iv p2, iv p3, iv p4, iv p5, iv (1 : Int32), iv (2 : Int32), rv b81, rv b82, rv b86, .unset, .unset, .unset] [(.int (p1 ^^^ (-1 : Int32))), (.int (0 : Int32)), (.ref b82)])) rfl rfl (hb hby at_135)
      have V_b82 : Arv Z h91 b82 k82 .int (2 : Int32) [(.int (p1 ^^^ (-1 : Int32))), (.int p3)] (.int (0 : Int32)) := Arv.set Ar91 q91 S91 M91 H91 G91 rfl W91 0 rfl (Nat.le_of_ble_eq_true rfl)
      replace S_DEFAULTCAPACITY_EMPTY_ELEMENTDATA := S_DEFAULTCAPACITY_EMPTY_ELEMENTDATA.wr W91
      replace E_b81 := E_b81.wr W91
      replace V_b81 := V_b81.other W91 ne_b81_b82
      replace E_b82 := E_b82.wr W91
      replace E_b86 := E_b86.wr W91
      replace E_c88 := E_c88.wr W91
      replace V_c88 := V_c88.other W91 (Ne.symm ne_b82_c88)
      replace E_d88 := E_d88.wr W91
      replace V_d88 := V_d88.other W91 (Ne.symm ne_b82_d88)
      replace F_low_b86 := F_low_b86.other W91 (Or.inl (Ne.symm ne_b82_b86))
      replace F_high_b86 := F_high_b86.other W91 (Or.inl (Ne.symm ne_b82_b86))
      replace E_c89 := E_c89.wr W91
      replace V_c89 := V_c89.other W91 (Ne.symm ne_b82_c89)
      replace E_d89 := E_d89.wr W91
      replace V_d89 := V_d89.other W91 (Ne.symm ne_b82_d89)
      have Zz91 := Nat.le_trans Zz90 (Keep.of_wr W91).1
      have Kk91 := Kk90.wr W91 (Or.inr sz_b82)
      have N91 := Fr.snoc X91 N90 g_b82
      refine go st91 ?_
      show Go p e below _ m T91 136 #[iv p0, iv p1, iv p2, iv p3, iv p4, iv p5, iv (1 : Int32), iv (2 : Int32), rv b81, rv b82, rv b86, .unset, .unset, .unset] []
      refine go (fun t kt => XS.iload X91.here hx rfl (hb hby at_136) rfl kt) ?_
      show Go p e below _ m T91 138 #[iv p0, iv p1, iv p2, iv p3, iv p4, iv p5, iv (1 : Int32), iv (2 : Int32), rv b81, rv b82, rv b86, .unset, .unset, .unset] [(.int (2 : Int32))]
      refine go (fun t kt => XS.iconst X91.here hx rfl (hb hby at_138) kt) ?_
      show Go p e below _ m T91 139 #[iv p0, iv p1, iv p2, iv p3, iv p4, iv p5, iv (1 : Int32), iv (2 : Int32), rv b81, rv b82, rv b86, .unset, .unset, .unset] [(.int (1 : Int32)), (.int (2 : Int32))]
      refine go (fun t kt => XS.icmpNo X91.here hx rfl (hb hby at_139) rfl (tlt (by decide : ((1 : Int32) < (2 : Int32)))).2.2.2 kt) ?_
      show Go p e below _ m T91 142 #[iv p0, iv p1, iv p2, iv p3, iv p4, iv p5, iv (1 : Int32), iv (2 : Int32), rv b81, rv b82, rv b86, .unset, .unset, .unset] []
      refine go (fun t kt => XS.aload X91.here hx rfl (hb hby at_142) rfl rfl kt) ?_
      show Go p e below _ m T91 144 #[iv p0, iv p1, iv p2, iv p3, iv p4, iv p5, iv (1 : Int32), iv (2 : Int32), rv b81, rv b82, rv b86, .unset, .unset, .unset] [(.ref b82)]
      refine go (fun t kt => XS.iconst X91.here hx rfl (hb hby at_144) kt) ?_
      show Go p e below _ m T91 145 #[iv p0, iv p1, iv p2, iv p3, iv p4, iv p5, iv (1 : Int32), iv (2 : Int32), rv b81, rv b82, rv b86, .unset, .unset, .unset] [(.int (1 : Int32)), (.ref b82)]
      refine go (fun t kt => XS.iloadN X91.here hx rfl (hb hby at_145) rfl kt) ?_
      show Go p e below _ m T91 146 #[iv p0, iv p1, iv p2, iv p3, iv p4, iv p5, iv (1 : Int32), iv (2 : Int32), rv b81, rv b82, rv b86, .unset, .unset, .unset] [(.int p3), (.int (1 : Int32)), (.ref b82)]
      refine go (fun t kt => XS.iconst X91.here hx rfl (hb hby at_146) kt) ?_
      show Go p e below _ m T91 147 #[iv p0, iv p1, iv p2, iv p3, iv p4, iv p5, iv (1 : Int32), iv (2 : Int32), rv b81, rv b82, rv b86, .unset, .unset, .unset] [(.int (-1 : Int32)), (.int p3), (.int (1 : Int32)), (.ref b82)]
      refine go (fun t kt => XS.ixor X91.here hx rfl (hb hby at_147) rfl kt) ?_
      show Go p e below _ m T91 148 #[iv p0, iv p1, iv p2, iv p3, iv p4, iv p5, iv (1 : Int32), iv (2 : Int32), rv b81, rv b82, rv b86, .unset, .unset, .unset] [(.int (p3 ^^^ (-1 : Int32))), (.int (1 : Int32)), (.ref b82)]
      obtain ⟨cl92, Ar92, q92, S92, M92, H92, G92⟩ := V_b82
      have hin92 : ¬ ((1 : Int32) < 0 ∨ cl92.slots.size ≤ ((1 : Int32)).toNatClampNeg) := inb_of S92 ⟨by decide, by decide⟩
      obtain ⟨T92, h92, X92, e92, W92, st92⟩ := stI X91 hx hZ e91 Ar92 (j := (1 : Int32)) hin92 (g := (mkF m 148 #[iv p0, iv p1, iv p2, iv p3, iv p4, iv p5, iv (1 : Int32), iv (2 : Int32), rv b81, rv b82, rv b86, .unset, .unset, .unset] [(.int (p3 ^^^ (-1 : Int32))), (.int (1 : Int32)), (.ref b82)])) rfl rfl (hb hby at_148)
      have V_b82 : Arv Z h92 b82 k82 .int (2 : Int32) [(.int (p1 ^^^ (-1 : Int32))), (.int (p3 ^^^ (-1 : Int32)))] (.int (0 : Int32)) := Arv.set Ar92 q92 S92 M92 H92 G92 rfl W92 1 rfl (Nat.le_of_ble_eq_true rfl)
      replace S_DEFAULTCAPACITY_EMPTY_ELEMENTDATA := S_DEFAULTCAPACITY_EMPTY_ELEMENTDATA.wr W92
      replace E_b81 := E_b81.wr W92
      replace V_b81 := V_b81.other W92 ne_b81_b82
      replace E_b82 := E_b82.wr W92
      replace E_b86 := E_b86.wr W92
      replace E_c88 := E_c88.wr W92
      replace V_c88 := V_c88.other W92 (Ne.symm ne_b82_c88)
      replace E_d88 := E_d88.wr W92
      replace V_d88 := V_d88.other W92 (Ne.symm ne_b82_d88)
      replace F_low_b86 := F_low_b86.other W92 (Or.inl (Ne.symm ne_b82_b86))
      replace F_high_b86 := F_high_b86.other W92 (Or.inl (Ne.symm ne_b82_b86))
      replace E_c89 := E_c89.wr W92
      replace V_c89 := V_c89.other W92 (Ne.symm ne_b82_c89)
      replace E_d89 := E_d89.wr W92
      replace V_d89 := V_d89.other W92 (Ne.symm ne_b82_d89)
      have Zz92 := Nat.le_trans Zz91 (Keep.of_wr W92).1
      have Kk92 := Kk91.wr W92 (Or.inr sz_b82)
      have N92 := Fr.snoc X92 N91 g_b82
      refine go st92 ?_
      show Go p e below _ m T92 149 #[iv p0, iv p1, iv p2, iv p3, iv p4, iv p5, iv (1 : Int32), iv (2 : Int32), rv b81, rv b82, rv b86, .unset, .unset, .unset] []
      refine go (fun t kt => XS.aload X92.here hx rfl (hb hby at_149) rfl rfl kt) ?_
      show Go p e below _ m T92 151 #[iv p0, iv p1, iv p2, iv p3, iv p4, iv p5, iv (1 : Int32), iv (2 : Int32), rv b81, rv b82, rv b86, .unset, .unset, .unset] [(.ref b86)]
      obtain ⟨cq93, kq93, q93a, q93b, q93c⟩ := isOf hZ e92 E_b86
      obtain ⟨_, _, ⟨T93, L93, k93, n93⟩, -, X93, ⟨Lc93, hQ93, l93, y93, z93⟩, st93⟩ := X92.virtualBack hx (y := (⟨"com/example/anytime_arena/anytimearena/io/VariableTable", "low", "()[I"⟩ : MethodName)) (z := (⟨"com/example/anytime_arena/anytimearena/io/VariableTable", "low", "()[I"⟩ : MethodName)) hown (mvT hZ (hw _ (List.mem_of_getElem? (i := 76) rfl))) (mvT hZ (hw _ (List.mem_of_getElem? (i := 77) rfl))) (notFace_of_selects (args := #[]) (mvT hZ (hw _ (List.mem_of_getElem? (i := 79) rfl)))) (mvT hZ (hw _ (List.mem_of_getElem? (i := 79) rfl))) (mvT hZ (hw _ (List.mem_of_getElem? (i := 78) rfl))) (by decide) (backOf (W := 0) (rm9 l Z a0 hw [] b86 c89 k81 (1 : Int32) [(.int p0)] h92 n0 Zz92 F_low_b86 E_c89 V_c89 (by decide)) hZ (hw _ (List.mem_of_getElem? (i := 80) rfl)) (hw _ (List.mem_of_getElem? (i := 3) rfl)) (by decide) (by decide)) q93a q93c (g := (mkF m 151 #[iv p0, iv p1, iv p2, iv p3, iv p4, iv p5, iv (1 : Int32), iv (2 : Int32), rv b81, rv b82, rv b86, .unset, .unset, .unset] [(.ref b86)])) rfl (by rw [hml]; rfl) (Steps.refl _) (argsL := []) (rest := []) (lenOf pd_2 rfl) rfl (by show 2 * 0 + _ ≤ _; exact Nat.le_of_eq rfl) (hb hby at_151) (fun _ _ => ⟨rfl, e92, (by decide : 13 + 1 ≤ _), (by decide : 34 + 2 ≤ _)⟩)
      dsimp only [Pt.U, Pt.locs, Pt.cells, Pt.slots] at X93 l93 y93 z93 st93 hQ93
      subst l93 y93 z93
      obtain ⟨b93, g93⟩ : ∃ z, z = h92.size := ⟨_, rfl⟩
      have ne_b81_b93 : b81 ≠ b93 := Nat.ne_of_lt (Nat.lt_of_lt_of_le E_b81.lt (Nat.le_of_eq g93.symm))
      have ne_b82_b93 : b82 ≠ b93 := Nat.ne_of_lt (Nat.lt_of_lt_of_le E_b82.lt (Nat.le_of_eq g93.symm))
      have ne_b86_b93 : b86 ≠ b93 := Nat.ne_of_lt (Nat.lt_of_lt_of_le E_b86.lt (Nat.le_of_eq g93.symm))
      have ne_c88_b93 : c88 ≠ b93 := Nat.ne_of_lt (Nat.lt_of_lt_of_le E_c88.lt (Nat.le_of_eq g93.symm))
      have ne_d88_b93 : d88 ≠ b93 := Nat.ne_of_lt (Nat.lt_of_lt_of_le E_d88.lt (Nat.le_of_eq g93.symm))
      have ne_c89_b93 : c89 ≠ b93 := Nat.ne_of_lt (Nat.lt_of_lt_of_le E_c89.lt (Nat.le_of_eq g93.symm))
      have ne_d89_b93 : d89 ≠ b93 := Nat.ne_of_lt (Nat.lt_of_lt_of_le E_d89.lt (Nat.le_of_eq g93.symm))
      have g_b93 : n0 ≤ b93 := Nat.le_trans Zz92 (Nat.le_of_eq g93.symm)
      have sz_b93 : h0.size ≤ b93 := Nat.le_trans Kk92.1 (Nat.le_of_eq g93.symm)
      obtain ⟨rfl, Nq93, Kq93, Eq93, Vq93⟩ := hQ93
      rw [← g93] at Eq93 Vq93 st93
      clear S_DEFAULTCAPACITY_EMPTY_ELEMENTDATA
      replace E_b81 := E_b81.keep Kq93
      replace V_b81 := V_b81.keep Kq93 nin0
      replace E_b82 := E_b82.keep Kq93
      replace V_b82 := V_b82.keep Kq93 nin0
      replace E_b86 := E_b86.keep Kq93
      replace E_c88 := E_c88.keep Kq93
      replace V_c88 := V_c88.keep Kq93 nin0
      replace E_d88 := E_d88.keep Kq93
      replace V_d88 := V_d88.keep Kq93 nin0
      replace F_low_b86 := F_low_b86.keep Kq93 nin0
      replace F_high_b86 := F_high_b86.keep Kq93 nin0
      replace E_c89 := E_c89.keep Kq93
      replace V_c89 := V_c89.keep Kq93 nin0
      replace E_d89 := E_d89.keep Kq93
      replace V_d89 := V_d89.keep Kq93 nin0
      have Zz93 := Nat.le_trans Zz92 Kq93.1
      have Kk93 := Kk92.trans Kq93 all0
      have E_b93 := Eq93
      have V_b93 := Vq93
      have N93 := Fr.app N92 Nq93
      refine go (fun t kt => st93.trans kt) ?_
      show Go p e below _ m T93 154 #[iv p0, iv p1, iv p2, iv p3, iv p4, iv p5, iv (1 : Int32), iv (2 : Int32), rv b81, rv b82, rv b86, .unset, .unset, .unset] [(.ref b93)]
      refine go (fun t kt => XS.astore X93.here hx rfl (hb hby at_154) rfl rfl (l' := #[iv p0, iv p1, iv p2, iv p3, iv p4, iv p5, iv (1 : Int32), iv (2 : Int32), rv b81, rv b82, rv b86, rv b93, .unset, .unset]) rfl kt) ?_
      show Go p e below _ m T93 156 #[iv p0, iv p1, iv p2, iv p3, iv p4, iv p5, iv (1 : Int32), iv (2 : Int32), rv b81, rv b82, rv b86, rv b93, .unset, .unset] []
      refine go (fun t kt => XS.aload X93.here hx rfl (hb hby at_156) rfl rfl kt) ?_
      show Go p e below _ m T93 158 #[iv p0, iv p1, iv p2, iv p3, iv p4, iv p5, iv (1 : Int32), iv (2 : Int32), rv b81, rv b82, rv b86, rv b93, .unset, .unset] [(.ref b86)]
      obtain ⟨cq94, kq94, q94a, q94b, q94c⟩ := isOf hZ rfl E_b86
      obtain ⟨_, _, ⟨T94, L94, k94, n94⟩, -, X94, ⟨Lc94, hQ94, l94, y94, z94⟩, st94⟩ := X93.virtualBack hx (y := (⟨"com/example/anytime_arena/anytimearena/io/VariableTable", "high", "()[I"⟩ : MethodName)) (z := (⟨"com/example/anytime_arena/anytimearena/io/VariableTable", "high", "()[I"⟩ : MethodName)) hown (mvT hZ (hw _ (List.mem_of_getElem? (i := 81) rfl))) (mvT hZ (hw _ (List.mem_of_getElem? (i := 82) rfl))) (notFace_of_selects (args := #[]) (mvT hZ (hw _ (List.mem_of_getElem? (i := 84) rfl)))) (mvT hZ (hw _ (List.mem_of_getElem? (i := 84) rfl))) (mvT hZ (hw _ (List.mem_of_getElem? (i := 83) rfl))) (by decide) (backOf (W := 0) (rm10 l Z a0 hw [] b86 d89 k82 (2 : Int32) [(.int p1), (.int p3)] T93.heap n0 Zz93 F_high_b86 E_d89 V_d89 (by decide)) hZ (hw _ (List.mem_of_getElem? (i := 85) rfl)) (hw _ (List.mem_of_getElem? (i := 3) rfl)) (by decide) (by decide)) q94a q94c (g := (mkF m 158 #[iv p0, iv p1, iv p2, iv p3, iv p4, iv p5, iv (1 : Int32), iv (2 : Int32), rv b81, rv b82, rv b86, rv b93, .unset, .unset] [(.ref b86)])) rfl (by rw [hml]; rfl) (Steps.refl _) (argsL := []) (rest := []) (lenOf pd_2 rfl) rfl (by show 2 * 0 + _ ≤ _; exact Nat.le_of_eq rfl) (hb hby at_158) (fun _ _ => ⟨rfl, rfl, (by decide : 14 + 1 ≤ _), (by decide : 36 + 2 ≤ _)⟩)
      dsimp only [Pt.U, Pt.locs, Pt.cells, Pt.slots] at X94 l94 y94 z94 st94 hQ94
      subst l94 y94 z94
      obtain ⟨b94, g94⟩ : ∃ z, z = T93.heap.size := ⟨_, rfl⟩
      have ne_b81_b94 : b81 ≠ b94 := Nat.ne_of_lt (Nat.lt_of_lt_of_le E_b81.lt (Nat.le_of_eq g94.symm))
      have ne_b82_b94 : b82 ≠ b94 := Nat.ne_of_lt (Nat.lt_of_lt_of_le E_b82.lt (Nat.le_of_eq g94.symm))
      have ne_b86_b94 : b86 ≠ b94 := Nat.ne_of_lt (Nat.lt_of_lt_of_le E_b86.lt (Nat.le_of_eq g94.symm))
      have ne_c88_b94 : c88 ≠ b94 := Nat.ne_of_lt (Nat.lt_of_lt_of_le E_c88.lt (Nat.le_of_eq g94.symm))
      have ne_d88_b94 : d88 ≠ b94 := Nat.ne_of_lt (Nat.lt_of_lt_of_le E_d88.lt (Nat.le_of_eq g94.symm))
      have ne_c89_b94 : c89 ≠ b94 := Nat.ne_of_lt (Nat.lt_of_lt_of_le E_c89.lt (Nat.le_of_eq g94.symm))
      have ne_d89_b94 : d89 ≠ b94 := Nat.ne_of_lt (Nat.lt_of_lt_of_le E_d89.lt (Nat.le_of_eq g94.symm))
      have ne_b93_b94 : b93 ≠ b94 := Nat.ne_of_lt (Nat.lt_of_lt_of_le E_b93.lt (Nat.le_of_eq g94.symm))
      have g_b94 : n0 ≤ b94 := Nat.le_trans Zz93 (Nat.le_of_eq g94.symm)
      have sz_b94 : h0.size ≤ b94 := Nat.le_trans Kk93.1 (Nat.le_of_eq g94.symm)
      obtain ⟨rfl, Nq94, Kq94, Eq94, Vq94⟩ := hQ94
      rw [← g94] at Eq94 Vq94 st94
      replace E_b81 := E_b81.keep Kq94
      replace V_b81 := V_b81.keep Kq94 nin0
      replace E_b82 := E_b82.keep Kq94
      replace V_b82 := V_b82.keep Kq94 nin0
      replace E_b86 := E_b86.keep Kq94
      replace E_c88 := E_c88.keep Kq94
      replace V_c88 := V_c88.keep Kq94 nin0
      replace E_d88 := E_d88.keep Kq94
      replace V_d88 := V_d88.keep Kq94 nin0
      replace F_low_b86 := F_low_b86.keep Kq94 nin0
      replace F_high_b86 := F_high_b86.keep Kq94 nin0
      replace E_c89 := E_c89.keep Kq94
      replace V_c89 := V_c89.keep Kq94 nin0
      replace E_d89 := E_d89.keep Kq94
      replace V_d89 := V_d89.keep Kq94 nin0
      replace E_b93 := E_b93.keep Kq94
      replace V_b93 := V_b93.keep Kq94 nin0
      have Zz94 := Nat.le_trans Zz93 Kq94.1
      have Kk94 := Kk93.trans Kq94 all0
      have E_b94 := Eq94
      have V_b94 := Vq94
      have N94 := Fr.app N93 Nq94
      refine go (fun t kt => st94.trans kt) ?_
      show Go p e below _ m T94 161 #[iv p0, iv p1, iv p2, iv p3, iv p4, iv p5, iv (1 : Int32), iv (2 : Int32), rv b81, rv b82, rv b86, rv b93, .unset, .unset] [(.ref b94)]
      refine go (fun t kt => XS.astore X94.here hx rfl (hb hby at_161) rfl rfl (l' := #[iv p0, iv p1, iv p2, iv p3, iv p4, iv p5, iv (1 : Int32), iv (2 : Int32), rv b81, rv b82, rv b86, rv b93, rv b94, .unset]) rfl kt) ?_
      show Go p e below _ m T94 163 #[iv p0, iv p1, iv p2, iv p3, iv p4, iv p5, iv (1 : Int32), iv (2 : Int32), rv b81, rv b82, rv b86, rv b93, rv b94, .unset] []
      refine go (fun t kt => XS.aload X94.here hx rfl (hb hby at_163) rfl rfl kt) ?_
      show Go p e below _ m T94 165 #[iv p0, iv p1, iv p2, iv p3, iv p4, iv p5, iv (1 : Int32), iv (2 : Int32), rv b81, rv b82, rv b86, rv b93, rv b94, .unset] [(.ref b93)]
      obtain ⟨cl95, Ar95, q95, S95, M95, H95, G95⟩ := id V_b93
      refine go (X94.arraylength hx Ar95.1 (State.isArrayOf_alike hZ.alike Ar95.2.1) (g := (mkF m 165 #[iv p0, iv p1, iv p2, iv p3, iv p4, iv p5, iv (1 : Int32), iv (2 : Int32), rv b81, rv b82, rv b86, rv b93, rv b94, .unset] [(.ref b93)])) rfl rfl (hb hby at_165)) ?_
      rw [len_of S95 M95]
      show Go p e below _ m T94 166 #[iv p0, iv p1, iv p2, iv p3, iv p4, iv p5, iv (1 : Int32), iv (2 : Int32), rv b81, rv b82, rv b86, rv b93, rv b94, .unset] [(.int (1 : Int32))]
      refine go (fun t kt => XS.iload X94.here hx rfl (hb hby at_166) rfl kt) ?_
      show Go p e below _ m T94 168 #[iv p0, iv p1, iv p2, iv p3, iv p4, iv p5, iv (1 : Int32), iv (2 : Int32), rv b81, rv b82, rv b86, rv b93, rv b94, .unset] [(.int (1 : Int32)), (.int (1 : Int32))]
      refine go (fun t kt => XS.icmpNo X94.here hx rfl (hb hby at_168) rfl (teq (by decide : ((1 : Int32) = (1 : Int32)))).2 kt) ?_
      show Go p e below _ m T94 171 #[iv p0, iv p1, iv p2, iv p3, iv p4, iv p5, iv (1 : Int32), iv (2 : Int32), rv b81, rv b82, rv b86, rv b93, rv b94, .unset] []
      refine go (fun t kt => XS.aload X94.here hx rfl (hb hby at_171) rfl rfl kt) ?_
      show Go p e below _ m T94 173 #[iv p0, iv p1, iv p2, iv p3, iv p4, iv p5, iv (1 : Int32), iv (2 : Int32), rv b81, rv b82, rv b86, rv b93, rv b94, .unset] [(.ref b94)]
      obtain ⟨cl96, Ar96, q96, S96, M96, H96, G96⟩ := id V_b94
      refine go (X94.arraylength hx Ar96.1 (State.isArrayOf_alike hZ.alike Ar96.2.1) (g := (mkF m 173 #[iv p0, iv p1, iv p2, iv p3, iv p4, iv p5, iv (1 : Int32), iv (2 : Int32), rv b81, rv b82, rv b86, rv b93, rv b94, .unset] [(.ref b94)])) rfl rfl (hb hby at_173)) ?_
      rw [len_of S96 M96]
      show Go p e below _ m T94 174 #[iv p0, iv p1, iv p2, iv p3, iv p4, iv p5, iv (1 : Int32), iv (2 : Int32), rv b81, rv b82, rv b86, rv b93, rv b94, .unset] [(.int (2 : Int32))]
      refine go (fun t kt => XS.iload X94.here hx rfl (hb hby at_174) rfl kt) ?_
      show Go p e below _ m T94 176 #[iv p0, iv p1, iv p2, iv p3, iv p4, iv p5, iv (1 : Int32), iv (2 : Int32), rv b81, rv b82, rv b86, rv b93, rv b94, .unset] [(.int (2 : Int32)), (.int (2 : Int32))]
      refine go (fun t kt => XS.icmpYes X94.here hx rfl (pc0 := 176) (pc' := 181) rfl (hb hby at_176) rfl (teq (by decide : ((2 : Int32) = (2 : Int32)))).1 (by decide) (by decide) kt) ?_
      show Go p e below _ m T94 181 #[iv p0, iv p1, iv p2, iv p3, iv p4, iv p5, iv (1 : Int32), iv (2 : Int32), rv b81, rv b82, rv b86, rv b93, rv b94, .unset] []
      refine go (fun t kt => XS.iconst X94.here hx rfl (hb hby at_181) kt) ?_
      show Go p e below _ m T94 182 #[iv p0, iv p1, iv p2, iv p3, iv p4, iv p5, iv (1 : Int32), iv (2 : Int32), rv b81, rv b82, rv b86, rv b93, rv b94, .unset] [(.int (1 : Int32))]
      refine go (fun t kt => XS.istore X94.here hx rfl (hb hby at_182) rfl (l' := #[iv p0, iv p1, iv p2, iv p3, iv p4, iv p5, iv (1 : Int32), iv (2 : Int32), rv b81, rv b82, rv b86, rv b93, rv b94, iv (1 : Int32)]) rfl kt) ?_
      show Go p e below _ m T94 184 #[iv p0, iv p1, iv p2, iv p3, iv p4, iv p5, iv (1 : Int32), iv (2 : Int32), rv b81, rv b82, rv b86, rv b93, rv b94, iv (1 : Int32)] []
      refine go (fun t kt => XS.iload X94.here hx rfl (hb hby at_184) rfl kt) ?_
      show Go p e below _ m T94 186 #[iv p0, iv p1, iv p2, iv p3, iv p4, iv p5, iv (1 : Int32), iv (2 : Int32), rv b81, rv b82, rv b86, rv b93, rv b94, iv (1 : Int32)] [(.int (1 : Int32))]
      refine go (fun t kt => XS.ifNo X94.here hx rfl (hb hby at_186) rfl ((if0 _ _).trans (tlt (by decide : ((0 : Int32) < (1 : Int32)))).2.2.2) kt) ?_
      show Go p e below _ m T94 189 #[iv p0, iv p1, iv p2, iv p3, iv p4, iv p5, iv (1 : Int32), iv (2 : Int32), rv b81, rv b82, rv b86, rv b93, rv b94, iv (1 : Int32)] []
      refine go (fun t kt => XS.iload X94.here hx rfl (hb hby at_189) rfl kt) ?_
      show Go p e below _ m T94 191 #[iv p0, iv p1, iv p2, iv p3, iv p4, iv p5, iv (1 : Int32), iv (2 : Int32), rv b81, rv b82, rv b86, rv b93, rv b94, iv (1 : Int32)] [(.int (1 : Int32))]
      refine go (fun t kt => XS.ifNo X94.here hx rfl (hb hby at_191) rfl ((if0 _ _).trans (feq (by decide : ¬ ((1 : Int32) = (0 : Int32)))).1) kt) ?_
      show Go p e below _ m T94 194 #[iv p0, iv p1, iv p2, iv p3, iv p4, iv p5, iv (1 : Int32), iv (2 : Int32), rv b81, rv b82, rv b86, rv b93, rv b94, iv (1 : Int32)] []
      refine go (fun t kt => XS.aload X94.here hx rfl (hb hby at_194) rfl rfl kt) ?_
      show Go p e below _ m T94 196 #[iv p0, iv p1, iv p2, iv p3, iv p4, iv p5, iv (1 : Int32), iv (2 : Int32), rv b81, rv b82, rv b86, rv b93, rv b94, iv (1 : Int32)] [(.ref b93)]
      refine go (fun t kt => XS.iconst X94.here hx rfl (hb hby at_196) kt) ?_
      show Go p e below _ m T94 197 #[iv p0, iv p1, iv p2, iv p3, iv p4, iv p5, iv (1 : Int32), iv (2 : Int32), rv b81, rv b82, rv b86, rv b93, rv b94, iv (1 : Int32)] [(.int (0 : Int32)), (.ref b93)]
      obtain ⟨cl97, Ar97, q97, S97, M97, H97, G97⟩ := id V_b93
      have hin97 : ¬ ((0 : Int32) < 0 ∨ cl97.slots.size ≤ ((0 : Int32)).toNatClampNeg) := inb_of S97 ⟨by decide, by decide⟩
      have hat97 : cl97.slots[((0 : Int32)).toNatClampNeg]? = some (.int p0) := H97.at hin97 rfl
      refine go (X94.iaload hx (j := (0 : Int32)) (v := (.int p0)) Ar97.1 (State.isArrayOf_alike hZ.alike Ar97.2.1) Ar97.2.2 hin97 hat97 (g := (mkF m 197 #[iv p0, iv p1, iv p2, iv p3, iv p4, iv p5, iv (1 : Int32), iv (2 : Int32), rv b81, rv b82, rv b86, rv b93, rv b94, iv (1 : Int32)] [(.int (0 : Int32)), (.ref b93)])) rfl rfl (hb hby at_197)) ?_
      show Go p e below _ m T94 198 #[iv p0, iv p1, iv p2, iv p3, iv p4, iv p5, iv (1 : Int32), iv (2 : Int32), rv b81, rv b82, rv b86, rv b93, rv b94, iv (1 : Int32)] [(.int p0)]
      refine go (fun t kt => XS.iloadN X94.here hx rfl (hb hby at_198) rfl kt) ?_
      show Go p e below _ m T94 199 #[iv p0, iv p1, iv p2, iv p3, iv p4, iv p5, iv (1 : Int32), iv (2 : Int32), rv b81, rv b82, rv b86, rv b93, rv b94, iv (1 : Int32)] [(.int p0), (.int p0)]
      refine go (fun t kt => XS.icmpNo X94.here hx rfl (hb hby at_199) rfl (teq (rfl : p0 = p0)).2 kt) ?_
      show Go p e below _ m T94 202 #[iv p0, iv p1, iv p2, iv p3, iv p4, iv p5, iv (1 : Int32), iv (2 : Int32), rv b81, rv b82, rv b86, rv b93, rv b94, iv (1 : Int32)] []
      refine go (fun t kt => XS.iconst X94.here hx rfl (hb hby at_202) kt) ?_
      show Go p e below _ m T94 203 #[iv p0, iv p1, iv p2, iv p3, iv p4, iv p5, iv (1 : Int32), iv (2 : Int32), rv b81, rv b82, rv b86, rv b93, rv b94, iv (1 : Int32)] [(.int (1 : Int32))]
      refine go (fun t kt => XS.goto X94.here hx rfl (pc0 := 203) (pc' := 207) rfl (hb hby at_203) (by decide) (by decide) kt) ?_
      show Go p e below _ m T94 207 #[iv p0, iv p1, iv p2, iv p3, iv p4, iv p5, iv (1 : Int32), iv (2 : Int32), rv b81, rv b82, rv b86, rv b93, rv b94, iv (1 : Int32)] [(.int (1 : Int32))]
      refine go (fun t kt => XS.istore X94.here hx rfl (hb hby at_207) rfl (l' := #[iv p0, iv p1, iv p2, iv p3, iv p4, iv p5, iv (1 : Int32), iv (2 : Int32), rv b81, rv b82, rv b86, rv b93, rv b94, iv (1 : Int32)]) rfl kt) ?_
      show Go p e below _ m T94 209 #[iv p0, iv p1, iv p2, iv p3, iv p4, iv p5, iv (1 : Int32), iv (2 : Int32), rv b81, rv b82, rv b86, rv b93, rv b94, iv (1 : Int32)] []
      refine go (fun t kt => XS.iload X94.here hx rfl (hb hby at_209) rfl kt) ?_
      show Go p e below _ m T94 211 #[iv p0, iv p1, iv p2, iv p3, iv p4, iv p5, iv (1 : Int32), iv (2 : Int32), rv b81, rv b82, rv b86, rv b93, rv b94, iv (1 : Int32)] [(.int (1 : Int32))]
      refine go (fun t kt => XS.iconst X94.here hx rfl (hb hby at_211) kt) ?_
      show Go p e below _ m T94 212 #[iv p0, iv p1, iv p2, iv p3, iv p4, iv p5, iv (1 : Int32), iv (2 : Int32), rv b81, rv b82, rv b86, rv b93, rv b94, iv (1 : Int32)] [(.int (1 : Int32)), (.int (1 : Int32))]
      refine go (fun t kt => XS.icmpYes X94.here hx rfl (pc0 := 212) (pc' := 235) rfl (hb hby at_212) rfl (flt (by decide : ¬ ((1 : Int32) < (1 : Int32)))).2.2.2 (by decide) (by decide) kt) ?_
      show Go p e below _ m T94 235 #[iv p0, iv p1, iv p2, iv p3, iv p4, iv p5, iv (1 : Int32), iv (2 : Int32), rv b81, rv b82, rv b86, rv b93, rv b94, iv (1 : Int32)] []
      refine go (fun t kt => XS.iload X94.here hx rfl (hb hby at_235) rfl kt) ?_
      show Go p e below _ m T94 237 #[iv p0, iv p1, iv p2, iv p3, iv p4, iv p5, iv (1 : Int32), iv (2 : Int32), rv b81, rv b82, rv b86, rv b93, rv b94, iv (1 : Int32)] [(.int (2 : Int32))]
      refine go (fun t kt => XS.ifNo X94.here hx rfl (hb hby at_237) rfl ((if0 _ _).trans (tlt (by decide : ((0 : Int32) < (2 : Int32)))).2.2.2) kt) ?_
      show Go p e below _ m T94 240 #[iv p0, iv p1, iv p2, iv p3, iv p4, iv p5, iv (1 : Int32), iv (2 : Int32), rv b81, rv b82, rv b86, rv b93, rv b94, iv (1 : Int32)] []
      refine go (fun t kt => XS.iload X94.here hx rfl (hb hby at_240) rfl kt) ?_
      show Go p e below _ m T94 242 #[iv p0, iv p1, iv p2, iv p3, iv p4, iv p5, iv (1 : Int32), iv (2 : Int32), rv b81, rv b82, rv b86, rv b93, rv b94, iv (1 : Int32)] [(.int (1 : Int32))]
      refine go (fun t kt => XS.ifNo X94.here hx rfl (hb hby at_242) rfl ((if0 _ _).trans (feq (by decide : ¬ ((1 : Int32) = (0 : Int32)))).1) kt) ?_
      show Go p e below _ m T94 245 #[iv p0, iv p1, iv p2, iv p3, iv p4, iv p5, iv (1 : Int32), iv (2 : Int32), rv b81, rv b82, rv b86, rv b93, rv b94, iv (1 : Int32)] []
      refine go (fun t kt => XS.aload X94.here hx rfl (hb hby at_245) rfl rfl kt) ?_
      show Go p e below _ m T94 247 #[iv p0, iv p1, iv p2, iv p3, iv p4, iv p5, iv (1 : Int32), iv (2 : Int32), rv b81, rv b82, rv b86, rv b93, rv b94, iv (1 : Int32)] [(.ref b94)]
      refine go (fun t kt => XS.iconst X94.here hx rfl (hb hby at_247) kt) ?_
      show Go p e below _ m T94 248 #[iv p0, iv p1, iv p2, iv p3, iv p4, iv p5, iv (1 : Int32), iv (2 : Int32), rv b81, rv b82, rv b86, rv b93, rv b94, iv (1 : Int32)] [(.int (0 : Int32)), (.ref b94)]
      obtain ⟨cl98, Ar98, q98, S98, M98, H98, G98⟩ := id V_b94
      have hin98 : ¬ ((0 : Int32) < 0 ∨ cl98.slots.size ≤ ((0 : Int32)).toNatClampNeg) := inb_of S98 ⟨by decide, by decide⟩
      have hat98 : cl98.slots[((0 : Int32)).toNatClampNeg]? = some (.int p1) := H98.at hin98 rfl
      refine go (X94.iaload hx (j := (0 : Int32)) (v := (.int p1)) Ar98.1 (State.isArrayOf_alike hZ.alike Ar98.2.1) Ar98.2.2 hin98 hat98 (g := (mkF m 248 #[iv p0, iv p1, iv p2, iv p3, iv p4, iv p5, iv (1 : Int32), iv (2 : Int32), rv b81, rv b82, rv b86, rv b93, rv b94, iv (1 : Int32)] [(.int (0 : Int32)), (.ref b94)])) rfl rfl (hb hby at_248)) ?_
      show Go p e below _ m T94 249 #[iv p0, iv p1, iv p2, iv p3, iv p4, iv p5, iv (1 : Int32), iv (2 : Int32), rv b81, rv b82, rv b86, rv b93, rv b94, iv (1 : Int32)] [(.int p1)]
      refine go (fun t kt => XS.iloadN X94.here hx rfl (hb hby at_249) rfl kt) ?_
      show Go p e below _ m T94 250 #[iv p0, iv p1, iv p2, iv p3, iv p4, iv p5, iv (1 : Int32), iv (2 : Int32), rv b81, rv b82, rv b86, rv b93, rv b94, iv (1 : Int32)] [(.int p1), (.int p1)]
      refine go (fun t kt => XS.icmpNo X94.here hx rfl (hb hby at_250) rfl (teq (rfl : p1 = p1)).2 kt) ?_
      show Go p e below _ m T94 253 #[iv p0, iv p1, iv p2, iv p3, iv p4, iv p5, iv (1 : Int32), iv (2 : Int32), rv b81, rv b82, rv b86, rv b93, rv b94, iv (1 : Int32)] []
      refine go (fun t kt => XS.iconst X94.here hx rfl (hb hby at_253) kt) ?_
      show Go p e below _ m T94 254 #[iv p0, iv p1, iv p2, iv p3, iv p4, iv p5, iv (1 : Int32), iv (2 : Int32), rv b81, rv b82, rv b86, rv b93, rv b94, iv (1 : Int32)] [(.int (1 : Int32))]
      refine go (fun t kt => XS.goto X94.here hx rfl (pc0 := 254) (pc' := 258) rfl (hb hby at_254) (by decide) (by decide) kt) ?_
      show Go p e below _ m T94 258 #[iv p0, iv p1, iv p2, iv p3, iv p4, iv p5, iv (1 : Int32), iv (2 : Int32), rv b81, rv b82, rv b86, rv b93, rv b94, iv (1 : Int32)] [(.int (1 : Int32))]
      refine go (fun t kt => XS.istore X94.here hx rfl (hb hby at_258) rfl (l' := #[iv p0, iv p1, iv p2, iv p3, iv p4, iv p5, iv (1 : Int32), iv (2 : Int32), rv b81, rv b82, rv b86, rv b93, rv b94, iv (1 : Int32)]) rfl kt) ?_
      show Go p e below _ m T94 260 #[iv p0, iv p1, iv p2, iv p3, iv p4, iv p5, iv (1 : Int32), iv (2 : Int32), rv b81, rv b82, rv b86, rv b93, rv b94, iv (1 : Int32)] []
      refine go (fun t kt => XS.iload X94.here hx rfl (hb hby at_260) rfl kt) ?_
      show Go p e below _ m T94 262 #[iv p0, iv p1, iv p2, iv p3, iv p4, iv p5, iv (1 : Int32), iv (2 : Int32), rv b81, rv b82, rv b86, rv b93, rv b94, iv (1 : Int32)] [(.int (2 : Int32))]
      refine go (fun t kt => XS.iconst X94.here hx rfl (hb hby at_262) kt) ?_
      show Go p e below _ m T94 263 #[iv p0, iv p1, iv p2, iv p3, iv p4, iv p5, iv (1 : Int32), iv (2 : Int32), rv b81, rv b82, rv b86, rv b93, rv b94, iv (1 : Int32)] [(.int (1 : Int32)), (.int (2 : Int32))]
      refine go (fun t kt => XS.icmpNo X94.here hx rfl (hb hby at_263) rfl (tlt (by decide : ((1 : Int32) < (2 : Int32)))).2.2.2 kt) ?_
      show Go p e below _ m T94 266 #[iv p0, iv p1, iv p2, iv p3, iv p4, iv p5, iv (1 : Int32), iv (2 : Int32), rv b81, rv b82, rv b86, rv b93, rv b94, iv (1 : Int32)] []
      refine go (fun t kt => XS.iload X94.here hx rfl (hb hby at_266) rfl kt) ?_
      show Go p e below _ m T94 268 #[iv p0, iv p1, iv p2, iv p3, iv p4, iv p5, iv (1 : Int32), iv (2 : Int32), rv b81, rv b82, rv b86, rv b93, rv b94, iv (1 : Int32)] [(.int (1 : Int32))]
      refine go (fun t kt => XS.ifNo X94.here hx rfl (hb hby at_268) rfl ((if0 _ _).trans (feq (by decide : ¬ ((1 : Int32) = (0 : Int32)))).1) kt) ?_
      show Go p e below _ m T94 271 #[iv p0, iv p1, iv p2, iv p3, iv p4, iv p5, iv (1 : Int32), iv (2 : Int32), rv b81, rv b82, rv b86, rv b93, rv b94, iv (1 : Int32)] []
      refine go (fun t kt => XS.aload X94.here hx rfl (hb hby at_271) rfl rfl kt) ?_
      show Go p e below _ m T94 273 #[iv p0, iv p1, iv p2, iv p3, iv p4, iv p5, iv (1 : Int32), iv (2 : Int32), rv b81, rv b82, rv b86, rv b93, rv b94, iv (1 : Int32)] [(.ref b94)]
      refine go (fun t kt => XS.iconst X94.here hx rfl (hb hby at_273) kt) ?_
      show Go p e below _ m T94 274 #[iv p0, iv p1, iv p2, iv p3, iv p4, iv p5, iv (1 : Int32), iv (2 : Int32), rv b81, rv b82, rv b86, rv b93, rv b94, iv (1 : Int32)] [(.int (1 : Int32)), (.ref b94)]
      obtain ⟨cl99, Ar99, q99, S99, M99, H99, G99⟩ := id V_b94
      have hin99 : ¬ ((1 : Int32) < 0 ∨ cl99.slots.size ≤ ((1 : Int32)).toNatClampNeg) := inb_of S99 ⟨by decide, by decide⟩
      have hat99 : cl99.slots[((1 : Int32)).toNatClampNeg]? = some (.int p3) := H99.at hin99 rfl
      refine go (X94.iaload hx (j := (1 : Int32)) (v := (.int p3)) Ar99.1 (State.isArrayOf_alike hZ.alike Ar99.2.1) Ar99.2.2 hin99 hat99 (g := (mkF m 274 #[iv p0, iv p1, iv p2, iv p3, iv p4, iv p5, iv (1 : Int32), iv (2 : Int32), rv b81, rv b82, rv b86, rv b93, rv b94, iv (1 : Int32)] [(.int (1 : Int32)), (.ref b94)])) rfl rfl (hb hby at_274)) ?_
      show Go p e below _ m T94 275 #[iv p0, iv p1, iv p2, iv p3, iv p4, iv p5, iv (1 : Int32), iv (2 : Int32), rv b81, rv b82, rv b86, rv b93, rv b94, iv (1 : Int32)] [(.int p3)]
      refine go (fun t kt => XS.iloadN X94.here hx rfl (hb hby at_275) rfl kt) ?_
      show Go p e below _ m T94 276 #[iv p0, iv p1, iv p2, iv p3, iv p4, iv p5, iv (1 : Int32), iv (2 : Int32), rv b81, rv b82, rv b86, rv b93, rv b94, iv (1 : Int32)] [(.int p3), (.int p3)]
      refine go (fun t kt => XS.icmpNo X94.here hx rfl (hb hby at_276) rfl (teq (rfl : p3 = p3)).2 kt) ?_
      show Go p e below _ m T94 279 #[iv p0, iv p1, iv p2, iv p3, iv p4, iv p5, iv (1 : Int32), iv (2 : Int32), rv b81, rv b82, rv b86, rv b93, rv b94, iv (1 : Int32)] []
      refine go (fun t kt => XS.iconst X94.here hx rfl (hb hby at_279) kt) ?_
      show Go p e below _ m T94 280 #[iv p0, iv p1, iv p2, iv p3, iv p4, iv p5, iv (1 : Int32), iv (2 : Int32), rv b81, rv b82, rv b86, rv b93, rv b94, iv (1 : Int32)] [(.int (1 : Int32))]
      refine go (fun t kt => XS.goto X94.here hx rfl (pc0 := 280) (pc' := 284) rfl (hb hby at_280) (by decide) (by decide) kt) ?_
      show Go p e below _ m T94 284 #[iv p0, iv p1, iv p2, iv p3, iv p4, iv p5, iv (1 : Int32), iv (2 : Int32), rv b81, rv b82, rv b86, rv b93, rv b94, iv (1 : Int32)] [(.int (1 : Int32))]
      refine go (fun t kt => XS.istore X94.here hx rfl (hb hby at_284) rfl (l' := #[iv p0, iv p1, iv p2, iv p3, iv p4, iv p5, iv (1 : Int32), iv (2 : Int32), rv b81, rv b82, rv b86, rv b93, rv b94, iv (1 : Int32)]) rfl kt) ?_
      show Go p e below _ m T94 286 #[iv p0, iv p1, iv p2, iv p3, iv p4, iv p5, iv (1 : Int32), iv (2 : Int32), rv b81, rv b82, rv b86, rv b93, rv b94, iv (1 : Int32)] []
      refine go (fun t kt => XS.iload X94.here hx rfl (hb hby at_286) rfl kt) ?_
      show Go p e below _ m T94 288 #[iv p0, iv p1, iv p2, iv p3, iv p4, iv p5, iv (1 : Int32), iv (2 : Int32), rv b81, rv b82, rv b86, rv b93, rv b94, iv (1 : Int32)] [(.int (1 : Int32))]
      refine go (fun t kt => XS.ifNo X94.here hx rfl (hb hby at_288) rfl ((if0 _ _).trans (tlt (by decide : ((0 : Int32) < (1 : Int32)))).2.2.2) kt) ?_
      show Go p e below _ m T94 291 #[iv p0, iv p1, iv p2, iv p3, iv p4, iv p5, iv (1 : Int32), iv (2 : Int32), rv b81, rv b82, rv b86, rv b93, rv b94, iv (1 : Int32)] []
      refine go (fun t kt => XS.iload X94.here hx rfl (hb hby at_291) rfl kt) ?_
      show Go p e below _ m T94 293 #[iv p0, iv p1, iv p2, iv p3, iv p4, iv p5, iv (1 : Int32), iv (2 : Int32), rv b81, rv b82, rv b86, rv b93, rv b94, iv (1 : Int32)] [(.int (2 : Int32))]
      refine go (fun t kt => XS.ifNo X94.here hx rfl (hb hby at_293) rfl ((if0 _ _).trans (tlt (by decide : ((0 : Int32) < (2 : Int32)))).2.2.2) kt) ?_
      show Go p e below _ m T94 296 #[iv p0, iv p1, iv p2, iv p3, iv p4, iv p5, iv (1 : Int32), iv (2 : Int32), rv b81, rv b82, rv b86, rv b93, rv b94, iv (1 : Int32)] []
      refine go (fun t kt => XS.iload X94.here hx rfl (hb hby at_296) rfl kt) ?_
      show Go p e below _ m T94 298 #[iv p0, iv p1, iv p2, iv p3, iv p4, iv p5, iv (1 : Int32), iv (2 : Int32), rv b81, rv b82, rv b86, rv b93, rv b94, iv (1 : Int32)] [(.int (1 : Int32))]
      refine go (fun t kt => XS.ifNo X94.here hx rfl (hb hby at_298) rfl ((if0 _ _).trans (feq (by decide : ¬ ((1 : Int32) = (0 : Int32)))).1) kt) ?_
      show Go p e below _ m T94 301 #[iv p0, iv p1, iv p2, iv p3, iv p4, iv p5, iv (1 : Int32), iv (2 : Int32), rv b81, rv b82, rv b86, rv b93, rv b94, iv (1 : Int32)] []
      refine go (fun t kt => XS.aload X94.here hx rfl (hb hby at_301) rfl rfl kt) ?_
      show Go p e below _ m T94 303 #[iv p0, iv p1, iv p2, iv p3, iv p4, iv p5, iv (1 : Int32), iv (2 : Int32), rv b81, rv b82, rv b86, rv b93, rv b94, iv (1 : Int32)] [(.ref b86)]
      refine go (fun t kt => XS.iconst X94.here hx rfl (hb hby at_303) kt) ?_
      show Go p e below _ m T94 304 #[iv p0, iv p1, iv p2, iv p3, iv p4, iv p5, iv (1 : Int32), iv (2 : Int32), rv b81, rv b82, rv b86, rv b93, rv b94, iv (1 : Int32)] [(.int (0 : Int32)), (.ref b86)]
      refine go (fun t kt => XS.iload X94.here hx rfl (hb hby at_304) rfl kt) ?_
      show Go p e below _ m T94 306 #[iv p0, iv p1, iv p2, iv p3, iv p4, iv p5, iv (1 : Int32), iv (2 : Int32), rv b81, rv b82, rv b86, rv b93, rv b94, iv (1 : Int32)] [(.int p5), (.int (0 : Int32)), (.ref b86)]
      obtain ⟨cq100, kq100, q100a, q100b, q100c⟩ := isOf hZ rfl E_b86
      obtain ⟨_, _, ⟨T100, L100, k100, n100⟩, -, X100, ⟨Lc100, hQ100, l100, y100, z100⟩, st100⟩ := X94.virtualBack hx (y := (⟨"com/example/anytime_arena/anytimearena/io/VariableTable", "inRange", "(II)Z"⟩ : MethodName)) (z := (⟨"com/example/anytime_arena/anytimearena/io/VariableTable", "inRange", "(II)Z"⟩ : MethodName)) hown (mvT hZ (hw _ (List.mem_of_getElem? (i := 86) rfl))) (mvT hZ (hw _ (List.mem_of_getElem? (i := 87) rfl))) (notFace_of_selects (args := #[]) (mvT hZ (hw _ (List.mem_of_getElem? (i := 89) rfl)))) (mvT hZ (hw _ (List.mem_of_getElem? (i := 89) rfl))) (mvT hZ (hw _ (List.mem_of_getElem? (i := 88) rfl))) (by decide) (backOf (W := 0) (rm11 l Z a0 hw [] b86 (0 : Int32) p5 c89 d89 k81 (1 : Int32) [(.int p0)] k82 (2 : Int32) [(.int p1), (.int p3)] p0 p1 T94.heap n0 Zz94 F_low_b86 F_high_b86 V_c89 V_d89 ⟨by decide, by decide⟩ ⟨by decide, by decide⟩ rfl rfl) hZ (hw _ (List.mem_of_getElem? (i := 90) rfl)) (hw _ (List.mem_of_getElem? (i := 3) rfl)) (by decide) (by decide)) q100a q100c (g := (mkF m 306 #[iv p0, iv p1, iv p2, iv p3, iv p4, iv p5, iv (1 : Int32), iv (2 : Int32), rv b81, rv b82, rv b86, rv b93, rv b94, iv (1 : Int32)] [(.int p5), (.int (0 : Int32)), (.ref b86)])) rfl (by rw [hml]; rfl) (Steps.refl _) (argsL := [(.int (0 : Int32)), (.int p5)]) (rest := []) (lenOf pd_3 rfl) rfl (by show 2 * 0 + _ ≤ _; exact Nat.le_of_eq rfl) (hb hby at_306) (fun _ _ => ⟨rfl, rfl, (by decide : 15 + 0 ≤ _), (by decide : 38 + 0 ≤ _)⟩)
      dsimp only [Pt.U, Pt.locs, Pt.cells, Pt.slots] at X100 l100 y100 z100 st100 hQ100
      subst l100 y100 z100
      obtain ⟨rfl, Nq100, e100⟩ := hQ100
      have N100 := Fr.app N94 Nq100
      refine go (fun t kt => st100.trans kt) ?_
      show Go p e below _ m T100 309 #[iv p0, iv p1, iv p2, iv p3, iv p4, iv p5, iv (1 : Int32), iv (2 : Int32), rv b81, rv b82, rv b86, rv b93, rv b94, iv (1 : Int32)] [(.int (own_inR p5 p0 p1))]
      refine go (fun t kt => XS.iload X100.here hx rfl (hb hby at_309) rfl kt) ?_
      show Go p e below _ m T100 311 #[iv p0, iv p1, iv p2, iv p3, iv p4, iv p5, iv (1 : Int32), iv (2 : Int32), rv b81, rv b82, rv b86, rv b93, rv b94, iv (1 : Int32)] [(.int p5), (.int (own_inR p5 p0 p1))]
      refine go (fun t kt => XS.iloadN X100.here hx rfl (hb hby at_311) rfl kt) ?_
      show Go p e below _ m T100 312 #[iv p0, iv p1, iv p2, iv p3, iv p4, iv p5, iv (1 : Int32), iv (2 : Int32), rv b81, rv b82, rv b86, rv b93, rv b94, iv (1 : Int32)] [(.int p0), (.int p5), (.int (own_inR p5 p0 p1))]
      by_cases hc101 : p5 < p0
      ·
        refine go (fun t kt => XS.icmpYes X100.here hx rfl (pc0 := 312) (pc' := 325) rfl (hb hby at_312) rfl (tlt hc101).1 (by decide) (by decide) kt) ?_
        show Go p e below _ m T100 325 #[iv p0, iv p1, iv p2, iv p3, iv p4, iv p5, iv (1 : Int32), iv (2 : Int32), rv b81, rv b82, rv b86, rv b93, rv b94, iv (1 : Int32)] [(.int (own_inR p5 p0 p1))]
        refine go (fun t kt => XS.iconst X100.here hx rfl (hb hby at_325) kt) ?_
        show Go p e below _ m T100 326 #[iv p0, iv p1, iv p2, iv p3, iv p4, iv p5, iv (1 : Int32), iv (2 : Int32), rv b81, rv b82, rv b86, rv b93, rv b94, iv (1 : Int32)] [(.int (0 : Int32)), (.int (own_inR p5 p0 p1))]
        refine go (fun t kt => XS.icmpNo X100.here hx rfl (hb hby at_326) rfl (teq (own_r1 _ _ _ hc101)).2 kt) ?_
        show Go p e below _ m T100 329 #[iv p0, iv p1, iv p2, iv p3, iv p4, iv p5, iv (1 : Int32), iv (2 : Int32), rv b81, rv b82, rv b86, rv b93, rv b94, iv (1 : Int32)] []
        refine go (fun t kt => XS.iconst X100.here hx rfl (hb hby at_329) kt) ?_
        show Go p e below _ m T100 330 #[iv p0, iv p1, iv p2, iv p3, iv p4, iv p5, iv (1 : Int32), iv (2 : Int32), rv b81, rv b82, rv b86, rv b93, rv b94, iv (1 : Int32)] [(.int (1 : Int32))]
        refine go (fun t kt => XS.goto X100.here hx rfl (pc0 := 330) (pc' := 334) rfl (hb hby at_330) (by decide) (by decide) kt) ?_
        show Go p e below _ m T100 334 #[iv p0, iv p1, iv p2, iv p3, iv p4, iv p5, iv (1 : Int32), iv (2 : Int32), rv b81, rv b82, rv b86, rv b93, rv b94, iv (1 : Int32)] [(.int (1 : Int32))]
        refine go (fun t kt => XS.istore X100.here hx rfl (hb hby at_334) rfl (l' := #[iv p0, iv p1, iv p2, iv p3, iv p4, iv p5, iv (1 : Int32), iv (2 : Int32), rv b81, rv b82, rv b86, rv b93, rv b94, iv (1 : Int32)]) rfl kt) ?_
        show Go p e below _ m T100 336 #[iv p0, iv p1, iv p2, iv p3, iv p4, iv p5, iv (1 : Int32), iv (2 : Int32), rv b81, rv b82, rv b86, rv b93, rv b94, iv (1 : Int32)] []
        refine go (fun t kt => XS.iload X100.here hx rfl (hb hby at_336) rfl kt) ?_
        show Go p e below _ m T100 338 #[iv p0, iv p1, iv p2, iv p3, iv p4, iv p5, iv (1 : Int32), iv (2 : Int32), rv b81, rv b82, rv b86, rv b93, rv b94, iv (1 : Int32)] [(.int (1 : Int32))]
        refine go (fun t kt => XS.iconst X100.here hx rfl (hb hby at_338) kt) ?_
        show Go p e below _ m T100 339 #[iv p0, iv p1, iv p2, iv p3, iv p4, iv p5, iv (1 : Int32), iv (2 : Int32), rv b81, rv b82, rv b86, rv b93, rv b94, iv (1 : Int32)] [(.int (1 : Int32)), (.int (1 : Int32))]
        refine go (fun t kt => XS.icmpYes X100.here hx rfl (pc0 := 339) (pc' := 388) rfl (hb hby at_339) rfl (flt (by decide : ¬ ((1 : Int32) < (1 : Int32)))).2.2.2 (by decide) (by decide) kt) ?_
        show Go p e below _ m T100 388 #[iv p0, iv p1, iv p2, iv p3, iv p4, iv p5, iv (1 : Int32), iv (2 : Int32), rv b81, rv b82, rv b86, rv b93, rv b94, iv (1 : Int32)] []
        refine go (fun t kt => XS.iload X100.here hx rfl (hb hby at_388) rfl kt) ?_
        show Go p e below _ m T100 390 #[iv p0, iv p1, iv p2, iv p3, iv p4, iv p5, iv (1 : Int32), iv (2 : Int32), rv b81, rv b82, rv b86, rv b93, rv b94, iv (1 : Int32)] [(.int (1 : Int32))]
        obtain ⟨fs, hr, hrun, hended, hW, hsame⟩ := X100.leave (v := some (.int (1 : Int32))) (fun h => by rw [Bd.returns] at h; cases h)
        refine ⟨_, _, retN X100 hx (t := .boolean) Bd.returns (by simp) (hb hby at_390) hr, hrun, hended, _, _, rfl, ?_, ⟨_, rfl⟩, hW, hsame.mono (by decide) (by decide)⟩
        show Q0 Z p0 p1 p2 p3 p4 p5 sd h0 n0 _ T100.heap _
        rw [e100]
        exact ⟨rfl, N100⟩
      ·
        refine go (fun t kt => XS.icmpNo X100.here hx rfl (hb hby at_312) rfl (flt hc101).1 kt) ?_
        show Go p e below _ m T100 315 #[iv p0, iv p1, iv p2, iv p3, iv p4, iv p5, iv (1 : Int32), iv (2 : Int32), rv b81, rv b82, rv b86, rv b93, rv b94, iv (1 : Int32)] [(.int (own_inR p5 p0 p1))]
        refine go (fun t kt => XS.iload X100.here hx rfl (hb hby at_315) rfl kt) ?_
        show Go p e below _ m T100 317 #[iv p0, iv p1, iv p2, iv p3, iv p4, iv p5, iv (1 : Int32), iv (2 : Int32), rv b81, rv b82, rv b86, rv b93, rv b94, iv (1 : Int32)] [(.int p5), (.int (own_inR p5 p0 p1))]
        refine go (fun t kt => XS.iloadN X100.here hx rfl (hb hby at_317) rfl kt) ?_
        show Go p e below _ m T100 318 #[iv p0, iv p1, iv p2, iv p3, iv p4, iv p5, iv (1 : Int32), iv (2 : Int32), rv b81, rv b82, rv b86, rv b93, rv b94, iv (1 : Int32)] [(.int p1), (.int p5), (.int (own_inR p5 p0 p1))]
        by_cases hc103 : p1 < p5
        ·
          refine go (fun t kt => XS.icmpYes X100.here hx rfl (pc0 := 318) (pc' := 325) rfl (hb hby at_318) rfl (tlt hc103).2.2.1 (by decide) (by decide) kt) ?_
          show Go p e below _ m T100 325 #[iv p0, iv p1, iv p2, iv p3, iv p4, iv p5, iv (1 : Int32), iv (2 : Int32), rv b81, rv b82, rv b86, rv b93, rv b94, iv (1 : Int32)] [(.int (own_inR p5 p0 p1))]
          refine go (fun t kt => XS.iconst X100.here hx rfl (hb hby at_325) kt) ?_
          show Go p e below _ m T100 326 #[iv p0, iv p1, iv p2, iv p3, iv p4, iv p5, iv (1 : Int32), iv (2 : Int32), rv b81, rv b82, rv b86, rv b93, rv b94, iv (1 : Int32)] [(.int (0 : Int32)), (.int (own_inR p5 p0 p1))]
          refine go (fun t kt => XS.icmpNo X100.here hx rfl (hb hby at_326) rfl (teq (own_r2 _ _ _ hc101 hc103)).2 kt) ?_
          show Go p e below _ m T100 329 #[iv p0, iv p1, iv p2, iv p3, iv p4, iv p5, iv (1 : Int32), iv (2 : Int32), rv b81, rv b82, rv b86, rv b93, rv b94, iv (1 : Int32)] []
          refine go (fun t kt => XS.iconst X100.here hx rfl (hb hby at_329) kt) ?_
          show Go p e below _ m T100 330 #[iv p0, iv p1, iv p2, iv p3, iv p4, iv p5, iv (1 : Int32), iv (2 : Int32), rv b81, rv b82, rv b86, rv b93, rv b94, iv (1 : Int32)] [(.int (1 : Int32))]
          refine go (fun t kt => XS.goto X100.here hx rfl (pc0 := 330) (pc' := 334) rfl (hb hby at_330) (by decide) (by decide) kt) ?_
          show Go p e below _ m T100 334 #[iv p0, iv p1, iv p2, iv p3, iv p4, iv p5, iv (1 : Int32), iv (2 : Int32), rv b81, rv b82, rv b86, rv b93, rv b94, iv (1 : Int32)] [(.int (1 : Int32))]
          refine go (fun t kt => XS.istore X100.here hx rfl (hb hby at_334) rfl (l' := #[iv p0, iv p1, iv p2, iv p3, iv p4, iv p5, iv (1 : Int32), iv (2 : Int32), rv b81, rv b82, rv b86, rv b93, rv b94, iv (1 : Int32)]) rfl kt) ?_
          show Go p e below _ m T100 336 #[iv p0, iv p1, iv p2, iv p3, iv p4, iv p5, iv (1 : Int32), iv (2 : Int32), rv b81, rv b82, rv b86, rv b93, rv b94, iv (1 : Int32)] []
          refine go (fun t kt => XS.iload X100.here hx rfl (hb hby at_336) rfl kt) ?_
          show Go p e below _ m T100 338 #[iv p0, iv p1, iv p2, iv p3, iv p4, iv p5, iv (1 : Int32), iv (2 : Int32), rv b81, rv b82, rv b86, rv b93, rv b94, iv (1 : Int32)] [(.int (1 : Int32))]
          refine go (fun t kt => XS.iconst X100.here hx rfl (hb hby at_338) kt) ?_
          show Go p e below _ m T100 339 #[iv p0, iv p1, iv p2, iv p3, iv p4, iv p5, iv (1 : Int32), iv (2 : Int32), rv b81, rv b82, rv b86, rv b93, rv b94, iv (1 : Int32)] [(.int (1 : Int32)), (.int (1 : Int32))]
          refine go (fun t kt => XS.icmpYes X100.here hx rfl (pc0 := 339) (pc' := 388) rfl (hb hby at_339) rfl (flt (by decide : ¬ ((1 : Int32) < (1 : Int32)))).2.2.2 (by decide) (by decide) kt) ?_
          show Go p e below _ m T100 388 #[iv p0, iv p1, iv p2, iv p3, iv p4, iv p5, iv (1 : Int32), iv (2 : Int32), rv b81, rv b82, rv b86, rv b93, rv b94, iv (1 : Int32)] []
          refine go (fun t kt => XS.iload X100.here hx rfl (hb hby at_388) rfl kt) ?_
          show Go p e below _ m T100 390 #[iv p0, iv p1, iv p2, iv p3, iv p4, iv p5, iv (1 : Int32), iv (2 : Int32), rv b81, rv b82, rv b86, rv b93, rv b94, iv (1 : Int32)] [(.int (1 : Int32))]
          obtain ⟨fs, hr, hrun, hended, hW, hsame⟩ := X100.leave (v := some (.int (1 : Int32))) (fun h => by rw [Bd.returns] at h; cases h)
          refine ⟨_, _, retN X100 hx (t := .boolean) Bd.returns (by simp) (hb hby at_390) hr, hrun, hended, _, _, rfl, ?_, ⟨_, rfl⟩, hW, hsame.mono (by decide) (by decide)⟩
          show Q0 Z p0 p1 p2 p3 p4 p5 sd h0 n0 _ T100.heap _
          rw [e100]
          exact ⟨rfl, N100⟩
        ·
          refine go (fun t kt => XS.icmpNo X100.here hx rfl (hb hby at_318) rfl (flt hc103).2.2.1 kt) ?_
          show Go p e below _ m T100 321 #[iv p0, iv p1, iv p2, iv p3, iv p4, iv p5, iv (1 : Int32), iv (2 : Int32), rv b81, rv b82, rv b86, rv b93, rv b94, iv (1 : Int32)] [(.int (own_inR p5 p0 p1))]
          refine go (fun t kt => XS.iconst X100.here hx rfl (hb hby at_321) kt) ?_
          show Go p e below _ m T100 322 #[iv p0, iv p1, iv p2, iv p3, iv p4, iv p5, iv (1 : Int32), iv (2 : Int32), rv b81, rv b82, rv b86, rv b93, rv b94, iv (1 : Int32)] [(.int (1 : Int32)), (.int (own_inR p5 p0 p1))]
          refine go (fun t kt => XS.goto X100.here hx rfl (pc0 := 322) (pc' := 326) rfl (hb hby at_322) (by decide) (by decide) kt) ?_
          show Go p e below _ m T100 326 #[iv p0, iv p1, iv p2, iv p3, iv p4, iv p5, iv (1 : Int32), iv (2 : Int32), rv b81, rv b82, rv b86, rv b93, rv b94, iv (1 : Int32)] [(.int (1 : Int32)), (.int (own_inR p5 p0 p1))]
          refine go (fun t kt => XS.icmpNo X100.here hx rfl (hb hby at_326) rfl (teq (own_r3 _ _ _ hc101 hc103)).2 kt) ?_
          show Go p e below _ m T100 329 #[iv p0, iv p1, iv p2, iv p3, iv p4, iv p5, iv (1 : Int32), iv (2 : Int32), rv b81, rv b82, rv b86, rv b93, rv b94, iv (1 : Int32)] []
          refine go (fun t kt => XS.iconst X100.here hx rfl (hb hby at_329) kt) ?_
          show Go p e below _ m T100 330 #[iv p0, iv p1, iv p2, iv p3, iv p4, iv p5, iv (1 : Int32), iv (2 : Int32), rv b81, rv b82, rv b86, rv b93, rv b94, iv (1 : Int32)] [(.int (1 : Int32))]
          refine go (fun t kt => XS.goto X100.here hx rfl (pc0 := 330) (pc' := 334) rfl (hb hby at_330) (by decide) (by decide) kt) ?_
          show Go p e below _ m T100 334 #[iv p0, iv p1, iv p2, iv p3, iv p4, iv p5, iv (1 : Int32), iv (2 : Int32), rv b81, rv b82, rv b86, rv b93, rv b94, iv (1 : Int32)] [(.int (1 : Int32))]
          refine go (fun t kt => XS.istore X100.here hx rfl (hb hby at_334) rfl (l' := #[iv p0, iv p1, iv p2, iv p3, iv p4, iv p5, iv (1 : Int32), iv (2 : Int32), rv b81, rv b82, rv b86, rv b93, rv b94, iv (1 : Int32)]) rfl kt) ?_
          show Go p e below _ m T100 336 #[iv p0, iv p1, iv p2, iv p3, iv p4, iv p5, iv (1 : Int32), iv (2 : Int32), rv b81, rv b82, rv b86, rv b93, rv b94, iv (1 : Int32)] []
          refine go (fun t kt => XS.iload X100.here hx rfl (hb hby at_336) rfl kt) ?_
          show Go p e below _ m T100 338 #[iv p0, iv p1, iv p2, iv p3, iv p4, iv p5, iv (1 : Int32), iv (2 : Int32), rv b81, rv b82, rv b86, rv b93, rv b94, iv (1 : Int32)] [(.int (1 : Int32))]
          refine go (fun t kt => XS.iconst X100.here hx rfl (hb hby at_338) kt) ?_
          show Go p e below _ m T100 339 #[iv p0, iv p1, iv p2, iv p3, iv p4, iv p5, iv (1 : Int32), iv (2 : Int32), rv b81, rv b82, rv b86, rv b93, rv b94, iv (1 : Int32)] [(.int (1 : Int32)), (.int (1 : Int32))]
          refine go (fun t kt => XS.icmpYes X100.here hx rfl (pc0 := 339) (pc' := 388) rfl (hb hby at_339) rfl (flt (by decide : ¬ ((1 : Int32) < (1 : Int32)))).2.2.2 (by decide) (by decide) kt) ?_
          show Go p e below _ m T100 388 #[iv p0, iv p1, iv p2, iv p3, iv p4, iv p5, iv (1 : Int32), iv (2 : Int32), rv b81, rv b82, rv b86, rv b93, rv b94, iv (1 : Int32)] []
          refine go (fun t kt => XS.iload X100.here hx rfl (hb hby at_388) rfl kt) ?_
          show Go p e below _ m T100 390 #[iv p0, iv p1, iv p2, iv p3, iv p4, iv p5, iv (1 : Int32), iv (2 : Int32), rv b81, rv b82, rv b86, rv b93, rv b94, iv (1 : Int32)] [(.int (1 : Int32))]
          obtain ⟨fs, hr, hrun, hended, hW, hsame⟩ := X100.leave (v := some (.int (1 : Int32))) (fun h => by rw [Bd.returns] at h; cases h)
          refine ⟨_, _, retN X100 hx (t := .boolean) Bd.returns (by simp) (hb hby at_390) hr, hrun, hended, _, _, rfl, ?_, ⟨_, rfl⟩, hW, hsame.mono (by decide) (by decide)⟩
          show Q0 Z p0 p1 p2 p3 p4 p5 sd h0 n0 _ T100.heap _
          rw [e100]
          exact ⟨rfl, N100⟩
  ·
    rw [hk1]
    rcases own_m3 ((p4.toUInt32 >>> ((2 : Int32) &&& 31).toUInt32).toInt32) with hj2 | hj2 | hj2
    ·
      rw [hj2]
      show Go p e below _ m s₁ 18 #[iv p0, iv p1, iv p2, iv p3, iv p4, iv p5, iv (2 : Int32), iv (0 : Int32), .unset, .unset, .unset, .unset, .unset, .unset] []
      refine go (fun t kt => XS.iload X0.here hx rfl (hb hby at_18) rfl kt) ?_
      show Go p e below _ m s₁ 20 #[iv p0, iv p1, iv p2, iv p3, iv p4, iv p5, iv (2 : Int32), iv (0 : Int32), .unset, .unset, .unset, .unset, .unset, .unset] [(.int (2 : Int32))]
      obtain ⟨T106, h106, k106, X106, e106, E106, A106, B106, st106⟩ := newPE X0 hx hZ (hw _ (List.mem_of_getElem? (i := 0) rfl)) e0 (g := (mkF m 20 #[iv p0, iv p1, iv p2, iv p3, iv p4, iv p5, iv (2 : Int32), iv (0 : Int32), .unset, .unset, .unset, .unset, .unset, .unset] [(.int (2 : Int32))])) rfl (hb hby at_20) rfl (by decide) (cap := 2) (by decide) (by decide) (by decide) (by decide) (ad := "[I") rfl
      obtain ⟨b106, g106⟩ : ∃ z, z = h0.size := ⟨_, rfl⟩
      rw [← g106] at A106 B106 st106
      have g_b106 : n0 ≤ b106 := Nat.le_trans Z0 (Nat.le_of_eq g106.symm)
      have sz_b106 : h0.size ≤ b106 := Nat.le_trans K0.1 (Nat.le_of_eq g106.symm)
      replace S_DEFAULTCAPACITY_EMPTY_ELEMENTDATA := S_DEFAULTCAPACITY_EMPTY_ELEMENTDATA.ext E106
      have Zz106 := Nat.le_trans Z0 E106.1
      have Kk106 := K0.ext E106
      have E_b106 := B106
      have V_b106 : Arv Z h106 b106 k106 .int (2 : Int32) [(.int (0 : Int32)), (.int (0 : Int32))] (.int (0 : Int32)) := (Arv.new A106 (by decide)).pad (pad_rep [] (.int (0 : Int32)) 2)
      refine go st106 ?_
      show Go p e below _ m T106 22 #[iv p0, iv p1, iv p2, iv p3, iv p4, iv p5, iv (2 : Int32), iv (0 : Int32), .unset, .unset, .unset, .unset, .unset, .unset] [(.ref b106)]
      refine go (fun t kt => XS.astore X106.here hx rfl (hb hby at_22) rfl rfl (l' := #[iv p0, iv p1, iv p2, iv p3, iv p4, iv p5, iv (2 : Int32), iv (0 : Int32), rv b106, .unset, .unset, .unset, .unset, .unset]) rfl kt) ?_
      show Go p e below _ m T106 24 #[iv p0, iv p1, iv p2, iv p3, iv p4, iv p5, iv (2 : Int32), iv (0 : Int32), rv b106, .unset, .unset, .unset, .unset, .unset] []
      refine go (fun t kt => XS.iload X106.here hx rfl (hb hby at_24) rfl kt) ?_
      show Go p e below _ m T106 26 #[iv p0, iv p1, iv p2, iv p3, iv p4, iv p5, iv (2 : Int32), iv (0 : Int32), rv b106, .unset, .unset, .unset, .unset, .unset] [(.int (0 : Int32))]
      obtain ⟨T107, h107, k107, X107, e107, E107, A107, B107, st107⟩ := newPE X106 hx hZ (hw _ (List.mem_of_getElem? (i := 0) rfl)) e106 (g := (mkF m 26 #[iv p0, iv p1, iv p2, iv p3, iv p4, iv p5, iv (2 : Int32), iv (0 : Int32), rv b106, .unset, .unset, .unset, .unset, .unset] [(.int (0 : Int32))])) rfl (hb hby at_26) rfl (by decide) (cap := 0) (by decide) (by decide) (by decide) (by decide) (ad := "[I") rfl
      obtain ⟨b107, g107⟩ : ∃ z, z = h106.size := ⟨_, rfl⟩
      rw [← g107] at A107 B107 st107
      have ne_b106_b107 : b106 ≠ b107 := Nat.ne_of_lt (Nat.lt_of_lt_of_le E_b106.lt (Nat.le_of_eq g107.symm))
      have g_b107 : n0 ≤ b107 := Nat.le_trans Zz106 (Nat.le_of_eq g107.symm)
      have sz_b107 : h0.size ≤ b107 := Nat.le_trans Kk106.1 (Nat.le_of_eq g107.symm)
      replace S_DEFAULTCAPACITY_EMPTY_ELEMENTDATA := S_DEFAULTCAPACITY_EMPTY_ELEMENTDATA.ext E107
      replace E_b106 := E_b106.ext E107
      replace V_b106 := V_b106.ext E107
      have Zz107 := Nat.le_trans Zz106 E107.1
      have Kk107 := Kk106.ext E107
      have E_b107 := B107
      have V_b107 : Arv Z h107 b107 k107 .int (0 : Int32) [] (.int (0 : Int32)) := (Arv.new A107 (by decide))
      refine go st107 ?_
      show Go p e below _ m T107 28 #[iv p0, iv p1, iv p2, iv p3, iv p4, iv p5, iv (2 : Int32), iv (0 : Int32), rv b106, .unset, .unset, .unset, .unset, .unset] [(.ref b107)]
      refine go (fun t kt => XS.astore X107.here hx rfl (hb hby at_28) rfl rfl (l' := #[iv p0, iv p1, iv p2, iv p3, iv p4, iv p5, iv (2 : Int32), iv (0 : Int32), rv b106, rv b107, .unset, .unset, .unset, .unset]) rfl kt) ?_
      show Go p e below _ m T107 30 #[iv p0, iv p1, iv p2, iv p3, iv p4, iv p5, iv (2 : Int32), iv (0 : Int32), rv b106, rv b107, .unset, .unset, .unset, .unset] []
      refine go (fun t kt => XS.iload X107.here hx rfl (hb hby at_30) rfl kt) ?_
      show Go p e below _ m T107 32 #[iv p0, iv p1, iv p2, iv p3, iv p4, iv p5, iv (2 : Int32), iv (0 : Int32), rv b106, rv b107, .unset, .unset, .unset, .unset] [(.int (2 : Int32))]
      refine go (fun t kt => XS.ifNo X107.here hx rfl (hb hby at_32) rfl ((if0 _ _).trans (tlt (by decide : ((0 : Int32) < (2 : Int32)))).2.2.2) kt) ?_
      show Go p e below _ m T107 35 #[iv p0, iv p1, iv p2, iv p3, iv p4, iv p5, iv (2 : Int32), iv (0 : Int32), rv b106, rv b107, .unset, .unset, .unset, .unset] []
      refine go (fun t kt => XS.aload X107.here hx rfl (hb hby at_35) rfl rfl kt) ?_
      show Go p e below _ m T107 37 #[iv p0, iv p1, iv p2, iv p3, iv p4, iv p5, iv (2 : Int32), iv (0 : Int32), rv b106, rv b107, .unset, .unset, .unset, .unset] [(.ref b106)]
      refine go (fun t kt => XS.iconst X107.here hx rfl (hb hby at_37) kt) ?_
      show Go p e below _ m T107 38 #[iv p0, iv p1, iv p2, iv p3, iv p4, iv p5, iv (2 : Int32), iv (0 : Int32), rv b106, rv b107, .unset, .unset, .unset, .unset] [(.int (0 : Int32)), (.ref b106)]
      refine go (fun t kt => XS.iloadN X107.here hx rfl (hb hby at_38) rfl kt) ?_
      show Go p e below _ m T107 39 #[iv p0, iv p1, iv p2, iv p3, iv p4, iv p5, iv (2 : Int32), iv (0 : Int32), rv b106, rv b107, .unset, .unset, .unset, .unset] [(.int p0), (.int (0 : Int32)), (.ref b106)]
      obtain ⟨cl108, Ar108, q108, S108, M108, H108, G108⟩ := V_b106
      have hin108 : ¬ ((0 : Int32) < 0 ∨ cl108.slots.size ≤ ((0 : Int32)).toNatClampNeg) := inb_of S108 ⟨by decide, by decide⟩
      obtain ⟨T108, h108, X108, e108, W108, st108⟩ := stI X107 hx hZ e107 Ar108 (j := (0 : Int32)) hin108 (g := (mkF m 39 #[iv p0, iv p1, iv p2, iv p3, iv p4, iv p5, iv (2 : Int32), iv (0 : Int32), rv b106, rv b107, .unset, .unset, .unset, .unset] [(.int p0), (.int (0 : Int32)), (.ref b106)])) rfl rfl (hb hby at_39)
      have V_b106 : Arv Z h108 b106 k106 .int (2 : Int32) [(.int p0), (.int (0 : Int32))] (.int (0 : Int32)) := Arv.set Ar108 q108 S108 M108 H108 G108 rfl W108 0 rfl (Nat.le_of_ble_eq_true rfl)
      replace S_DEFAULTCAPACITY_EMPTY_ELEMENTDATA := S_DEFAULTCAPACITY_EMPTY_ELEMENTDATA.wr W108
      replace E_b106 := E_b106.wr W108
      replace E_b107 := E_b107.wr W108
      replace V_b107 := V_b107.other W108 (Ne.symm ne_b106_b107)
      have Zz108 := Nat.le_trans Zz107 (Keep.of_wr W108).1
      have Kk108 := Kk107.wr W108 (Or.inr sz_b106)
      have N108 := Fr.snoc X108 N0 g_b106
      refine go st108 ?_
      show Go p e below _ m T108 40 #[iv p0, iv p1, iv p2, iv p3, iv p4, iv p5, iv (2 : Int32), iv (0 : Int32), rv b106, rv b107, .unset, .unset, .unset, .unset] []
      refine go (fun t kt => XS.iload X108.here hx rfl (hb hby at_40) rfl kt) ?_
      show Go p e below _ m T108 42 #[iv p0, iv p1, iv p2, iv p3, iv p4, iv p5, iv (2 : Int32), iv (0 : Int32), rv b106, rv b107, .unset, .unset, .unset, .unset] [(.int (2 : Int32))]
      refine go (fun t kt => XS.iconst X108.here hx rfl (hb hby at_42) kt) ?_
      show Go p e below _ m T108 43 #[iv p0, iv p1, iv p2, iv p3, iv p4, iv p5, iv (2 : Int32), iv (0 : Int32), rv b106, rv b107, .unset, .unset, .unset, .unset] [(.int (1 : Int32)), (.int (2 : Int32))]
      refine go (fun t kt => XS.icmpNo X108.here hx rfl (hb hby at_43) rfl (tlt (by decide : ((1 : Int32) < (2 : Int32)))).2.2.2 kt) ?_
      show Go p e below _ m T108 46 #[iv p0, iv p1, iv p2, iv p3, iv p4, iv p5, iv (2 : Int32), iv (0 : Int32), rv b106, rv b107, .unset, .unset, .unset, .unset] []
      refine go (fun t kt => XS.aload X108.here hx rfl (hb hby at_46) rfl rfl kt) ?_
      show Go p e below _ m T108 48 #[iv p0, iv p1, iv p2, iv p3, iv p4, iv p5, iv (2 : Int32), iv (0 : Int32), rv b106, rv b107, .unset, .unset, .unset, .unset] [(.ref b106)]
      refine go (fun t kt => XS.iconst X108.here hx rfl (hb hby at_48) kt) ?_
      show Go p e below _ m T108 49 #[iv p0, iv p1, iv p2, iv p3, iv p4, iv p5, iv (2 : Int32), iv (0 : Int32), rv b106, rv b107, .unset, .unset, .unset, .unset] [(.int (1 : Int32)), (.ref b106)]
      refine go (fun t kt => XS.iloadN X108.here hx rfl (hb hby at_49) rfl kt) ?_
      show Go p e below _ m T108 50 #[iv p0, iv p1, iv p2, iv p3, iv p4, iv p5, iv (2 : Int32), iv (0 : Int32), rv b106, rv b107, .unset, .unset, .unset, .unset] [(.int p2), (.int (1 : Int32)), (.ref b106)]
      obtain ⟨cl109, Ar109, q109, S109, M109, H109, G109⟩ := V_b106
      have hin109 : ¬ ((1 : Int32) < 0 ∨ cl109.slots.size ≤ ((1 : Int32)).toNatClampNeg) := inb_of S109 ⟨by decide, by decide⟩
      obtain ⟨T109, h109, X109, e109, W109, st109⟩ := stI X108 hx hZ e108 Ar109 (j := (1 : Int32)) hin109 (g := (mkF m 50 #[iv p0, iv p1, iv p2, iv p3, iv p4, iv p5, iv (2 : Int32), iv (0 : Int32), rv b106, rv b107, .unset, .unset, .unset, .unset] [(.int p2), (.int (1 : Int32)), (.ref b106)])) rfl rfl (hb hby at_50)
      have V_b106 : Arv Z h109 b106 k106 .int (2 : Int32) [(.int p0), (.int p2)] (.int (0 : Int32)) := Arv.set Ar109 q109 S109 M109 H109 G109 rfl W109 1 rfl (Nat.le_of_ble_eq_true rfl)
      replace S_DEFAULTCAPACITY_EMPTY_ELEMENTDATA := S_DEFAULTCAPACITY_EMPTY_ELEMENTDATA.wr W109
      replace E_b106 := E_b106.wr W109
      replace E_b107 := E_b107.wr W109
      replace V_b107 := V_b107.other W109 (Ne.symm ne_b106_b107)
      have Zz109 := Nat.le_trans Zz108 (Keep.of_wr W109).1
      have Kk109 := Kk108.wr W109 (Or.inr sz_b106)
      have N109 := Fr.snoc X109 N108 g_b106
      refine go st109 ?_
      show Go p e below _ m T109 51 #[iv p0, iv p1, iv p2, iv p3, iv p4, iv p5, iv (2 : Int32), iv (0 : Int32), rv b106, rv b107, .unset, .unset, .unset, .unset] []
      refine go (fun t kt => XS.iload X109.here hx rfl (hb hby at_51) rfl kt) ?_
      show Go p e below _ m T109 53 #[iv p0, iv p1, iv p2, iv p3, iv p4, iv p5, iv (2 : Int32), iv (0 : Int32), rv b106, rv b107, .unset, .unset, .unset, .unset] [(.int (0 : Int32))]
      refine go (fun t kt => XS.ifYes X109.here hx rfl (pc0 := 53) (pc' := 61) rfl (hb hby at_53) rfl ((if0 _ _).trans (flt (by decide : ¬ ((0 : Int32) < (0 : Int32)))).2.2.2) (by decide) (by decide) kt) ?_
      show Go p e below _ m T109 61 #[iv p0, iv p1, iv p2, iv p3, iv p4, iv p5, iv (2 : Int32), iv (0 : Int32), rv b106, rv b107, .unset, .unset, .unset, .unset] []
      refine go (fun t kt => XS.iload X109.here hx rfl (hb hby at_61) rfl kt) ?_
      show Go p e below _ m T109 63 #[iv p0, iv p1, iv p2, iv p3, iv p4, iv p5, iv (2 : Int32), iv (0 : Int32), rv b106, rv b107, .unset, .unset, .unset, .unset] [(.int (0 : Int32))]
      refine go (fun t kt => XS.iconst X109.here hx rfl (hb hby at_63) kt) ?_
      show Go p e below _ m T109 64 #[iv p0, iv p1, iv p2, iv p3, iv p4, iv p5, iv (2 : Int32), iv (0 : Int32), rv b106, rv b107, .unset, .unset, .unset, .unset] [(.int (1 : Int32)), (.int (0 : Int32))]
      refine go (fun t kt => XS.icmpYes X109.here hx rfl (pc0 := 64) (pc' := 72) rfl (hb hby at_64) rfl (flt (by decide : ¬ ((1 : Int32) < (0 : Int32)))).2.2.2 (by decide) (by decide) kt) ?_
      show Go p e below _ m T109 72 #[iv p0, iv p1, iv p2, iv p3, iv p4, iv p5, iv (2 : Int32), iv (0 : Int32), rv b106, rv b107, .unset, .unset, .unset, .unset] []
      obtain ⟨T110, h110, X110, e110, E110, A110, D110, -, st110⟩ := newO X109 hx hZ hown (hw _ (List.mem_of_getElem? (i := 1) rfl)) (hw _ (List.mem_of_getElem? (i := 2) rfl)) (hw _ (List.mem_of_getElem? (i := 3) rfl)) e109 (g := (mkF m 72 #[iv p0, iv p1, iv p2, iv p3, iv p4, iv p5, iv (2 : Int32), iv (0 : Int32), rv b106, rv b107, .unset, .unset, .unset, .unset] [])) rfl (hb hby at_72) (by decide) (by decide)
      obtain ⟨b110, g110⟩ : ∃ z, z = h109.size := ⟨_, rfl⟩
      rw [← g110] at A110 D110 st110
      have ne_b106_b110 : b106 ≠ b110 := Nat.ne_of_lt (Nat.lt_of_lt_of_le E_b106.lt (Nat.le_of_eq g110.symm))
      have ne_b107_b110 : b107 ≠ b110 := Nat.ne_of_lt (Nat.lt_of_lt_of_le E_b107.lt (Nat.le_of_eq g110.symm))
      have g_b110 : n0 ≤ b110 := Nat.le_trans Zz109 (Nat.le_of_eq g110.symm)
      have sz_b110 : h0.size ≤ b110 := Nat.le_trans Kk109.1 (Nat.le_of_eq g110.symm)
      replace S_DEFAULTCAPACITY_EMPTY_ELEMENTDATA := S_DEFAULTCAPACITY_EMPTY_ELEMENTDATA.ext E110
      replace E_b106 := E_b106.ext E110
      replace V_b106 := V_b106.ext E110
      replace E_b107 := E_b107.ext E110
      replace V_b107 := V_b107.ext E110
      have Zz110 := Nat.le_trans Zz109 E110.1
      have Kk110 := Kk109.ext E110
      have E_b110 := A110
      have F_names_b110 : Fld Z h110 b110 "com/example/anytime_arena/anytimearena/io/VariableTable" "names" "Ljava/util/List;" .null := D110 (Or.inr (hw _ (List.mem_of_getElem? (i := 35) rfl))) (ty := (.object "java/util/List")) (by decide)
      have F_types_b110 : Fld Z h110 b110 "com/example/anytime_arena/anytimearena/io/VariableTable" "types" "Ljava/util/List;" .null := D110 (Or.inr (hw _ (List.mem_of_getElem? (i := 37) rfl))) (ty := (.object "java/util/List")) (by decide)
      have F_owners_b110 : Fld Z h110 b110 "com/example/anytime_arena/anytimearena/io/VariableTable" "owners" "Ljava/util/List;" .null := D110 (Or.inr (hw _ (List.mem_of_getElem? (i := 39) rfl))) (ty := (.object "java/util/List")) (by decide)
      have F_slots_b110 : Fld Z h110 b110 "com/example/anytime_arena/anytimearena/io/VariableTable" "slots" "Ljava/util/Map;" .null := D110 (Or.inr (hw _ (List.mem_of_getElem? (i := 57) rfl))) (ty := (.object "java/util/Map")) (by decide)
      have F_low_b110 : Fld Z h110 b110 "com/example/anytime_arena/anytimearena/io/VariableTable" "low" "[I" .null := D110 (Or.inl (hw _ (List.mem_of_getElem? (i := 59) rfl))) (ty := (.array .int)) (by decide)
      have F_high_b110 : Fld Z h110 b110 "com/example/anytime_arena/anytimearena/io/VariableTable" "high" "[I" .null := D110 (Or.inl (hw _ (List.mem_of_getElem? (i := 61) rfl))) (ty := (.array .int)) (by decide)
      refine go st110 ?_
      show Go p e below _ m T110 75 #[iv p0, iv p1, iv p2, iv p3, iv p4, iv p5, iv (2 : Int32), iv (0 : Int32), rv b106, rv b107, .unset, .unset, .unset, .unset] [(.ref b110)]
      refine go (fun t kt => XS.dup X110.here hx rfl (hb hby at_75) rfl rfl kt) ?_
      show Go p e below _ m T110 76 #[iv p0, iv p1, iv p2, iv p3, iv p4, iv p5, iv (2 : Int32), iv (0 : Int32), rv b106, rv b107, .unset, .unset, .unset, .unset] [(.ref b110), (.ref b110)]
      obtain ⟨_, _, ⟨T111, L111, k111, n111⟩, -, X111, ⟨Lc111, hQ111, l111, y111, z111⟩, st111⟩ := X110.specialBack hx (y := (⟨"com/example/anytime_arena/anytimearena/io/VariableTable", "<init>", "()V"⟩ : MethodName)) rfl hown (mvT hZ (hw _ (List.mem_of_getElem? (i := 4) rfl))) (mvT hZ (hw _ (List.mem_of_getElem? (i := 5) rfl))) (mvT hZ (hw _ (List.mem_of_getElem? (i := 6) rfl))) (by decide) (backOf (W := 1) (rm1 l Z a0 hw [] b110 .null .null .null .null .null .null sd h110 n0 Zz110 E_b110 F_names_b110 F_types_b110 F_owners_b110 F_slots_b110 F_low_b110 F_high_b110 S_DEFAULTCAPACITY_EMPTY_ELEMENTDATA g_b110) hZ (hw _ (List.mem_of_getElem? (i := 6) rfl)) (hw _ (List.mem_of_getElem? (i := 3) rfl)) (by decide) (by decide)) (g := (mkF m 76 #[iv p0, iv p1, iv p2, iv p3, iv p4, iv p5, iv (2 : Int32), iv (0 : Int32), rv b106, rv b107, .unset, .unset, .unset, .unset] [(.ref b110), (.ref b110)])) rfl (by rw [hml]; rfl) (Steps.refl _) (a := b110) (argsL := []) (rest := [(.ref b110)]) (lenOf pd_0 rfl) rfl (by show 2 * 0 + _ ≤ _; exact Nat.le_of_eq rfl) (hb hby at_76) (fun _ _ => ⟨rfl, e110, (by decide : 3 + 6 ≤ _), (by decide : 8 + 17 ≤ _)⟩)
      dsimp only [Pt.U, Pt.locs, Pt.cells, Pt.slots] at X111 l111 y111 z111 st111 hQ111
      subst l111 y111 z111
      obtain ⟨rfl, Nq111, Kq111, Eq111, ⟨ul111, Fl111⟩, ⟨uh111, Fh111⟩⟩ := hQ111
      replace S_DEFAULTCAPACITY_EMPTY_ELEMENTDATA := own_sta_keep S_DEFAULTCAPACITY_EMPTY_ELEMENTDATA E_b110 Kq111
      replace E_b106 := E_b106.keep Kq111
      replace V_b106 := V_b106.keep Kq111 (ninS ne_b106_b110 nin0)
      replace E_b107 := E_b107.keep Kq111
      replace V_b107 := V_b107.keep Kq111 (ninS ne_b107_b110 nin0)
      replace E_b110 := E_b110.keep Kq111
      clear F_names_b110
      clear F_types_b110
      clear F_owners_b110
      clear F_slots_b110
      clear F_low_b110
      clear F_high_b110
      have Zz111 := Nat.le_trans Zz110 Kq111.1
      have Kk111 := Kk110.trans Kq111 (allS (Or.inr sz_b110) all0)
      have E_b110 := Eq111
      have F_low_b110 := Fl111
      have F_high_b110 := Fh111
      have N111 := Fr.app N109 Nq111
      refine go (fun t kt => st111.trans kt) ?_
      show Go p e below _ m T111 79 #[iv p0, iv p1, iv p2, iv p3, iv p4, iv p5, iv (2 : Int32), iv (0 : Int32), rv b106, rv b107, .unset, .unset, .unset, .unset] [(.ref b110)]
      refine go (fun t kt => XS.astore X111.here hx rfl (hb hby at_79) rfl rfl (l' := #[iv p0, iv p1, iv p2, iv p3, iv p4, iv p5, iv (2 : Int32), iv (0 : Int32), rv b106, rv b107, rv b110, .unset, .unset, .unset]) rfl kt) ?_
      show Go p e below _ m T111 81 #[iv p0, iv p1, iv p2, iv p3, iv p4, iv p5, iv (2 : Int32), iv (0 : Int32), rv b106, rv b107, rv b110, .unset, .unset, .unset] []
      refine go (fun t kt => XS.aload X111.here hx rfl (hb hby at_81) rfl rfl kt) ?_
      show Go p e below _ m T111 83 #[iv p0, iv p1, iv p2, iv p3, iv p4, iv p5, iv (2 : Int32), iv (0 : Int32), rv b106, rv b107, rv b110, .unset, .unset, .unset] [(.ref b110)]
      refine go (fun t kt => XS.aload X111.here hx rfl (hb hby at_83) rfl rfl kt) ?_
      show Go p e below _ m T111 85 #[iv p0, iv p1, iv p2, iv p3, iv p4, iv p5, iv (2 : Int32), iv (0 : Int32), rv b106, rv b107, rv b110, .unset, .unset, .unset] [(.ref b107), (.ref b110)]
      refine go (fun t kt => XS.aload X111.here hx rfl (hb hby at_85) rfl rfl kt) ?_
      show Go p e below _ m T111 87 #[iv p0, iv p1, iv p2, iv p3, iv p4, iv p5, iv (2 : Int32), iv (0 : Int32), rv b106, rv b107, rv b110, .unset, .unset, .unset] [(.ref b106), (.ref b107), (.ref b110)]
      obtain ⟨cq112, kq112, q112a, q112b, q112c⟩ := isOf hZ rfl E_b110
      obtain ⟨_, _, ⟨T112, L112, k112, n112⟩, -, X112, ⟨Lc112, hQ112, l112, y112, z112⟩, st112⟩ := X111.virtualBack hx (y := (⟨"com/example/anytime_arena/anytimearena/io/VariableTable", "setRanges", "([I[I)V"⟩ : MethodName)) (z := (⟨"com/example/anytime_arena/anytimearena/io/VariableTable", "setRanges", "([I[I)V"⟩ : MethodName)) hown (mvT hZ (hw _ (List.mem_of_getElem? (i := 62) rfl))) (mvT hZ (hw _ (List.mem_of_getElem? (i := 63) rfl))) (notFace_of_selects (args := #[]) (mvT hZ (hw _ (List.mem_of_getElem? (i := 65) rfl)))) (mvT hZ (hw _ (List.mem_of_getElem? (i := 65) rfl))) (mvT hZ (hw _ (List.mem_of_getElem? (i := 64) rfl))) (by decide) (backOf (W := 0) (rm8 l Z a0 hw [] b110 b107 b106 ul111 uh111 k107 (0 : Int32) [] k106 (2 : Int32) [(.int p0), (.int p2)] T111.heap n0 Zz111 E_b110 F_low_b110 F_high_b110 E_b107 V_b107 E_b106 V_b106 (Ne.symm ne_b107_b110) (Ne.symm ne_b106_b110) g_b110 (by decide) (by decide)) hZ (hw _ (List.mem_of_getElem? (i := 66) rfl)) (hw _ (List.mem_of_getElem? (i := 3) rfl)) (by decide) (by decide)) q112a q112c (g := (mkF m 87 #[iv p0, iv p1, iv p2, iv p3, iv p4, iv p5, iv (2 : Int32), iv (0 : Int32), rv b106, rv b107, rv b110, .unset, .unset, .unset] [(.ref b106), (.ref b107), (.ref b110)])) rfl (by rw [hml]; rfl) (Steps.refl _) (argsL := [(.ref b107), (.ref b106)]) (rest := []) (lenOf pd_1 rfl) rfl (by show 2 * 0 + _ ≤ _; exact Nat.le_of_eq rfl) (hb hby at_87) (fun _ _ => ⟨rfl, rfl, (by decide : 9 + 2 ≤ _), (by decide : 25 + 4 ≤ _)⟩)
      dsimp only [Pt.U, Pt.locs, Pt.cells, Pt.slots] at X112 l112 y112 z112 st112 hQ112
      subst l112 y112 z112
      obtain ⟨rfl, Nq112, Kq112, Eq112, c112, d112, lc112, ld112, ne_c112_d112, Fl112, Fh112, Ec112, Vc112, Ed112, Vd112⟩ := hQ112
      have ne_b106_c112 : b106 ≠ c112 := Nat.ne_of_lt (Nat.lt_of_lt_of_le E_b106.lt lc112)
      have ne_b107_c112 : b107 ≠ c112 := Nat.ne_of_lt (Nat.lt_of_lt_of_le E_b107.lt lc112)
      have ne_b110_c112 : b110 ≠ c112 := Nat.ne_of_lt (Nat.lt_of_lt_of_le E_b110.lt lc112)
      have g_c112 : n0 ≤ c112 := Nat.le_trans Zz111 lc112
      have sz_c112 : h0.size ≤ c112 := Nat.le_trans Kk111.1 lc112
      have ne_b106_d112 : b106 ≠ d112 := Nat.ne_of_lt (Nat.lt_of_lt_of_le E_b106.lt ld112)
      have ne_b107_d112 : b107 ≠ d112 := Nat.ne_of_lt (Nat.lt_of_lt_of_le E_b107.lt ld112)
      have ne_b110_d112 : b110 ≠ d112 := Nat.ne_of_lt (Nat.lt_of_lt_of_le E_b110.lt ld112)
      have g_d112 : n0 ≤ d112 := Nat.le_trans Zz111 ld112
      have sz_d112 : h0.size ≤ d112 := Nat.le_trans Kk111.1 ld112
      replace S_DEFAULTCAPACITY_EMPTY_ELEMENTDATA := own_sta_keep S_DEFAULTCAPACITY_EMPTY_ELEMENTDATA E_b110 Kq112
      replace E_b106 := E_b106.keep Kq112
      replace V_b106 := V_b106.keep Kq112 (ninS ne_b106_b110 nin0)
      replace E_b107 := E_b107.keep Kq112
      replace V_b107 := V_b107.keep Kq112 (ninS ne_b107_b110 nin0)
      replace E_b110 := E_b110.keep Kq112
      clear F_low_b110
      clear F_high_b110
      have Zz112 := Nat.le_trans Zz111 Kq112.1
      have Kk112 := Kk111.trans Kq112 (allS (Or.inr sz_b110) all0)
      have E_b110 := Eq112
      have F_low_b110 := Fl112
      have F_high_b110 := Fh112
      have E_c112 := Ec112
      have V_c112 := Vc112
      have E_d112 := Ed112
      have V_d112 := Vd112
      have N112 := Fr.app N111 Nq112
      refine go (fun t kt => st112.trans kt) ?_
      show Go p e below _ m T112 90 #[iv p0, iv p1, iv p2, iv p3, iv p4, iv p5, iv (2 : Int32), iv (0 : Int32), rv b106, rv b107, rv b110, .unset, .unset, .unset] []
      refine go (fun t kt => XS.aload X112.here hx rfl (hb hby at_90) rfl rfl kt) ?_
      show Go p e below _ m T112 92 #[iv p0, iv p1, iv p2, iv p3, iv p4, iv p5, iv (2 : Int32), iv (0 : Int32), rv b106, rv b107, rv b110, .unset, .unset, .unset] [(.ref b110)]
      refine go (fun t kt => XS.aload X112.here hx rfl (hb hby at_92) rfl rfl kt) ?_
      show Go p e below _ m T112 94 #[iv p0, iv p1, iv p2, iv p3, iv p4, iv p5, iv (2 : Int32), iv (0 : Int32), rv b106, rv b107, rv b110, .unset, .unset, .unset] [(.ref b106), (.ref b110)]
      refine go (fun t kt => XS.aload X112.here hx rfl (hb hby at_94) rfl rfl kt) ?_
      show Go p e below _ m T112 96 #[iv p0, iv p1, iv p2, iv p3, iv p4, iv p5, iv (2 : Int32), iv (0 : Int32), rv b106, rv b107, rv b110, .unset, .unset, .unset] [(.ref b107), (.ref b106), (.ref b110)]
      obtain ⟨cq113, kq113, q113a, q113b, q113c⟩ := isOf hZ rfl E_b110
      obtain ⟨_, _, ⟨T113, L113, k113, n113⟩, -, X113, ⟨Lc113, hQ113, l113, y113, z113⟩, st113⟩ := X112.virtualBack hx (y := (⟨"com/example/anytime_arena/anytimearena/io/VariableTable", "setRanges", "([I[I)V"⟩ : MethodName)) (z := (⟨"com/example/anytime_arena/anytimearena/io/VariableTable", "setRanges", "([I[I)V"⟩ : MethodName)) hown (mvT hZ (hw _ (List.mem_of_getElem? (i := 62) rfl))) (mvT hZ (hw _ (List.mem_of_getElem? (i := 63) rfl))) (notFace_of_selects (args := #[]) (mvT hZ (hw _ (List.mem_of_getElem? (i := 65) rfl)))) (mvT hZ (hw _ (List.mem_of_getElem? (i := 65) rfl))) (mvT hZ (hw _ (List.mem_of_getElem? (i := 64) rfl))) (by decide) (backOf (W := 0) (rm8 l Z a0 hw [] b110 b106 b107 (.ref c112) (.ref d112) k106 (2 : Int32) [(.int p0), (.int p2)] k107 (0 : Int32) [] T112.heap n0 Zz112 E_b110 F_low_b110 F_high_b110 E_b106 V_b106 E_b107 V_b107 (Ne.symm ne_b106_b110) (Ne.symm ne_b107_b110) g_b110 (by decide) (by decide)) hZ (hw _ (List.mem_of_getElem? (i := 66) rfl)) (hw _ (List.mem_of_getElem? (i := 3) rfl)) (by decide) (by decide)) q113a q113c (g := (mkF m 96 #[iv p0, iv p1, iv p2, iv p3, iv p4, iv p5, iv (2 : Int32), iv (0 : Int32), rv b106, rv b107, rv b110, .unset, .unset, .unset] [(.ref b107), (.ref b106), (.ref b110)])) rfl (by rw [hml]; rfl) (Steps.refl _) (argsL := [(.ref b106), (.ref b107)]) (rest := []) (lenOf pd_1 rfl) rfl (by show 2 * 0 + _ ≤ _; exact Nat.le_of_eq rfl) (hb hby at_96) (fun _ _ => ⟨rfl, rfl, (by decide : 11 + 2 ≤ _), (by decide : 29 + 4 ≤ _)⟩)
      dsimp only [Pt.U, Pt.locs, Pt.cells, Pt.slots] at X113 l113 y113 z113 st113 hQ113
      subst l113 y113 z113
      obtain ⟨rfl, Nq113, Kq113, Eq113, c113, d113, lc113, ld113, ne_c113_d113, Fl113, Fh113, Ec113, Vc113, Ed113, Vd113⟩ := hQ113
      have ne_b106_c113 : b106 ≠ c113 := Nat.ne_of_lt (Nat.lt_of_lt_of_le E_b106.lt lc113)
      have ne_b107_c113 : b107 ≠ c113 := Nat.ne_of_lt (Nat.lt_of_lt_of_le E_b107.lt lc113)
      have ne_b110_c113 : b110 ≠ c113 := Nat.ne_of_lt (Nat.lt_of_lt_of_le E_b110.lt lc113)
      have ne_c112_c113 : c112 ≠ c113 := Nat.ne_of_lt (Nat.lt_of_lt_of_le E_c112.lt lc113)
      have ne_d112_c113 : d112 ≠ c113 := Nat.ne_of_lt (Nat.lt_of_lt_of_le E_d112.lt lc113)
      have g_c113 : n0 ≤ c113 := Nat.le_trans Zz112 lc113
      have sz_c113 : h0.size ≤ c113 := Nat.le_trans Kk112.1 lc113
      have ne_b106_d113 : b106 ≠ d113 := Nat.ne_of_lt (Nat.lt_of_lt_of_le E_b106.lt ld113)
      have ne_b107_d113 : b107 ≠ d113 := Nat.ne_of_lt (Nat.lt_of_lt_of_le E_b107.lt ld113)
      have ne_b110_d113 : b110 ≠ d113 := Nat.ne_of_lt (Nat.lt_of_lt_of_le E_b110.lt ld113)
      have ne_c112_d113 : c112 ≠ d113 := Nat.ne_of_lt (Nat.lt_of_lt_of_le E_c112.lt ld113)
      have ne_d112_d113 : d112 ≠ d113 := Nat.ne_of_lt (Nat.lt_of_lt_of_le E_d112.lt ld113)
      have g_d113 : n0 ≤ d113 := Nat.le_trans Zz112 ld113
      have sz_d113 : h0.size ≤ d113 := Nat.le_trans Kk112.1 ld113
      replace S_DEFAULTCAPACITY_EMPTY_ELEMENTDATA := own_sta_keep S_DEFAULTCAPACITY_EMPTY_ELEMENTDATA E_b110 Kq113
      replace E_b106 := E_b106.keep Kq113
      replace V_b106 := V_b106.keep Kq113 (ninS ne_b106_b110 nin0)
      replace E_b107 := E_b107.keep Kq113
      replace V_b107 := V_b107.keep Kq113 (ninS ne_b107_b110 nin0)
      replace E_b110 := E_b110.keep Kq113
      clear F_low_b110
      clear F_high_b110
      replace E_c112 := E_c112.keep Kq113
      replace V_c112 := V_c112.keep Kq113 (ninS (Ne.symm ne_b110_c112) nin0)
      replace E_d112 := E_d112.keep Kq113
      replace V_d112 := V_d112.keep Kq113 (ninS (Ne.symm ne_b110_d112) nin0)
      have Zz113 := Nat.le_trans Zz112 Kq113.1
      have Kk113 := Kk112.trans Kq113 (allS (Or.inr sz_b110) all0)
      have E_b110 := Eq113
      have F_low_b110 := Fl113
      have F_high_b110 := Fh113
      have E_c113 := Ec113
      have V_c113 := Vc113
      have E_d113 := Ed113
      have V_d113 := Vd113
      have N113 := Fr.app N112 Nq113
      refine go (fun t kt => st113.trans kt) ?_
      show Go p e below _ m T113 99 #[iv p0, iv p1, iv p2, iv p3, iv p4, iv p5, iv (2 : Int32), iv (0 : Int32), rv b106, rv b107, rv b110, .unset, .unset, .unset] []
      refine go (fun t kt => XS.iload X113.here hx rfl (hb hby at_99) rfl kt) ?_
      show Go p e below _ m T113 101 #[iv p0, iv p1, iv p2, iv p3, iv p4, iv p5, iv (2 : Int32), iv (0 : Int32), rv b106, rv b107, rv b110, .unset, .unset, .unset] [(.int (2 : Int32))]
      refine go (fun t kt => XS.ifNo X113.here hx rfl (hb hby at_101) rfl ((if0 _ _).trans (tlt (by decide : ((0 : Int32) < (2 : Int32)))).2.2.2) kt) ?_
      show Go p e below _ m T113 104 #[iv p0, iv p1, iv p2, iv p3, iv p4, iv p5, iv (2 : Int32), iv (0 : Int32), rv b106, rv b107, rv b110, .unset, .unset, .unset] []
      refine go (fun t kt => XS.aload X113.here hx rfl (hb hby at_104) rfl rfl kt) ?_
      show Go p e below _ m T113 106 #[iv p0, iv p1, iv p2, iv p3, iv p4, iv p5, iv (2 : Int32), iv (0 : Int32), rv b106, rv b107, rv b110, .unset, .unset, .unset] [(.ref b106)]
      refine go (fun t kt => XS.iconst X113.here hx rfl (hb hby at_106) kt) ?_
      show Go p e below _ m T113 107 #[iv p0, iv p1, iv p2, iv p3, iv p4, iv p5, iv (2 : Int32), iv (0 : Int32), rv b106, rv b107, rv b110, .unset, .unset, .unset] [(.int (0 : Int32)), (.ref b106)]
      refine go (fun t kt => XS.iloadN X113.here hx rfl (hb hby at_107) rfl kt) ?_
      show Go p e below _ m T113 108 #[iv p0, iv p1, iv p2, iv p3, iv p4, iv p5, iv (2 : Int32), iv (0 : Int32), rv b106, rv b107, rv b110, .unset, .unset, .unset] [(.int p0), (.int (0 : Int32)), (.ref b106)]
      refine go (fun t kt => XS.iconst X113.here hx rfl (hb hby at_108) kt) ?_
      show Go p e below _ m T113 109 #[iv p0, iv p1, iv p2, iv p3, iv p4, iv p5, iv (2 : Int32), iv (0 : Int32), rv b106, rv b107, rv b110, .unset, .unset, .unset] [(.int (-1 : Int32)), (.int p0), (.int (0 : Int32)), (.ref b106)]
      refine go (fun t kt => XS.ixor X113.here hx rfl (hb hby at_109) rfl kt) ?_
      show Go p e below _ m T113 110 #[iv p0, iv p1, iv p2, iv p3, iv p4, iv p5, iv (2 : Int32), iv (0 : Int32), rv b106, rv b107, rv b110, .unset, .unset, .unset] [(.int (p0 ^^^ (-1 : Int32))), (.int (0 : Int32)), (.ref b106)]
      obtain ⟨cl114, Ar114, q114, S114, M114, H114, G114⟩ := V_b106
      have hin114 : ¬ ((0 : Int32) < 0 ∨ cl114.slots.size ≤ ((0 : Int32)).toNatClampNeg) := inb_of S114 ⟨by decide, by decide⟩
      obtain ⟨T114, h114, X114, e114, W114, st114⟩ := stI X113 hx hZ rfl Ar114 (j := (0 : Int32)) hin114 (g := (mkF m 110 #[iv p0, iv p1, iv p2, iv p3, iv p4, iv p5, iv (2 : Int32), iv (0 : Int32), rv b106, rv b107, rv b110, .unset, .unset, .unset] [(.int (p0 ^^^ (-1 : Int32))), (.int (0 : Int32)), (.ref b106)])) rfl rfl (hb hby at_110)
      have V_b106 : Arv Z h114 b106 k106 .int (2 : Int32) [(.int (p0 ^^^ (-1 : Int32))), (.int p2)] (.int (0 : Int32)) := Arv.set Ar114 q114 S114 M114 H114 G114 rfl W114 0 rfl (Nat.le_of_ble_eq_true rfl)
      replace S_DEFAULTCAPACITY_EMPTY_ELEMENTDATA := S_DEFAULTCAPACITY_EMPTY_ELEMENTDATA.wr W114
      replace E_b106 := E_b106.wr W114
      replace E_b107 := E_b107.wr W114
      replace V_b107 := V_b107.other W114 (Ne.symm ne_b106_b107)
      replace E_b110 := E_b110.wr W114
      replace E_c112 := E_c112.wr W114
      replace V_c112 := V_c112.other W114 (Ne.symm ne_b106_c112)
      replace E_d112 := E_d112.wr W114
      replace V_d112 := V_d112.other W114 (Ne.symm ne_b106_d112)
      replace F_low_b110 := F_low_b110.other W114 (Or.inl (Ne.symm ne_b106_b110))
      replace F_high_b110 := F_high_b110.other W114 (Or.inl (Ne.symm ne_b106_b110))
      replace E_c113 := E_c113.wr W114
      replace V_c113 := V_c113.other W114 (Ne.symm ne_b106_c113)
      replace E_d113 := E_d113.wr W114
      replace V_d113 := V_d113.other W114 (Ne.symm ne_b106_d113)
      have Zz114 := Nat.le_trans Zz113 (Keep.of_wr W114).1
      have Kk114 := Kk113.wr W114 (Or.inr sz_b106)
      have N114 := Fr.snoc X114 N113 g_b106
      refine go st114 ?_
      show Go p e below _ m T114 111 #[iv p0, iv p1, iv p2, iv p3, iv p4, iv p5, iv (2 : Int32), iv (0 : Int32), rv b106, rv b107, rv b110, .unset, .unset, .unset] []
      refine go (fun t kt => XS.iload X114.here hx rfl (hb hby at_111) rfl kt) ?_
      show Go p e below _ m T114 113 #[iv p0, iv p1, iv p2, iv p3, iv p4, iv p5, iv (2 : Int32), iv (0 : Int32), rv b106, rv b107, rv b110, .unset, .unset, .unset] [(.int (2 : Int32))]
      refine go (fun t kt => XS.iconst X114.here hx rfl (hb hby at_113) kt) ?_
      show Go p e below _ m T114 114 #[iv p0, iv p1, iv p2, iv p3, iv p4, iv p5, iv (2 : Int32), iv (0 : Int32), rv b106, rv b107, rv b110, .unset, .unset, .unset] [(.int (1 : Int32)), (.int (2 : Int32))]
      refine go (fun t kt => XS.icmpNo X114.here hx rfl (hb hby at_114) rfl (tlt (by decide : ((1 : Int32) < (2 : Int32)))).2.2.2 kt) ?_
      show Go p e below _ m T114 117 #[iv p0, iv p1, iv p2, iv p3, iv p4, iv p5, iv (2 : Int32), iv (0 : Int32), rv b106, rv b107, rv b110, .unset, .unset, .unset] []
      refine go (fun t kt => XS.aload X114.here hx rfl (hb hby at_117) rfl rfl kt) ?_
      show Go p e below _ m T114 119 #[iv p0, iv p1, iv p2, iv p3, iv p4, iv p5, iv (2 : Int32), iv (0 : Int32), rv b106, rv b107, rv b110, .unset, .unset, .unset] [(.ref b106)]
      refine go (fun t kt => XS.iconst X114.here hx rfl (hb hby at_119) kt) ?_
      show Go p e below _ m T114 120 #[iv p0, iv p1, iv p2, iv p3, iv p4, iv p5, iv (2 : Int32), iv (0 : Int32), rv b106, rv b107, rv b110, .unset, .unset, .unset] [(.int (1 : Int32)), (.ref b106)]
      refine go (fun t kt => XS.iloadN X114.here hx rfl (hb hby at_120) rfl kt) ?_
      show Go p e below _ m T114 121 #[iv p0, iv p1, iv p2, iv p3, iv p4, iv p5, iv (2 : Int32), iv (0 : Int32), rv b106, rv b107, rv b110, .unset, .unset, .unset] [(.int p2), (.int (1 : Int32)), (.ref b106)]
      refine go (fun t kt => XS.iconst X114.here hx rfl (hb hby at_121) kt) ?_
      show Go p e below _ m T114 122 #[iv p0, iv p1, iv p2, iv p3, iv p4, iv p5, iv (2 : Int32), iv (0 : Int32), rv b106, rv b107, rv b110, .unset, .unset, .unset] [(.int (-1 : Int32)), (.int p2), (.int (1 : Int32)), (.ref b106)]
      refine go (fun t kt => XS.ixor X114.here hx rfl (hb hby at_122) rfl kt) ?_
      show Go p e below _ m T114 123 #[iv p0, iv p1, iv p2, iv p3, iv p4, iv p5, iv (2 : Int32), iv (0 : Int32), rv b106, rv b107, rv b110, .unset, .unset, .unset] [(.int (p2 ^^^ (-1 : Int32))), (.int (1 : Int32)), (.ref b106)]
      obtain ⟨cl115, Ar115, q115, S115, M115, H115, G115⟩ := V_b106
      have hin115 : ¬ ((1 : Int32) < 0 ∨ cl115.slots.size ≤ ((1 : Int32)).toNatClampNeg) := inb_of S115 ⟨by decide, by decide⟩
      obtain ⟨T115, h115, X115, e115, W115, st115⟩ := stI X114 hx hZ e114 Ar115 (j := (1 : Int32)) hin115 (g := (mkF m 123 #[iv p0, iv p1, iv p2, iv p3, iv p4, iv p5, iv (2 : Int32), iv (0 : Int32), rv b106, rv b107, rv b110, .unset, .unset, .unset] [(.int (p2 ^^^ (-1 : Int32))), (.int (1 : Int32)), (.ref b106)])) rfl rfl (hb hby at_123)
      have V_b106 : Arv Z h115 b106 k106 .int (2 : Int32) [(.int (p0 ^^^ (-1 : Int32))), (.int (p2 ^^^ (-1 : Int32)))] (.int (0 : Int32)) := Arv.set Ar115 q115 S115 M115 H115 G115 rfl W115 1 rfl (Nat.le_of_ble_eq_true rfl)
      replace S_DEFAULTCAPACITY_EMPTY_ELEMENTDATA := S_DEFAULTCAPACITY_EMPTY_ELEMENTDATA.wr W115
      replace E_b106 := E_b106.wr W115
      replace E_b107 := E_b107.wr W115
      replace V_b107 := V_b107.other W115 (Ne.symm ne_b106_b107)
      replace E_b110 := E_b110.wr W115
      replace E_c112 := E_c112.wr W115
      replace V_c112 := V_c112.other W115 (Ne.symm ne_b106_c112)
      replace E_d112 := E_d112.wr W115
      replace V_d112 := V_d112.other W115 (Ne.symm ne_b106_d112)
      replace F_low_b110 := F_low_b110.other W115 (Or.inl (Ne.symm ne_b106_b110))
      replace F_high_b110 := F_high_b110.other W115 (Or.inl (Ne.symm ne_b106_b110))
      replace E_c113 := E_c113.wr W115
      replace V_c113 := V_c113.other W115 (Ne.symm ne_b106_c113)
      replace E_d113 := E_d113.wr W115
      replace V_d113 := V_d113.other W115 (Ne.symm ne_b106_d113)
      have Zz115 := Nat.le_trans Zz114 (Keep.of_wr W115).1
      have Kk115 := Kk114.wr W115 (Or.inr sz_b106)
      have N115 := Fr.snoc X115 N114 g_b106
      refine go st115 ?_
      show Go p e below _ m T115 124 #[iv p0, iv p1, iv p2, iv p3, iv p4, iv p5, iv (2 : Int32), iv (0 : Int32), rv b106, rv b107, rv b110, .unset, .unset, .unset] []
      refine go (fun t kt => XS.iload X115.here hx rfl (hb hby at_124) rfl kt) ?_
      show Go p e below _ m T115 126 #[iv p0, iv p1, iv p2, iv p3, iv p4, iv p5, iv (2 : Int32), iv (0 : Int32), rv b106, rv b107, rv b110, .unset, .unset, .unset] [(.int (0 : Int32))]
      refine go (fun t kt => XS.ifYes X115.here hx rfl (pc0 := 126) (pc' := 136) rfl (hb hby at_126) rfl ((if0 _ _).trans (flt (by decide : ¬ ((0 : Int32) < (0 : Int32)))).2.2.2) (by decide) (by decide) kt) ?_
      show Go p e below _ m T115 136 #[iv p0, iv p1, iv p2, iv p3, iv p4, iv p5, iv (2 : Int32), iv (0 : Int32), rv b106, rv b107, rv b110, .unset, .unset, .unset] []
      refine go (fun t kt => XS.iload X115.here hx rfl (hb hby at_136) rfl kt) ?_
      show Go p e below _ m T115 138 #[iv p0, iv p1, iv p2, iv p3, iv p4, iv p5, iv (2 : Int32), iv (0 : Int32), rv b106, rv b107, rv b110, .unset, .unset, .unset] [(.int (0 : Int32))]
      refine go (fun t kt => XS.iconst X115.here hx rfl (hb hby at_138) kt) ?_
      show Go p e below _ m T115 139 #[iv p0, iv p1, iv p2, iv p3, iv p4, iv p5, iv (2 : Int32), iv (0 : Int32), rv b106, rv b107, rv b110, .unset, .unset, .unset] [(.int (1 : Int32)), (.int (0 : Int32))]
      refine go (fun t kt => XS.icmpYes X115.here hx rfl (pc0 := 139) (pc' := 149) rfl (hb hby at_139) rfl (flt (by decide : ¬ ((1 : Int32) < (0 : Int32)))).2.2.2 (by decide) (by decide) kt) ?_
      show Go p e below _ m T115 149 #[iv p0, iv p1, iv p2, iv p3, iv p4, iv p5, iv (2 : Int32), iv (0 : Int32), rv b106, rv b107, rv b110, .unset, .unset, .unset] []
      refine go (fun t kt => XS.aload X115.here hx rfl (hb hby at_149) rfl rfl kt) ?_
      show Go p e below _ m T115 151 #[iv p0, iv p1, iv p2, iv p3, iv p4, iv p5, iv (2 : Int32), iv (0 : Int32), rv b106, rv b107, rv b110, .unset, .unset, .unset] [(.ref b110)]
      obtain ⟨cq116, kq116, q116a, q116b, q116c⟩ := isOf hZ e115 E_b110
      obtain ⟨_, _, ⟨T116, L116, k116, n116⟩, -, X116, ⟨Lc116, hQ116, l116, y116, z116⟩, st116⟩ := X115.virtualBack hx (y := (⟨"com/example/anytime_arena/anytimearena/io/VariableTable", "low", "()[I"⟩ : MethodName)) (z := (⟨"com/example/anytime_arena/anytimearena/io/VariableTable", "low", "()[I"⟩ : MethodName)) hown (mvT hZ (hw _ (List.mem_of_getElem? (i := 76) rfl))) (mvT hZ (hw _ (List.mem_of_getElem? (i := 77) rfl))) (notFace_of_selects (args := #[]) (mvT hZ (hw _ (List.mem_of_getElem? (i := 79) rfl)))) (mvT hZ (hw _ (List.mem_of_getElem? (i := 79) rfl))) (mvT hZ (hw _ (List.mem_of_getElem? (i := 78) rfl))) (by decide) (backOf (W := 0) (rm9 l Z a0 hw [] b110 c113 k106 (2 : Int32) [(.int p0), (.int p2)] h115 n0 Zz115 F_low_b110 E_c113 V_c113 (by decide)) hZ (hw _ (List.mem_of_getElem? (i := 80) rfl)) (hw _ (List.mem_of_getElem? (i := 3) rfl)) (by decide) (by decide)) q116a q116c (g := (mkF m 151 #[iv p0, iv p1, iv p2, iv p3, iv p4, iv p5, iv (2 : Int32), iv (0 : Int32), rv b106, rv b107, rv b110, .unset, .unset, .unset] [(.ref b110)])) rfl (by rw [hml]; rfl) (Steps.refl _) (argsL := []) (rest := []) (lenOf pd_2 rfl) rfl (by show 2 * 0 + _ ≤ _; exact Nat.le_of_eq rfl) (hb hby at_151) (fun _ _ => ⟨rfl, e115, (by decide : 13 + 1 ≤ _), (by decide : 33 + 2 ≤ _)⟩)
      dsimp only [Pt.U, Pt.locs, Pt.cells, Pt.slots] at X116 l116 y116 z116 st116 hQ116
      subst l116 y116 z116
      obtain ⟨b116, g116⟩ : ∃ z, z = h115.size := ⟨_, rfl⟩
      have ne_b106_b116 : b106 ≠ b116 := Nat.ne_of_lt (Nat.lt_of_lt_of_le E_b106.lt (Nat.le_of_eq g116.symm))
      have ne_b107_b116 : b107 ≠ b116 := Nat.ne_of_lt (Nat.lt_of_lt_of_le E_b107.lt (Nat.le_of_eq g116.symm))
      have ne_b110_b116 : b110 ≠ b116 := Nat.ne_of_lt (Nat.lt_of_lt_of_le E_b110.lt (Nat.le_of_eq g116.symm))
      have ne_c112_b116 : c112 ≠ b116 := Nat.ne_of_lt (Nat.lt_of_lt_of_le E_c112.lt (Nat.le_of_eq g116.symm))
      have ne_d112_b116 : d112 ≠ b116 := Nat.ne_of_lt (Nat.lt_of_lt_of_le E_d112.lt (Nat.le_of_eq g116.symm))
      have ne_c113_b116 : c113 ≠ b116 := Nat.ne_of_lt (Nat.lt_of_lt_of_le E_c113.lt (Nat.le_of_eq g116.symm))
      have ne_d113_b116 : d113 ≠ b116 := Nat.ne_of_lt (Nat.lt_of_lt_of_le E_d113.lt (Nat.le_of_eq g116.symm))
      have g_b116 : n0 ≤ b116 := Nat.le_trans Zz115 (Nat.le_of_eq g116.symm)
      have sz_b116 : h0.size ≤ b116 := Nat.le_trans Kk115.1 (Nat.le_of_eq g116.symm)
      obtain ⟨rfl, Nq116, Kq116, Eq116, Vq116⟩ := hQ116
      rw [← g116] at Eq116 Vq116 st116
      clear S_DEFAULTCAPACITY_EMPTY_ELEMENTDATA
      replace E_b106 := E_b106.keep Kq116
      replace V_b106 := V_b106.keep Kq116 nin0
      replace E_b107 := E_b107.keep Kq116
      replace V_b107 := V_b107.keep Kq116 nin0
      replace E_b110 := E_b110.keep Kq116
      replace E_c112 := E_c112.keep Kq116
      replace V_c112 := V_c112.keep Kq116 nin0
      replace E_d112 := E_d112.keep Kq116
      replace V_d112 := V_d112.keep Kq116 nin0
      replace F_low_b110 := F_low_b110.keep Kq116 nin0
      replace F_high_b110 := F_high_b110.keep Kq116 nin0
      replace E_c113 := E_c113.keep Kq116
      replace V_c113 := V_c113.keep Kq116 nin0
      replace E_d113 := E_d113.keep Kq116
      replace V_d113 := V_d113.keep Kq116 nin0
      have Zz116 := Nat.le_trans Zz115 Kq116.1
      have Kk116 := Kk115.trans Kq116 all0
      have E_b116 := Eq116
      have V_b116 := Vq116
      have N116 := Fr.app N115 Nq116
      refine go (fun t kt => st116.trans kt) ?_
      show Go p e below _ m T116 154 #[iv p0, iv p1, iv p2, iv p3, iv p4, iv p5, iv (2 : Int32), iv (0 : Int32), rv b106, rv b107, rv b110, .unset, .unset, .unset] [(.ref b116)]
      refine go (fun t kt => XS.astore X116.here hx rfl (hb hby at_154) rfl rfl (l' := #[iv p0, iv p1, iv p2, iv p3, iv p4, iv p5, iv (2 : Int32), iv (0 : Int32), rv b106, rv b107, rv b110, rv b116, .unset, .unset]) rfl kt) ?_
      show Go p e below _ m T116 156 #[iv p0, iv p1, iv p2, iv p3, iv p4, iv p5, iv (2 : Int32), iv (0 : Int32), rv b106, rv b107, rv b110, rv b116, .unset, .unset] []
      refine go (fun t kt => XS.aload X116.here hx rfl (hb hby at_156) rfl rfl kt) ?_
      show Go p e below _ m T116 158 #[iv p0, iv p1, iv p2, iv p3, iv p4, iv p5, iv (2 : Int32), iv (0 : Int32), rv b106, rv b107, rv b110, rv b116, .unset, .unset] [(.ref b110)]
      obtain ⟨cq117, kq117, q117a, q117b, q117c⟩ := isOf hZ rfl E_b110
      obtain ⟨_, _, ⟨T117, L117, k117, n117⟩, -, X117, ⟨Lc117, hQ117, l117, y117, z117⟩, st117⟩ := X116.virtualBack hx (y := (⟨"com/example/anytime_arena/anytimearena/io/VariableTable", "high", "()[I"⟩ : MethodName)) (z := (⟨"com/example/anytime_arena/anytimearena/io/VariableTable", "high", "()[I"⟩ : MethodName)) hown (mvT hZ (hw _ (List.mem_of_getElem? (i := 81) rfl))) (mvT hZ (hw _ (List.mem_of_getElem? (i := 82) rfl))) (notFace_of_selects (args := #[]) (mvT hZ (hw _ (List.mem_of_getElem? (i := 84) rfl)))) (mvT hZ (hw _ (List.mem_of_getElem? (i := 84) rfl))) (mvT hZ (hw _ (List.mem_of_getElem? (i := 83) rfl))) (by decide) (backOf (W := 0) (rm10 l Z a0 hw [] b110 d113 k107 (0 : Int32) [] T116.heap n0 Zz116 F_high_b110 E_d113 V_d113 (by decide)) hZ (hw _ (List.mem_of_getElem? (i := 85) rfl)) (hw _ (List.mem_of_getElem? (i := 3) rfl)) (by decide) (by decide)) q117a q117c (g := (mkF m 158 #[iv p0, iv p1, iv p2, iv p3, iv p4, iv p5, iv (2 : Int32), iv (0 : Int32), rv b106, rv b107, rv b110, rv b116, .unset, .unset] [(.ref b110)])) rfl (by rw [hml]; rfl) (Steps.refl _) (argsL := []) (rest := []) (lenOf pd_2 rfl) rfl (by show 2 * 0 + _ ≤ _; exact Nat.le_of_eq rfl) (hb hby at_158) (fun _ _ => ⟨rfl, rfl, (by decide : 14 + 1 ≤ _), (by decide : 35 + 2 ≤ _)⟩)
      dsimp only [Pt.U, Pt.locs, Pt.cells, Pt.slots] at X117 l117 y117 z117 st117 hQ117
      subst l117 y117 z117
      obtain ⟨b117, g117⟩ : ∃ z, z = T116.heap.size := ⟨_, rfl⟩
      have ne_b106_b117 : b106 ≠ b117 := Nat.ne_of_lt (Nat.lt_of_lt_of_le E_b106.lt (Nat.le_of_eq g117.symm))
      have ne_b107_b117 : b107 ≠ b117 := Nat.ne_of_lt (Nat.lt_of_lt_of_le E_b107.lt (Nat.le_of_eq g117.symm))
      have ne_b110_b117 : b110 ≠ b117 := Nat.ne_of_lt (Nat.lt_of_lt_of_le E_b110.lt (Nat.le_of_eq g117.symm))
      have ne_c112_b117 : c112 ≠ b117 := Nat.ne_of_lt (Nat.lt_of_lt_of_le E_c112.lt (Nat.le_of_eq g117.symm))
      have ne_d112_b117 : d112 ≠ b117 := Nat.ne_of_lt (Nat.lt_of_lt_of_le E_d112.lt (Nat.le_of_eq g117.symm))
      have ne_c113_b117 : c113 ≠ b117 := Nat.ne_of_lt (Nat.lt_of_lt_of_le E_c113.lt (Nat.le_of_eq g117.symm))
      have ne_d113_b117 : d113 ≠ b117 := Nat.ne_of_lt (Nat.lt_of_lt_of_le E_d113.lt (Nat.le_of_eq g117.symm))
      have ne_b116_b117 : b116 ≠ b117 := Nat.ne_of_lt (Nat.lt_of_lt_of_le E_b116.lt (Nat.le_of_eq g117.symm))
      have g_b117 : n0 ≤ b117 := Nat.le_trans Zz116 (Nat.le_of_eq g117.symm)
      have sz_b117 : h0.size ≤ b117 := Nat.le_trans Kk116.1 (Nat.le_of_eq g117.symm)
      obtain ⟨rfl, Nq117, Kq117, Eq117, Vq117⟩ := hQ117
      rw [← g117] at Eq117 Vq117 st117
      replace E_b106 := E_b106.keep Kq117
      replace V_b106 := V_b106.keep Kq117 nin0
      replace E_b107 := E_b107.keep Kq117
      replace V_b107 := V_b107.keep Kq117 nin0
      replace E_b110 := E_b110.keep Kq117
      replace E_c112 := E_c112.keep Kq117
      replace V_c112 := V_c112.keep Kq117 nin0
      replace E_d112 := E_d112.keep Kq117
      replace V_d112 := V_d112.keep Kq117 nin0
      replace F_low_b110 := F_low_b110.keep Kq117 nin0
      replace F_high_b110 := F_high_b110.keep Kq117 nin0
      replace E_c113 := E_c113.keep Kq117
      replace V_c113 := V_c113.keep Kq117 nin0
      replace E_d113 := E_d113.keep Kq117
      replace V_d113 := V_d113.keep Kq117 nin0
      replace E_b116 := E_b116.keep Kq117
      replace V_b116 := V_b116.keep Kq117 nin0
      have Zz117 := Nat.le_trans Zz116 Kq117.1
      have Kk117 := Kk116.trans Kq117 all0
      have E_b117 := Eq117
      have V_b117 := Vq117
      have N117 := Fr.app N116 Nq117
      refine go (fun t kt => st117.trans kt) ?_
      show Go p e below _ m T117 161 #[iv p0, iv p1, iv p2, iv p3, iv p4, iv p5, iv (2 : Int32), iv (0 : Int32), rv b106, rv b107, rv b110, rv b116, .unset, .unset] [(.ref b117)]
      refine go (fun t kt => XS.astore X117.here hx rfl (hb hby at_161) rfl rfl (l' := #[iv p0, iv p1, iv p2, iv p3, iv p4, iv p5, iv (2 : Int32), iv (0 : Int32), rv b106, rv b107, rv b110, rv b116, rv b117, .unset]) rfl kt) ?_
      show Go p e below _ m T117 163 #[iv p0, iv p1, iv p2, iv p3, iv p4, iv p5, iv (2 : Int32), iv (0 : Int32), rv b106, rv b107, rv b110, rv b116, rv b117, .unset] []
      refine go (fun t kt => XS.aload X117.here hx rfl (hb hby at_163) rfl rfl kt) ?_
      show Go p e below _ m T117 165 #[iv p0, iv p1, iv p2, iv p3, iv p4, iv p5, iv (2 : Int32), iv (0 : Int32), rv b106, rv b107, rv b110, rv b116, rv b117, .unset] [(.ref b116)]
      obtain ⟨cl118, Ar118, q118, S118, M118, H118, G118⟩ := id V_b116
      refine go (X117.arraylength hx Ar118.1 (State.isArrayOf_alike hZ.alike Ar118.2.1) (g := (mkF m 165 #[iv p0, iv p1, iv p2, iv p3, iv p4, iv p5, iv (2 : Int32), iv (0 : Int32), rv b106, rv b107, rv b110, rv b116, rv b117, .unset] [(.ref b116)])) rfl rfl (hb hby at_165)) ?_
      rw [len_of S118 M118]
      show Go p e below _ m T117 166 #[iv p0, iv p1, iv p2, iv p3, iv p4, iv p5, iv (2 : Int32), iv (0 : Int32), rv b106, rv b107, rv b110, rv b116, rv b117, .unset] [(.int (2 : Int32))]
      refine go (fun t kt => XS.iload X117.here hx rfl (hb hby at_166) rfl kt) ?_
      show Go p e below _ m T117 168 #[iv p0, iv p1, iv p2, iv p3, iv p4, iv p5, iv (2 : Int32), iv (0 : Int32), rv b106, rv b107, rv b110, rv b116, rv b117, .unset] [(.int (2 : Int32)), (.int (2 : Int32))]
      refine go (fun t kt => XS.icmpNo X117.here hx rfl (hb hby at_168) rfl (teq (by decide : ((2 : Int32) = (2 : Int32)))).2 kt) ?_
      show Go p e below _ m T117 171 #[iv p0, iv p1, iv p2, iv p3, iv p4, iv p5, iv (2 : Int32), iv (0 : Int32), rv b106, rv b107, rv b110, rv b116, rv b117, .unset] []
      refine go (fun t kt => XS.aload X117.here hx rfl (hb hby at_171) rfl rfl kt) ?_
      show Go p e below _ m T117 173 #[iv p0, iv p1, iv p2, iv p3, iv p4, iv p5, iv (2 : Int32), iv (0 : Int32), rv b106, rv b107, rv b110, rv b116, rv b117, .unset] [(.ref b117)]
      obtain ⟨cl119, Ar119, q119, S119, M119, H119, G119⟩ := id V_b117
      refine go (X117.arraylength hx Ar119.1 (State.isArrayOf_alike hZ.alike Ar119.2.1) (g := (mkF m 173 #[iv p0, iv p1, iv p2, iv p3, iv p4, iv p5, iv (2 : Int32), iv (0 : Int32), rv b106, rv b107, rv b110, rv b116, rv b117, .unset] [(.ref b117)])) rfl rfl (hb hby at_173)) ?_
      rw [len_of S119 M119]
      show Go p e below _ m T117 174 #[iv p0, iv p1, iv p2, iv p3, iv p4, iv p5, iv (2 : Int32), iv (0 : Int32), rv b106, rv b107, rv b110, rv b116, rv b117, .unset] [(.int (0 : Int32))]
      refine go (fun t kt => XS.iload X117.here hx rfl (hb hby at_174) rfl kt) ?_
      show Go p e below _ m T117 176 #[iv p0, iv p1, iv p2, iv p3, iv p4, iv p5, iv (2 : Int32), iv (0 : Int32), rv b106, rv b107, rv b110, rv b116, rv b117, .unset] [(.int (0 : Int32)), (.int (0 : Int32))]
      refine go (fun t kt => XS.icmpYes X117.here hx rfl (pc0 := 176) (pc' := 181) rfl (hb hby at_176) rfl (teq (by decide : ((0 : Int32) = (0 : Int32)))).1 (by decide) (by decide) kt) ?_
      show Go p e below _ m T117 181 #[iv p0, iv p1, iv p2, iv p3, iv p4, iv p5, iv (2 : Int32), iv (0 : Int32), rv b106, rv b107, rv b110, rv b116, rv b117, .unset] []
      refine go (fun t kt => XS.iconst X117.here hx rfl (hb hby at_181) kt) ?_
      show Go p e below _ m T117 182 #[iv p0, iv p1, iv p2, iv p3, iv p4, iv p5, iv (2 : Int32), iv (0 : Int32), rv b106, rv b107, rv b110, rv b116, rv b117, .unset] [(.int (1 : Int32))]
      refine go (fun t kt => XS.istore X117.here hx rfl (hb hby at_182) rfl (l' := #[iv p0, iv p1, iv p2, iv p3, iv p4, iv p5, iv (2 : Int32), iv (0 : Int32), rv b106, rv b107, rv b110, rv b116, rv b117, iv (1 : Int32)]) rfl kt) ?_
      show Go p e below _ m T117 184 #[iv p0, iv p1, iv p2, iv p3, iv p4, iv p5, iv (2 : Int32), iv (0 : Int32), rv b106, rv b107, rv b110, rv b116, rv b117, iv (1 : Int32)] []
      refine go (fun t kt => XS.iload X117.here hx rfl (hb hby at_184) rfl kt) ?_
      show Go p e below _ m T117 186 #[iv p0, iv p1, iv p2, iv p3, iv p4, iv p5, iv (2 : Int32), iv (0 : Int32), rv b106, rv b107, rv b110, rv b116, rv b117, iv (1 : Int32)] [(.int (2 : Int32))]
      refine go (fun t kt => XS.ifNo X117.here hx rfl (hb hby at_186) rfl ((if0 _ _).trans (tlt (by decide : ((0 : Int32) < (2 : Int32)))).2.2.2) kt) ?_
      show Go p e below _ m T117 189 #[iv p0, iv p1, iv p2, iv p3, iv p4, iv p5, iv (2 : Int32), iv (0 : Int32), rv b106, rv b107, rv b110, rv b116, rv b117, iv (1 : Int32)] []
      refine go (fun t kt => XS.iload X117.here hx rfl (hb hby at_189) rfl kt) ?_
      show Go p e below _ m T117 191 #[iv p0, iv p1, iv p2, iv p3, iv p4, iv p5, iv (2 : Int32), iv (0 : Int32), rv b106, rv b107, rv b110, rv b116, rv b117, iv (1 : Int32)] [(.int (1 : Int32))]
      refine go (fun t kt => XS.ifNo X117.here hx rfl (hb hby at_191) rfl ((if0 _ _).trans (feq (by decide : ¬ ((1 : Int32) = (0 : Int32)))).1) kt) ?_
      show Go p e below _ m T117 194 #[iv p0, iv p1, iv p2, iv p3, iv p4, iv p5, iv (2 : Int32), iv (0 : Int32), rv b106, rv b107, rv b110, rv b116, rv b117, iv (1 : Int32)] []
      refine go (fun t kt => XS.aload X117.here hx rfl (hb hby at_194) rfl rfl kt) ?_
      show Go p e below _ m T117 196 #[iv p0, iv p1, iv p2, iv p3, iv p4, iv p5, iv (2 : Int32), iv (0 : Int32), rv b106, rv b107, rv b110, rv b116, rv b117, iv (1 : Int32)] [(.ref b116)]
      refine go (fun t kt => XS.iconst X117.here hx rfl (hb hby at_196) kt) ?_
      show Go p e below _ m T117 197 #[iv p0, iv p1, iv p2, iv p3, iv p4, iv p5, iv (2 : Int32), iv (0 : Int32), rv b106, rv b107, rv b110, rv b116, rv b117, iv (1 : Int32)] [(.int (0 : Int32)), (.ref b116)]
      obtain ⟨cl120, Ar120, q120, S120, M120, H120, G120⟩ := id V_b116
      have hin120 : ¬ ((0 : Int32) < 0 ∨ cl120.slots.size ≤ ((0 : Int32)).toNatClampNeg) := inb_of S120 ⟨by decide, by decide⟩
      have hat120 : cl120.slots[((0 : Int32)).toNatClampNeg]? = some (.int p0) := H120.at hin120 rfl
      refine go (X117.iaload hx (j := (0 : Int32)) (v := (.int p0)) Ar120.1 (State.isArrayOf_alike hZ.alike Ar120.2.1) Ar120.2.2 hin120 hat120 (g := (mkF m 197 #[iv p0, iv p1, iv p2, iv p3, iv p4, iv p5, iv (2 : Int32), iv (0 : Int32), rv b106, rv b107, rv b110, rv b116, rv b117, iv (1 : Int32)] [(.int (0 : Int32)), (.ref b116)])) rfl rfl (hb hby at_197)) ?_
      show Go p e below _ m T117 198 #[iv p0, iv p1, iv p2, iv p3, iv p4, iv p5, iv (2 : Int32), iv (0 : Int32), rv b106, rv b107, rv b110, rv b116, rv b117, iv (1 : Int32)] [(.int p0)]
      refine go (fun t kt => XS.iloadN X117.here hx rfl (hb hby at_198) rfl kt) ?_
      show Go p e below _ m T117 199 #[iv p0, iv p1, iv p2, iv p3, iv p4, iv p5, iv (2 : Int32), iv (0 : Int32), rv b106, rv b107, rv b110, rv b116, rv b117, iv (1 : Int32)] [(.int p0), (.int p0)]
      refine go (fun t kt => XS.icmpNo X117.here hx rfl (hb hby at_199) rfl (teq (rfl : p0 = p0)).2 kt) ?_
      show Go p e below _ m T117 202 #[iv p0, iv p1, iv p2, iv p3, iv p4, iv p5, iv (2 : Int32), iv (0 : Int32), rv b106, rv b107, rv b110, rv b116, rv b117, iv (1 : Int32)] []
      refine go (fun t kt => XS.iconst X117.here hx rfl (hb hby at_202) kt) ?_
      show Go p e below _ m T117 203 #[iv p0, iv p1, iv p2, iv p3, iv p4, iv p5, iv (2 : Int32), iv (0 : Int32), rv b106, rv b107, rv b110, rv b116, rv b117, iv (1 : Int32)] [(.int (1 : Int32))]
      refine go (fun t kt => XS.goto X117.here hx rfl (pc0 := 203) (pc' := 207) rfl (hb hby at_203) (by decide) (by decide) kt) ?_
      show Go p e below _ m T117 207 #[iv p0, iv p1, iv p2, iv p3, iv p4, iv p5, iv (2 : Int32), iv (0 : Int32), rv b106, rv b107, rv b110, rv b116, rv b117, iv (1 : Int32)] [(.int (1 : Int32))]
      refine go (fun t kt => XS.istore X117.here hx rfl (hb hby at_207) rfl (l' := #[iv p0, iv p1, iv p2, iv p3, iv p4, iv p5, iv (2 : Int32), iv (0 : Int32), rv b106, rv b107, rv b110, rv b116, rv b117, iv (1 : Int32)]) rfl kt) ?_
      show Go p e below _ m T117 209 #[iv p0, iv p1, iv p2, iv p3, iv p4, iv p5, iv (2 : Int32), iv (0 : Int32), rv b106, rv b107, rv b110, rv b116, rv b117, iv (1 : Int32)] []
      refine go (fun t kt => XS.iload X117.here hx rfl (hb hby at_209) rfl kt) ?_
      show Go p e below _ m T117 211 #[iv p0, iv p1, iv p2, iv p3, iv p4, iv p5, iv (2 : Int32), iv (0 : Int32), rv b106, rv b107, rv b110, rv b116, rv b117, iv (1 : Int32)] [(.int (2 : Int32))]
      refine go (fun t kt => XS.iconst X117.here hx rfl (hb hby at_211) kt) ?_
      show Go p e below _ m T117 212 #[iv p0, iv p1, iv p2, iv p3, iv p4, iv p5, iv (2 : Int32), iv (0 : Int32), rv b106, rv b107, rv b110, rv b116, rv b117, iv (1 : Int32)] [(.int (1 : Int32)), (.int (2 : Int32))]
      refine go (fun t kt => XS.icmpNo X117.here hx rfl (hb hby at_212) rfl (tlt (by decide : ((1 : Int32) < (2 : Int32)))).2.2.2 kt) ?_
      show Go p e below _ m T117 215 #[iv p0, iv p1, iv p2, iv p3, iv p4, iv p5, iv (2 : Int32), iv (0 : Int32), rv b106, rv b107, rv b110, rv b116, rv b117, iv (1 : Int32)] []
      refine go (fun t kt => XS.iload X117.here hx rfl (hb hby at_215) rfl kt) ?_
      show Go p e below _ m T117 217 #[iv p0, iv p1, iv p2, iv p3, iv p4, iv p5, iv (2 : Int32), iv (0 : Int32), rv b106, rv b107, rv b110, rv b116, rv b117, iv (1 : Int32)] [(.int (1 : Int32))]
      refine go (fun t kt => XS.ifNo X117.here hx rfl (hb hby at_217) rfl ((if0 _ _).trans (feq (by decide : ¬ ((1 : Int32) = (0 : Int32)))).1) kt) ?_
      show Go p e below _ m T117 220 #[iv p0, iv p1, iv p2, iv p3, iv p4, iv p5, iv (2 : Int32), iv (0 : Int32), rv b106, rv b107, rv b110, rv b116, rv b117, iv (1 : Int32)] []
      refine go (fun t kt => XS.aload X117.here hx rfl (hb hby at_220) rfl rfl kt) ?_
      show Go p e below _ m T117 222 #[iv p0, iv p1, iv p2, iv p3, iv p4, iv p5, iv (2 : Int32), iv (0 : Int32), rv b106, rv b107, rv b110, rv b116, rv b117, iv (1 : Int32)] [(.ref b116)]
      refine go (fun t kt => XS.iconst X117.here hx rfl (hb hby at_222) kt) ?_
      show Go p e below _ m T117 223 #[iv p0, iv p1, iv p2, iv p3, iv p4, iv p5, iv (2 : Int32), iv (0 : Int32), rv b106, rv b107, rv b110, rv b116, rv b117, iv (1 : Int32)] [(.int (1 : Int32)), (.ref b116)]
      obtain ⟨cl121, Ar121, q121, S121, M121, H121, G121⟩ := id V_b116
      have hin121 : ¬ ((1 : Int32) < 0 ∨ cl121.slots.size ≤ ((1 : Int32)).toNatClampNeg) := inb_of S121 ⟨by decide, by decide⟩
      have hat121 : cl121.slots[((1 : Int32)).toNatClampNeg]? = some (.int p2) := H121.at hin121 rfl
      refine go (X117.iaload hx (j := (1 : Int32)) (v := (.int p2)) Ar121.1 (State.isArrayOf_alike hZ.alike Ar121.2.1) Ar121.2.2 hin121 hat121 (g := (mkF m 223 #[iv p0, iv p1, iv p2, iv p3, iv p4, iv p5, iv (2 : Int32), iv (0 : Int32), rv b106, rv b107, rv b110, rv b116, rv b117, iv (1 : Int32)] [(.int (1 : Int32)), (.ref b116)])) rfl rfl (hb hby at_223)) ?_
      show Go p e below _ m T117 224 #[iv p0, iv p1, iv p2, iv p3, iv p4, iv p5, iv (2 : Int32), iv (0 : Int32), rv b106, rv b107, rv b110, rv b116, rv b117, iv (1 : Int32)] [(.int p2)]
      refine go (fun t kt => XS.iloadN X117.here hx rfl (hb hby at_224) rfl kt) ?_
      show Go p e below _ m T117 225 #[iv p0, iv p1, iv p2, iv p3, iv p4, iv p5, iv (2 : Int32), iv (0 : Int32), rv b106, rv b107, rv b110, rv b116, rv b117, iv (1 : Int32)] [(.int p2), (.int p2)]
      refine go (fun t kt => XS.icmpNo X117.here hx rfl (hb hby at_225) rfl (teq (rfl : p2 = p2)).2 kt) ?_
      show Go p e below _ m T117 228 #[iv p0, iv p1, iv p2, iv p3, iv p4, iv p5, iv (2 : Int32), iv (0 : Int32), rv b106, rv b107, rv b110, rv b116, rv b117, iv (1 : Int32)] []
      refine go (fun t kt => XS.iconst X117.here hx rfl (hb hby at_228) kt) ?_
      show Go p e below _ m T117 229 #[iv p0, iv p1, iv p2, iv p3, iv p4, iv p5, iv (2 : Int32), iv (0 : Int32), rv b106, rv b107, rv b110, rv b116, rv b117, iv (1 : Int32)] [(.int (1 : Int32))]
      refine go (fun t kt => XS.goto X117.here hx rfl (pc0 := 229) (pc' := 233) rfl (hb hby at_229) (by decide) (by decide) kt) ?_
      show Go p e below _ m T117 233 #[iv p0, iv p1, iv p2, iv p3, iv p4, iv p5, iv (2 : Int32), iv (0 : Int32), rv b106, rv b107, rv b110, rv b116, rv b117, iv (1 : Int32)] [(.int (1 : Int32))]
      refine go (fun t kt => XS.istore X117.here hx rfl (hb hby at_233) rfl (l' := #[iv p0, iv p1, iv p2, iv p3, iv p4, iv p5, iv (2 : Int32), iv (0 : Int32), rv b106, rv b107, rv b110, rv b116, rv b117, iv (1 : Int32)]) rfl kt) ?_
      show Go p e below _ m T117 235 #[iv p0, iv p1, iv p2, iv p3, iv p4, iv p5, iv (2 : Int32), iv (0 : Int32), rv b106, rv b107, rv b110, rv b116, rv b117, iv (1 : Int32)] []
      refine go (fun t kt => XS.iload X117.here hx rfl (hb hby at_235) rfl kt) ?_
      show Go p e below _ m T117 237 #[iv p0, iv p1, iv p2, iv p3, iv p4, iv p5, iv (2 : Int32), iv (0 : Int32), rv b106, rv b107, rv b110, rv b116, rv b117, iv (1 : Int32)] [(.int (0 : Int32))]
      refine go (fun t kt => XS.ifYes X117.here hx rfl (pc0 := 237) (pc' := 260) rfl (hb hby at_237) rfl ((if0 _ _).trans (flt (by decide : ¬ ((0 : Int32) < (0 : Int32)))).2.2.2) (by decide) (by decide) kt) ?_
      show Go p e below _ m T117 260 #[iv p0, iv p1, iv p2, iv p3, iv p4, iv p5, iv (2 : Int32), iv (0 : Int32), rv b106, rv b107, rv b110, rv b116, rv b117, iv (1 : Int32)] []
      refine go (fun t kt => XS.iload X117.here hx rfl (hb hby at_260) rfl kt) ?_
      show Go p e below _ m T117 262 #[iv p0, iv p1, iv p2, iv p3, iv p4, iv p5, iv (2 : Int32), iv (0 : Int32), rv b106, rv b107, rv b110, rv b116, rv b117, iv (1 : Int32)] [(.int (0 : Int32))]
      refine go (fun t kt => XS.iconst X117.here hx rfl (hb hby at_262) kt) ?_
      show Go p e below _ m T117 263 #[iv p0, iv p1, iv p2, iv p3, iv p4, iv p5, iv (2 : Int32), iv (0 : Int32), rv b106, rv b107, rv b110, rv b116, rv b117, iv (1 : Int32)] [(.int (1 : Int32)), (.int (0 : Int32))]
      refine go (fun t kt => XS.icmpYes X117.here hx rfl (pc0 := 263) (pc' := 286) rfl (hb hby at_263) rfl (flt (by decide : ¬ ((1 : Int32) < (0 : Int32)))).2.2.2 (by decide) (by decide) kt) ?_
      show Go p e below _ m T117 286 #[iv p0, iv p1, iv p2, iv p3, iv p4, iv p5, iv (2 : Int32), iv (0 : Int32), rv b106, rv b107, rv b110, rv b116, rv b117, iv (1 : Int32)] []
      refine go (fun t kt => XS.iload X117.here hx rfl (hb hby at_286) rfl kt) ?_
      show Go p e below _ m T117 288 #[iv p0, iv p1, iv p2, iv p3, iv p4, iv p5, iv (2 : Int32), iv (0 : Int32), rv b106, rv b107, rv b110, rv b116, rv b117, iv (1 : Int32)] [(.int (2 : Int32))]
      refine go (fun t kt => XS.ifNo X117.here hx rfl (hb hby at_288) rfl ((if0 _ _).trans (tlt (by decide : ((0 : Int32) < (2 : Int32)))).2.2.2) kt) ?_
      show Go p e below _ m T117 291 #[iv p0, iv p1, iv p2, iv p3, iv p4, iv p5, iv (2 : Int32), iv (0 : Int32), rv b106, rv b107, rv b110, rv b116, rv b117, iv (1 : Int32)] []
      refine go (fun t kt => XS.iload X117.here hx rfl (hb hby at_291) rfl kt) ?_
      show Go p e below _ m T117 293 #[iv p0, iv p1, iv p2, iv p3, iv p4, iv p5, iv (2 : Int32), iv (0 : Int32), rv b106, rv b107, rv b110, rv b116, rv b117, iv (1 : Int32)] [(.int (0 : Int32))]
      refine go (fun t kt => XS.ifYes X117.here hx rfl (pc0 := 293) (pc' := 336) rfl (hb hby at_293) rfl ((if0 _ _).trans (flt (by decide : ¬ ((0 : Int32) < (0 : Int32)))).2.2.2) (by decide) (by decide) kt) ?_
      show Go p e below _ m T117 336 #[iv p0, iv p1, iv p2, iv p3, iv p4, iv p5, iv (2 : Int32), iv (0 : Int32), rv b106, rv b107, rv b110, rv b116, rv b117, iv (1 : Int32)] []
      refine go (fun t kt => XS.iload X117.here hx rfl (hb hby at_336) rfl kt) ?_
      show Go p e below _ m T117 338 #[iv p0, iv p1, iv p2, iv p3, iv p4, iv p5, iv (2 : Int32), iv (0 : Int32), rv b106, rv b107, rv b110, rv b116, rv b117, iv (1 : Int32)] [(.int (2 : Int32))]
      refine go (fun t kt => XS.iconst X117.here hx rfl (hb hby at_338) kt) ?_
      show Go p e below _ m T117 339 #[iv p0, iv p1, iv p2, iv p3, iv p4, iv p5, iv (2 : Int32), iv (0 : Int32), rv b106, rv b107, rv b110, rv b116, rv b117, iv (1 : Int32)] [(.int (1 : Int32)), (.int (2 : Int32))]
      refine go (fun t kt => XS.icmpNo X117.here hx rfl (hb hby at_339) rfl (tlt (by decide : ((1 : Int32) < (2 : Int32)))).2.2.2 kt) ?_
      show Go p e below _ m T117 342 #[iv p0, iv p1, iv p2, iv p3, iv p4, iv p5, iv (2 : Int32), iv (0 : Int32), rv b106, rv b107, rv b110, rv b116, rv b117, iv (1 : Int32)] []
      refine go (fun t kt => XS.iload X117.here hx rfl (hb hby at_342) rfl kt) ?_
      show Go p e below _ m T117 344 #[iv p0, iv p1, iv p2, iv p3, iv p4, iv p5, iv (2 : Int32), iv (0 : Int32), rv b106, rv b107, rv b110, rv b116, rv b117, iv (1 : Int32)] [(.int (0 : Int32))]
      refine go (fun t kt => XS.iconst X117.here hx rfl (hb hby at_344) kt) ?_
      show Go p e below _ m T117 345 #[iv p0, iv p1, iv p2, iv p3, iv p4, iv p5, iv (2 : Int32), iv (0 : Int32), rv b106, rv b107, rv b110, rv b116, rv b117, iv (1 : Int32)] [(.int (1 : Int32)), (.int (0 : Int32))]
      refine go (fun t kt => XS.icmpYes X117.here hx rfl (pc0 := 345) (pc' := 388) rfl (hb hby at_345) rfl (flt (by decide : ¬ ((1 : Int32) < (0 : Int32)))).2.2.2 (by decide) (by decide) kt) ?_
      show Go p e below _ m T117 388 #[iv p0, iv p1, iv p2, iv p3, iv p4, iv p5, iv (2 : Int32), iv (0 : Int32), rv b106, rv b107, rv b110, rv b116, rv b117, iv (1 : Int32)] []
      refine go (fun t kt => XS.iload X117.here hx rfl (hb hby at_388) rfl kt) ?_
      show Go p e below _ m T117 390 #[iv p0, iv p1, iv p2, iv p3, iv p4, iv p5, iv (2 : Int32), iv (0 : Int32), rv b106, rv b107, rv b110, rv b116, rv b117, iv (1 : Int32)] [(.int (1 : Int32))]
      obtain ⟨fs, hr, hrun, hended, hW, hsame⟩ := X117.leave (v := some (.int (1 : Int32))) (fun h => by rw [Bd.returns] at h; cases h)
      refine ⟨_, _, retN X117 hx (t := .boolean) Bd.returns (by simp) (hb hby at_390) hr, hrun, hended, _, _, rfl, ?_, ⟨_, rfl⟩, hW, hsame.mono (by decide) (by decide)⟩
      show Q0 Z p0 p1 p2 p3 p4 p5 sd h0 n0 _ T117.heap _
      exact ⟨rfl, N117⟩
    ·
      rw [hj2]
      show Go p e below _ m s₁ 18 #[iv p0, iv p1, iv p2, iv p3, iv p4, iv p5, iv (2 : Int32), iv (1 : Int32), .unset, .unset, .unset, .unset, .unset, .unset] []
      refine go (fun t kt => XS.iload X0.here hx rfl (hb hby at_18) rfl kt) ?_
      show Go p e below _ m s₁ 20 #[iv p0, iv p1, iv p2, iv p3, iv p4, iv p5, iv (2 : Int32), iv (1 : Int32), .unset, .unset, .unset, .unset, .unset, .unset] [(.int (2 : Int32))]
      obtain ⟨T123, h123, k123, X123, e123, E123, A123, B123, st123⟩ := newPE X0 hx hZ (hw _ (List.mem_of_getElem? (i := 0) rfl)) e0 (g := (mkF m 20 #[iv p0, iv p1, iv p2, iv p3, iv p4, iv p5, iv (2 : Int32), iv (1 : Int32), .unset, .unset, .unset, .unset, .unset, .unset] [(.int (2 : Int32))])) rfl (hb hby at_20) rfl (by decide) (cap := 2) (by decide) (by decide) (by decide) (by decide) (ad := "[I") rfl
      obtain ⟨b123, g123⟩ : ∃ z, z = h0.size := ⟨_, rfl⟩
      rw [← g123] at A123 B123 st123
      have g_b123 : n0 ≤ b123 := Nat.le_trans Z0 (Nat.le_of_eq g123.symm)
      have sz_b123 : h0.size ≤ b123 := Nat.le_trans K0.1 (Nat.le_of_eq g123.symm)
      replace S_DEFAULTCAPACITY_EMPTY_ELEMENTDATA := S_DEFAULTCAPACITY_EMPTY_ELEMENTDATA.ext E123
      have Zz123 := Nat.le_trans Z0 E123.1
      have Kk123 := K0.ext E123
      have E_b123 := B123
      have V_b123 : Arv Z h123 b123 k123 .int (2 : Int32) [(.int (0 : Int32)), (.int (0 : Int32))] (.int (0 : Int32)) := (Arv.new A123 (by decide)).pad (pad_rep [] (.int (0 : Int32)) 2)
      refine go st123 ?_
      show Go p e below _ m T123 22 #[iv p0, iv p1, iv p2, iv p3, iv p4, iv p5, iv (2 : Int32), iv (1 : Int32), .unset, .unset, .unset, .unset, .unset, .unset] [(.ref b123)]
      refine go (fun t kt => XS.astore X123.here hx rfl (hb hby at_22) rfl rfl (l' := #[iv p0, iv p1, iv p2, iv p3, iv p4, iv p5, iv (2 : Int32), iv (1 : Int32), rv b123, .unset, .unset, .unset, .unset, .unset]) rfl kt) ?_
      show Go p e below _ m T123 24 #[iv p0, iv p1, iv p2, iv p3, iv p4, iv p5, iv (2 : Int32), iv (1 : Int32), rv b123, .unset, .unset, .unset, .unset, .unset] []
      refine go (fun t kt => XS.iload X123.here hx rfl (hb hby at_24) rfl kt) ?_
      show Go p e below _ m T123 26 #[iv p0, iv p1, iv p2, iv p3, iv p4, iv p5, iv (2 : Int32), iv (1 : Int32), rv b123, .unset, .unset, .unset, .unset, .unset] [(.int (1 : Int32))]
      obtain ⟨T124, h124, k124, X124, e124, E124, A124, B124, st124⟩ := newPE X123 hx hZ (hw _ (List.mem_of_getElem? (i := 0) rfl)) e123 (g := (mkF m 26 #[iv p0, iv p1, iv p2, iv p3, iv p4, iv p5, iv (2 : Int32), iv (1 : Int32), rv b123, .unset, .unset, .unset, .unset, .unset] [(.int (1 : Int32))])) rfl (hb hby at_26) rfl (by decide) (cap := 1) (by decide) (by decide) (by decide) (by decide) (ad := "[I") rfl
      obtain ⟨b124, g124⟩ : ∃ z, z = h123.size := ⟨_, rfl⟩
      rw [← g124] at A124 B124 st124
      have ne_b123_b124 : b123 ≠ b124 := Nat.ne_of_lt (Nat.lt_of_lt_of_le E_b123.lt (Nat.le_of_eq g124.symm))
      have g_b124 : n0 ≤ b124 := Nat.le_trans Zz123 (Nat.le_of_eq g124.symm)
      have sz_b124 : h0.size ≤ b124 := Nat.le_trans Kk123.1 (Nat.le_of_eq g124.symm)
      replace S_DEFAULTCAPACITY_EMPTY_ELEMENTDATA := S_DEFAULTCAPACITY_EMPTY_ELEMENTDATA.ext E124
      replace E_b123 := E_b123.ext E124
      replace V_b123 := V_b123.ext E124
      have Zz124 := Nat.le_trans Zz123 E124.1
      have Kk124 := Kk123.ext E124
      have E_b124 := B124
      have V_b124 : Arv Z h124 b124 k124 .int (1 : Int32) [(.int (0 : Int32))] (.int (0 : Int32)) := (Arv.new A124 (by decide)).pad (pad_rep [] (.int (0 : Int32)) 1)
      refine go st124 ?_
      show Go p e below _ m T124 28 #[iv p0, iv p1, iv p2, iv p3, iv p4, iv p5, iv (2 : Int32), iv (1 : Int32), rv b123, .unset, .unset, .unset, .unset, .unset] [(.ref b124)]
      refine go (fun t kt => XS.astore X124.here hx rfl (hb hby at_28) rfl rfl (l' := #[iv p0, iv p1, iv p2, iv p3, iv p4, iv p5, iv (2 : Int32), iv (1 : Int32), rv b123, rv b124, .unset, .unset, .unset, .unset]) rfl kt) ?_
      show Go p e below _ m T124 30 #[iv p0, iv p1, iv p2, iv p3, iv p4, iv p5, iv (2 : Int32), iv (1 : Int32), rv b123, rv b124, .unset, .unset, .unset, .unset] []
      refine go (fun t kt => XS.iload X124.here hx rfl (hb hby at_30) rfl kt) ?_
      show Go p e below _ m T124 32 #[iv p0, iv p1, iv p2, iv p3, iv p4, iv p5, iv (2 : Int32), iv (1 : Int32), rv b123, rv b124, .unset, .unset, .unset, .unset] [(.int (2 : Int32))]
      refine go (fun t kt => XS.ifNo X124.here hx rfl (hb hby at_32) rfl ((if0 _ _).trans (tlt (by decide : ((0 : Int32) < (2 : Int32)))).2.2.2) kt) ?_
      show Go p e below _ m T124 35 #[iv p0, iv p1, iv p2, iv p3, iv p4, iv p5, iv (2 : Int32), iv (1 : Int32), rv b123, rv b124, .unset, .unset, .unset, .unset] []
      refine go (fun t kt => XS.aload X124.here hx rfl (hb hby at_35) rfl rfl kt) ?_
      show Go p e below _ m T124 37 #[iv p0, iv p1, iv p2, iv p3, iv p4, iv p5, iv (2 : Int32), iv (1 : Int32), rv b123, rv b124, .unset, .unset, .unset, .unset] [(.ref b123)]
      refine go (fun t kt => XS.iconst X124.here hx rfl (hb hby at_37) kt) ?_
      show Go p e below _ m T124 38 #[iv p0, iv p1, iv p2, iv p3, iv p4, iv p5, iv (2 : Int32), iv (1 : Int32), rv b123, rv b124, .unset, .unset, .unset, .unset] [(.int (0 : Int32)), (.ref b123)]
      refine go (fun t kt => XS.iloadN X124.here hx rfl (hb hby at_38) rfl kt) ?_
      show Go p e below _ m T124 39 #[iv p0, iv p1, iv p2, iv p3, iv p4, iv p5, iv (2 : Int32), iv (1 : Int32), rv b123, rv b124, .unset, .unset, .unset, .unset] [(.int p0), (.int (0 : Int32)), (.ref b123)]
      obtain ⟨cl125, Ar125, q125, S125, M125, H125, G125⟩ := V_b123
      have hin125 : ¬ ((0 : Int32) < 0 ∨ cl125.slots.size ≤ ((0 : Int32)).toNatClampNeg) := inb_of S125 ⟨by decide, by decide⟩
      obtain ⟨T125, h125, X125, e125, W125, st125⟩ := stI X124 hx hZ e124 Ar125 (j := (0 : Int32)) hin125 (g := (mkF m 39 #[iv p0, iv p1, iv p2, iv p3, iv p4, iv p5, iv (2 : Int32), iv (1 : Int32), rv b123, rv b124, .unset, .unset, .unset, .unset] [(.int p0), (.int (0 : Int32)), (.ref b123)])) rfl rfl (hb hby at_39)
      have V_b123 : Arv Z h125 b123 k123 .int (2 : Int32) [(.int p0), (.int (0 : Int32))] (.int (0 : Int32)) := Arv.set Ar125 q125 S125 M125 H125 G125 rfl W125 0 rfl (Nat.le_of_ble_eq_true rfl)
      replace S_DEFAULTCAPACITY_EMPTY_ELEMENTDATA := S_DEFAULTCAPACITY_EMPTY_ELEMENTDATA.wr W125
      replace E_b123 := E_b123.wr W125
      replace E_b124 := E_b124.wr W125
      replace V_b124 := V_b124.other W125 (Ne.symm ne_b123_b124)
      have Zz125 := Nat.le_trans Zz124 (Keep.of_wr W125).1
      have Kk125 := Kk124.wr W125 (Or.inr sz_b123)
      have N125 := Fr.snoc X125 N0 g_b123
      refine go st125 ?_
      show Go p e below _ m T125 40 #[iv p0, iv p1, iv p2, iv p3, iv p4, iv p5, iv (2 : Int32), iv (1 : Int32), rv b123, rv b124, .unset, .unset, .unset, .unset] []
      refine go (fun t kt => XS.iload X125.here hx rfl (hb hby at_40) rfl kt) ?_
      show Go p e below _ m T125 42 #[iv p0, iv p1, iv p2, iv p3, iv p4, iv p5, iv (2 : Int32), iv (1 : Int32), rv b123, rv b124, .unset, .unset, .unset, .unset] [(.int (2 : Int32))]
      refine go (fun t kt => XS.iconst X125.here hx rfl (hb hby at_42) kt) ?_
      show Go p e below _ m T125 43 #[iv p0, iv p1, iv p2, iv p3, iv p4, iv p5, iv (2 : Int32), iv (1 : Int32), rv b123, rv b124, .unset, .unset, .unset, .unset] [(.int (1 : Int32)), (.int (2 : Int32))]
      refine go (fun t kt => XS.icmpNo X125.here hx rfl (hb hby at_43) rfl (tlt (by decide : ((1 : Int32) < (2 : Int32)))).2.2.2 kt) ?_
      show Go p e below _ m T125 46 #[iv p0, iv p1, iv p2, iv p3, iv p4, iv p5, iv (2 : Int32), iv (1 : Int32), rv b123, rv b124, .unset, .unset, .unset, .unset] []
      refine go (fun t kt => XS.aload X125.here hx rfl (hb hby at_46) rfl rfl kt) ?_
      show Go p e below _ m T125 48 #[iv p0, iv p1, iv p2, iv p3, iv p4, iv p5, iv (2 : Int32), iv (1 : Int32), rv b123, rv b124, .unset, .unset, .unset, .unset] [(.ref b123)]
      refine go (fun t kt => XS.iconst X125.here hx rfl (hb hby at_48) kt) ?_
      show Go p e below _ m T125 49 #[iv p0, iv p1, iv p2, iv p3, iv p4, iv p5, iv (2 : Int32), iv (1 : Int32), rv b123, rv b124, .unset, .unset, .unset, .unset] [(.int (1 : Int32)), (.ref b123)]
      refine go (fun t kt => XS.iloadN X125.here hx rfl (hb hby at_49) rfl kt) ?_
      show Go p e below _ m T125 50 #[iv p0, iv p1, iv p2, iv p3, iv p4, iv p5, iv (2 : Int32), iv (1 : Int32), rv b123, rv b124, .unset, .unset, .unset, .unset] [(.int p2), (.int (1 : Int32)), (.ref b123)]
      obtain ⟨cl126, Ar126, q126, S126, M126, H126, G126⟩ := V_b123
      have hin126 : ¬ ((1 : Int32) < 0 ∨ cl126.slots.size ≤ ((1 : Int32)).toNatClampNeg) := inb_of S126 ⟨by decide, by decide⟩
      obtain ⟨T126, h126, X126, e126, W126, st126⟩ := stI X125 hx hZ e125 Ar126 (j := (1 : Int32)) hin126 (g := (mkF m 50 #[iv p0, iv p1, iv p2, iv p3, iv p4, iv p5, iv (2 : Int32), iv (1 : Int32), rv b123, rv b124, .unset, .unset, .unset, .unset] [(.int p2), (.int (1 : Int32)), (.ref b123)])) rfl rfl (hb hby at_50)
      have V_b123 : Arv Z h126 b123 k123 .int (2 : Int32) [(.int p0), (.int p2)] (.int (0 : Int32)) := Arv.set Ar126 q126 S126 M126 H126 G126 rfl W126 1 rfl (Nat.le_of_ble_eq_true rfl)
      replace S_DEFAULTCAPACITY_EMPTY_ELEMENTDATA := S_DEFAULTCAPACITY_EMPTY_ELEMENTDATA.wr W126
      replace E_b123 := E_b123.wr W126
      replace E_b124 := E_b124.wr W126
      replace V_b124 := V_b124.other W126 (Ne.symm ne_b123_b124)
      have Zz126 := Nat.le_trans Zz125 (Keep.of_wr W126).1
      have Kk126 := Kk125.wr W126 (Or.inr sz_b123)
      have N126 := Fr.snoc X126 N125 g_b123
      refine go st126 ?_
      show Go p e below _ m T126 51 #[iv p0, iv p1, iv p2, iv p3, iv p4, iv p5, iv (2 : Int32), iv (1 : Int32), rv b123, rv b124, .unset, .unset, .unset, .unset] []
      refine go (fun t kt => XS.iload X126.here hx rfl (hb hby at_51) rfl kt) ?_
      show Go p e below _ m T126 53 #[iv p0, iv p1, iv p2, iv p3, iv p4, iv p5, iv (2 : Int32), iv (1 : Int32), rv b123, rv b124, .unset, .unset, .unset, .unset] [(.int (1 : Int32))]
      refine go (fun t kt => XS.ifNo X126.here hx rfl (hb hby at_53) rfl ((if0 _ _).trans (tlt (by decide : ((0 : Int32) < (1 : Int32)))).2.2.2) kt) ?_
      show Go p e below _ m T126 56 #[iv p0, iv p1, iv p2, iv p3, iv p4, iv p5, iv (2 : Int32), iv (1 : Int32), rv b123, rv b124, .unset, .unset, .unset, .unset] []
      refine go (fun t kt => XS.aload X126.here hx rfl (hb hby at_56) rfl rfl kt) ?_
      show Go p e below _ m T126 58 #[iv p0, iv p1, iv p2, iv p3, iv p4, iv p5, iv (2 : Int32), iv (1 : Int32), rv b123, rv b124, .unset, .unset, .unset, .unset] [(.ref b124)]
      refine go (fun t kt => XS.iconst X126.here hx rfl (hb hby at_58) kt) ?_
      show Go p e below _ m T126 59 #[iv p0, iv p1, iv p2, iv p3, iv p4, iv p5, iv (2 : Int32), iv (1 : Int32), rv b123, rv b124, .unset, .unset, .unset, .unset] [(.int (0 : Int32)), (.ref b124)]
      refine go (fun t kt => XS.iloadN X126.here hx rfl (hb hby at_59) rfl kt) ?_
      show Go p e below _ m T126 60 #[iv p0, iv p1, iv p2, iv p3, iv p4, iv p5, iv (2 : Int32), iv (1 : Int32), rv b123, rv b124, .unset, .unset, .unset, .unset] [(.int p1), (.int (0 : Int32)), (.ref b124)]
      obtain ⟨cl127, Ar127, q127, S127, M127, H127, G127⟩ := V_b124
      have hin127 : ¬ ((0 : Int32) < 0 ∨ cl127.slots.size ≤ ((0 : Int32)).toNatClampNeg) := inb_of S127 ⟨by decide, by decide⟩
      obtain ⟨T127, h127, X127, e127, W127, st127⟩ := stI X126 hx hZ e126 Ar127 (j := (0 : Int32)) hin127 (g := (mkF m 60 #[iv p0, iv p1, iv p2, iv p3, iv p4, iv p5, iv (2 : Int32), iv (1 : Int32), rv b123, rv b124, .unset, .unset, .unset, .unset] [(.int p1), (.int (0 : Int32)), (.ref b124)])) rfl rfl (hb hby at_60)
      have V_b124 : Arv Z h127 b124 k124 .int (1 : Int32) [(.int p1)] (.int (0 : Int32)) := Arv.set Ar127 q127 S127 M127 H127 G127 rfl W127 0 rfl (Nat.le_of_ble_eq_true rfl)
      replace S_DEFAULTCAPACITY_EMPTY_ELEMENTDATA := S_DEFAULTCAPACITY_EMPTY_ELEMENTDATA.wr W127
      replace E_b123 := E_b123.wr W127
      replace V_b123 := V_b123.other W127 ne_b123_b124
      replace E_b124 := E_b124.wr W127
      have Zz127 := Nat.le_trans Zz126 (Keep.of_wr W127).1
      have Kk127 := Kk126.wr W127 (Or.inr sz_b124)
      have N127 := Fr.snoc X127 N126 g_b124
      refine go st127 ?_
      show Go p e below _ m T127 61 #[iv p0, iv p1, iv p2, iv p3, iv p4, iv p5, iv (2 : Int32), iv (1 : Int32), rv b123, rv b124, .unset, .unset, .unset, .unset] []
      refine go (fun t kt => XS.iload X127.here hx rfl (hb hby at_61) rfl kt) ?_
      show Go p e below _ m T127 63 #[iv p0, iv p1, iv p2, iv p3, iv p4, iv p5, iv (2 : Int32), iv (1 : Int32), rv b123, rv b124, .unset, .unset, .unset, .unset] [(.int (1 : Int32))]
      refine go (fun t kt => XS.iconst X127.here hx rfl (hb hby at_63) kt) ?_
      show Go p e below _ m T127 64 #[iv p0, iv p1, iv p2, iv p3, iv p4, iv p5, iv (2 : Int32), iv (1 : Int32), rv b123, rv b124, .unset, .unset, .unset, .unset] [(.int (1 : Int32)), (.int (1 : Int32))]
      refine go (fun t kt => XS.icmpYes X127.here hx rfl (pc0 := 64) (pc' := 72) rfl (hb hby at_64) rfl (flt (by decide : ¬ ((1 : Int32) < (1 : Int32)))).2.2.2 (by decide) (by decide) kt) ?_
      show Go p e below _ m T127 72 #[iv p0, iv p1, iv p2, iv p3, iv p4, iv p5, iv (2 : Int32), iv (1 : Int32), rv b123, rv b124, .unset, .unset, .unset, .unset] []
      obtain ⟨T128, h128, X128, e128, E128, A128, D128, -, st128⟩ := newO X127 hx hZ hown (hw _ (List.mem_of_getElem? (i := 1) rfl)) (hw _ (List.mem_of_getElem? (i := 2) rfl)) (hw _ (List.mem_of_getElem? (i := 3) rfl)) e127 (g := (mkF m 72 #[iv p0, iv p1, iv p2, iv p3, iv p4, iv p5, iv (2 : Int32), iv (1 : Int32), rv b123, rv b124, .unset, .unset, .unset, .unset] [])) rfl (hb hby at_72) (by decide) (by decide)
      obtain ⟨b128, g128⟩ : ∃ z, z = h127.size := ⟨_, rfl⟩
      rw [← g128] at A128 D128 st128
      have ne_b123_b128 : b123 ≠ b128 := Nat.ne_of_lt (Nat.lt_of_lt_of_le E_b123.lt (Nat.le_of_eq g128.symm))
      have ne_b124_b128 : b124 ≠ b128 := Nat.ne_of_lt (Nat.lt_of_lt_of_le E_b124.lt (Nat.le_of_eq g128.symm))
      have g_b128 : n0 ≤ b128 := Nat.le_trans Zz127 (Nat.le_of_eq g128.symm)
      have sz_b128 : h0.size ≤ b128 := Nat.le_trans Kk127.1 (Nat.le_of_eq g128.symm)
      replace S_DEFAULTCAPACITY_EMPTY_ELEMENTDATA := S_DEFAULTCAPACITY_EMPTY_ELEMENTDATA.ext E128
      replace E_b123 := E_b123.ext E128
      replace V_b123 := V_b123.ext E128
      replace E_b124 := E_b124.ext E128
      replace V_b124 := V_b124.ext E128
      have Zz128 := Nat.le_trans Zz127 E128.1
      have Kk128 := Kk127.ext E128
      have E_b128 := A128
      have F_names_b128 : Fld Z h128 b128 "com/example/anytime_arena/anytimearena/io/VariableTable" "names" "Ljava/util/List;" .null := D128 (Or.inr (hw _ (List.mem_of_getElem? (i := 35) rfl))) (ty := (.object "java/util/List")) (by decide)
      have F_types_b128 : Fld Z h128 b128 "com/example/anytime_arena/anytimearena/io/VariableTable" "types" "Ljava/util/List;" .null := D128 (Or.inr (hw _ (List.mem_of_getElem? (i := 37) rfl))) (ty := (.object "java/util/List")) (by decide)
      have F_owners_b128 : Fld Z h128 b128 "com/example/anytime_arena/anytimearena/io/VariableTable" "owners" "Ljava/util/List;" .null := D128 (Or.inr (hw _ (List.mem_of_getElem? (i := 39) rfl))) (ty := (.object "java/util/List")) (by decide)
      have F_slots_b128 : Fld Z h128 b128 "com/example/anytime_arena/anytimearena/io/VariableTable" "slots" "Ljava/util/Map;" .null := D128 (Or.inr (hw _ (List.mem_of_getElem? (i := 57) rfl))) (ty := (.object "java/util/Map")) (by decide)
      have F_low_b128 : Fld Z h128 b128 "com/example/anytime_arena/anytimearena/io/VariableTable" "low" "[I" .null := D128 (Or.inl (hw _ (List.mem_of_getElem? (i := 59) rfl))) (ty := (.array .int)) (by decide)
      have F_high_b128 : Fld Z h128 b128 "com/example/anytime_arena/anytimearena/io/VariableTable" "high" "[I" .null := D128 (Or.inl (hw _ (List.mem_of_getElem? (i := 61) rfl))) (ty := (.array .int)) (by decide)
      refine go st128 ?_
      show Go p e below _ m T128 75 #[iv p0, iv p1, iv p2, iv p3, iv p4, iv p5, iv (2 : Int32), iv (1 : Int32), rv b123, rv b124, .unset, .unset, .unset, .unset] [(.ref b128)]
      refine go (fun t kt => XS.dup X128.here hx rfl (hb hby at_75) rfl rfl kt) ?_
      show Go p e below _ m T128 76 #[iv p0, iv p1, iv p2, iv p3, iv p4, iv p5, iv (2 : Int32), iv (1 : Int32), rv b123, rv b124, .unset, .unset, .unset, .unset] [(.ref b128), (.ref b128)]
      obtain ⟨_, _, ⟨T129, L129, k129, n129⟩, -, X129, ⟨Lc129, hQ129, l129, y129, z129⟩, st129⟩ := X128.specialBack hx (y := (⟨"com/example/anytime_arena/anytimearena/io/VariableTable", "<init>", "()V"⟩ : MethodName)) rfl hown (mvT hZ (hw _ (List.mem_of_getElem? (i := 4) rfl))) (mvT hZ (hw _ (List.mem_of_getElem? (i := 5) rfl))) (mvT hZ (hw _ (List.mem_of_getElem? (i := 6) rfl))) (by decide) (backOf (W := 1) (rm1 l Z a0 hw [] b128 .null .null .null .null .null .null sd h128 n0 Zz128 E_b128 F_names_b128 F_types_b128 F_owners_b128 F_slots_b128 F_low_b128 F_high_b128 S_DEFAULTCAPACITY_EMPTY_ELEMENTDATA g_b128) hZ (hw _ (List.mem_of_getElem? (i := 6) rfl)) (hw _ (List.mem_of_getElem? (i := 3) rfl)) (by decide) (by decide)) (g := (mkF m 76 #[iv p0, iv p1, iv p2, iv p3, iv p4, iv p5, iv (2 : Int32), iv (1 : Int32), rv b123, rv b124, .unset, .unset, .unset, .unset] [(.ref b128), (.ref b128)])) rfl (by rw [hml]; rfl) (Steps.refl _) (a := b128) (argsL := []) (rest := [(.ref b128)]) (lenOf pd_0 rfl) rfl (by show 2 * 0 + _ ≤ _; exact Nat.le_of_eq rfl) (hb hby at_76) (fun _ _ => ⟨rfl, e128, (by decide : 3 + 6 ≤ _), (by decide : 9 + 17 ≤ _)⟩)
      dsimp only [Pt.U, Pt.locs, Pt.cells, Pt.slots] at X129 l129 y129 z129 st129 hQ129
      subst l129 y129 z129
      obtain ⟨rfl, Nq129, Kq129, Eq129, ⟨ul129, Fl129⟩, ⟨uh129, Fh129⟩⟩ := hQ129
      replace S_DEFAULTCAPACITY_EMPTY_ELEMENTDATA := own_sta_keep S_DEFAULTCAPACITY_EMPTY_ELEMENTDATA E_b128 Kq129
      replace E_b123 := E_b123.keep Kq129
      replace V_b123 := V_b123.keep Kq129 (ninS ne_b123_b128 nin0)
      replace E_b124 := E_b124.keep Kq129
      replace V_b124 := V_b124.keep Kq129 (ninS ne_b124_b128 nin0)
      replace E_b128 := E_b128.keep Kq129
      clear F_names_b128
      clear F_types_b128
      clear F_owners_b128
      clear F_slots_b128
      clear F_low_b128
      clear F_high_b128
      have Zz129 := Nat.le_trans Zz128 Kq129.1
      have Kk129 := Kk128.trans Kq129 (allS (Or.inr sz_b128) all0)
      have E_b128 := Eq129
      have F_low_b128 := Fl129
      have F_high_b128 := Fh129
      have N129 := Fr.app N127 Nq129
      refine go (fun t kt => st129.trans kt) ?_
      show Go p e below _ m T129 79 #[iv p0, iv p1, iv p2, iv p3, iv p4, iv p5, iv (2 : Int32), iv (1 : Int32), rv b123, rv b124, .unset, .unset, .unset, .unset] [(.ref b128)]
      refine go (fun t kt => XS.astore X129.here hx rfl (hb hby at_79) rfl rfl (l' := #[iv p0, iv p1, iv p2, iv p3, iv p4, iv p5, iv (2 : Int32), iv (1 : Int32), rv b123, rv b124, rv b128, .unset, .unset, .unset]) rfl kt) ?_
      show Go p e below _ m T129 81 #[iv p0, iv p1, iv p2, iv p3, iv p4, iv p5, iv (2 : Int32), iv (1 : Int32), rv b123, rv b124, rv b128, .unset, .unset, .unset] []
      refine go (fun t kt => XS.aload X129.here hx rfl (hb hby at_81) rfl rfl kt) ?_
      show Go p e below _ m T129 83 #[iv p0, iv p1, iv p2, iv p3, iv p4, iv p5, iv (2 : Int32), iv (1 : Int32), rv b123, rv b124, rv b128, .unset, .unset, .unset] [(.ref b128)]
      refine go (fun t kt => XS.aload X129.here hx rfl (hb hby at_83) rfl rfl kt) ?_
      show Go p e below _ m T129 85 #[iv p0, iv p1, iv p2, iv p3, iv p4, iv p5, iv (2 : Int32), iv (1 : Int32), rv b123, rv b124, rv b128, .unset, .unset, .unset] [(.ref b124), (.ref b128)]
      refine go (fun t kt => XS.aload X129.here hx rfl (hb hby at_85) rfl rfl kt) ?_
      show Go p e below _ m T129 87 #[iv p0, iv p1, iv p2, iv p3, iv p4, iv p5, iv (2 : Int32), iv (1 : Int32), rv b123, rv b124, rv b128, .unset, .unset, .unset] [(.ref b123), (.ref b124), (.ref b128)]
      obtain ⟨cq130, kq130, q130a, q130b, q130c⟩ := isOf hZ rfl E_b128
      obtain ⟨_, _, ⟨T130, L130, k130, n130⟩, -, X130, ⟨Lc130, hQ130, l130, y130, z130⟩, st130⟩ := X129.virtualBack hx (y := (⟨"com/example/anytime_arena/anytimearena/io/VariableTable", "setRanges", "([I[I)V"⟩ : MethodName)) (z := (⟨"com/example/anytime_arena/anytimearena/io/VariableTable", "setRanges", "([I[I)V"⟩ : MethodName)) hown (mvT hZ (hw _ (List.mem_of_getElem? (i := 62) rfl))) (mvT hZ (hw _ (List.mem_of_getElem? (i := 63) rfl))) (notFace_of_selects (args := #[]) (mvT hZ (hw _ (List.mem_of_getElem? (i := 65) rfl)))) (mvT hZ (hw _ (List.mem_of_getElem? (i := 65) rfl))) (mvT hZ (hw _ (List.mem_of_getElem? (i := 64) rfl))) (by decide) (backOf (W := 0) (rm8 l Z a0 hw [] b128 b124 b123 ul129 uh129 k124 (1 : Int32) [(.int p1)] k123 (2 : Int32) [(.int p0), (.int p2)] T129.heap n0 Zz129 E_b128 F_low_b128 F_high_b128 E_b124 V_b124 E_b123 V_b123 (Ne.symm ne_b124_b128) (Ne.symm ne_b123_b128) g_b128 (by decide) (by decide)) hZ (hw _ (List.mem_of_getElem? (i := 66) rfl)) (hw _ (List.mem_of_getElem? (i := 3) rfl)) (by decide) (by decide)) q130a q130c (g := (mkF m 87 #[iv p0, iv p1, iv p2, iv p3, iv p4, iv p5, iv (2 : Int32), iv (1 : Int32), rv b123, rv b124, rv b128, .unset, .unset, .unset] [(.ref b123), (.ref b124), (.ref b128)])) rfl (by rw [hml]; rfl) (Steps.refl _) (argsL := [(.ref b124), (.ref b123)]) (rest := []) (lenOf pd_1 rfl) rfl (by show 2 * 0 + _ ≤ _; exact Nat.le_of_eq rfl) (hb hby at_87) (fun _ _ => ⟨rfl, rfl, (by decide : 9 + 2 ≤ _), (by decide : 26 + 4 ≤ _)⟩)
      dsimp only [Pt.U, Pt.locs, Pt.cells, Pt.slots] at X130 l130 y130 z130 st130 hQ130
      subst l130 y130 z130
      obtain ⟨rfl, Nq130, Kq130, Eq130, c130, d130, lc130, ld130, ne_c130_d130, Fl130, Fh130, Ec130, Vc130, Ed130, Vd130⟩ := hQ130
      have ne_b123_c130 : b123 ≠ c130 := Nat.ne_of_lt (Nat.lt_of_lt_of_le E_b123.lt lc130)
      have ne_b124_c130 : b124 ≠ c130 := Nat.ne_of_lt (Nat.lt_of_lt_of_le E_b124.lt lc130)
      have ne_b128_c130 : b128 ≠ c130 := Nat.ne_of_lt (Nat.lt_of_lt_of_le E_b128.lt lc130)
      have g_c130 : n0 ≤ c130 := Nat.le_trans Zz129 lc130
      have sz_c130 : h0.size ≤ c130 := Nat.le_trans Kk129.1 lc130
      have ne_b123_d130 : b123 ≠ d130 := Nat.ne_of_lt (Nat.lt_of_lt_of_le E_b123.lt ld130)
      have ne_b124_d130 : b124 ≠ d130 := Nat.ne_of_lt (Nat.lt_of_lt_of_le E_b124.lt ld130)
      have ne_b128_d130 : b128 ≠ d130 := Nat.ne_of_lt (Nat.lt_of_lt_of_le E_b128.lt ld130)
      have g_d130 : n0 ≤ d130 := Nat.le_trans Zz129 ld130
      have sz_d130 : h0.size ≤ d130 := Nat.le_trans Kk129.1 ld130
      replace S_DEFAULTCAPACITY_EMPTY_ELEMENTDATA := own_sta_keep S_DEFAULTCAPACITY_EMPTY_ELEMENTDATA E_b128 Kq130
      replace E_b123 := E_b123.keep Kq130
      replace V_b123 := V_b123.keep Kq130 (ninS ne_b123_b128 nin0)
      replace E_b124 := E_b124.keep Kq130
      replace V_b124 := V_b124.keep Kq130 (ninS ne_b124_b128 nin0)
      replace E_b128 := E_b128.keep Kq130
      clear F_low_b128
      clear F_high_b128
      have Zz130 := Nat.le_trans Zz129 Kq130.1
      have Kk130 := Kk129.trans Kq130 (allS (Or.inr sz_b128) all0)
      have E_b128 := Eq130
      have F_low_b128 := Fl130
      have F_high_b128 := Fh130
      have E_c130 := Ec130
      have V_c130 := Vc130
      have E_d130 := Ed130
      have V_d130 := Vd130
      have N130 := Fr.app N129 Nq130
      refine go (fun t kt => st130.trans kt) ?_
      show Go p e below _ m T130 90 #[iv p0, iv p1, iv p2, iv p3, iv p4, iv p5, iv (2 : Int32), iv (1 : Int32), rv b123, rv b124, rv b128, .unset, .unset, .unset] []
      refine go (fun t kt => XS.aload X130.here hx rfl (hb hby at_90) rfl rfl kt) ?_
      show Go p e below _ m T130 92 #[iv p0, iv p1, iv p2, iv p3, iv p4, iv p5, iv (2 : Int32), iv (1 : Int32), rv b123, rv b124, rv b128, .unset, .unset, .unset] [(.ref b128)]
      refine go (fun t kt => XS.aload X130.here hx rfl (hb hby at_92) rfl rfl kt) ?_
      show Go p e below _ m T130 94 #[iv p0, iv p1, iv p2, iv p3, iv p4, iv p5, iv (2 : Int32), iv (1 : Int32), rv b123, rv b124, rv b128, .unset, .unset, .unset] [(.ref b123), (.ref b128)]
      refine go (fun t kt => XS.aload X130.here hx rfl (hb hby at_94) rfl rfl kt) ?_
      show Go p e below _ m T130 96 #[iv p0, iv p1, iv p2, iv p3, iv p4, iv p5, iv (2 : Int32), iv (1 : Int32), rv b123, rv b124, rv b128, .unset, .unset, .unset] [(.ref b124), (.ref b123), (.ref b128)]
      obtain ⟨cq131, kq131, q131a, q131b, q131c⟩ := isOf hZ rfl E_b128
      obtain ⟨_, _, ⟨T131, L131, k131, n131⟩, -, X131, ⟨Lc131, hQ131, l131, y131, z131⟩, st131⟩ := X130.virtualBack hx (y := (⟨"com/example/anytime_arena/anytimearena/io/VariableTable", "setRanges", "([I[I)V"⟩ : MethodName)) (z := (⟨"com/example/anytime_arena/anytimearena/io/VariableTable", "setRanges", "([I[I)V"⟩ : MethodName)) hown (mvT hZ (hw _ (List.mem_of_getElem? (i := 62) rfl))) (mvT hZ (hw _ (List.mem_of_getElem? (i := 63) rfl))) (notFace_of_selects (args := #[]) (mvT hZ (hw _ (List.mem_of_getElem? (i := 65) rfl)))) (mvT hZ (hw _ (List.mem_of_getElem? (i := 65) rfl))) (mvT hZ (hw _ (List.mem_of_getElem? (i := 64) rfl))) (by decide) (backOf (W := 0) (rm8 l Z a0 hw [] b128 b123 b124 (.ref c130) (.ref d130) k123 (2 : Int32) [(.int p0), (.int p2)] k124 (1 : Int32) [(.int p1)] T130.heap n0 Zz130 E_b128 F_low_b128 F_high_b128 E_b123 V_b123 E_b124 V_b124 (Ne.symm ne_b123_b128) (Ne.symm ne_b124_b128) g_b128 (by decide) (by decide)) hZ (hw _ (List.mem_of_getElem? (i := 66) rfl)) (hw _ (List.mem_of_getElem? (i := 3) rfl)) (by decide) (by decide)) q131a q131c (g := (mkF m 96 #[iv p0, iv p1, iv p2, iv p3, iv p4, iv p5, iv (2 : Int32), iv (1 : Int32), rv b123, rv b124, rv b128, .unset, .unset, .unset] [(.ref b124), (.ref b123), (.ref b128)])) rfl (by rw [hml]; rfl) (Steps.refl _) (argsL := [(.ref b123), (.ref b124)]) (rest := []) (lenOf pd_1 rfl) rfl (by show 2 * 0 + _ ≤ _; exact Nat.le_of_eq rfl) (hb hby at_96) (fun _ _ => ⟨rfl, rfl, (by decide : 11 + 2 ≤ _), (by decide : 30 + 4 ≤ _)⟩)
      dsimp only [Pt.U, Pt.locs, Pt.cells, Pt.slots] at X131 l131 y131 z131 st131 hQ131
      subst l131 y131 z131
      obtain ⟨rfl, Nq131, Kq131, Eq131, c131, d131, lc131, ld131, ne_c131_d131, Fl131, Fh131, Ec131, Vc131, Ed131, Vd131⟩ := hQ131
      have ne_b123_c131 : b123 ≠ c131 := Nat.ne_of_lt (Nat.lt_of_lt_of_le E_b123.lt lc131)
      have ne_b124_c131 : b124 ≠ c131 := Nat.ne_of_lt (Nat.lt_of_lt_of_le E_b124.lt lc131)
      have ne_b128_c131 : b128 ≠ c131 := Nat.ne_of_lt (Nat.lt_of_lt_of_le E_b128.lt lc131)
      have ne_c130_c131 : c130 ≠ c131 := Nat.ne_of_lt (Nat.lt_of_lt_of_le E_c130.lt lc131)
      have ne_d130_c131 : d130 ≠ c131 := Nat.ne_of_lt (Nat.lt_of_lt_of_le E_d130.lt lc131)
      have g_c131 : n0 ≤ c131 := Nat.le_trans Zz130 lc131
      have sz_c131 : h0.size ≤ c131 := Nat.le_trans Kk130.1 lc131
      have ne_b123_d131 : b123 ≠ d131 := Nat.ne_of_lt (Nat.lt_of_lt_of_le E_b123.lt ld131)
      have ne_b124_d131 : b124 ≠ d131 := Nat.ne_of_lt (Nat.lt_of_lt_of_le E_b124.lt ld131)
      have ne_b128_d131 : b128 ≠ d131 := Nat.ne_of_lt (Nat.lt_of_lt_of_le E_b128.lt ld131)
      have ne_c130_d131 : c130 ≠ d131 := Nat.ne_of_lt (Nat.lt_of_lt_of_le E_c130.lt ld131)
      have ne_d130_d131 : d130 ≠ d131 := Nat.ne_of_lt (Nat.lt_of_lt_of_le E_d130.lt ld131)
      have g_d131 : n0 ≤ d131 := Nat.le_trans Zz130 ld131
      have sz_d131 : h0.size ≤ d131 := Nat.le_trans Kk130.1 ld131
      replace S_DEFAULTCAPACITY_EMPTY_ELEMENTDATA := own_sta_keep S_DEFAULTCAPACITY_EMPTY_ELEMENTDATA E_b128 Kq131
      replace E_b123 := E_b123.keep Kq131
      replace V_b123 := V_b123.keep Kq131 (ninS ne_b123_b128 nin0)
      replace E_b124 := E_b124.keep Kq131
      replace V_b124 := V_b124.keep Kq131 (ninS ne_b124_b128 nin0)
      replace E_b128 := E_b128.keep Kq131
      clear F_low_b128
      clear F_high_b128
      replace E_c130 := E_c130.keep Kq131
      replace V_c130 := V_c130.keep Kq131 (ninS (Ne.symm ne_b128_c130) nin0)
      replace E_d130 := E_d130.keep Kq131
      replace V_d130 := V_d130.keep Kq131 (ninS (Ne.symm ne_b128_d130) nin0)
      have Zz131 := Nat.le_trans Zz130 Kq131.1
      have Kk131 := Kk130.trans Kq131 (allS (Or.inr sz_b128) all0)
      have E_b128 := Eq131
      have F_low_b128 := Fl131
      have F_high_b128 := Fh131
      have E_c131 := Ec131
      have V_c131 := Vc131
      have E_d131 := Ed131
      have V_d131 := Vd131
      have N131 := Fr.app N130 Nq131
      refine go (fun t kt => st131.trans kt) ?_
      show Go p e below _ m T131 99 #[iv p0, iv p1, iv p2, iv p3, iv p4, iv p5, iv (2 : Int32), iv (1 : Int32), rv b123, rv b124, rv b128, .unset, .unset, .unset] []
      refine go (fun t kt => XS.iload X131.here hx rfl (hb hby at_99) rfl kt) ?_
      show Go p e below _ m T131 101 #[iv p0, iv p1, iv p2, iv p3, iv p4, iv p5, iv (2 : Int32), iv (1 : Int32), rv b123, rv b124, rv b128, .unset, .unset, .unset] [(.int (2 : Int32))]
      refine go (fun t kt => XS.ifNo X131.here hx rfl (hb hby at_101) rfl ((if0 _ _).trans (tlt (by decide : ((0 : Int32) < (2 : Int32)))).2.2.2) kt) ?_
      show Go p e below _ m T131 104 #[iv p0, iv p1, iv p2, iv p3, iv p4, iv p5, iv (2 : Int32), iv (1 : Int32), rv b123, rv b124, rv b128, .unset, .unset, .unset] []
      refine go (fun t kt => XS.aload X131.here hx rfl (hb hby at_104) rfl rfl kt) ?_
      show Go p e below _ m T131 106 #[iv p0, iv p1, iv p2, iv p3, iv p4, iv p5, iv (2 : Int32), iv (1 : Int32), rv b123, rv b124, rv b128, .unset, .unset, .unset] [(.ref b123)]
      refine go (fun t kt => XS.iconst X131.here hx rfl (hb hby at_106) kt) ?_
      show Go p e below _ m T131 107 #[iv p0, iv p1, iv p2, iv p3, iv p4, iv p5, iv (2 : Int32), iv (1 : Int32), rv b123, rv b124, rv b128, .unset, .unset, .unset] [(.int (0 : Int32)), (.ref b123)]
      refine go (fun t kt => XS.iloadN X131.here hx rfl (hb hby at_107) rfl kt) ?_
      show Go p e below _ m T131 108 #[iv p0, iv p1, iv p2, iv p3, iv p4, iv p5, iv (2 : Int32), iv (1 : Int32), rv b123, rv b124, rv b128, .unset, .unset, .unset] [(.int p0), (.int (0 : Int32)), (.ref b123)]
      refine go (fun t kt => XS.iconst X131.here hx rfl (hb hby at_108) kt) ?_
      show Go p e below _ m T131 109 #[iv p0, iv p1, iv p2, iv p3, iv p4, iv p5, iv (2 : Int32), iv (1 : Int32), rv b123, rv b124, rv b128, .unset, .unset, .unset] [(.int (-1 : Int32)), (.int p0), (.int (0 : Int32)), (.ref b123)]
      refine go (fun t kt => XS.ixor X131.here hx rfl (hb hby at_109) rfl kt) ?_
      show Go p e below _ m T131 110 #[iv p0, iv p1, iv p2, iv p3, iv p4, iv p5, iv (2 : Int32), iv (1 : Int32), rv b123, rv b124, rv b128, .unset, .unset, .unset] [(.int (p0 ^^^ (-1 : Int32))), (.int (0 : Int32)), (.ref b123)]
      obtain ⟨cl132, Ar132, q132, S132, M132, H132, G132⟩ := V_b123
      have hin132 : ¬ ((0 : Int32) < 0 ∨ cl132.slots.size ≤ ((0 : Int32)).toNatClampNeg) := inb_of S132 ⟨by decide, by decide⟩
      obtain ⟨T132, h132, X132, e132, W132, st132⟩ := stI X131 hx hZ rfl Ar132 (j := (0 : Int32)) hin132 (g := (mkF m 110 #[iv p0, iv p1, iv p2, iv p3, iv p4, iv p5, iv (2 : Int32), iv (1 : Int32), rv b123, rv b124, rv b128, .unset, .unset, .unset] [(.int (p0 ^^^ (-1 : Int32))), (.int (0 : Int32)), (.ref b123)])) rfl rfl (hb hby at_110)
      have V_b123 : Arv Z h132 b123 k123 .int (2 : Int32) [(.int (p0 ^^^ (-1 : Int32))), (.int p2)] (.int (0 : Int32)) := Arv.set Ar132 q132 S132 M132 H132 G132 rfl W132 0 rfl (Nat.le_of_ble_eq_true rfl)
      replace S_DEFAULTCAPACITY_EMPTY_ELEMENTDATA := S_DEFAULTCAPACITY_EMPTY_ELEMENTDATA.wr W132
      replace E_b123 := E_b123.wr W132
      replace E_b124 := E_b124.wr W132
      replace V_b124 := V_b124.other W132 (Ne.symm ne_b123_b124)
      replace E_b128 := E_b128.wr W132
      replace E_c130 := E_c130.wr W132
      replace V_c130 := V_c130.other W132 (Ne.symm ne_b123_c130)
      replace E_d130 := E_d130.wr W132
      replace V_d130 := V_d130.other W132 (Ne.symm ne_b123_d130)
      replace F_low_b128 := F_low_b128.other W132 (Or.inl (Ne.symm ne_b123_b128))
      replace F_high_b128 := F_high_b128.other W132 (Or.inl (Ne.symm ne_b123_b128))
      replace E_c131 := E_c131.wr W132
      replace V_c131 := V_c131.other W132 (Ne.symm ne_b123_c131)
      replace E_d131 := E_d131.wr W132
      replace V_d131 := V_d131.other W132 (Ne.symm ne_b123_d131)
      have Zz132 := Nat.le_trans Zz131 (Keep.of_wr W132).1
      have Kk132 := Kk131.wr W132 (Or.inr sz_b123)
      have N132 := Fr.snoc X132 N131 g_b123
      refine go st132 ?_
      show Go p e below _ m T132 111 #[iv p0, iv p1, iv p2, iv p3, iv p4, iv p5, iv (2 : Int32), iv (1 : Int32), rv b123, rv b124, rv b128, .unset, .unset, .unset] []
      refine go (fun t kt => XS.iload X132.here hx rfl (hb hby at_111) rfl kt) ?_
      show Go p e below _ m T132 113 #[iv p0, iv p1, iv p2, iv p3, iv p4, iv p5, iv (2 : Int32), iv (1 : Int32), rv b123, rv b124, rv b128, .unset, .unset, .unset] [(.int (2 : Int32))]
      refine go (fun t kt => XS.iconst X132.here hx rfl (hb hby at_113) kt) ?_
      show Go p e below _ m T132 114 #[iv p0, iv p1, iv p2, iv p3, iv p4, iv p5, iv (2 : Int32), iv (1 : Int32), rv b123, rv b124, rv b128, .unset, .unset, .unset] [(.int (1 : Int32)), (.int (2 : Int32))]
      refine go (fun t kt => XS.icmpNo X132.here hx rfl (hb hby at_114) rfl (tlt (by decide : ((1 : Int32) < (2 : Int32)))).2.2.2 kt) ?_
      show Go p e below _ m T132 117 #[iv p0, iv p1, iv p2, iv p3, iv p4, iv p5, iv (2 : Int32), iv (1 : Int32), rv b123, rv b124, rv b128, .unset, .unset, .unset] []
      refine go (fun t kt => XS.aload X132.here hx rfl (hb hby at_117) rfl rfl kt) ?_
      show Go p e below _ m T132 119 #[iv p0, iv p1, iv p2, iv p3, iv p4, iv p5, iv (2 : Int32), iv (1 : Int32), rv b123, rv b124, rv b128, .unset, .unset, .unset] [(.ref b123)]
      refine go (fun t kt => XS.iconst X132.here hx rfl (hb hby at_119) kt) ?_
      show Go p e below _ m T132 120 #[iv p0, iv p1, iv p2, iv p3, iv p4, iv p5, iv (2 : Int32), iv (1 : Int32), rv b123, rv b124, rv b128, .unset, .unset, .unset] [(.int (1 : Int32)), (.ref b123)]
      refine go (fun t kt => XS.iloadN X132.here hx rfl (hb hby at_120) rfl kt) ?_
      show Go p e below _ m T132 121 #[iv p0, iv p1, iv p2, iv p3, iv p4, iv p5, iv (2 : Int32), iv (1 : Int32), rv b123, rv b124, rv b128, .unset, .unset, .unset] [(.int p2), (.int (1 : Int32)), (.ref b123)]
      refine go (fun t kt => XS.iconst X132.here hx rfl (hb hby at_121) kt) ?_
      show Go p e below _ m T132 122 #[iv p0, iv p1, iv p2, iv p3, iv p4, iv p5, iv (2 : Int32), iv (1 : Int32), rv b123, rv b124, rv b128, .unset, .unset, .unset] [(.int (-1 : Int32)), (.int p2), (.int (1 : Int32)), (.ref b123)]
      refine go (fun t kt => XS.ixor X132.here hx rfl (hb hby at_122) rfl kt) ?_
      show Go p e below _ m T132 123 #[iv p0, iv p1, iv p2, iv p3, iv p4, iv p5, iv (2 : Int32), iv (1 : Int32), rv b123, rv b124, rv b128, .unset, .unset, .unset] [(.int (p2 ^^^ (-1 : Int32))), (.int (1 : Int32)), (.ref b123)]
      obtain ⟨cl133, Ar133, q133, S133, M133, H133, G133⟩ := V_b123
      have hin133 : ¬ ((1 : Int32) < 0 ∨ cl133.slots.size ≤ ((1 : Int32)).toNatClampNeg) := inb_of S133 ⟨by decide, by decide⟩
      obtain ⟨T133, h133, X133, e133, W133, st133⟩ := stI X132 hx hZ e132 Ar133 (j := (1 : Int32)) hin133 (g := (mkF m 123 #[iv p0, iv p1, iv p2, iv p3, iv p4, iv p5, iv (2 : Int32), iv (1 : Int32), rv b123, rv b124, rv b128, .unset, .unset, .unset] [(.int (p2 ^^^ (-1 : Int32))), (.int (1 : Int32)), (.ref b123)])) rfl rfl (hb hby at_123)
      have V_b123 : Arv Z h133 b123 k123 .int (2 : Int32) [(.int (p0 ^^^ (-1 : Int32))), (.int (p2 ^^^ (-1 : Int32)))] (.int (0 : Int32)) := Arv.set Ar133 q133 S133 M133 H133 G133 rfl W133 1 rfl (Nat.le_of_ble_eq_true rfl)
      replace S_DEFAULTCAPACITY_EMPTY_ELEMENTDATA := S_DEFAULTCAPACITY_EMPTY_ELEMENTDATA.wr W133
      replace E_b123 := E_b123.wr W133
      replace E_b124 := E_b124.wr W133
      replace V_b124 := V_b124.other W133 (Ne.symm ne_b123_b124)
      replace E_b128 := E_b128.wr W133
      replace E_c130 := E_c130.wr W133
      replace V_c130 := V_c130.other W133 (Ne.symm ne_b123_c130)
      replace E_d130 := E_d130.wr W133
      replace V_d130 := V_d130.other W133 (Ne.symm ne_b123_d130)
      replace F_low_b128 := F_low_b128.other W133 (Or.inl (Ne.symm ne_b123_b128))
      replace F_high_b128 := F_high_b128.other W133 (Or.inl (Ne.symm ne_b123_b128))
      replace E_c131 := E_c131.wr W133
      replace V_c131 := V_c131.other W133 (Ne.symm ne_b123_c131)
      replace E_d131 := E_d131.wr W133
      replace V_d131 := V_d131.other W133 (Ne.symm ne_b123_d131)
      have Zz133 := Nat.le_trans Zz132 (Keep.of_wr W133).1
      have Kk133 := Kk132.wr W133 (Or.inr sz_b123)
      have N133 := Fr.snoc X133 N132 g_b123
      refine go st133 ?_
      show Go p e below _ m T133 124 #[iv p0, iv p1, iv p2, iv p3, iv p4, iv p5, iv (2 : Int32), iv (1 : Int32), rv b123, rv b124, rv b128, .unset, .unset, .unset] []
      refine go (fun t kt => XS.iload X133.here hx rfl (hb hby at_124) rfl kt) ?_
      show Go p e below _ m T133 126 #[iv p0, iv p1, iv p2, iv p3, iv p4, iv p5, iv (2 : Int32), iv (1 : Int32), rv b123, rv b124, rv b128, .unset, .unset, .unset] [(.int (1 : Int32))]
      refine go (fun t kt => XS.ifNo X133.here hx rfl (hb hby at_126) rfl ((if0 _ _).trans (tlt (by decide : ((0 : Int32) < (1 : Int32)))).2.2.2) kt) ?_
      show Go p e below _ m T133 129 #[iv p0, iv p1, iv p2, iv p3, iv p4, iv p5, iv (2 : Int32), iv (1 : Int32), rv b123, rv b124, rv b128, .unset, .unset, .unset] []
      refine go (fun t kt => XS.aload X133.here hx rfl (hb hby at_129) rfl rfl kt) ?_
      show Go p e below _ m T133 131 #[iv p0, iv p1, iv p2, iv p3, iv p4, iv p5, iv (2 : Int32), iv (1 : Int32), rv b123, rv b124, rv b128, .unset, .unset, .unset] [(.ref b124)]
      refine go (fun t kt => XS.iconst X133.here hx rfl (hb hby at_131) kt) ?_
      show Go p e below _ m T133 132 #[iv p0, iv p1, iv p2, iv p3, iv p4, iv p5, iv (2 : Int32), iv (1 : Int32), rv b123, rv b124, rv b128, .unset, .unset, .unset] [(.int (0 : Int32)), (.ref b124)]
      refine go (fun t kt => XS.iloadN X133.here hx rfl (hb hby at_132) rfl kt) ?_
      show Go p e below _ m T133 133 #[iv p0, iv p1, iv p2, iv p3, iv p4, iv p5, iv (2 : Int32), iv (1 : Int32), rv b123, rv b124, rv b128, .unset, .unset, .unset] [(.int p1), (.int (0 : Int32)), (.ref b124)]
      refine go (fun t kt => XS.iconst X133.here hx rfl (hb hby at_133) kt) ?_
      show Go p e below _ m T133 134 #[iv p0, iv p1, iv p2, iv p3, iv p4, iv p5, iv (2 : Int32), iv (1 : Int32), rv b123, rv b124, rv b128, .unset, .unset, .unset] [(.int (-1 : Int32)), (.int p1), (.int (0 : Int32)), (.ref b124)]
      refine go (fun t kt => XS.ixor X133.here hx rfl (hb hby at_134) rfl kt) ?_
      show Go p e below _ m T133 135 #[iv p0, iv p1, iv p2, iv p3, iv p4, iv p5, iv (2 : Int32), iv (1 : Int32), rv b123, rv b124, rv b128, .unset, .unset, .unset] [(.int (p1 ^^^ (-1 : Int32))), (.int (0 : Int32)), (.ref b124)]
      obtain ⟨cl134, Ar134, q134, S134, M134, H134, G134⟩ := V_b124
      have hin134 : ¬ ((0 : Int32) < 0 ∨ cl134.slots.size ≤ ((0 : Int32)).toNatClampNeg) := inb_of S134 ⟨by decide, by decide⟩
      obtain ⟨T134, h134, X134, e134, W134, st134⟩ := stI X133 hx hZ e133 Ar134 (j := (0 : Int32)) hin134 (g := (mkF m 135 #[iv p0, iv p1, iv p2, iv p3, iv p4, iv p5, iv (2 : Int32), iv (1 : Int32), rv b123, rv b124, rv b128, .unset, .unset, .unset] [(.int (p1 ^^^ (-1 : Int32))), (.int (0 : Int32)), (.ref b124)])) rfl rfl (hb hby at_135)
      have V_b124 : Arv Z h134 b124 k124 .int (1 : Int32) [(.int (p1 ^^^ (-1 : Int32)))] (.int (0 : Int32)) := Arv.set Ar134 q134 S134 M134 H134 G134 rfl W134 0 rfl (Nat.le_of_ble_eq_true rfl)
      replace S_DEFAULTCAPACITY_EMPTY_ELEMENTDATA := S_DEFAULTCAPACITY_EMPTY_ELEMENTDATA.wr W134
      replace E_b123 := E_b123.wr W134
      replace V_b123 := V_b123.other W134 ne_b123_b124
      replace E_b124 := E_b124.wr W134
      replace E_b128 := E_b128.wr W134
      replace E_c130 := E_c130.wr W134
      replace V_c130 := V_c130.other W134 (Ne.symm ne_b124_c130)
      replace E_d130 := E_d130.wr W134
      replace V_d130 := V_d130.other W134 (Ne.symm ne_b124_d130)
      replace F_low_b128 := F_low_b128.other W134 (Or.inl (Ne.symm ne_b124_b128))
      replace F_high_b128 := F_high_b128.other W134 (Or.inl (Ne.symm ne_b124_b128))
      replace E_c131 := E_c131.wr W134
      replace V_c131 := V_c131.other W134 (Ne.symm ne_b124_c131)
      replace E_d131 := E_d131.wr W134
      replace V_d131 := V_d131.other W134 (Ne.symm ne_b124_d131)
      have Zz134 := Nat.le_trans Zz133 (Keep.of_wr W134).1
      have Kk134 := Kk133.wr W134 (Or.inr sz_b124)
      have N134 := Fr.snoc X134 N133 g_b124
      refine go st134 ?_
      show Go p e below _ m T134 136 #[iv p0, iv p1, iv p2, iv p3, iv p4, iv p5, iv (2 : Int32), iv (1 : Int32), rv b123, rv b124, rv b128, .unset, .unset, .unset] []
      refine go (fun t kt => XS.iload X134.here hx rfl (hb hby at_136) rfl kt) ?_
      show Go p e below _ m T134 138 #[iv p0, iv p1, iv p2, iv p3, iv p4, iv p5, iv (2 : Int32), iv (1 : Int32), rv b123, rv b124, rv b128, .unset, .unset, .unset] [(.int (1 : Int32))]
      refine go (fun t kt => XS.iconst X134.here hx rfl (hb hby at_138) kt) ?_
      show Go p e below _ m T134 139 #[iv p0, iv p1, iv p2, iv p3, iv p4, iv p5, iv (2 : Int32), iv (1 : Int32), rv b123, rv b124, rv b128, .unset, .unset, .unset] [(.int (1 : Int32)), (.int (1 : Int32))]
      refine go (fun t kt => XS.icmpYes X134.here hx rfl (pc0 := 139) (pc' := 149) rfl (hb hby at_139) rfl (flt (by decide : ¬ ((1 : Int32) < (1 : Int32)))).2.2.2 (by decide) (by decide) kt) ?_
      show Go p e below _ m T134 149 #[iv p0, iv p1, iv p2, iv p3, iv p4, iv p5, iv (2 : Int32), iv (1 : Int32), rv b123, rv b124, rv b128, .unset, .unset, .unset] []
      refine go (fun t kt => XS.aload X134.here hx rfl (hb hby at_149) rfl rfl kt) ?_
      show Go p e below _ m T134 151 #[iv p0, iv p1, iv p2, iv p3, iv p4, iv p5, iv (2 : Int32), iv (1 : Int32), rv b123, rv b124, rv b128, .unset, .unset, .unset] [(.ref b128)]
      obtain ⟨cq135, kq135, q135a, q135b, q135c⟩ := isOf hZ e134 E_b128
      obtain ⟨_, _, ⟨T135, L135, k135, n135⟩, -, X135, ⟨Lc135, hQ135, l135, y135, z135⟩, st135⟩ := X134.virtualBack hx (y := (⟨"com/example/anytime_arena/anytimearena/io/VariableTable", "low", "()[I"⟩ : MethodName)) (z := (⟨"com/example/anytime_arena/anytimearena/io/VariableTable", "low", "()[I"⟩ : MethodName)) hown (mvT hZ (hw _ (List.mem_of_getElem? (i := 76) rfl))) (mvT hZ (hw _ (List.mem_of_getElem? (i := 77) rfl))) (notFace_of_selects (args := #[]) (mvT hZ (hw _ (List.mem_of_getElem? (i := 79) rfl)))) (mvT hZ (hw _ (List.mem_of_getElem? (i := 79) rfl))) (mvT hZ (hw _ (List.mem_of_getElem? (i := 78) rfl))) (by decide) (backOf (W := 0) (rm9 l Z a0 hw [] b128 c131 k123 (2 : Int32) [(.int p0), (.int p2)] h134 n0 Zz134 F_low_b128 E_c131 V_c131 (by decide)) hZ (hw _ (List.mem_of_getElem? (i := 80) rfl)) (hw _ (List.mem_of_getElem? (i := 3) rfl)) (by decide) (by decide)) q135a q135c (g := (mkF m 151 #[iv p0, iv p1, iv p2, iv p3, iv p4, iv p5, iv (2 : Int32), iv (1 : Int32), rv b123, rv b124, rv b128, .unset, .unset, .unset] [(.ref b128)])) rfl (by rw [hml]; rfl) (Steps.refl _) (argsL := []) (rest := []) (lenOf pd_2 rfl) rfl (by show 2 * 0 + _ ≤ _; exact Nat.le_of_eq rfl) (hb hby at_151) (fun _ _ => ⟨rfl, e134, (by decide : 13 + 1 ≤ _), (by decide : 34 + 2 ≤ _)⟩)
      dsimp only [Pt.U, Pt.locs, Pt.cells, Pt.slots] at X135 l135 y135 z135 st135 hQ135
      subst l135 y135 z135
      obtain ⟨b135, g135⟩ : ∃ z, z = h134.size := ⟨_, rfl⟩
      have ne_b123_b135 : b123 ≠ b135 := Nat.ne_of_lt (Nat.lt_of_lt_of_le E_b123.lt (Nat.le_of_eq g135.symm))
      have ne_b124_b135 : b124 ≠ b135 := Nat.ne_of_lt (Nat.lt_of_lt_of_le E_b124.lt (Nat.le_of_eq g135.symm))
      have ne_b128_b135 : b128 ≠ b135 := Nat.ne_of_lt (Nat.lt_of_lt_of_le E_b128.lt (Nat.le_of_eq g135.symm))
      have ne_c130_b135 : c130 ≠ b135 := Nat.ne_of_lt (Nat.lt_of_lt_of_le E_c130.lt (Nat.le_of_eq g135.symm))
      have ne_d130_b135 : d130 ≠ b135 := Nat.ne_of_lt (Nat.lt_of_lt_of_le E_d130.lt (Nat.le_of_eq g135.symm))
      have ne_c131_b135 : c131 ≠ b135 := Nat.ne_of_lt (Nat.lt_of_lt_of_le E_c131.lt (Nat.le_of_eq g135.symm))
      have ne_d131_b135 : d131 ≠ b135 := Nat.ne_of_lt (Nat.lt_of_lt_of_le E_d131.lt (Nat.le_of_eq g135.symm))
      have g_b135 : n0 ≤ b135 := Nat.le_trans Zz134 (Nat.le_of_eq g135.symm)
      have sz_b135 : h0.size ≤ b135 := Nat.le_trans Kk134.1 (Nat.le_of_eq g135.symm)
      obtain ⟨rfl, Nq135, Kq135, Eq135, Vq135⟩ := hQ135
      rw [← g135] at Eq135 Vq135 st135
      clear S_DEFAULTCAPACITY_EMPTY_ELEMENTDATA
      replace E_b123 := E_b123.keep Kq135
      replace V_b123 := V_b123.keep Kq135 nin0
      replace E_b124 := E_b124.keep Kq135
      replace V_b124 := V_b124.keep Kq135 nin0
      replace E_b128 := E_b128.keep Kq135
      replace E_c130 := E_c130.keep Kq135
      replace V_c130 := V_c130.keep Kq135 nin0
      replace E_d130 := E_d130.keep Kq135
      replace V_d130 := V_d130.keep Kq135 nin0
      replace F_low_b128 := F_low_b128.keep Kq135 nin0
      replace F_high_b128 := F_high_b128.keep Kq135 nin0
      replace E_c131 := E_c131.keep Kq135
      replace V_c131 := V_c131.keep Kq135 nin0
      replace E_d131 := E_d131.keep Kq135
      replace V_d131 := V_d131.keep Kq135 nin0
      have Zz135 := Nat.le_trans Zz134 Kq135.1
      have Kk135 := Kk134.trans Kq135 all0
      have E_b135 := Eq135
      have V_b135 := Vq135
      have N135 := Fr.app N134 Nq135
      refine go (fun t kt => st135.trans kt) ?_
      show Go p e below _ m T135 154 #[iv p0, iv p1, iv p2, iv p3, iv p4, iv p5, iv (2 : Int32), iv (1 : Int32), rv b123, rv b124, rv b128, .unset, .unset, .unset] [(.ref b135)]
      refine go (fun t kt => XS.astore X135.here hx rfl (hb hby at_154) rfl rfl (l' := #[iv p0, iv p1, iv p2, iv p3, iv p4, iv p5, iv (2 : Int32), iv (1 : Int32), rv b123, rv b124, rv b128, rv b135, .unset, .unset]) rfl kt) ?_
      show Go p e below _ m T135 156 #[iv p0, iv p1, iv p2, iv p3, iv p4, iv p5, iv (2 : Int32), iv (1 : Int32), rv b123, rv b124, rv b128, rv b135, .unset, .unset] []
      refine go (fun t kt => XS.aload X135.here hx rfl (hb hby at_156) rfl rfl kt) ?_
      show Go p e below _ m T135 158 #[iv p0, iv p1, iv p2, iv p3, iv p4, iv p5, iv (2 : Int32), iv (1 : Int32), rv b123, rv b124, rv b128, rv b135, .unset, .unset] [(.ref b128)]
      obtain ⟨cq136, kq136, q136a, q136b, q136c⟩ := isOf hZ rfl E_b128
      obtain ⟨_, _, ⟨T136, L136, k136, n136⟩, -, X136, ⟨Lc136, hQ136, l136, y136, z136⟩, st136⟩ := X135.virtualBack hx (y := (⟨"com/example/anytime_arena/anytimearena/io/VariableTable", "high", "()[I"⟩ : MethodName)) (z := (⟨"com/example/anytime_arena/anytimearena/io/VariableTable", "high", "()[I"⟩ : MethodName)) hown (mvT hZ (hw _ (List.mem_of_getElem? (i := 81) rfl))) (mvT hZ (hw _ (List.mem_of_getElem? (i := 82) rfl))) (notFace_of_selects (args := #[]) (mvT hZ (hw _ (List.mem_of_getElem? (i := 84) rfl)))) (mvT hZ (hw _ (List.mem_of_getElem? (i := 84) rfl))) (mvT hZ (hw _ (List.mem_of_getElem? (i := 83) rfl))) (by decide) (backOf (W := 0) (rm10 l Z a0 hw [] b128 d131 k124 (1 : Int32) [(.int p1)] T135.heap n0 Zz135 F_high_b128 E_d131 V_d131 (by decide)) hZ (hw _ (List.mem_of_getElem? (i := 85) rfl)) (hw _ (List.mem_of_getElem? (i := 3) rfl)) (by decide) (by decide)) q136a q136c (g := (mkF m 158 #[iv p0, iv p1, iv p2, iv p3, iv p4, iv p5, iv (2 : Int32), iv (1 : Int32), rv b123, rv b124, rv b128, rv b135, .unset, .unset] [(.ref b128)])) rfl (by rw [hml]; rfl) (Steps.refl _) (argsL := []) (rest := []) (lenOf pd_2 rfl) rfl (by show 2 * 0 + _ ≤ _; exact Nat.le_of_eq rfl) (hb hby at_158) (fun _ _ => ⟨rfl, rfl, (by decide : 14 + 1 ≤ _), (by decide : 36 + 2 ≤ _)⟩)
      dsimp only [Pt.U, Pt.locs, Pt.cells, Pt.slots] at X136 l136 y136 z136 st136 hQ136
      subst l136 y136 z136
      obtain ⟨b136, g136⟩ : ∃ z, z = T135.heap.size := ⟨_, rfl⟩
      have ne_b123_b136 : b123 ≠ b136 := Nat.ne_of_lt (Nat.lt_of_lt_of_le E_b123.lt (Nat.le_of_eq g136.symm))
      have ne_b124_b136 : b124 ≠ b136 := Nat.ne_of_lt (Nat.lt_of_lt_of_le E_b124.lt (Nat.le_of_eq g136.symm))
      have ne_b128_b136 : b128 ≠ b136 := Nat.ne_of_lt (Nat.lt_of_lt_of_le E_b128.lt (Nat.le_of_eq g136.symm))
      have ne_c130_b136 : c130 ≠ b136 := Nat.ne_of_lt (Nat.lt_of_lt_of_le E_c130.lt (Nat.le_of_eq g136.symm))
      have ne_d130_b136 : d130 ≠ b136 := Nat.ne_of_lt (Nat.lt_of_lt_of_le E_d130.lt (Nat.le_of_eq g136.symm))
      have ne_c131_b136 : c131 ≠ b136 := Nat.ne_of_lt (Nat.lt_of_lt_of_le E_c131.lt (Nat.le_of_eq g136.symm))
      have ne_d131_b136 : d131 ≠ b136 := Nat.ne_of_lt (Nat.lt_of_lt_of_le E_d131.lt (Nat.le_of_eq g136.symm))
      have ne_b135_b136 : b135 ≠ b136 := Nat.ne_of_lt (Nat.lt_of_lt_of_le E_b135.lt (Nat.le_of_eq g136.symm))
      have g_b136 : n0 ≤ b136 := Nat.le_trans Zz135 (Nat.le_of_eq g136.symm)
      have sz_b136 : h0.size ≤ b136 := Nat.le_trans Kk135.1 (Nat.le_of_eq g136.symm)
      obtain ⟨rfl, Nq136, Kq136, Eq136, Vq136⟩ := hQ136
      rw [← g136] at Eq136 Vq136 st136
      replace E_b123 := E_b123.keep Kq136
      replace V_b123 := V_b123.keep Kq136 nin0
      replace E_b124 := E_b124.keep Kq136
      replace V_b124 := V_b124.keep Kq136 nin0
      replace E_b128 := E_b128.keep Kq136
      replace E_c130 := E_c130.keep Kq136
      replace V_c130 := V_c130.keep Kq136 nin0
      replace E_d130 := E_d130.keep Kq136
      replace V_d130 := V_d130.keep Kq136 nin0
      replace F_low_b128 := F_low_b128.keep Kq136 nin0
      replace F_high_b128 := F_high_b128.keep Kq136 nin0
      replace E_c131 := E_c131.keep Kq136
      replace V_c131 := V_c131.keep Kq136 nin0
      replace E_d131 := E_d131.keep Kq136
      replace V_d131 := V_d131.keep Kq136 nin0
      replace E_b135 := E_b135.keep Kq136
      replace V_b135 := V_b135.keep Kq136 nin0
      have Zz136 := Nat.le_trans Zz135 Kq136.1
      have Kk136 := Kk135.trans Kq136 all0
      have E_b136 := Eq136
      have V_b136 := Vq136
      have N136 := Fr.app N135 Nq136
      refine go (fun t kt => st136.trans kt) ?_
      show Go p e below _ m T136 161 #[iv p0, iv p1, iv p2, iv p3, iv p4, iv p5, iv (2 : Int32), iv (1 : Int32), rv b123, rv b124, rv b128, rv b135, .unset, .unset] [(.ref b136)]
      refine go (fun t kt => XS.astore X136.here hx rfl (hb hby at_161) rfl rfl (l' := #[iv p0, iv p1, iv p2, iv p3, iv p4, iv p5, iv (2 : Int32), iv (1 : Int32), rv b123, rv b124, rv b128, rv b135, rv b136, .unset]) rfl kt) ?_
      show Go p e below _ m T136 163 #[iv p0, iv p1, iv p2, iv p3, iv p4, iv p5, iv (2 : Int32), iv (1 : Int32), rv b123, rv b124, rv b128, rv b135, rv b136, .unset] []
      refine go (fun t kt => XS.aload X136.here hx rfl (hb hby at_163) rfl rfl kt) ?_
      show Go p e below _ m T136 165 #[iv p0, iv p1, iv p2, iv p3, iv p4, iv p5, iv (2 : Int32), iv (1 : Int32), rv b123, rv b124, rv b128, rv b135, rv b136, .unset] [(.ref b135)]
      obtain ⟨cl137, Ar137, q137, S137, M137, H137, G137⟩ := id V_b135
      refine go (X136.arraylength hx Ar137.1 (State.isArrayOf_alike hZ.alike Ar137.2.1) (g := (mkF m 165 #[iv p0, iv p1, iv p2, iv p3, iv p4, iv p5, iv (2 : Int32), iv (1 : Int32), rv b123, rv b124, rv b128, rv b135, rv b136, .unset] [(.ref b135)])) rfl rfl (hb hby at_165)) ?_
      rw [len_of S137 M137]
      show Go p e below _ m T136 166 #[iv p0, iv p1, iv p2, iv p3, iv p4, iv p5, iv (2 : Int32), iv (1 : Int32), rv b123, rv b124, rv b128, rv b135, rv b136, .unset] [(.int (2 : Int32))]
      refine go (fun t kt => XS.iload X136.here hx rfl (hb hby at_166) rfl kt) ?_
      show Go p e below _ m T136 168 #[iv p0, iv p1, iv p2, iv p3, iv p4, iv p5, iv (2 : Int32), iv (1 : Int32), rv b123, rv b124, rv b128, rv b135, rv b136, .unset] [(.int (2 : Int32)), (.int (2 : Int32))]
      refine go (fun t kt => XS.icmpNo X136.here hx rfl (hb hby at_168) rfl (teq (by decide : ((2 : Int32) = (2 : Int32)))).2 kt) ?_
      show Go p e below _ m T136 171 #[iv p0, iv p1, iv p2, iv p3, iv p4, iv p5, iv (2 : Int32), iv (1 : Int32), rv b123, rv b124, rv b128, rv b135, rv b136, .unset] []
      refine go (fun t kt => XS.aload X136.here hx rfl (hb hby at_171) rfl rfl kt) ?_
      show Go p e below _ m T136 173 #[iv p0, iv p1, iv p2, iv p3, iv p4, iv p5, iv (2 : Int32), iv (1 : Int32), rv b123, rv b124, rv b128, rv b135, rv b136, .unset] [(.ref b136)]
      obtain ⟨cl138, Ar138, q138, S138, M138, H138, G138⟩ := id V_b136
      refine go (X136.arraylength hx Ar138.1 (State.isArrayOf_alike hZ.alike Ar138.2.1) (g := (mkF m 173 #[iv p0, iv p1, iv p2, iv p3, iv p4, iv p5, iv (2 : Int32), iv (1 : Int32), rv b123, rv b124, rv b128, rv b135, rv b136, .unset] [(.ref b136)])) rfl rfl (hb hby at_173)) ?_
      rw [len_of S138 M138]
      show Go p e below _ m T136 174 #[iv p0, iv p1, iv p2, iv p3, iv p4, iv p5, iv (2 : Int32), iv (1 : Int32), rv b123, rv b124, rv b128, rv b135, rv b136, .unset] [(.int (1 : Int32))]
      refine go (fun t kt => XS.iload X136.here hx rfl (hb hby at_174) rfl kt) ?_
      show Go p e below _ m T136 176 #[iv p0, iv p1, iv p2, iv p3, iv p4, iv p5, iv (2 : Int32), iv (1 : Int32), rv b123, rv b124, rv b128, rv b135, rv b136, .unset] [(.int (1 : Int32)), (.int (1 : Int32))]
      refine go (fun t kt => XS.icmpYes X136.here hx rfl (pc0 := 176) (pc' := 181) rfl (hb hby at_176) rfl (teq (by decide : ((1 : Int32) = (1 : Int32)))).1 (by decide) (by decide) kt) ?_
      show Go p e below _ m T136 181 #[iv p0, iv p1, iv p2, iv p3, iv p4, iv p5, iv (2 : Int32), iv (1 : Int32), rv b123, rv b124, rv b128, rv b135, rv b136, .unset] []
      refine go (fun t kt => XS.iconst X136.here hx rfl (hb hby at_181) kt) ?_
      show Go p e below _ m T136 182 #[iv p0, iv p1, iv p2, iv p3, iv p4, iv p5, iv (2 : Int32), iv (1 : Int32), rv b123, rv b124, rv b128, rv b135, rv b136, .unset] [(.int (1 : Int32))]
      refine go (fun t kt => XS.istore X136.here hx rfl (hb hby at_182) rfl (l' := #[iv p0, iv p1, iv p2, iv p3, iv p4, iv p5, iv (2 : Int32), iv (1 : Int32), rv b123, rv b124, rv b128, rv b135, rv b136, iv (1 : Int32)]) rfl kt) ?_
      show Go p e below _ m T136 184 #[iv p0, iv p1, iv p2, iv p3, iv p4, iv p5, iv (2 : Int32), iv (1 : Int32), rv b123, rv b124, rv b128, rv b135, rv b136, iv (1 : Int32)] []
      refine go (fun t kt => XS.iload X136.here hx rfl (hb hby at_184) rfl kt) ?_
      show Go p e below _ m T136 186 #[iv p0, iv p1, iv p2, iv p3, iv p4, iv p5, iv (2 : Int32), iv (1 : Int32), rv b123, rv b124, rv b128, rv b135, rv b136, iv (1 : Int32)] [(.int (2 : Int32))]
      refine go (fun t kt => XS.ifNo X136.here hx rfl (hb hby at_186) rfl ((if0 _ _).trans (tlt (by decide : ((0 : Int32) < (2 : Int32)))).2.2.2) kt) ?_
      show Go p e below _ m T136 189 #[iv p0, iv p1, iv p2, iv p3, iv p4, iv p5, iv (2 : Int32), iv (1 : Int32), rv b123, rv b124, rv b128, rv b135, rv b136, iv (1 : Int32)] []
      refine go (fun t kt => XS.iload X136.here hx rfl (hb hby at_189) rfl kt) ?_
      show Go p e below _ m T136 191 #[iv p0, iv p1, iv p2, iv p3, iv p4, iv p5, iv (2 : Int32), iv (1 : Int32), rv b123, rv b124, rv b128, rv b135, rv b136, iv (1 : Int32)] [(.int (1 : Int32))]
      refine go (fun t kt => XS.ifNo X136.here hx rfl (hb hby at_191) rfl ((if0 _ _).trans (feq (by decide : ¬ ((1 : Int32) = (0 : Int32)))).1) kt) ?_
      show Go p e below _ m T136 194 #[iv p0, iv p1, iv p2, iv p3, iv p4, iv p5, iv (2 : Int32), iv (1 : Int32), rv b123, rv b124, rv b128, rv b135, rv b136, iv (1 : Int32)] []
      refine go (fun t kt => XS.aload X136.here hx rfl (hb hby at_194) rfl rfl kt) ?_
      show Go p e below _ m T136 196 #[iv p0, iv p1, iv p2, iv p3, iv p4, iv p5, iv (2 : Int32), iv (1 : Int32), rv b123, rv b124, rv b128, rv b135, rv b136, iv (1 : Int32)] [(.ref b135)]
      refine go (fun t kt => XS.iconst X136.here hx rfl (hb hby at_196) kt) ?_
      show Go p e below _ m T136 197 #[iv p0, iv p1, iv p2, iv p3, iv p4, iv p5, iv (2 : Int32), iv (1 : Int32), rv b123, rv b124, rv b128, rv b135, rv b136, iv (1 : Int32)] [(.int (0 : Int32)), (.ref b135)]
      obtain ⟨cl139, Ar139, q139, S139, M139, H139, G139⟩ := id V_b135
      have hin139 : ¬ ((0 : Int32) < 0 ∨ cl139.slots.size ≤ ((0 : Int32)).toNatClampNeg) := inb_of S139 ⟨by decide, by decide⟩
      have hat139 : cl139.slots[((0 : Int32)).toNatClampNeg]? = some (.int p0) := H139.at hin139 rfl
      refine go (X136.iaload hx (j := (0 : Int32)) (v := (.int p0)) Ar139.1 (State.isArrayOf_alike hZ.alike Ar139.2.1) Ar139.2.2 hin139 hat139 (g := (mkF m 197 #[iv p0, iv p1, iv p2, iv p3, iv p4, iv p5, iv (2 : Int32), iv (1 : Int32), rv b123, rv b124, rv b128, rv b135, rv b136, iv (1 : Int32)] [(.int (0 : Int32)), (.ref b135)])) rfl rfl (hb hby at_197)) ?_
      show Go p e below _ m T136 198 #[iv p0, iv p1, iv p2, iv p3, iv p4, iv p5, iv (2 : Int32), iv (1 : Int32), rv b123, rv b124, rv b128, rv b135, rv b136, iv (1 : Int32)] [(.int p0)]
      refine go (fun t kt => XS.iloadN X136.here hx rfl (hb hby at_198) rfl kt) ?_
      show Go p e below _ m T136 199 #[iv p0, iv p1, iv p2, iv p3, iv p4, iv p5, iv (2 : Int32), iv (1 : Int32), rv b123, rv b124, rv b128, rv b135, rv b136, iv (1 : Int32)] [(.int p0), (.int p0)]
      refine go (fun t kt => XS.icmpNo X136.here hx rfl (hb hby at_199) rfl (teq (rfl : p0 = p0)).2 kt) ?_
      show Go p e below _ m T136 202 #[iv p0, iv p1, iv p2, iv p3, iv p4, iv p5, iv (2 : Int32), iv (1 : Int32), rv b123, rv b124, rv b128, rv b135, rv b136, iv (1 : Int32)] []
      refine go (fun t kt => XS.iconst X136.here hx rfl (hb hby at_202) kt) ?_
      show Go p e below _ m T136 203 #[iv p0, iv p1, iv p2, iv p3, iv p4, iv p5, iv (2 : Int32), iv (1 : Int32), rv b123, rv b124, rv b128, rv b135, rv b136, iv (1 : Int32)] [(.int (1 : Int32))]
      refine go (fun t kt => XS.goto X136.here hx rfl (pc0 := 203) (pc' := 207) rfl (hb hby at_203) (by decide) (by decide) kt) ?_
      show Go p e below _ m T136 207 #[iv p0, iv p1, iv p2, iv p3, iv p4, iv p5, iv (2 : Int32), iv (1 : Int32), rv b123, rv b124, rv b128, rv b135, rv b136, iv (1 : Int32)] [(.int (1 : Int32))]
      refine go (fun t kt => XS.istore X136.here hx rfl (hb hby at_207) rfl (l' := #[iv p0, iv p1, iv p2, iv p3, iv p4, iv p5, iv (2 : Int32), iv (1 : Int32), rv b123, rv b124, rv b128, rv b135, rv b136, iv (1 : Int32)]) rfl kt) ?_
      show Go p e below _ m T136 209 #[iv p0, iv p1, iv p2, iv p3, iv p4, iv p5, iv (2 : Int32), iv (1 : Int32), rv b123, rv b124, rv b128, rv b135, rv b136, iv (1 : Int32)] []
      refine go (fun t kt => XS.iload X136.here hx rfl (hb hby at_209) rfl kt) ?_
      show Go p e below _ m T136 211 #[iv p0, iv p1, iv p2, iv p3, iv p4, iv p5, iv (2 : Int32), iv (1 : Int32), rv b123, rv b124, rv b128, rv b135, rv b136, iv (1 : Int32)] [(.int (2 : Int32))]
      refine go (fun t kt => XS.iconst X136.here hx rfl (hb hby at_211) kt) ?_
      show Go p e below _ m T136 212 #[iv p0, iv p1, iv p2, iv p3, iv p4, iv p5, iv (2 : Int32), iv (1 : Int32), rv b123, rv b124, rv b128, rv b135, rv b136, iv (1 : Int32)] [(.int (1 : Int32)), (.int (2 : Int32))]
      refine go (fun t kt => XS.icmpNo X136.here hx rfl (hb hby at_212) rfl (tlt (by decide : ((1 : Int32) < (2 : Int32)))).2.2.2 kt) ?_
      show Go p e below _ m T136 215 #[iv p0, iv p1, iv p2, iv p3, iv p4, iv p5, iv (2 : Int32), iv (1 : Int32), rv b123, rv b124, rv b128, rv b135, rv b136, iv (1 : Int32)] []
      refine go (fun t kt => XS.iload X136.here hx rfl (hb hby at_215) rfl kt) ?_
      show Go p e below _ m T136 217 #[iv p0, iv p1, iv p2, iv p3, iv p4, iv p5, iv (2 : Int32), iv (1 : Int32), rv b123, rv b124, rv b128, rv b135, rv b136, iv (1 : Int32)] [(.int (1 : Int32))]
      refine go (fun t kt => XS.ifNo X136.here hx rfl (hb hby at_217) rfl ((if0 _ _).trans (feq (by decide : ¬ ((1 : Int32) = (0 : Int32)))).1) kt) ?_
      show Go p e below _ m T136 220 #[iv p0, iv p1, iv p2, iv p3, iv p4, iv p5, iv (2 : Int32), iv (1 : Int32), rv b123, rv b124, rv b128, rv b135, rv b136, iv (1 : Int32)] []
      refine go (fun t kt => XS.aload X136.here hx rfl (hb hby at_220) rfl rfl kt) ?_
      show Go p e below _ m T136 222 #[iv p0, iv p1, iv p2, iv p3, iv p4, iv p5, iv (2 : Int32), iv (1 : Int32), rv b123, rv b124, rv b128, rv b135, rv b136, iv (1 : Int32)] [(.ref b135)]
      refine go (fun t kt => XS.iconst X136.here hx rfl (hb hby at_222) kt) ?_
      show Go p e below _ m T136 223 #[iv p0, iv p1, iv p2, iv p3, iv p4, iv p5, iv (2 : Int32), iv (1 : Int32), rv b123, rv b124, rv b128, rv b135, rv b136, iv (1 : Int32)] [(.int (1 : Int32)), (.ref b135)]
      obtain ⟨cl140, Ar140, q140, S140, M140, H140, G140⟩ := id V_b135
      have hin140 : ¬ ((1 : Int32) < 0 ∨ cl140.slots.size ≤ ((1 : Int32)).toNatClampNeg) := inb_of S140 ⟨by decide, by decide⟩
      have hat140 : cl140.slots[((1 : Int32)).toNatClampNeg]? = some (.int p2) := H140.at hin140 rfl
      refine go (X136.iaload hx (j := (1 : Int32)) (v := (.int p2)) Ar140.1 (State.isArrayOf_alike hZ.alike Ar140.2.1) Ar140.2.2 hin140 hat140 (g := (mkF m 223 #[iv p0, iv p1, iv p2, iv p3, iv p4, iv p5, iv (2 : Int32), iv (1 : Int32), rv b123, rv b124, rv b128, rv b135, rv b136, iv (1 : Int32)] [(.int (1 : Int32)), (.ref b135)])) rfl rfl (hb hby at_223)) ?_
      show Go p e below _ m T136 224 #[iv p0, iv p1, iv p2, iv p3, iv p4, iv p5, iv (2 : Int32), iv (1 : Int32), rv b123, rv b124, rv b128, rv b135, rv b136, iv (1 : Int32)] [(.int p2)]
      refine go (fun t kt => XS.iloadN X136.here hx rfl (hb hby at_224) rfl kt) ?_
      show Go p e below _ m T136 225 #[iv p0, iv p1, iv p2, iv p3, iv p4, iv p5, iv (2 : Int32), iv (1 : Int32), rv b123, rv b124, rv b128, rv b135, rv b136, iv (1 : Int32)] [(.int p2), (.int p2)]
      refine go (fun t kt => XS.icmpNo X136.here hx rfl (hb hby at_225) rfl (teq (rfl : p2 = p2)).2 kt) ?_
      show Go p e below _ m T136 228 #[iv p0, iv p1, iv p2, iv p3, iv p4, iv p5, iv (2 : Int32), iv (1 : Int32), rv b123, rv b124, rv b128, rv b135, rv b136, iv (1 : Int32)] []
      refine go (fun t kt => XS.iconst X136.here hx rfl (hb hby at_228) kt) ?_
      show Go p e below _ m T136 229 #[iv p0, iv p1, iv p2, iv p3, iv p4, iv p5, iv (2 : Int32), iv (1 : Int32), rv b123, rv b124, rv b128, rv b135, rv b136, iv (1 : Int32)] [(.int (1 : Int32))]
      refine go (fun t kt => XS.goto X136.here hx rfl (pc0 := 229) (pc' := 233) rfl (hb hby at_229) (by decide) (by decide) kt) ?_
      show Go p e below _ m T136 233 #[iv p0, iv p1, iv p2, iv p3, iv p4, iv p5, iv (2 : Int32), iv (1 : Int32), rv b123, rv b124, rv b128, rv b135, rv b136, iv (1 : Int32)] [(.int (1 : Int32))]
      refine go (fun t kt => XS.istore X136.here hx rfl (hb hby at_233) rfl (l' := #[iv p0, iv p1, iv p2, iv p3, iv p4, iv p5, iv (2 : Int32), iv (1 : Int32), rv b123, rv b124, rv b128, rv b135, rv b136, iv (1 : Int32)]) rfl kt) ?_
      show Go p e below _ m T136 235 #[iv p0, iv p1, iv p2, iv p3, iv p4, iv p5, iv (2 : Int32), iv (1 : Int32), rv b123, rv b124, rv b128, rv b135, rv b136, iv (1 : Int32)] []
      refine go (fun t kt => XS.iload X136.here hx rfl (hb hby at_235) rfl kt) ?_
      show Go p e below _ m T136 237 #[iv p0, iv p1, iv p2, iv p3, iv p4, iv p5, iv (2 : Int32), iv (1 : Int32), rv b123, rv b124, rv b128, rv b135, rv b136, iv (1 : Int32)] [(.int (1 : Int32))]
      refine go (fun t kt => XS.ifNo X136.here hx rfl (hb hby at_237) rfl ((if0 _ _).trans (tlt (by decide : ((0 : Int32) < (1 : Int32)))).2.2.2) kt) ?_
      show Go p e below _ m T136 240 #[iv p0, iv p1, iv p2, iv p3, iv p4, iv p5, iv (2 : Int32), iv (1 : Int32), rv b123, rv b124, rv b128, rv b135, rv b136, iv (1 : Int32)] []
      refine go (fun t kt => XS.iload X136.here hx rfl (hb hby at_240) rfl kt) ?_
      show Go p e below _ m T136 242 #[iv p0, iv p1, iv p2, iv p3, iv p4, iv p5, iv (2 : Int32), iv (1 : Int32), rv b123, rv b124, rv b128, rv b135, rv b136, iv (1 : Int32)] [(.int (1 : Int32))]
      refine go (fun t kt => XS.ifNo X136.here hx rfl (hb hby at_242) rfl ((if0 _ _).trans (feq (by decide : ¬ ((1 : Int32) = (0 : Int32)))).1) kt) ?_
      show Go p e below _ m T136 245 #[iv p0, iv p1, iv p2, iv p3, iv p4, iv p5, iv (2 : Int32), iv (1 : Int32), rv b123, rv b124, rv b128, rv b135, rv b136, iv (1 : Int32)] []
      refine go (fun t kt => XS.aload X136.here hx rfl (hb hby at_245) rfl rfl kt) ?_
      show Go p e below _ m T136 247 #[iv p0, iv p1, iv p2, iv p3, iv p4, iv p5, iv (2 : Int32), iv (1 : Int32), rv b123, rv b124, rv b128, rv b135, rv b136, iv (1 : Int32)] [(.ref b136)]
      refine go (fun t kt => XS.iconst X136.here hx rfl (hb hby at_247) kt) ?_
      show Go p e below _ m T136 248 #[iv p0, iv p1, iv p2, iv p3, iv p4, iv p5, iv (2 : Int32), iv (1 : Int32), rv b123, rv b124, rv b128, rv b135, rv b136, iv (1 : Int32)] [(.int (0 : Int32)), (.ref b136)]
      obtain ⟨cl141, Ar141, q141, S141, M141, H141, G141⟩ := id V_b136
      have hin141 : ¬ ((0 : Int32) < 0 ∨ cl141.slots.size ≤ ((0 : Int32)).toNatClampNeg) := inb_of S141 ⟨by decide, by decide⟩
      have hat141 : cl141.slots[((0 : Int32)).toNatClampNeg]? = some (.int p1) := H141.at hin141 rfl
      refine go (X136.iaload hx (j := (0 : Int32)) (v := (.int p1)) Ar141.1 (State.isArrayOf_alike hZ.alike Ar141.2.1) Ar141.2.2 hin141 hat141 (g := (mkF m 248 #[iv p0, iv p1, iv p2, iv p3, iv p4, iv p5, iv (2 : Int32), iv (1 : Int32), rv b123, rv b124, rv b128, rv b135, rv b136, iv (1 : Int32)] [(.int (0 : Int32)), (.ref b136)])) rfl rfl (hb hby at_248)) ?_
      show Go p e below _ m T136 249 #[iv p0, iv p1, iv p2, iv p3, iv p4, iv p5, iv (2 : Int32), iv (1 : Int32), rv b123, rv b124, rv b128, rv b135, rv b136, iv (1 : Int32)] [(.int p1)]
      refine go (fun t kt => XS.iloadN X136.here hx rfl (hb hby at_249) rfl kt) ?_
      show Go p e below _ m T136 250 #[iv p0, iv p1, iv p2, iv p3, iv p4, iv p5, iv (2 : Int32), iv (1 : Int32), rv b123, rv b124, rv b128, rv b135, rv b136, iv (1 : Int32)] [(.int p1), (.int p1)]
      refine go (fun t kt => XS.icmpNo X136.here hx rfl (hb hby at_250) rfl (teq (rfl : p1 = p1)).2 kt) ?_
      show Go p e below _ m T136 253 #[iv p0, iv p1, iv p2, iv p3, iv p4, iv p5, iv (2 : Int32), iv (1 : Int32), rv b123, rv b124, rv b128, rv b135, rv b136, iv (1 : Int32)] []
      refine go (fun t kt => XS.iconst X136.here hx rfl (hb hby at_253) kt) ?_
      show Go p e below _ m T136 254 #[iv p0, iv p1, iv p2, iv p3, iv p4, iv p5, iv (2 : Int32), iv (1 : Int32), rv b123, rv b124, rv b128, rv b135, rv b136, iv (1 : Int32)] [(.int (1 : Int32))]
      refine go (fun t kt => XS.goto X136.here hx rfl (pc0 := 254) (pc' := 258) rfl (hb hby at_254) (by decide) (by decide) kt) ?_
      show Go p e below _ m T136 258 #[iv p0, iv p1, iv p2, iv p3, iv p4, iv p5, iv (2 : Int32), iv (1 : Int32), rv b123, rv b124, rv b128, rv b135, rv b136, iv (1 : Int32)] [(.int (1 : Int32))]
      refine go (fun t kt => XS.istore X136.here hx rfl (hb hby at_258) rfl (l' := #[iv p0, iv p1, iv p2, iv p3, iv p4, iv p5, iv (2 : Int32), iv (1 : Int32), rv b123, rv b124, rv b128, rv b135, rv b136, iv (1 : Int32)]) rfl kt) ?_
      show Go p e below _ m T136 260 #[iv p0, iv p1, iv p2, iv p3, iv p4, iv p5, iv (2 : Int32), iv (1 : Int32), rv b123, rv b124, rv b128, rv b135, rv b136, iv (1 : Int32)] []
      refine go (fun t kt => XS.iload X136.here hx rfl (hb hby at_260) rfl kt) ?_
      show Go p e below _ m T136 262 #[iv p0, iv p1, iv p2, iv p3, iv p4, iv p5, iv (2 : Int32), iv (1 : Int32), rv b123, rv b124, rv b128, rv b135, rv b136, iv (1 : Int32)] [(.int (1 : Int32))]
      refine go (fun t kt => XS.iconst X136.here hx rfl (hb hby at_262) kt) ?_
      show Go p e below _ m T136 263 #[iv p0, iv p1, iv p2, iv p3, iv p4, iv p5, iv (2 : Int32), iv (1 : Int32), rv b123, rv b124, rv b128, rv b135, rv b136, iv (1 : Int32)] [(.int (1 : Int32)), (.int (1 : Int32))]
      refine go (fun t kt => XS.icmpYes X136.here hx rfl (pc0 := 263) (pc' := 286) rfl (hb hby at_263) rfl (flt (by decide : ¬ ((1 : Int32) < (1 : Int32)))).2.2.2 (by decide) (by decide) kt) ?_
      show Go p e below _ m T136 286 #[iv p0, iv p1, iv p2, iv p3, iv p4, iv p5, iv (2 : Int32), iv (1 : Int32), rv b123, rv b124, rv b128, rv b135, rv b136, iv (1 : Int32)] []
      refine go (fun t kt => XS.iload X136.here hx rfl (hb hby at_286) rfl kt) ?_
      show Go p e below _ m T136 288 #[iv p0, iv p1, iv p2, iv p3, iv p4, iv p5, iv (2 : Int32), iv (1 : Int32), rv b123, rv b124, rv b128, rv b135, rv b136, iv (1 : Int32)] [(.int (2 : Int32))]
      refine go (fun t kt => XS.ifNo X136.here hx rfl (hb hby at_288) rfl ((if0 _ _).trans (tlt (by decide : ((0 : Int32) < (2 : Int32)))).2.2.2) kt) ?_
      show Go p e below _ m T136 291 #[iv p0, iv p1, iv p2, iv p3, iv p4, iv p5, iv (2 : Int32), iv (1 : Int32), rv b123, rv b124, rv b128, rv b135, rv b136, iv (1 : Int32)] []
      refine go (fun t kt => XS.iload X136.here hx rfl (hb hby at_291) rfl kt) ?_
      show Go p e below _ m T136 293 #[iv p0, iv p1, iv p2, iv p3, iv p4, iv p5, iv (2 : Int32), iv (1 : Int32), rv b123, rv b124, rv b128, rv b135, rv b136, iv (1 : Int32)] [(.int (1 : Int32))]
      refine go (fun t kt => XS.ifNo X136.here hx rfl (hb hby at_293) rfl ((if0 _ _).trans (tlt (by decide : ((0 : Int32) < (1 : Int32)))).2.2.2) kt) ?_
      show Go p e below _ m T136 296 #[iv p0, iv p1, iv p2, iv p3, iv p4, iv p5, iv (2 : Int32), iv (1 : Int32), rv b123, rv b124, rv b128, rv b135, rv b136, iv (1 : Int32)] []
      refine go (fun t kt => XS.iload X136.here hx rfl (hb hby at_296) rfl kt) ?_
      show Go p e below _ m T136 298 #[iv p0, iv p1, iv p2, iv p3, iv p4, iv p5, iv (2 : Int32), iv (1 : Int32), rv b123, rv b124, rv b128, rv b135, rv b136, iv (1 : Int32)] [(.int (1 : Int32))]
      refine go (fun t kt => XS.ifNo X136.here hx rfl (hb hby at_298) rfl ((if0 _ _).trans (feq (by decide : ¬ ((1 : Int32) = (0 : Int32)))).1) kt) ?_
      show Go p e below _ m T136 301 #[iv p0, iv p1, iv p2, iv p3, iv p4, iv p5, iv (2 : Int32), iv (1 : Int32), rv b123, rv b124, rv b128, rv b135, rv b136, iv (1 : Int32)] []
      refine go (fun t kt => XS.aload X136.here hx rfl (hb hby at_301) rfl rfl kt) ?_
      show Go p e below _ m T136 303 #[iv p0, iv p1, iv p2, iv p3, iv p4, iv p5, iv (2 : Int32), iv (1 : Int32), rv b123, rv b124, rv b128, rv b135, rv b136, iv (1 : Int32)] [(.ref b128)]
      refine go (fun t kt => XS.iconst X136.here hx rfl (hb hby at_303) kt) ?_
      show Go p e below _ m T136 304 #[iv p0, iv p1, iv p2, iv p3, iv p4, iv p5, iv (2 : Int32), iv (1 : Int32), rv b123, rv b124, rv b128, rv b135, rv b136, iv (1 : Int32)] [(.int (0 : Int32)), (.ref b128)]
      refine go (fun t kt => XS.iload X136.here hx rfl (hb hby at_304) rfl kt) ?_
      show Go p e below _ m T136 306 #[iv p0, iv p1, iv p2, iv p3, iv p4, iv p5, iv (2 : Int32), iv (1 : Int32), rv b123, rv b124, rv b128, rv b135, rv b136, iv (1 : Int32)] [(.int p5), (.int (0 : Int32)), (.ref b128)]
      obtain ⟨cq142, kq142, q142a, q142b, q142c⟩ := isOf hZ rfl E_b128
      obtain ⟨_, _, ⟨T142, L142, k142, n142⟩, -, X142, ⟨Lc142, hQ142, l142, y142, z142⟩, st142⟩ := X136.virtualBack hx (y := (⟨"com/example/anytime_arena/anytimearena/io/VariableTable", "inRange", "(II)Z"⟩ : MethodName)) (z := (⟨"com/example/anytime_arena/anytimearena/io/VariableTable", "inRange", "(II)Z"⟩ : MethodName)) hown (mvT hZ (hw _ (List.mem_of_getElem? (i := 86) rfl))) (mvT hZ (hw _ (List.mem_of_getElem? (i := 87) rfl))) (notFace_of_selects (args := #[]) (mvT hZ (hw _ (List.mem_of_getElem? (i := 89) rfl)))) (mvT hZ (hw _ (List.mem_of_getElem? (i := 89) rfl))) (mvT hZ (hw _ (List.mem_of_getElem? (i := 88) rfl))) (by decide) (backOf (W := 0) (rm11 l Z a0 hw [] b128 (0 : Int32) p5 c131 d131 k123 (2 : Int32) [(.int p0), (.int p2)] k124 (1 : Int32) [(.int p1)] p0 p1 T136.heap n0 Zz136 F_low_b128 F_high_b128 V_c131 V_d131 ⟨by decide, by decide⟩ ⟨by decide, by decide⟩ rfl rfl) hZ (hw _ (List.mem_of_getElem? (i := 90) rfl)) (hw _ (List.mem_of_getElem? (i := 3) rfl)) (by decide) (by decide)) q142a q142c (g := (mkF m 306 #[iv p0, iv p1, iv p2, iv p3, iv p4, iv p5, iv (2 : Int32), iv (1 : Int32), rv b123, rv b124, rv b128, rv b135, rv b136, iv (1 : Int32)] [(.int p5), (.int (0 : Int32)), (.ref b128)])) rfl (by rw [hml]; rfl) (Steps.refl _) (argsL := [(.int (0 : Int32)), (.int p5)]) (rest := []) (lenOf pd_3 rfl) rfl (by show 2 * 0 + _ ≤ _; exact Nat.le_of_eq rfl) (hb hby at_306) (fun _ _ => ⟨rfl, rfl, (by decide : 15 + 0 ≤ _), (by decide : 38 + 0 ≤ _)⟩)
      dsimp only [Pt.U, Pt.locs, Pt.cells, Pt.slots] at X142 l142 y142 z142 st142 hQ142
      subst l142 y142 z142
      obtain ⟨rfl, Nq142, e142⟩ := hQ142
      have N142 := Fr.app N136 Nq142
      refine go (fun t kt => st142.trans kt) ?_
      show Go p e below _ m T142 309 #[iv p0, iv p1, iv p2, iv p3, iv p4, iv p5, iv (2 : Int32), iv (1 : Int32), rv b123, rv b124, rv b128, rv b135, rv b136, iv (1 : Int32)] [(.int (own_inR p5 p0 p1))]
      refine go (fun t kt => XS.iload X142.here hx rfl (hb hby at_309) rfl kt) ?_
      show Go p e below _ m T142 311 #[iv p0, iv p1, iv p2, iv p3, iv p4, iv p5, iv (2 : Int32), iv (1 : Int32), rv b123, rv b124, rv b128, rv b135, rv b136, iv (1 : Int32)] [(.int p5), (.int (own_inR p5 p0 p1))]
      refine go (fun t kt => XS.iloadN X142.here hx rfl (hb hby at_311) rfl kt) ?_
      show Go p e below _ m T142 312 #[iv p0, iv p1, iv p2, iv p3, iv p4, iv p5, iv (2 : Int32), iv (1 : Int32), rv b123, rv b124, rv b128, rv b135, rv b136, iv (1 : Int32)] [(.int p0), (.int p5), (.int (own_inR p5 p0 p1))]
      by_cases hc143 : p5 < p0
      ·
        refine go (fun t kt => XS.icmpYes X142.here hx rfl (pc0 := 312) (pc' := 325) rfl (hb hby at_312) rfl (tlt hc143).1 (by decide) (by decide) kt) ?_
        show Go p e below _ m T142 325 #[iv p0, iv p1, iv p2, iv p3, iv p4, iv p5, iv (2 : Int32), iv (1 : Int32), rv b123, rv b124, rv b128, rv b135, rv b136, iv (1 : Int32)] [(.int (own_inR p5 p0 p1))]
        refine go (fun t kt => XS.iconst X142.here hx rfl (hb hby at_325) kt) ?_
        show Go p e below _ m T142 326 #[iv p0, iv p1, iv p2, iv p3, iv p4, iv p5, iv (2 : Int32), iv (1 : Int32), rv b123, rv b124, rv b128, rv b135, rv b136, iv (1 : Int32)] [(.int (0 : Int32)), (.int (own_inR p5 p0 p1))]
        refine go (fun t kt => XS.icmpNo X142.here hx rfl (hb hby at_326) rfl (teq (own_r1 _ _ _ hc143)).2 kt) ?_
        show Go p e below _ m T142 329 #[iv p0, iv p1, iv p2, iv p3, iv p4, iv p5, iv (2 : Int32), iv (1 : Int32), rv b123, rv b124, rv b128, rv b135, rv b136, iv (1 : Int32)] []
        refine go (fun t kt => XS.iconst X142.here hx rfl (hb hby at_329) kt) ?_
        show Go p e below _ m T142 330 #[iv p0, iv p1, iv p2, iv p3, iv p4, iv p5, iv (2 : Int32), iv (1 : Int32), rv b123, rv b124, rv b128, rv b135, rv b136, iv (1 : Int32)] [(.int (1 : Int32))]
        refine go (fun t kt => XS.goto X142.here hx rfl (pc0 := 330) (pc' := 334) rfl (hb hby at_330) (by decide) (by decide) kt) ?_
        show Go p e below _ m T142 334 #[iv p0, iv p1, iv p2, iv p3, iv p4, iv p5, iv (2 : Int32), iv (1 : Int32), rv b123, rv b124, rv b128, rv b135, rv b136, iv (1 : Int32)] [(.int (1 : Int32))]
        refine go (fun t kt => XS.istore X142.here hx rfl (hb hby at_334) rfl (l' := #[iv p0, iv p1, iv p2, iv p3, iv p4, iv p5, iv (2 : Int32), iv (1 : Int32), rv b123, rv b124, rv b128, rv b135, rv b136, iv (1 : Int32)]) rfl kt) ?_
        show Go p e below _ m T142 336 #[iv p0, iv p1, iv p2, iv p3, iv p4, iv p5, iv (2 : Int32), iv (1 : Int32), rv b123, rv b124, rv b128, rv b135, rv b136, iv (1 : Int32)] []
        refine go (fun t kt => XS.iload X142.here hx rfl (hb hby at_336) rfl kt) ?_
        show Go p e below _ m T142 338 #[iv p0, iv p1, iv p2, iv p3, iv p4, iv p5, iv (2 : Int32), iv (1 : Int32), rv b123, rv b124, rv b128, rv b135, rv b136, iv (1 : Int32)] [(.int (2 : Int32))]
        refine go (fun t kt => XS.iconst X142.here hx rfl (hb hby at_338) kt) ?_
        show Go p e below _ m T142 339 #[iv p0, iv p1, iv p2, iv p3, iv p4, iv p5, iv (2 : Int32), iv (1 : Int32), rv b123, rv b124, rv b128, rv b135, rv b136, iv (1 : Int32)] [(.int (1 : Int32)), (.int (2 : Int32))]
        refine go (fun t kt => XS.icmpNo X142.here hx rfl (hb hby at_339) rfl (tlt (by decide : ((1 : Int32) < (2 : Int32)))).2.2.2 kt) ?_
        show Go p e below _ m T142 342 #[iv p0, iv p1, iv p2, iv p3, iv p4, iv p5, iv (2 : Int32), iv (1 : Int32), rv b123, rv b124, rv b128, rv b135, rv b136, iv (1 : Int32)] []
        refine go (fun t kt => XS.iload X142.here hx rfl (hb hby at_342) rfl kt) ?_
        show Go p e below _ m T142 344 #[iv p0, iv p1, iv p2, iv p3, iv p4, iv p5, iv (2 : Int32), iv (1 : Int32), rv b123, rv b124, rv b128, rv b135, rv b136, iv (1 : Int32)] [(.int (1 : Int32))]
        refine go (fun t kt => XS.iconst X142.here hx rfl (hb hby at_344) kt) ?_
        show Go p e below _ m T142 345 #[iv p0, iv p1, iv p2, iv p3, iv p4, iv p5, iv (2 : Int32), iv (1 : Int32), rv b123, rv b124, rv b128, rv b135, rv b136, iv (1 : Int32)] [(.int (1 : Int32)), (.int (1 : Int32))]
        refine go (fun t kt => XS.icmpYes X142.here hx rfl (pc0 := 345) (pc' := 388) rfl (hb hby at_345) rfl (flt (by decide : ¬ ((1 : Int32) < (1 : Int32)))).2.2.2 (by decide) (by decide) kt) ?_
        show Go p e below _ m T142 388 #[iv p0, iv p1, iv p2, iv p3, iv p4, iv p5, iv (2 : Int32), iv (1 : Int32), rv b123, rv b124, rv b128, rv b135, rv b136, iv (1 : Int32)] []
        refine go (fun t kt => XS.iload X142.here hx rfl (hb hby at_388) rfl kt) ?_
        show Go p e below _ m T142 390 #[iv p0, iv p1, iv p2, iv p3, iv p4, iv p5, iv (2 : Int32), iv (1 : Int32), rv b123, rv b124, rv b128, rv b135, rv b136, iv (1 : Int32)] [(.int (1 : Int32))]
        obtain ⟨fs, hr, hrun, hended, hW, hsame⟩ := X142.leave (v := some (.int (1 : Int32))) (fun h => by rw [Bd.returns] at h; cases h)
        refine ⟨_, _, retN X142 hx (t := .boolean) Bd.returns (by simp) (hb hby at_390) hr, hrun, hended, _, _, rfl, ?_, ⟨_, rfl⟩, hW, hsame.mono (by decide) (by decide)⟩
        show Q0 Z p0 p1 p2 p3 p4 p5 sd h0 n0 _ T142.heap _
        rw [e142]
        exact ⟨rfl, N142⟩
      ·
        refine go (fun t kt => XS.icmpNo X142.here hx rfl (hb hby at_312) rfl (flt hc143).1 kt) ?_
        show Go p e below _ m T142 315 #[iv p0, iv p1, iv p2, iv p3, iv p4, iv p5, iv (2 : Int32), iv (1 : Int32), rv b123, rv b124, rv b128, rv b135, rv b136, iv (1 : Int32)] [(.int (own_inR p5 p0 p1))]
        refine go (fun t kt => XS.iload X142.here hx rfl (hb hby at_315) rfl kt) ?_
        show Go p e below _ m T142 317 #[iv p0, iv p1, iv p2, iv p3, iv p4, iv p5, iv (2 : Int32), iv (1 : Int32), rv b123, rv b124, rv b128, rv b135, rv b136, iv (1 : Int32)] [(.int p5), (.int (own_inR p5 p0 p1))]
        refine go (fun t kt => XS.iloadN X142.here hx rfl (hb hby at_317) rfl kt) ?_
        show Go p e below _ m T142 318 #[iv p0, iv p1, iv p2, iv p3, iv p4, iv p5, iv (2 : Int32), iv (1 : Int32), rv b123, rv b124, rv b128, rv b135, rv b136, iv (1 : Int32)] [(.int p1), (.int p5), (.int (own_inR p5 p0 p1))]
        by_cases hc145 : p1 < p5
        ·
          refine go (fun t kt => XS.icmpYes X142.here hx rfl (pc0 := 318) (pc' := 325) rfl (hb hby at_318) rfl (tlt hc145).2.2.1 (by decide) (by decide) kt) ?_
          show Go p e below _ m T142 325 #[iv p0, iv p1, iv p2, iv p3, iv p4, iv p5, iv (2 : Int32), iv (1 : Int32), rv b123, rv b124, rv b128, rv b135, rv b136, iv (1 : Int32)] [(.int (own_inR p5 p0 p1))]
          refine go (fun t kt => XS.iconst X142.here hx rfl (hb hby at_325) kt) ?_
          show Go p e below _ m T142 326 #[iv p0, iv p1, iv p2, iv p3, iv p4, iv p5, iv (2 : Int32), iv (1 : Int32), rv b123, rv b124, rv b128, rv b135, rv b136, iv (1 : Int32)] [(.int (0 : Int32)), (.int (own_inR p5 p0 p1))]
          refine go (fun t kt => XS.icmpNo X142.here hx rfl (hb hby at_326) rfl (teq (own_r2 _ _ _ hc143 hc145)).2 kt) ?_
          show Go p e below _ m T142 329 #[iv p0, iv p1, iv p2, iv p3, iv p4, iv p5, iv (2 : Int32), iv (1 : Int32), rv b123, rv b124, rv b128, rv b135, rv b136, iv (1 : Int32)] []
          refine go (fun t kt => XS.iconst X142.here hx rfl (hb hby at_329) kt) ?_
          show Go p e below _ m T142 330 #[iv p0, iv p1, iv p2, iv p3, iv p4, iv p5, iv (2 : Int32), iv (1 : Int32), rv b123, rv b124, rv b128, rv b135, rv b136, iv (1 : Int32)] [(.int (1 : Int32))]
          refine go (fun t kt => XS.goto X142.here hx rfl (pc0 := 330) (pc' := 334) rfl (hb hby at_330) (by decide) (by decide) kt) ?_
          show Go p e below _ m T142 334 #[iv p0, iv p1, iv p2, iv p3, iv p4, iv p5, iv (2 : Int32), iv (1 : Int32), rv b123, rv b124, rv b128, rv b135, rv b136, iv (1 : Int32)] [(.int (1 : Int32))]
          refine go (fun t kt => XS.istore X142.here hx rfl (hb hby at_334) rfl (l' := #[iv p0, iv p1, iv p2, iv p3, iv p4, iv p5, iv (2 : Int32), iv (1 : Int32), rv b123, rv b124, rv b128, rv b135, rv b136, iv (1 : Int32)]) rfl kt) ?_
          show Go p e below _ m T142 336 #[iv p0, iv p1, iv p2, iv p3, iv p4, iv p5, iv (2 : Int32), iv (1 : Int32), rv b123, rv b124, rv b128, rv b135, rv b136, iv (1 : Int32)] []
          refine go (fun t kt => XS.iload X142.here hx rfl (hb hby at_336) rfl kt) ?_
          show Go p e below _ m T142 338 #[iv p0, iv p1, iv p2, iv p3, iv p4, iv p5, iv (2 : Int32), iv (1 : Int32), rv b123, rv b124, rv b128, rv b135, rv b136, iv (1 : Int32)] [(.int (2 : Int32))]
          refine go (fun t kt => XS.iconst X142.here hx rfl (hb hby at_338) kt) ?_
          show Go p e below _ m T142 339 #[iv p0, iv p1, iv p2, iv p3, iv p4, iv p5, iv (2 : Int32), iv (1 : Int32), rv b123, rv b124, rv b128, rv b135, rv b136, iv (1 : Int32)] [(.int (1 : Int32)), (.int (2 : Int32))]
          refine go (fun t kt => XS.icmpNo X142.here hx rfl (hb hby at_339) rfl (tlt (by decide : ((1 : Int32) < (2 : Int32)))).2.2.2 kt) ?_
          show Go p e below _ m T142 342 #[iv p0, iv p1, iv p2, iv p3, iv p4, iv p5, iv (2 : Int32), iv (1 : Int32), rv b123, rv b124, rv b128, rv b135, rv b136, iv (1 : Int32)] []
          refine go (fun t kt => XS.iload X142.here hx rfl (hb hby at_342) rfl kt) ?_
          show Go p e below _ m T142 344 #[iv p0, iv p1, iv p2, iv p3, iv p4, iv p5, iv (2 : Int32), iv (1 : Int32), rv b123, rv b124, rv b128, rv b135, rv b136, iv (1 : Int32)] [(.int (1 : Int32))]
          refine go (fun t kt => XS.iconst X142.here hx rfl (hb hby at_344) kt) ?_
          show Go p e below _ m T142 345 #[iv p0, iv p1, iv p2, iv p3, iv p4, iv p5, iv (2 : Int32), iv (1 : Int32), rv b123, rv b124, rv b128, rv b135, rv b136, iv (1 : Int32)] [(.int (1 : Int32)), (.int (1 : Int32))]
          refine go (fun t kt => XS.icmpYes X142.here hx rfl (pc0 := 345) (pc' := 388) rfl (hb hby at_345) rfl (flt (by decide : ¬ ((1 : Int32) < (1 : Int32)))).2.2.2 (by decide) (by decide) kt) ?_
          show Go p e below _ m T142 388 #[iv p0, iv p1, iv p2, iv p3, iv p4, iv p5, iv (2 : Int32), iv (1 : Int32), rv b123, rv b124, rv b128, rv b135, rv b136, iv (1 : Int32)] []
          refine go (fun t kt => XS.iload X142.here hx rfl (hb hby at_388) rfl kt) ?_
          show Go p e below _ m T142 390 #[iv p0, iv p1, iv p2, iv p3, iv p4, iv p5, iv (2 : Int32), iv (1 : Int32), rv b123, rv b124, rv b128, rv b135, rv b136, iv (1 : Int32)] [(.int (1 : Int32))]
          obtain ⟨fs, hr, hrun, hended, hW, hsame⟩ := X142.leave (v := some (.int (1 : Int32))) (fun h => by rw [Bd.returns] at h; cases h)
          refine ⟨_, _, retN X142 hx (t := .boolean) Bd.returns (by simp) (hb hby at_390) hr, hrun, hended, _, _, rfl, ?_, ⟨_, rfl⟩, hW, hsame.mono (by decide) (by decide)⟩
          show Q0 Z p0 p1 p2 p3 p4 p5 sd h0 n0 _ T142.heap _
          rw [e142]
          exact ⟨rfl, N142⟩
        ·
          refine go (fun t kt => XS.icmpNo X142.here hx rfl (hb hby at_318) rfl (flt hc145).2.2.1 kt) ?_
          show Go p e below _ m T142 321 #[iv p0, iv p1, iv p2, iv p3, iv p4, iv p5, iv (2 : Int32), iv (1 : Int32), rv b123, rv b124, rv b128, rv b135, rv b136, iv (1 : Int32)] [(.int (own_inR p5 p0 p1))]
          refine go (fun t kt => XS.iconst X142.here hx rfl (hb hby at_321) kt) ?_
          show Go p e below _ m T142 322 #[iv p0, iv p1, iv p2, iv p3, iv p4, iv p5, iv (2 : Int32), iv (1 : Int32), rv b123, rv b124, rv b128, rv b135, rv b136, iv (1 : Int32)] [(.int (1 : Int32)), (.int (own_inR p5 p0 p1))]
          refine go (fun t kt => XS.goto X142.here hx rfl (pc0 := 322) (pc' := 326) rfl (hb hby at_322) (by decide) (by decide) kt) ?_
          show Go p e below _ m T142 326 #[iv p0, iv p1, iv p2, iv p3, iv p4, iv p5, iv (2 : Int32), iv (1 : Int32), rv b123, rv b124, rv b128, rv b135, rv b136, iv (1 : Int32)] [(.int (1 : Int32)), (.int (own_inR p5 p0 p1))]
          refine go (fun t kt => XS.icmpNo X142.here hx rfl (hb hby at_326) rfl (teq (own_r3 _ _ _ hc143 hc145)).2 kt) ?_
          show Go p e below _ m T142 329 #[iv p0, iv p1, iv p2, iv p3, iv p4, iv p5, iv (2 : Int32), iv (1 : Int32), rv b123, rv b124, rv b128, rv b135, rv b136, iv (1 : Int32)] []
          refine go (fun t kt => XS.iconst X142.here hx rfl (hb hby at_329) kt) ?_
          show Go p e below _ m T142 330 #[iv p0, iv p1, iv p2, iv p3, iv p4, iv p5, iv (2 : Int32), iv (1 : Int32), rv b123, rv b124, rv b128, rv b135, rv b136, iv (1 : Int32)] [(.int (1 : Int32))]
          refine go (fun t kt => XS.goto X142.here hx rfl (pc0 := 330) (pc' := 334) rfl (hb hby at_330) (by decide) (by decide) kt) ?_
          show Go p e below _ m T142 334 #[iv p0, iv p1, iv p2, iv p3, iv p4, iv p5, iv (2 : Int32), iv (1 : Int32), rv b123, rv b124, rv b128, rv b135, rv b136, iv (1 : Int32)] [(.int (1 : Int32))]
          refine go (fun t kt => XS.istore X142.here hx rfl (hb hby at_334) rfl (l' := #[iv p0, iv p1, iv p2, iv p3, iv p4, iv p5, iv (2 : Int32), iv (1 : Int32), rv b123, rv b124, rv b128, rv b135, rv b136, iv (1 : Int32)]) rfl kt) ?_
          show Go p e below _ m T142 336 #[iv p0, iv p1, iv p2, iv p3, iv p4, iv p5, iv (2 : Int32), iv (1 : Int32), rv b123, rv b124, rv b128, rv b135, rv b136, iv (1 : Int32)] []
          refine go (fun t kt => XS.iload X142.here hx rfl (hb hby at_336) rfl kt) ?_
          show Go p e below _ m T142 338 #[iv p0, iv p1, iv p2, iv p3, iv p4, iv p5, iv (2 : Int32), iv (1 : Int32), rv b123, rv b124, rv b128, rv b135, rv b136, iv (1 : Int32)] [(.int (2 : Int32))]
          refine go (fun t kt => XS.iconst X142.here hx rfl (hb hby at_338) kt) ?_
          show Go p e below _ m T142 339 #[iv p0, iv p1, iv p2, iv p3, iv p4, iv p5, iv (2 : Int32), iv (1 : Int32), rv b123, rv b124, rv b128, rv b135, rv b136, iv (1 : Int32)] [(.int (1 : Int32)), (.int (2 : Int32))]
          refine go (fun t kt => XS.icmpNo X142.here hx rfl (hb hby at_339) rfl (tlt (by decide : ((1 : Int32) < (2 : Int32)))).2.2.2 kt) ?_
          show Go p e below _ m T142 342 #[iv p0, iv p1, iv p2, iv p3, iv p4, iv p5, iv (2 : Int32), iv (1 : Int32), rv b123, rv b124, rv b128, rv b135, rv b136, iv (1 : Int32)] []
          refine go (fun t kt => XS.iload X142.here hx rfl (hb hby at_342) rfl kt) ?_
          show Go p e below _ m T142 344 #[iv p0, iv p1, iv p2, iv p3, iv p4, iv p5, iv (2 : Int32), iv (1 : Int32), rv b123, rv b124, rv b128, rv b135, rv b136, iv (1 : Int32)] [(.int (1 : Int32))]
          refine go (fun t kt => XS.iconst X142.here hx rfl (hb hby at_344) kt) ?_
          show Go p e below _ m T142 345 #[iv p0, iv p1, iv p2, iv p3, iv p4, iv p5, iv (2 : Int32), iv (1 : Int32), rv b123, rv b124, rv b128, rv b135, rv b136, iv (1 : Int32)] [(.int (1 : Int32)), (.int (1 : Int32))]
          refine go (fun t kt => XS.icmpYes X142.here hx rfl (pc0 := 345) (pc' := 388) rfl (hb hby at_345) rfl (flt (by decide : ¬ ((1 : Int32) < (1 : Int32)))).2.2.2 (by decide) (by decide) kt) ?_
          show Go p e below _ m T142 388 #[iv p0, iv p1, iv p2, iv p3, iv p4, iv p5, iv (2 : Int32), iv (1 : Int32), rv b123, rv b124, rv b128, rv b135, rv b136, iv (1 : Int32)] []
          refine go (fun t kt => XS.iload X142.here hx rfl (hb hby at_388) rfl kt) ?_
          show Go p e below _ m T142 390 #[iv p0, iv p1, iv p2, iv p3, iv p4, iv p5, iv (2 : Int32), iv (1 : Int32), rv b123, rv b124, rv b128, rv b135, rv b136, iv (1 : Int32)] [(.int (1 : Int32))]
          obtain ⟨fs, hr, hrun, hended, hW, hsame⟩ := X142.leave (v := some (.int (1 : Int32))) (fun h => by rw [Bd.returns] at h; cases h)
          refine ⟨_, _, retN X142 hx (t := .boolean) Bd.returns (by simp) (hb hby at_390) hr, hrun, hended, _, _, rfl, ?_, ⟨_, rfl⟩, hW, hsame.mono (by decide) (by decide)⟩
          show Q0 Z p0 p1 p2 p3 p4 p5 sd h0 n0 _ T142.heap _
          rw [e142]
          exact ⟨rfl, N142⟩
    ·
      rw [hj2]
      show Go p e below _ m s₁ 18 #[iv p0, iv p1, iv p2, iv p3, iv p4, iv p5, iv (2 : Int32), iv (2 : Int32), .unset, .unset, .unset, .unset, .unset, .unset] []
      refine go (fun t kt => XS.iload X0.here hx rfl (hb hby at_18) rfl kt) ?_
      show Go p e below _ m s₁ 20 #[iv p0, iv p1, iv p2, iv p3, iv p4, iv p5, iv (2 : Int32), iv (2 : Int32), .unset, .unset, .unset, .unset, .unset, .unset] [(.int (2 : Int32))]
      obtain ⟨T148, h148, k148, X148, e148, E148, A148, B148, st148⟩ := newPE X0 hx hZ (hw _ (List.mem_of_getElem? (i := 0) rfl)) e0 (g := (mkF m 20 #[iv p0, iv p1, iv p2, iv p3, iv p4, iv p5, iv (2 : Int32), iv (2 : Int32), .unset, .unset, .unset, .unset, .unset, .unset] [(.int (2 : Int32))])) rfl (hb hby at_20) rfl (by decide) (cap := 2) (by decide) (by decide) (by decide) (by decide) (ad := "[I") rfl
      obtain ⟨b148, g148⟩ : ∃ z, z = h0.size := ⟨_, rfl⟩
      rw [← g148] at A148 B148 st148
      have g_b148 : n0 ≤ b148 := Nat.le_trans Z0 (Nat.le_of_eq g148.symm)
      have sz_b148 : h0.size ≤ b148 := Nat.le_trans K0.1 (Nat.le_of_eq g148.symm)
      replace S_DEFAULTCAPACITY_EMPTY_ELEMENTDATA := S_DEFAULTCAPACITY_EMPTY_ELEMENTDATA.ext E148
      have Zz148 := Nat.le_trans Z0 E148.1
      have Kk148 := K0.ext E148
      have E_b148 := B148
      have V_b148 : Arv Z h148 b148 k148 .int (2 : Int32) [(.int (0 : Int32)), (.int (0 : Int32))] (.int (0 : Int32)) := (Arv.new A148 (by decide)).pad (pad_rep [] (.int (0 : Int32)) 2)
      refine go st148 ?_
      show Go p e below _ m T148 22 #[iv p0, iv p1, iv p2, iv p3, iv p4, iv p5, iv (2 : Int32), iv (2 : Int32), .unset, .unset, .unset, .unset, .unset, .unset] [(.ref b148)]
      refine go (fun t kt => XS.astore X148.here hx rfl (hb hby at_22) rfl rfl (l' := #[iv p0, iv p1, iv p2, iv p3, iv p4, iv p5, iv (2 : Int32), iv (2 : Int32), rv b148, .unset, .unset, .unset, .unset, .unset]) rfl kt) ?_
      show Go p e below _ m T148 24 #[iv p0, iv p1, iv p2, iv p3, iv p4, iv p5, iv (2 : Int32), iv (2 : Int32), rv b148, .unset, .unset, .unset, .unset, .unset] []
      refine go (fun t kt => XS.iload X148.here hx rfl (hb hby at_24) rfl kt) ?_
      show Go p e below _ m T148 26 #[iv p0, iv p1, iv p2, iv p3, iv p4, iv p5, iv (2 : Int32), iv (2 : Int32), rv b148, .unset, .unset, .unset, .unset, .unset] [(.int (2 : Int32))]
      obtain ⟨T149, h149, k149, X149, e149, E149, A149, B149, st149⟩ := newPE X148 hx hZ (hw _ (List.mem_of_getElem? (i := 0) rfl)) e148 (g := (mkF m 26 #[iv p0, iv p1, iv p2, iv p3, iv p4, iv p5, iv (2 : Int32), iv (2 : Int32), rv b148, .unset, .unset, .unset, .unset, .unset] [(.int (2 : Int32))])) rfl (hb hby at_26) rfl (by decide) (cap := 2) (by decide) (by decide) (by decide) (by decide) (ad := "[I") rfl
      obtain ⟨b149, g149⟩ : ∃ z, z = h148.size := ⟨_, rfl⟩
      rw [← g149] at A149 B149 st149
      have ne_b148_b149 : b148 ≠ b149 := Nat.ne_of_lt (Nat.lt_of_lt_of_le E_b148.lt (Nat.le_of_eq g149.symm))
      have g_b149 : n0 ≤ b149 := Nat.le_trans Zz148 (Nat.le_of_eq g149.symm)
      have sz_b149 : h0.size ≤ b149 := Nat.le_trans Kk148.1 (Nat.le_of_eq g149.symm)
      replace S_DEFAULTCAPACITY_EMPTY_ELEMENTDATA := S_DEFAULTCAPACITY_EMPTY_ELEMENTDATA.ext E149
      replace E_b148 := E_b148.ext E149
      replace V_b148 := V_b148.ext E149
      have Zz149 := Nat.le_trans Zz148 E149.1
      have Kk149 := Kk148.ext E149
      have E_b149 := B149
      have V_b149 : Arv Z h149 b149 k149 .int (2 : Int32) [(.int (0 : Int32)), (.int (0 : Int32))] (.int (0 : Int32)) := (Arv.new A149 (by decide)).pad (pad_rep [] (.int (0 : Int32)) 2)
      refine go st149 ?_
      show Go p e below _ m T149 28 #[iv p0, iv p1, iv p2, iv p3, iv p4, iv p5, iv (2 : Int32), iv (2 : Int32), rv b148, .unset, .unset, .unset, .unset, .unset] [(.ref b149)]
      refine go (fun t kt => XS.astore X149.here hx rfl (hb hby at_28) rfl rfl (l' := #[iv p0, iv p1, iv p2, iv p3, iv p4, iv p5, iv (2 : Int32), iv (2 : Int32), rv b148, rv b149, .unset, .unset, .unset, .unset]) rfl kt) ?_
      show Go p e below _ m T149 30 #[iv p0, iv p1, iv p2, iv p3, iv p4, iv p5, iv (2 : Int32), iv (2 : Int32), rv b148, rv b149, .unset, .unset, .unset, .unset] []
      refine go (fun t kt => XS.iload X149.here hx rfl (hb hby at_30) rfl kt) ?_
      show Go p e below _ m T149 32 #[iv p0, iv p1, iv p2, iv p3, iv p4, iv p5, iv (2 : Int32), iv (2 : Int32), rv b148, rv b149, .unset, .unset, .unset, .unset] [(.int (2 : Int32))]
      refine go (fun t kt => XS.ifNo X149.here hx rfl (hb hby at_32) rfl ((if0 _ _).trans (tlt (by decide : ((0 : Int32) < (2 : Int32)))).2.2.2) kt) ?_
      show Go p e below _ m T149 35 #[iv p0, iv p1, iv p2, iv p3, iv p4, iv p5, iv (2 : Int32), iv (2 : Int32), rv b148, rv b149, .unset, .unset, .unset, .unset] []
      refine go (fun t kt => XS.aload X149.here hx rfl (hb hby at_35) rfl rfl kt) ?_
      show Go p e below _ m T149 37 #[iv p0, iv p1, iv p2, iv p3, iv p4, iv p5, iv (2 : Int32), iv (2 : Int32), rv b148, rv b149, .unset, .unset, .unset, .unset] [(.ref b148)]
      refine go (fun t kt => XS.iconst X149.here hx rfl (hb hby at_37) kt) ?_
      show Go p e below _ m T149 38 #[iv p0, iv p1, iv p2, iv p3, iv p4, iv p5, iv (2 : Int32), iv (2 : Int32), rv b148, rv b149, .unset, .unset, .unset, .unset] [(.int (0 : Int32)), (.ref b148)]
      refine go (fun t kt => XS.iloadN X149.here hx rfl (hb hby at_38) rfl kt) ?_
      show Go p e below _ m T149 39 #[iv p0, iv p1, iv p2, iv p3, iv p4, iv p5, iv (2 : Int32), iv (2 : Int32), rv b148, rv b149, .unset, .unset, .unset, .unset] [(.int p0), (.int (0 : Int32)), (.ref b148)]
      obtain ⟨cl150, Ar150, q150, S150, M150, H150, G150⟩ := V_b148
      have hin150 : ¬ ((0 : Int32) < 0 ∨ cl150.slots.size ≤ ((0 : Int32)).toNatClampNeg) := inb_of S150 ⟨by decide, by decide⟩
      obtain ⟨T150, h150, X150, e150, W150, st150⟩ := stI X149 hx hZ e149 Ar150 (j := (0 : Int32)) hin150 (g := (mkF m 39 #[iv p0, iv p1, iv p2, iv p3, iv p4, iv p5, iv (2 : Int32), iv (2 : Int32), rv b148, rv b149, .unset, .unset, .unset, .unset] [(.int p0), (.int (0 : Int32)), (.ref b148)])) rfl rfl (hb hby at_39)
      have V_b148 : Arv Z h150 b148 k148 .int (2 : Int32) [(.int p0), (.int (0 : Int32))] (.int (0 : Int32)) := Arv.set Ar150 q150 S150 M150 H150 G150 rfl W150 0 rfl (Nat.le_of_ble_eq_true rfl)
      replace S_DEFAULTCAPACITY_EMPTY_ELEMENTDATA := S_DEFAULTCAPACITY_EMPTY_ELEMENTDATA.wr W150
      replace E_b148 := E_b148.wr W150
      replace E_b149 := E_b149.wr W150
      replace V_b149 := V_b149.other W150 (Ne.symm ne_b148_b149)
      have Zz150 := Nat.le_trans Zz149 (Keep.of_wr W150).1
      have Kk150 := Kk149.wr W150 (Or.inr sz_b148)
      have N150 := Fr.snoc X150 N0 g_b148
      refine go st150 ?_
      show Go p e below _ m T150 40 #[iv p0, iv p1, iv p2, iv p3, iv p4, iv p5, iv (2 : Int32), iv (2 : Int32), rv b148, rv b149, .unset, .unset, .unset, .unset] []
      refine go (fun t kt => XS.iload X150.here hx rfl (hb hby at_40) rfl kt) ?_
      show Go p e below _ m T150 42 #[iv p0, iv p1, iv p2, iv p3, iv p4, iv p5, iv (2 : Int32), iv (2 : Int32), rv b148, rv b149, .unset, .unset, .unset, .unset] [(.int (2 : Int32))]
      refine go (fun t kt => XS.iconst X150.here hx rfl (hb hby at_42) kt) ?_
      show Go p e below _ m T150 43 #[iv p0, iv p1, iv p2, iv p3, iv p4, iv p5, iv (2 : Int32), iv (2 : Int32), rv b148, rv b149, .unset, .unset, .unset, .unset] [(.int (1 : Int32)), (.int (2 : Int32))]
      refine go (fun t kt => XS.icmpNo X150.here hx rfl (hb hby at_43) rfl (tlt (by decide : ((1 : Int32) < (2 : Int32)))).2.2.2 kt) ?_
      show Go p e below _ m T150 46 #[iv p0, iv p1, iv p2, iv p3, iv p4, iv p5, iv (2 : Int32), iv (2 : Int32), rv b148, rv b149, .unset, .unset, .unset, .unset] []
      refine go (fun t kt => XS.aload X150.here hx rfl (hb hby at_46) rfl rfl kt) ?_
      show Go p e below _ m T150 48 #[iv p0, iv p1, iv p2, iv p3, iv p4, iv p5, iv (2 : Int32), iv (2 : Int32), rv b148, rv b149, .unset, .unset, .unset, .unset] [(.ref b148)]
      refine go (fun t kt => XS.iconst X150.here hx rfl (hb hby at_48) kt) ?_
      show Go p e below _ m T150 49 #[iv p0, iv p1, iv p2, iv p3, iv p4, iv p5, iv (2 : Int32), iv (2 : Int32), rv b148, rv b149, .unset, .unset, .unset, .unset] [(.int (1 : Int32)), (.ref b148)]
      refine go (fun t kt => XS.iloadN X150.here hx rfl (hb hby at_49) rfl kt) ?_
      show Go p e below _ m T150 50 #[iv p0, iv p1, iv p2, iv p3, iv p4, iv p5, iv (2 : Int32), iv (2 : Int32), rv b148, rv b149, .unset, .unset, .unset, .unset] [(.int p2), (.int (1 : Int32)), (.ref b148)]
      obtain ⟨cl151, Ar151, q151, S151, M151, H151, G151⟩ := V_b148
      have hin151 : ¬ ((1 : Int32) < 0 ∨ cl151.slots.size ≤ ((1 : Int32)).toNatClampNeg) := inb_of S151 ⟨by decide, by decide⟩
      obtain ⟨T151, h151, X151, e151, W151, st151⟩ := stI X150 hx hZ e150 Ar151 (j := (1 : Int32)) hin151 (g := (mkF m 50 #[iv p0, iv p1, iv p2, iv p3, iv p4, iv p5, iv (2 : Int32), iv (2 : Int32), rv b148, rv b149, .unset, .unset, .unset, .unset] [(.int p2), (.int (1 : Int32)), (.ref b148)])) rfl rfl (hb hby at_50)
      have V_b148 : Arv Z h151 b148 k148 .int (2 : Int32) [(.int p0), (.int p2)] (.int (0 : Int32)) := Arv.set Ar151 q151 S151 M151 H151 G151 rfl W151 1 rfl (Nat.le_of_ble_eq_true rfl)
      replace S_DEFAULTCAPACITY_EMPTY_ELEMENTDATA := S_DEFAULTCAPACITY_EMPTY_ELEMENTDATA.wr W151
      replace E_b148 := E_b148.wr W151
      replace E_b149 := E_b149.wr W151
      replace V_b149 := V_b149.other W151 (Ne.symm ne_b148_b149)
      have Zz151 := Nat.le_trans Zz150 (Keep.of_wr W151).1
      have Kk151 := Kk150.wr W151 (Or.inr sz_b148)
      have N151 := Fr.snoc X151 N150 g_b148
      refine go st151 ?_
      show Go p e below _ m T151 51 #[iv p0, iv p1, iv p2, iv p3, iv p4, iv p5, iv (2 : Int32), iv (2 : Int32), rv b148, rv b149, .unset, .unset, .unset, .unset] []
      refine go (fun t kt => XS.iload X151.here hx rfl (hb hby at_51) rfl kt) ?_
      show Go p e below _ m T151 53 #[iv p0, iv p1, iv p2, iv p3, iv p4, iv p5, iv (2 : Int32), iv (2 : Int32), rv b148, rv b149, .unset, .unset, .unset, .unset] [(.int (2 : Int32))]
      refine go (fun t kt => XS.ifNo X151.here hx rfl (hb hby at_53) rfl ((if0 _ _).trans (tlt (by decide : ((0 : Int32) < (2 : Int32)))).2.2.2) kt) ?_
      show Go p e below _ m T151 56 #[iv p0, iv p1, iv p2, iv p3, iv p4, iv p5, iv (2 : Int32), iv (2 : Int32), rv b148, rv b149, .unset, .unset, .unset, .unset] []
      refine go (fun t kt => XS.aload X151.here hx rfl (hb hby at_56) rfl rfl kt) ?_
      show Go p e below _ m T151 58 #[iv p0, iv p1, iv p2, iv p3, iv p4, iv p5, iv (2 : Int32), iv (2 : Int32), rv b148, rv b149, .unset, .unset, .unset, .unset] [(.ref b149)]
      refine go (fun t kt => XS.iconst X151.here hx rfl (hb hby at_58) kt) ?_
      show Go p e below _ m T151 59 #[iv p0, iv p1, iv p2, iv p3, iv p4, iv p5, iv (2 : Int32), iv (2 : Int32), rv b148, rv b149, .unset, .unset, .unset, .unset] [(.int (0 : Int32)), (.ref b149)]
      refine go (fun t kt => XS.iloadN X151.here hx rfl (hb hby at_59) rfl kt) ?_
      show Go p e below _ m T151 60 #[iv p0, iv p1, iv p2, iv p3, iv p4, iv p5, iv (2 : Int32), iv (2 : Int32), rv b148, rv b149, .unset, .unset, .unset, .unset] [(.int p1), (.int (0 : Int32)), (.ref b149)]
      obtain ⟨cl152, Ar152, q152, S152, M152, H152, G152⟩ := V_b149
      have hin152 : ¬ ((0 : Int32) < 0 ∨ cl152.slots.size ≤ ((0 : Int32)).toNatClampNeg) := inb_of S152 ⟨by decide, by decide⟩
      obtain ⟨T152, h152, X152, e152, W152, st152⟩ := stI X151 hx hZ e151 Ar152 (j := (0 : Int32)) hin152 (g := (mkF m 60 #[iv p0, iv p1, iv p2, iv p3, iv p4, iv p5, iv (2 : Int32), iv (2 : Int32), rv b148, rv b149, .unset, .unset, .unset, .unset] [(.int p1), (.int (0 : Int32)), (.ref b149)])) rfl rfl (hb hby at_60)
      have V_b149 : Arv Z h152 b149 k149 .int (2 : Int32) [(.int p1), (.int (0 : Int32))] (.int (0 : Int32)) := Arv.set Ar152 q152 S152 M152 H152 G152 rfl W152 0 rfl (Nat.le_of_ble_eq_true rfl)
      replace S_DEFAULTCAPACITY_EMPTY_ELEMENTDATA := S_DEFAULTCAPACITY_EMPTY_ELEMENTDATA.wr W152
      replace E_b148 := E_b148.wr W152
      replace V_b148 := V_b148.other W152 ne_b148_b149
      replace E_b149 := E_b149.wr W152
      have Zz152 := Nat.le_trans Zz151 (Keep.of_wr W152).1
      have Kk152 := Kk151.wr W152 (Or.inr sz_b149)
      have N152 := Fr.snoc X152 N151 g_b149
      refine go st152 ?_
      show Go p e below _ m T152 61 #[iv p0, iv p1, iv p2, iv p3, iv p4, iv p5, iv (2 : Int32), iv (2 : Int32), rv b148, rv b149, .unset, .unset, .unset, .unset] []
      refine go (fun t kt => XS.iload X152.here hx rfl (hb hby at_61) rfl kt) ?_
      show Go p e below _ m T152 63 #[iv p0, iv p1, iv p2, iv p3, iv p4, iv p5, iv (2 : Int32), iv (2 : Int32), rv b148, rv b149, .unset, .unset, .unset, .unset] [(.int (2 : Int32))]
      refine go (fun t kt => XS.iconst X152.here hx rfl (hb hby at_63) kt) ?_
      show Go p e below _ m T152 64 #[iv p0, iv p1, iv p2, iv p3, iv p4, iv p5, iv (2 : Int32), iv (2 : Int32), rv b148, rv b149, .unset, .unset, .unset, .unset] [(.int (1 : Int32)), (.int (2 : Int32))]
      refine go (fun t kt => XS.icmpNo X152.here hx rfl (hb hby at_64) rfl (tlt (by decide : ((1 : Int32) < (2 : Int32)))).2.2.2 kt) ?_
      show Go p e below _ m T152 67 #[iv p0, iv p1, iv p2, iv p3, iv p4, iv p5, iv (2 : Int32), iv (2 : Int32), rv b148, rv b149, .unset, .unset, .unset, .unset] []
      refine go (fun t kt => XS.aload X152.here hx rfl (hb hby at_67) rfl rfl kt) ?_
      show Go p e below _ m T152 69 #[iv p0, iv p1, iv p2, iv p3, iv p4, iv p5, iv (2 : Int32), iv (2 : Int32), rv b148, rv b149, .unset, .unset, .unset, .unset] [(.ref b149)]
      refine go (fun t kt => XS.iconst X152.here hx rfl (hb hby at_69) kt) ?_
      show Go p e below _ m T152 70 #[iv p0, iv p1, iv p2, iv p3, iv p4, iv p5, iv (2 : Int32), iv (2 : Int32), rv b148, rv b149, .unset, .unset, .unset, .unset] [(.int (1 : Int32)), (.ref b149)]
      refine go (fun t kt => XS.iloadN X152.here hx rfl (hb hby at_70) rfl kt) ?_
      show Go p e below _ m T152 71 #[iv p0, iv p1, iv p2, iv p3, iv p4, iv p5, iv (2 : Int32), iv (2 : Int32), rv b148, rv b149, .unset, .unset, .unset, .unset] [(.int p3), (.int (1 : Int32)), (.ref b149)]
      obtain ⟨cl153, Ar153, q153, S153, M153, H153, G153⟩ := V_b149
      have hin153 : ¬ ((1 : Int32) < 0 ∨ cl153.slots.size ≤ ((1 : Int32)).toNatClampNeg) := inb_of S153 ⟨by decide, by decide⟩
      obtain ⟨T153, h153, X153, e153, W153, st153⟩ := stI X152 hx hZ e152 Ar153 (j := (1 : Int32)) hin153 (g := (mkF m 71 #[iv p0, iv p1, iv p2, iv p3, iv p4, iv p5, iv (2 : Int32), iv (2 : Int32), rv b148, rv b149, .unset, .unset, .unset, .unset] [(.int p3), (.int (1 : Int32)), (.ref b149)])) rfl rfl (hb hby at_71)
      have V_b149 : Arv Z h153 b149 k149 .int (2 : Int32) [(.int p1), (.int p3)] (.int (0 : Int32)) := Arv.set Ar153 q153 S153 M153 H153 G153 rfl W153 1 rfl (Nat.le_of_ble_eq_true rfl)
      replace S_DEFAULTCAPACITY_EMPTY_ELEMENTDATA := S_DEFAULTCAPACITY_EMPTY_ELEMENTDATA.wr W153
      replace E_b148 := E_b148.wr W153
      replace V_b148 := V_b148.other W153 ne_b148_b149
      replace E_b149 := E_b149.wr W153
      have Zz153 := Nat.le_trans Zz152 (Keep.of_wr W153).1
      have Kk153 := Kk152.wr W153 (Or.inr sz_b149)
      have N153 := Fr.snoc X153 N152 g_b149
      refine go st153 ?_
      show Go p e below _ m T153 72 #[iv p0, iv p1, iv p2, iv p3, iv p4, iv p5, iv (2 : Int32), iv (2 : Int32), rv b148, rv b149, .unset, .unset, .unset, .unset] []
      obtain ⟨T154, h154, X154, e154, E154, A154, D154, -, st154⟩ := newO X153 hx hZ hown (hw _ (List.mem_of_getElem? (i := 1) rfl)) (hw _ (List.mem_of_getElem? (i := 2) rfl)) (hw _ (List.mem_of_getElem? (i := 3) rfl)) e153 (g := (mkF m 72 #[iv p0, iv p1, iv p2, iv p3, iv p4, iv p5, iv (2 : Int32), iv (2 : Int32), rv b148, rv b149, .unset, .unset, .unset, .unset] [])) rfl (hb hby at_72) (by decide) (by decide)
      obtain ⟨b154, g154⟩ : ∃ z, z = h153.size := ⟨_, rfl⟩
      rw [← g154] at A154 D154 st154
      have ne_b148_b154 : b148 ≠ b154 := Nat.ne_of_lt (Nat.lt_of_lt_of_le E_b148.lt (Nat.le_of_eq g154.symm))
      have ne_b149_b154 : b149 ≠ b154 := Nat.ne_of_lt (Nat.lt_of_lt_of_le E_b149.lt (Nat.le_of_eq g154.symm))
      have g_b154 : n0 ≤ b154 := Nat.le_trans Zz153 (Nat.le_of_eq g154.symm)
      have sz_b154 : h0.size ≤ b154 := Nat.le_trans Kk153.1 (Nat.le_of_eq g154.symm)
      replace S_DEFAULTCAPACITY_EMPTY_ELEMENTDATA := S_DEFAULTCAPACITY_EMPTY_ELEMENTDATA.ext E154
      replace E_b148 := E_b148.ext E154
      replace V_b148 := V_b148.ext E154
      replace E_b149 := E_b149.ext E154
      replace V_b149 := V_b149.ext E154
      have Zz154 := Nat.le_trans Zz153 E154.1
      have Kk154 := Kk153.ext E154
      have E_b154 := A154
      have F_names_b154 : Fld Z h154 b154 "com/example/anytime_arena/anytimearena/io/VariableTable" "names" "Ljava/util/List;" .null := D154 (Or.inr (hw _ (List.mem_of_getElem? (i := 35) rfl))) (ty := (.object "java/util/List")) (by decide)
      have F_types_b154 : Fld Z h154 b154 "com/example/anytime_arena/anytimearena/io/VariableTable" "types" "Ljava/util/List;" .null := D154 (Or.inr (hw _ (List.mem_of_getElem? (i := 37) rfl))) (ty := (.object "java/util/List")) (by decide)
      have F_owners_b154 : Fld Z h154 b154 "com/example/anytime_arena/anytimearena/io/VariableTable" "owners" "Ljava/util/List;" .null := D154 (Or.inr (hw _ (List.mem_of_getElem? (i := 39) rfl))) (ty := (.object "java/util/List")) (by decide)
      have F_slots_b154 : Fld Z h154 b154 "com/example/anytime_arena/anytimearena/io/VariableTable" "slots" "Ljava/util/Map;" .null := D154 (Or.inr (hw _ (List.mem_of_getElem? (i := 57) rfl))) (ty := (.object "java/util/Map")) (by decide)
      have F_low_b154 : Fld Z h154 b154 "com/example/anytime_arena/anytimearena/io/VariableTable" "low" "[I" .null := D154 (Or.inl (hw _ (List.mem_of_getElem? (i := 59) rfl))) (ty := (.array .int)) (by decide)
      have F_high_b154 : Fld Z h154 b154 "com/example/anytime_arena/anytimearena/io/VariableTable" "high" "[I" .null := D154 (Or.inl (hw _ (List.mem_of_getElem? (i := 61) rfl))) (ty := (.array .int)) (by decide)
      refine go st154 ?_
      show Go p e below _ m T154 75 #[iv p0, iv p1, iv p2, iv p3, iv p4, iv p5, iv (2 : Int32), iv (2 : Int32), rv b148, rv b149, .unset, .unset, .unset, .unset] [(.ref b154)]
      refine go (fun t kt => XS.dup X154.here hx rfl (hb hby at_75) rfl rfl kt) ?_
      show Go p e below _ m T154 76 #[iv p0, iv p1, iv p2, iv p3, iv p4, iv p5, iv (2 : Int32), iv (2 : Int32), rv b148, rv b149, .unset, .unset, .unset, .unset] [(.ref b154), (.ref b154)]
      obtain ⟨_, _, ⟨T155, L155, k155, n155⟩, -, X155, ⟨Lc155, hQ155, l155, y155, z155⟩, st155⟩ := X154.specialBack hx (y := (⟨"com/example/anytime_arena/anytimearena/io/VariableTable", "<init>", "()V"⟩ : MethodName)) rfl hown (mvT hZ (hw _ (List.mem_of_getElem? (i := 4) rfl))) (mvT hZ (hw _ (List.mem_of_getElem? (i := 5) rfl))) (mvT hZ (hw _ (List.mem_of_getElem? (i := 6) rfl))) (by decide) (backOf (W := 1) (rm1 l Z a0 hw [] b154 .null .null .null .null .null .null sd h154 n0 Zz154 E_b154 F_names_b154 F_types_b154 F_owners_b154 F_slots_b154 F_low_b154 F_high_b154 S_DEFAULTCAPACITY_EMPTY_ELEMENTDATA g_b154) hZ (hw _ (List.mem_of_getElem? (i := 6) rfl)) (hw _ (List.mem_of_getElem? (i := 3) rfl)) (by decide) (by decide)) (g := (mkF m 76 #[iv p0, iv p1, iv p2, iv p3, iv p4, iv p5, iv (2 : Int32), iv (2 : Int32), rv b148, rv b149, .unset, .unset, .unset, .unset] [(.ref b154), (.ref b154)])) rfl (by rw [hml]; rfl) (Steps.refl _) (a := b154) (argsL := []) (rest := [(.ref b154)]) (lenOf pd_0 rfl) rfl (by show 2 * 0 + _ ≤ _; exact Nat.le_of_eq rfl) (hb hby at_76) (fun _ _ => ⟨rfl, e154, (by decide : 3 + 6 ≤ _), (by decide : 10 + 17 ≤ _)⟩)
      dsimp only [Pt.U, Pt.locs, Pt.cells, Pt.slots] at X155 l155 y155 z155 st155 hQ155
      subst l155 y155 z155
      obtain ⟨rfl, Nq155, Kq155, Eq155, ⟨ul155, Fl155⟩, ⟨uh155, Fh155⟩⟩ := hQ155
      replace S_DEFAULTCAPACITY_EMPTY_ELEMENTDATA := own_sta_keep S_DEFAULTCAPACITY_EMPTY_ELEMENTDATA E_b154 Kq155
      replace E_b148 := E_b148.keep Kq155
      replace V_b148 := V_b148.keep Kq155 (ninS ne_b148_b154 nin0)
      replace E_b149 := E_b149.keep Kq155
      replace V_b149 := V_b149.keep Kq155 (ninS ne_b149_b154 nin0)
      replace E_b154 := E_b154.keep Kq155
      clear F_names_b154
      clear F_types_b154
      clear F_owners_b154
      clear F_slots_b154
      clear F_low_b154
      clear F_high_b154
      have Zz155 := Nat.le_trans Zz154 Kq155.1
      have Kk155 := Kk154.trans Kq155 (allS (Or.inr sz_b154) all0)
      have E_b154 := Eq155
      have F_low_b154 := Fl155
      have F_high_b154 := Fh155
      have N155 := Fr.app N153 Nq155
      refine go (fun t kt => st155.trans kt) ?_
      show Go p e below _ m T155 79 #[iv p0, iv p1, iv p2, iv p3, iv p4, iv p5, iv (2 : Int32), iv (2 : Int32), rv b148, rv b149, .unset, .unset, .unset, .unset] [(.ref b154)]
      refine go (fun t kt => XS.astore X155.here hx rfl (hb hby at_79) rfl rfl (l' := #[iv p0, iv p1, iv p2, iv p3, iv p4, iv p5, iv (2 : Int32), iv (2 : Int32), rv b148, rv b149, rv b154, .unset, .unset, .unset]) rfl kt) ?_
      show Go p e below _ m T155 81 #[iv p0, iv p1, iv p2, iv p3, iv p4, iv p5, iv (2 : Int32), iv (2 : Int32), rv b148, rv b149, rv b154, .unset, .unset, .unset] []
      refine go (fun t kt => XS.aload X155.here hx rfl (hb hby at_81) rfl rfl kt) ?_
      show Go p e below _ m T155 83 #[iv p0, iv p1, iv p2, iv p3, iv p4, iv p5, iv (2 : Int32), iv (2 : Int32), rv b148, rv b149, rv b154, .unset, .unset, .unset] [(.ref b154)]
      refine go (fun t kt => XS.aload X155.here hx rfl (hb hby at_83) rfl rfl kt) ?_
      show Go p e below _ m T155 85 #[iv p0, iv p1, iv p2, iv p3, iv p4, iv p5, iv (2 : Int32), iv (2 : Int32), rv b148, rv b149, rv b154, .unset, .unset, .unset] [(.ref b149), (.ref b154)]
      refine go (fun t kt => XS.aload X155.here hx rfl (hb hby at_85) rfl rfl kt) ?_
      show Go p e below _ m T155 87 #[iv p0, iv p1, iv p2, iv p3, iv p4, iv p5, iv (2 : Int32), iv (2 : Int32), rv b148, rv b149, rv b154, .unset, .unset, .unset] [(.ref b148), (.ref b149), (.ref b154)]
      obtain ⟨cq156, kq156, q156a, q156b, q156c⟩ := isOf hZ rfl E_b154
      obtain ⟨_, _, ⟨T156, L156, k156, n156⟩, -, X156, ⟨Lc156, hQ156, l156, y156, z156⟩, st156⟩ := X155.virtualBack hx (y := (⟨"com/example/anytime_arena/anytimearena/io/VariableTable", "setRanges", "([I[I)V"⟩ : MethodName)) (z := (⟨"com/example/anytime_arena/anytimearena/io/VariableTable", "setRanges", "([I[I)V"⟩ : MethodName)) hown (mvT hZ (hw _ (List.mem_of_getElem? (i := 62) rfl))) (mvT hZ (hw _ (List.mem_of_getElem? (i := 63) rfl))) (notFace_of_selects (args := #[]) (mvT hZ (hw _ (List.mem_of_getElem? (i := 65) rfl)))) (mvT hZ (hw _ (List.mem_of_getElem? (i := 65) rfl))) (mvT hZ (hw _ (List.mem_of_getElem? (i := 64) rfl))) (by decide) (backOf (W := 0) (rm8 l Z a0 hw [] b154 b149 b148 ul155 uh155 k149 (2 : Int32) [(.int p1), (.int p3)] k148 (2 : Int32) [(.int p0), (.int p2)] T155.heap n0 Zz155 E_b154 F_low_b154 F_high_b154 E_b149 V_b149 E_b148 V_b148 (Ne.symm ne_b149_b154) (Ne.symm ne_b148_b154) g_b154 (by decide) (by decide)) hZ (hw _ (List.mem_of_getElem? (i := 66) rfl)) (hw _ (List.mem_of_getElem? (i := 3) rfl)) (by decide) (by decide)) q156a q156c (g := (mkF m 87 #[iv p0, iv p1, iv p2, iv p3, iv p4, iv p5, iv (2 : Int32), iv (2 : Int32), rv b148, rv b149, rv b154, .unset, .unset, .unset] [(.ref b148), (.ref b149), (.ref b154)])) rfl (by rw [hml]; rfl) (Steps.refl _) (argsL := [(.ref b149), (.ref b148)]) (rest := []) (lenOf pd_1 rfl) rfl (by show 2 * 0 + _ ≤ _; exact Nat.le_of_eq rfl) (hb hby at_87) (fun _ _ => ⟨rfl, rfl, (by decide : 9 + 2 ≤ _), (by decide : 27 + 4 ≤ _)⟩)
      dsimp only [Pt.U, Pt.locs, Pt.cells, Pt.slots] at X156 l156 y156 z156 st156 hQ156
      subst l156 y156 z156
      obtain ⟨rfl, Nq156, Kq156, Eq156, c156, d156, lc156, ld156, ne_c156_d156, Fl156, Fh156, Ec156, Vc156, Ed156, Vd156⟩ := hQ156
      have ne_b148_c156 : b148 ≠ c156 := Nat.ne_of_lt (Nat.lt_of_lt_of_le E_b148.lt lc156)
      have ne_b149_c156 : b149 ≠ c156 := Nat.ne_of_lt (Nat.lt_of_lt_of_le E_b149.lt lc156)
      have ne_b154_c156 : b154 ≠ c156 := Nat.ne_of_lt (Nat.lt_of_lt_of_le E_b154.lt lc156)
      have g_c156 : n0 ≤ c156 := Nat.le_trans Zz155 lc156
      have sz_c156 : h0.size ≤ c156 := Nat.le_trans Kk155.1 lc156
      have ne_b148_d156 : b148 ≠ d156 := Nat.ne_of_lt (Nat.lt_of_lt_of_le E_b148.lt ld156)
      have ne_b149_d156 : b149 ≠ d156 := Nat.ne_of_lt (Nat.lt_of_lt_of_le E_b149.lt ld156)
      have ne_b154_d156 : b154 ≠ d156 := Nat.ne_of_lt (Nat.lt_of_lt_of_le E_b154.lt ld156)
      have g_d156 : n0 ≤ d156 := Nat.le_trans Zz155 ld156
      have sz_d156 : h0.size ≤ d156 := Nat.le_trans Kk155.1 ld156
      replace S_DEFAULTCAPACITY_EMPTY_ELEMENTDATA := own_sta_keep S_DEFAULTCAPACITY_EMPTY_ELEMENTDATA E_b154 Kq156
      replace E_b148 := E_b148.keep Kq156
      replace V_b148 := V_b148.keep Kq156 (ninS ne_b148_b154 nin0)
      replace E_b149 := E_b149.keep Kq156
      replace V_b149 := V_b149.keep Kq156 (ninS ne_b149_b154 nin0)
      replace E_b154 := E_b154.keep Kq156
      clear F_low_b154
      clear F_high_b154
      have Zz156 := Nat.le_trans Zz155 Kq156.1
      have Kk156 := Kk155.trans Kq156 (allS (Or.inr sz_b154) all0)
      have E_b154 := Eq156
      have F_low_b154 := Fl156
      have F_high_b154 := Fh156
      have E_c156 := Ec156
      have V_c156 := Vc156
      have E_d156 := Ed156
      have V_d156 := Vd156
      have N156 := Fr.app N155 Nq156
      refine go (fun t kt => st156.trans kt) ?_
      show Go p e below _ m T156 90 #[iv p0, iv p1, iv p2, iv p3, iv p4, iv p5, iv (2 : Int32), iv (2 : Int32), rv b148, rv b149, rv b154, .unset, .unset, .unset] []
      refine go (fun t kt => XS.aload X156.here hx rfl (hb hby at_90) rfl rfl kt) ?_
      show Go p e below _ m T156 92 #[iv p0, iv p1, iv p2, iv p3, iv p4, iv p5, iv (2 : Int32), iv (2 : Int32), rv b148, rv b149, rv b154, .unset, .unset, .unset] [(.ref b154)]
      refine go (fun t kt => XS.aload X156.here hx rfl (hb hby at_92) rfl rfl kt) ?_
      show Go p e below _ m T156 94 #[iv p0, iv p1, iv p2, iv p3, iv p4, iv p5, iv (2 : Int32), iv (2 : Int32), rv b148, rv b149, rv b154, .unset, .unset, .unset] [(.ref b148), (.ref b154)]
      refine go (fun t kt => XS.aload X156.here hx rfl (hb hby at_94) rfl rfl kt) ?_
      show Go p e below _ m T156 96 #[iv p0, iv p1, iv p2, iv p3, iv p4, iv p5, iv (2 : Int32), iv (2 : Int32), rv b148, rv b149, rv b154, .unset, .unset, .unset] [(.ref b149), (.ref b148), (.ref b154)]
      obtain ⟨cq157, kq157, q157a, q157b, q157c⟩ := isOf hZ rfl E_b154
      obtain ⟨_, _, ⟨T157, L157, k157, n157⟩, -, X157, ⟨Lc157, hQ157, l157, y157, z157⟩, st157⟩ := X156.virtualBack hx (y := (⟨"com/example/anytime_arena/anytimearena/io/VariableTable", "setRanges", "([I[I)V"⟩ : MethodName)) (z := (⟨"com/example/anytime_arena/anytimearena/io/VariableTable", "setRanges", "([I[I)V"⟩ : MethodName)) hown (mvT hZ (hw _ (List.mem_of_getElem? (i := 62) rfl))) (mvT hZ (hw _ (List.mem_of_getElem? (i := 63) rfl))) (notFace_of_selects (args := #[]) (mvT hZ (hw _ (List.mem_of_getElem? (i := 65) rfl)))) (mvT hZ (hw _ (List.mem_of_getElem? (i := 65) rfl))) (mvT hZ (hw _ (List.mem_of_getElem? (i := 64) rfl))) (by decide) (backOf (W := 0) (rm8 l Z a0 hw [] b154 b148 b149 (.ref c156) (.ref d156) k148 (2 : Int32) [(.int p0), (.int p2)] k149 (2 : Int32) [(.int p1), (.int p3)] T156.heap n0 Zz156 E_b154 F_low_b154 F_high_b154 E_b148 V_b148 E_b149 V_b149 (Ne.symm ne_b148_b154) (Ne.symm ne_b149_b154) g_b154 (by decide) (by decide)) hZ (hw _ (List.mem_of_getElem? (i := 66) rfl)) (hw _ (List.mem_of_getElem? (i := 3) rfl)) (by decide) (by decide)) q157a q157c (g := (mkF m 96 #[iv p0, iv p1, iv p2, iv p3, iv p4, iv p5, iv (2 : Int32), iv (2 : Int32), rv b148, rv b149, rv b154, .unset, .unset, .unset] [(.ref b149), (.ref b148), (.ref b154)])) rfl (by rw [hml]; rfl) (Steps.refl _) (argsL := [(.ref b148), (.ref b149)]) (rest := []) (lenOf pd_1 rfl) rfl (by show 2 * 0 + _ ≤ _; exact Nat.le_of_eq rfl) (hb hby at_96) (fun _ _ => ⟨rfl, rfl, (by decide : 11 + 2 ≤ _), (by decide : 31 + 4 ≤ _)⟩)
      dsimp only [Pt.U, Pt.locs, Pt.cells, Pt.slots] at X157 l157 y157 z157 st157 hQ157
      subst l157 y157 z157
      obtain ⟨rfl, Nq157, Kq157, Eq157, c157, d157, lc157, ld157, ne_c157_d157, Fl157, Fh157, Ec157, Vc157, Ed157, Vd157⟩ := hQ157
      have ne_b148_c157 : b148 ≠ c157 := Nat.ne_of_lt (Nat.lt_of_lt_of_le E_b148.lt lc157)
      have ne_b149_c157 : b149 ≠ c157 := Nat.ne_of_lt (Nat.lt_of_lt_of_le E_b149.lt lc157)
      have ne_b154_c157 : b154 ≠ c157 := Nat.ne_of_lt (Nat.lt_of_lt_of_le E_b154.lt lc157)
      have ne_c156_c157 : c156 ≠ c157 := Nat.ne_of_lt (Nat.lt_of_lt_of_le E_c156.lt lc157)
      have ne_d156_c157 : d156 ≠ c157 := Nat.ne_of_lt (Nat.lt_of_lt_of_le E_d156.lt lc157)
      have g_c157 : n0 ≤ c157 := Nat.le_trans Zz156 lc157
      have sz_c157 : h0.size ≤ c157 := Nat.le_trans Kk156.1 lc157
      have ne_b148_d157 : b148 ≠ d157 := Nat.ne_of_lt (Nat.lt_of_lt_of_le E_b148.lt ld157)
      have ne_b149_d157 : b149 ≠ d157 := Nat.ne_of_lt (Nat.lt_of_lt_of_le E_b149.lt ld157)
      have ne_b154_d157 : b154 ≠ d157 := Nat.ne_of_lt (Nat.lt_of_lt_of_le E_b154.lt ld157)
      have ne_c156_d157 : c156 ≠ d157 := Nat.ne_of_lt (Nat.lt_of_lt_of_le E_c156.lt ld157)
      have ne_d156_d157 : d156 ≠ d157 := Nat.ne_of_lt (Nat.lt_of_lt_of_le E_d156.lt ld157)
      have g_d157 : n0 ≤ d157 := Nat.le_trans Zz156 ld157
      have sz_d157 : h0.size ≤ d157 := Nat.le_trans Kk156.1 ld157
      replace S_DEFAULTCAPACITY_EMPTY_ELEMENTDATA := own_sta_keep S_DEFAULTCAPACITY_EMPTY_ELEMENTDATA E_b154 Kq157
      replace E_b148 := E_b148.keep Kq157
      replace V_b148 := V_b148.keep Kq157 (ninS ne_b148_b154 nin0)
      replace E_b149 := E_b149.keep Kq157
      replace V_b149 := V_b149.keep Kq157 (ninS ne_b149_b154 nin0)
      replace E_b154 := E_b154.keep Kq157
      clear F_low_b154
      clear F_high_b154
      replace E_c156 := E_c156.keep Kq157
      replace V_c156 := V_c156.keep Kq157 (ninS (Ne.symm ne_b154_c156) nin0)
      replace E_d156 := E_d156.keep Kq157
      replace V_d156 := V_d156.keep Kq157 (ninS (Ne.symm ne_b154_d156) nin0)
      have Zz157 := Nat.le_trans Zz156 Kq157.1
      have Kk157 := Kk156.trans Kq157 (allS (Or.inr sz_b154) all0)
      have E_b154 := Eq157
      have F_low_b154 := Fl157
      have F_high_b154 := Fh157
      have E_c157 := Ec157
      have V_c157 := Vc157
      have E_d157 := Ed157
      have V_d157 := Vd157
      have N157 := Fr.app N156 Nq157
      refine go (fun t kt => st157.trans kt) ?_
      show Go p e below _ m T157 99 #[iv p0, iv p1, iv p2, iv p3, iv p4, iv p5, iv (2 : Int32), iv (2 : Int32), rv b148, rv b149, rv b154, .unset, .unset, .unset] []
      refine go (fun t kt => XS.iload X157.here hx rfl (hb hby at_99) rfl kt) ?_
      show Go p e below _ m T157 101 #[iv p0, iv p1, iv p2, iv p3, iv p4, iv p5, iv (2 : Int32), iv (2 : Int32), rv b148, rv b149, rv b154, .unset, .unset, .unset] [(.int (2 : Int32))]
      refine go (fun t kt => XS.ifNo X157.here hx rfl (hb hby at_101) rfl ((if0 _ _).trans (tlt (by decide : ((0 : Int32) < (2 : Int32)))).2.2.2) kt) ?_
      show Go p e below _ m T157 104 #[iv p0, iv p1, iv p2, iv p3, iv p4, iv p5, iv (2 : Int32), iv (2 : Int32), rv b148, rv b149, rv b154, .unset, .unset, .unset] []
      refine go (fun t kt => XS.aload X157.here hx rfl (hb hby at_104) rfl rfl kt) ?_
      show Go p e below _ m T157 106 #[iv p0, iv p1, iv p2, iv p3, iv p4, iv p5, iv (2 : Int32), iv (2 : Int32), rv b148, rv b149, rv b154, .unset, .unset, .unset] [(.ref b148)]
      refine go (fun t kt => XS.iconst X157.here hx rfl (hb hby at_106) kt) ?_
      show Go p e below _ m T157 107 #[iv p0, iv p1, iv p2, iv p3, iv p4, iv p5, iv (2 : Int32), iv (2 : Int32), rv b148, rv b149, rv b154, .unset, .unset, .unset] [(.int (0 : Int32)), (.ref b148)]
      refine go (fun t kt => XS.iloadN X157.here hx rfl (hb hby at_107) rfl kt) ?_
      show Go p e below _ m T157 108 #[iv p0, iv p1, iv p2, iv p3, iv p4, iv p5, iv (2 : Int32), iv (2 : Int32), rv b148, rv b149, rv b154, .unset, .unset, .unset] [(.int p0), (.int (0 : Int32)), (.ref b148)]
      refine go (fun t kt => XS.iconst X157.here hx rfl (hb hby at_108) kt) ?_
      show Go p e below _ m T157 109 #[iv p0, iv p1, iv p2, iv p3, iv p4, iv p5, iv (2 : Int32), iv (2 : Int32), rv b148, rv b149, rv b154, .unset, .unset, .unset] [(.int (-1 : Int32)), (.int p0), (.int (0 : Int32)), (.ref b148)]
      refine go (fun t kt => XS.ixor X157.here hx rfl (hb hby at_109) rfl kt) ?_
      show Go p e below _ m T157 110 #[iv p0, iv p1, iv p2, iv p3, iv p4, iv p5, iv (2 : Int32), iv (2 : Int32), rv b148, rv b149, rv b154, .unset, .unset, .unset] [(.int (p0 ^^^ (-1 : Int32))), (.int (0 : Int32)), (.ref b148)]
      obtain ⟨cl158, Ar158, q158, S158, M158, H158, G158⟩ := V_b148
      have hin158 : ¬ ((0 : Int32) < 0 ∨ cl158.slots.size ≤ ((0 : Int32)).toNatClampNeg) := inb_of S158 ⟨by decide, by decide⟩
      obtain ⟨T158, h158, X158, e158, W158, st158⟩ := stI X157 hx hZ rfl Ar158 (j := (0 : Int32)) hin158 (g := (mkF m 110 #[iv p0, iv p1, iv p2, iv p3, iv p4, iv p5, iv (2 : Int32), iv (2 : Int32), rv b148, rv b149, rv b154, .unset, .unset, .unset] [(.int (p0 ^^^ (-1 : Int32))), (.int (0 : Int32)), (.ref b148)])) rfl rfl (hb hby at_110)
      have V_b148 : Arv Z h158 b148 k148 .int (2 : Int32) [(.int (p0 ^^^ (-1 : Int32))), (.int p2)] (.int (0 : Int32)) := Arv.set Ar158 q158 S158 M158 H158 G158 rfl W158 0 rfl (Nat.le_of_ble_eq_true rfl)
      replace S_DEFAULTCAPACITY_EMPTY_ELEMENTDATA := S_DEFAULTCAPACITY_EMPTY_ELEMENTDATA.wr W158
      replace E_b148 := E_b148.wr W158
      replace E_b149 := E_b149.wr W158
      replace V_b149 := V_b149.other W158 (Ne.symm ne_b148_b149)
      replace E_b154 := E_b154.wr W158
      replace E_c156 := E_c156.wr W158
      replace V_c156 := V_c156.other W158 (Ne.symm ne_b148_c156)
      replace E_d156 := E_d156.wr W158
      replace V_d156 := V_d156.other W158 (Ne.symm ne_b148_d156)
      replace F_low_b154 := F_low_b154.other W158 (Or.inl (Ne.symm ne_b148_b154))
      replace F_high_b154 := F_high_b154.other W158 (Or.inl (Ne.symm ne_b148_b154))
      replace E_c157 := E_c157.wr W158
      replace V_c157 := V_c157.other W158 (Ne.symm ne_b148_c157)
      replace E_d157 := E_d157.wr W158
      replace V_d157 := V_d157.other W158 (Ne.symm ne_b148_d157)
      have Zz158 := Nat.le_trans Zz157 (Keep.of_wr W158).1
      have Kk158 := Kk157.wr W158 (Or.inr sz_b148)
      have N158 := Fr.snoc X158 N157 g_b148
      refine go st158 ?_
      show Go p e below _ m T158 111 #[iv p0, iv p1, iv p2, iv p3, iv p4, iv p5, iv (2 : Int32), iv (2 : Int32), rv b148, rv b149, rv b154, .unset, .unset, .unset] []
      refine go (fun t kt => XS.iload X158.here hx rfl (hb hby at_111) rfl kt) ?_
      show Go p e below _ m T158 113 #[iv p0, iv p1, iv p2, iv p3, iv p4, iv p5, iv (2 : Int32), iv (2 : Int32), rv b148, rv b149, rv b154, .unset, .unset, .unset] [(.int (2 : Int32))]
      refine go (fun t kt => XS.iconst X158.here hx rfl (hb hby at_113) kt) ?_
      show Go p e below _ m T158 114 #[iv p0, iv p1, iv p2, iv p3, iv p4, iv p5, iv (2 : Int32), iv (2 : Int32), rv b148, rv b149, rv b154, .unset, .unset, .unset] [(.int (1 : Int32)), (.int (2 : Int32))]
      refine go (fun t kt => XS.icmpNo X158.here hx rfl (hb hby at_114) rfl (tlt (by decide : ((1 : Int32) < (2 : Int32)))).2.2.2 kt) ?_
      show Go p e below _ m T158 117 #[iv p0, iv p1, iv p2, iv p3, iv p4, iv p5, iv (2 : Int32), iv (2 : Int32), rv b148, rv b149, rv b154, .unset, .unset, .unset] []
      refine go (fun t kt => XS.aload X158.here hx rfl (hb hby at_117) rfl rfl kt) ?_
      show Go p e below _ m T158 119 #[iv p0, iv p1, iv p2, iv p3, iv p4, iv p5, iv (2 : Int32), iv (2 : Int32), rv b148, rv b149, rv b154, .unset, .unset, .unset] [(.ref b148)]
      refine go (fun t kt => XS.iconst X158.here hx rfl (hb hby at_119) kt) ?_
      show Go p e below _ m T158 120 #[iv p0, iv p1, iv p2, iv p3, iv p4, iv p5, iv (2 : Int32), iv (2 : Int32), rv b148, rv b149, rv b154, .unset, .unset, .unset] [(.int (1 : Int32)), (.ref b148)]
      refine go (fun t kt => XS.iloadN X158.here hx rfl (hb hby at_120) rfl kt) ?_
      show Go p e below _ m T158 121 #[iv p0, iv p1, iv p2, iv p3, iv p4, iv p5, iv (2 : Int32), iv (2 : Int32), rv b148, rv b149, rv b154, .unset, .unset, .unset] [(.int p2), (.int (1 : Int32)), (.ref b148)]
      refine go (fun t kt => XS.iconst X158.here hx rfl (hb hby at_121) kt) ?_
      show Go p e below _ m T158 122 #[iv p0, iv p1, iv p2, iv p3, iv p4, iv p5, iv (2 : Int32), iv (2 : Int32), rv b148, rv b149, rv b154, .unset, .unset, .unset] [(.int (-1 : Int32)), (.int p2), (.int (1 : Int32)), (.ref b148)]
      refine go (fun t kt => XS.ixor X158.here hx rfl (hb hby at_122) rfl kt) ?_
      show Go p e below _ m T158 123 #[iv p0, iv p1, iv p2, iv p3, iv p4, iv p5, iv (2 : Int32), iv (2 : Int32), rv b148, rv b149, rv b154, .unset, .unset, .unset] [(.int (p2 ^^^ (-1 : Int32))), (.int (1 : Int32)), (.ref b148)]
      obtain ⟨cl159, Ar159, q159, S159, M159, H159, G159⟩ := V_b148
      have hin159 : ¬ ((1 : Int32) < 0 ∨ cl159.slots.size ≤ ((1 : Int32)).toNatClampNeg) := inb_of S159 ⟨by decide, by decide⟩
      obtain ⟨T159, h159, X159, e159, W159, st159⟩ := stI X158 hx hZ e158 Ar159 (j := (1 : Int32)) hin159 (g := (mkF m 123 #[iv p0, iv p1, iv p2, iv p3, iv p4, iv p5, iv (2 : Int32), iv (2 : Int32), rv b148, rv b149, rv b154, .unset, .unset, .unset] [(.int (p2 ^^^ (-1 : Int32))), (.int (1 : Int32)), (.ref b148)])) rfl rfl (hb hby at_123)
      have V_b148 : Arv Z h159 b148 k148 .int (2 : Int32) [(.int (p0 ^^^ (-1 : Int32))), (.int (p2 ^^^ (-1 : Int32)))] (.int (0 : Int32)) := Arv.set Ar159 q159 S159 M159 H159 G159 rfl W159 1 rfl (Nat.le_of_ble_eq_true rfl)
      replace S_DEFAULTCAPACITY_EMPTY_ELEMENTDATA := S_DEFAULTCAPACITY_EMPTY_ELEMENTDATA.wr W159
      replace E_b148 := E_b148.wr W159
      replace E_b149 := E_b149.wr W159
      replace V_b149 := V_b149.other W159 (Ne.symm ne_b148_b149)
      replace E_b154 := E_b154.wr W159
      replace E_c156 := E_c156.wr W159
      replace V_c156 := V_c156.other W159 (Ne.symm ne_b148_c156)
      replace E_d156 := E_d156.wr W159
      replace V_d156 := V_d156.other W159 (Ne.symm ne_b148_d156)
      replace F_low_b154 := F_low_b154.other W159 (Or.inl (Ne.symm ne_b148_b154))
      replace F_high_b154 := F_high_b154.other W159 (Or.inl (Ne.symm ne_b148_b154))
      replace E_c157 := E_c157.wr W159
      replace V_c157 := V_c157.other W159 (Ne.symm ne_b148_c157)
      replace E_d157 := E_d157.wr W159
      replace V_d157 := V_d157.other W159 (Ne.symm ne_b148_d157)
      have Zz159 := Nat.le_trans Zz158 (Keep.of_wr W159).1
      have Kk159 := Kk158.wr W159 (Or.inr sz_b148)
      have N159 := Fr.snoc X159 N158 g_b148
      refine go st159 ?_
      show Go p e below _ m T159 124 #[iv p0, iv p1, iv p2, iv p3, iv p4, iv p5, iv (2 : Int32), iv (2 : Int32), rv b148, rv b149, rv b154, .unset, .unset, .unset] []
      refine go (fun t kt => XS.iload X159.here hx rfl (hb hby at_124) rfl kt) ?_
      show Go p e below _ m T159 126 #[iv p0, iv p1, iv p2, iv p3, iv p4, iv p5, iv (2 : Int32), iv (2 : Int32), rv b148, rv b149, rv b154, .unset, .unset, .unset] [(.int (2 : Int32))]
      refine go (fun t kt => XS.ifNo X159.here hx rfl (hb hby at_126) rfl ((if0 _ _).trans (tlt (by decide : ((0 : Int32) < (2 : Int32)))).2.2.2) kt) ?_
      show Go p e below _ m T159 129 #[iv p0, iv p1, iv p2, iv p3, iv p4, iv p5, iv (2 : Int32), iv (2 : Int32), rv b148, rv b149, rv b154, .unset, .unset, .unset] []
      refine go (fun t kt => XS.aload X159.here hx rfl (hb hby at_129) rfl rfl kt) ?_
      show Go p e below _ m T159 131 #[iv p0, iv p1, iv p2, iv p3, iv p4, iv p5, iv (2 : Int32), iv (2 : Int32), rv b148, rv b149, rv b154, .unset, .unset, .unset] [(.ref b149)]
      refine go (fun t kt => XS.iconst X159.here hx rfl (hb hby at_131) kt) ?_
      show Go p e below _ m T159 132 #[iv p0, iv p1, iv p2, iv p3, iv p4, iv p5, iv (2 : Int32), iv (2 : Int32), rv b148, rv b149, rv b154, .unset, .unset, .unset] [(.int (0 : Int32)), (.ref b149)]
      refine go (fun t kt => XS.iloadN X159.here hx rfl (hb hby at_132) rfl kt) ?_
      show Go p e below _ m T159 133 #[iv p0, iv p1, iv p2, iv p3, iv p4, iv p5, iv (2 : Int32), iv (2 : Int32), rv b148, rv b149, rv b154, .unset, .unset, .unset] [(.int p1), (.int (0 : Int32)), (.ref b149)]
      refine go (fun t kt => XS.iconst X159.here hx rfl (hb hby at_133) kt) ?_
      show Go p e below _ m T159 134 #[iv p0, iv p1, iv p2, iv p3, iv p4, iv p5, iv (2 : Int32), iv (2 : Int32), rv b148, rv b149, rv b154, .unset, .unset, .unset] [(.int (-1 : Int32)), (.int p1), (.int (0 : Int32)), (.ref b149)]
      refine go (fun t kt => XS.ixor X159.here hx rfl (hb hby at_134) rfl kt) ?_
      show Go p e below _ m T159 135 #[iv p0, iv p1, iv p2, iv p3, iv p4, iv p5, iv (2 : Int32), iv (2 : Int32), rv b148, rv b149, rv b154, .unset, .unset, .unset] [(.int (p1 ^^^ (-1 : Int32))), (.int (0 : Int32)), (.ref b149)]
      obtain ⟨cl160, Ar160, q160, S160, M160, H160, G160⟩ := V_b149
      have hin160 : ¬ ((0 : Int32) < 0 ∨ cl160.slots.size ≤ ((0 : Int32)).toNatClampNeg) := inb_of S160 ⟨by decide, by decide⟩
      obtain ⟨T160, h160, X160, e160, W160, st160⟩ := stI X159 hx hZ e159 Ar160 (j := (0 : Int32)) hin160 (g := (mkF m 135 #[iv p0, iv p1, iv p2, iv p3, iv p4, iv p5, iv (2 : Int32), iv (2 : Int32), rv b148, rv b149, rv b154, .unset, .unset, .unset] [(.int (p1 ^^^ (-1 : Int32))), (.int (0 : Int32)), (.ref b149)])) rfl rfl (hb hby at_135)
      have V_b149 : Arv Z h160 b149 k149 .int (2 : Int32) [(.int (p1 ^^^ (-1 : Int32))), (.int p3)] (.int (0 : Int32)) := Arv.set Ar160 q160 S160 M160 H160 G160 rfl W160 0 rfl (Nat.le_of_ble_eq_true rfl)
      replace S_DEFAULTCAPACITY_EMPTY_ELEMENTDATA := S_DEFAULTCAPACITY_EMPTY_ELEMENTDATA.wr W160
      replace E_b148 := E_b148.wr W160
      replace V_b148 := V_b148.other W160 ne_b148_b149
      replace E_b149 := E_b149.wr W160
      replace E_b154 := E_b154.wr W160
      replace E_c156 := E_c156.wr W160
      replace V_c156 := V_c156.other W160 (Ne.symm ne_b149_c156)
      replace E_d156 := E_d156.wr W160
      replace V_d156 := V_d156.other W160 (Ne.symm ne_b149_d156)
      replace F_low_b154 := F_low_b154.other W160 (Or.inl (Ne.symm ne_b149_b154))
      replace F_high_b154 := F_high_b154.other W160 (Or.inl (Ne.symm ne_b149_b154))
      replace E_c157 := E_c157.wr W160
      replace V_c157 := V_c157.other W160 (Ne.symm ne_b149_c157)
      replace E_d157 := E_d157.wr W160
      replace V_d157 := V_d157.other W160 (Ne.symm ne_b149_d157)
      have Zz160 := Nat.le_trans Zz159 (Keep.of_wr W160).1
      have Kk160 := Kk159.wr W160 (Or.inr sz_b149)
      have N160 := Fr.snoc X160 N159 g_b149
      refine go st160 ?_
      show Go p e below _ m T160 136 #[iv p0, iv p1, iv p2, iv p3, iv p4, iv p5, iv (2 : Int32), iv (2 : Int32), rv b148, rv b149, rv b154, .unset, .unset, .unset] []
      refine go (fun t kt => XS.iload X160.here hx rfl (hb hby at_136) rfl kt) ?_
      show Go p e below _ m T160 138 #[iv p0, iv p1, iv p2, iv p3, iv p4, iv p5, iv (2 : Int32), iv (2 : Int32), rv b148, rv b149, rv b154, .unset, .unset, .unset] [(.int (2 : Int32))]
      refine go (fun t kt => XS.iconst X160.here hx rfl (hb hby at_138) kt) ?_
      show Go p e below _ m T160 139 #[iv p0, iv p1, iv p2, iv p3, iv p4, iv p5, iv (2 : Int32), iv (2 : Int32), rv b148, rv b149, rv b154, .unset, .unset, .unset] [(.int (1 : Int32)), (.int (2 : Int32))]
      refine go (fun t kt => XS.icmpNo X160.here hx rfl (hb hby at_139) rfl (tlt (by decide : ((1 : Int32) < (2 : Int32)))).2.2.2 kt) ?_
      show Go p e below _ m T160 142 #[iv p0, iv p1, iv p2, iv p3, iv p4, iv p5, iv (2 : Int32), iv (2 : Int32), rv b148, rv b149, rv b154, .unset, .unset, .unset] []
      refine go (fun t kt => XS.aload X160.here hx rfl (hb hby at_142) rfl rfl kt) ?_
      show Go p e below _ m T160 144 #[iv p0, iv p1, iv p2, iv p3, iv p4, iv p5, iv (2 : Int32), iv (2 : Int32), rv b148, rv b149, rv b154, .unset, .unset, .unset] [(.ref b149)]
      refine go (fun t kt => XS.iconst X160.here hx rfl (hb hby at_144) kt) ?_
      show Go p e below _ m T160 145 #[iv p0, iv p1, iv p2, iv p3, iv p4, iv p5, iv (2 : Int32), iv (2 : Int32), rv b148, rv b149, rv b154, .unset, .unset, .unset] [(.int (1 : Int32)), (.ref b149)]
      refine go (fun t kt => XS.iloadN X160.here hx rfl (hb hby at_145) rfl kt) ?_
      show Go p e below _ m T160 146 #[iv p0, iv p1, iv p2, iv p3, iv p4, iv p5, iv (2 : Int32), iv (2 : Int32), rv b148, rv b149, rv b154, .unset, .unset, .unset] [(.int p3), (.int (1 : Int32)), (.ref b149)]
      refine go (fun t kt => XS.iconst X160.here hx rfl (hb hby at_146) kt) ?_
      show Go p e below _ m T160 147 #[iv p0, iv p1, iv p2, iv p3, iv p4, iv p5, iv (2 : Int32), iv (2 : Int32), rv b148, rv b149, rv b154, .unset, .unset, .unset] [(.int (-1 : Int32)), (.int p3), (.int (1 : Int32)), (.ref b149)]
      refine go (fun t kt => XS.ixor X160.here hx rfl (hb hby at_147) rfl kt) ?_
      show Go p e below _ m T160 148 #[iv p0, iv p1, iv p2, iv p3, iv p4, iv p5, iv (2 : Int32), iv (2 : Int32), rv b148, rv b149, rv b154, .unset, .unset, .unset] [(.int (p3 ^^^ (-1 : Int32))), (.int (1 : Int32)), (.ref b149)]
      obtain ⟨cl161, Ar161, q161, S161, M161, H161, G161⟩ := V_b149
      have hin161 : ¬ ((1 : Int32) < 0 ∨ cl161.slots.size ≤ ((1 : Int32)).toNatClampNeg) := inb_of S161 ⟨by decide, by decide⟩
      obtain ⟨T161, h161, X161, e161, W161, st161⟩ := stI X160 hx hZ e160 Ar161 (j := (1 : Int32)) hin161 (g := (mkF m 148 #[iv p0, iv p1, iv p2, iv p3, iv p4, iv p5, iv (2 : Int32), iv (2 : Int32), rv b148, rv b149, rv b154, .unset, .unset, .unset] [(.int (p3 ^^^ (-1 : Int32))), (.int (1 : Int32)), (.ref b149)])) rfl rfl (hb hby at_148)
      have V_b149 : Arv Z h161 b149 k149 .int (2 : Int32) [(.int (p1 ^^^ (-1 : Int32))), (.int (p3 ^^^ (-1 : Int32)))] (.int (0 : Int32)) := Arv.set Ar161 q161 S161 M161 H161 G161 rfl W161 1 rfl (Nat.le_of_ble_eq_true rfl)
      replace S_DEFAULTCAPACITY_EMPTY_ELEMENTDATA := S_DEFAULTCAPACITY_EMPTY_ELEMENTDATA.wr W161
      replace E_b148 := E_b148.wr W161
      replace V_b148 := V_b148.other W161 ne_b148_b149
      replace E_b149 := E_b149.wr W161
      replace E_b154 := E_b154.wr W161
      replace E_c156 := E_c156.wr W161
      replace V_c156 := V_c156.other W161 (Ne.symm ne_b149_c156)
      replace E_d156 := E_d156.wr W161
      replace V_d156 := V_d156.other W161 (Ne.symm ne_b149_d156)
      replace F_low_b154 := F_low_b154.other W161 (Or.inl (Ne.symm ne_b149_b154))
      replace F_high_b154 := F_high_b154.other W161 (Or.inl (Ne.symm ne_b149_b154))
      replace E_c157 := E_c157.wr W161
      replace V_c157 := V_c157.other W161 (Ne.symm ne_b149_c157)
      replace E_d157 := E_d157.wr W161
      replace V_d157 := V_d157.other W161 (Ne.symm ne_b149_d157)
      have Zz161 := Nat.le_trans Zz160 (Keep.of_wr W161).1
      have Kk161 := Kk160.wr W161 (Or.inr sz_b149)
      have N161 := Fr.snoc X161 N160 g_b149
      refine go st161 ?_
      show Go p e below _ m T161 149 #[iv p0, iv p1, iv p2, iv p3, iv p4, iv p5, iv (2 : Int32), iv (2 : Int32), rv b148, rv b149, rv b154, .unset, .unset, .unset] []
      refine go (fun t kt => XS.aload X161.here hx rfl (hb hby at_149) rfl rfl kt) ?_
      show Go p e below _ m T161 151 #[iv p0, iv p1, iv p2, iv p3, iv p4, iv p5, iv (2 : Int32), iv (2 : Int32), rv b148, rv b149, rv b154, .unset, .unset, .unset] [(.ref b154)]
      obtain ⟨cq162, kq162, q162a, q162b, q162c⟩ := isOf hZ e161 E_b154
      obtain ⟨_, _, ⟨T162, L162, k162, n162⟩, -, X162, ⟨Lc162, hQ162, l162, y162, z162⟩, st162⟩ := X161.virtualBack hx (y := (⟨"com/example/anytime_arena/anytimearena/io/VariableTable", "low", "()[I"⟩ : MethodName)) (z := (⟨"com/example/anytime_arena/anytimearena/io/VariableTable", "low", "()[I"⟩ : MethodName)) hown (mvT hZ (hw _ (List.mem_of_getElem? (i := 76) rfl))) (mvT hZ (hw _ (List.mem_of_getElem? (i := 77) rfl))) (notFace_of_selects (args := #[]) (mvT hZ (hw _ (List.mem_of_getElem? (i := 79) rfl)))) (mvT hZ (hw _ (List.mem_of_getElem? (i := 79) rfl))) (mvT hZ (hw _ (List.mem_of_getElem? (i := 78) rfl))) (by decide) (backOf (W := 0) (rm9 l Z a0 hw [] b154 c157 k148 (2 : Int32) [(.int p0), (.int p2)] h161 n0 Zz161 F_low_b154 E_c157 V_c157 (by decide)) hZ (hw _ (List.mem_of_getElem? (i := 80) rfl)) (hw _ (List.mem_of_getElem? (i := 3) rfl)) (by decide) (by decide)) q162a q162c (g := (mkF m 151 #[iv p0, iv p1, iv p2, iv p3, iv p4, iv p5, iv (2 : Int32), iv (2 : Int32), rv b148, rv b149, rv b154, .unset, .unset, .unset] [(.ref b154)])) rfl (by rw [hml]; rfl) (Steps.refl _) (argsL := []) (rest := []) (lenOf pd_2 rfl) rfl (by show 2 * 0 + _ ≤ _; exact Nat.le_of_eq rfl) (hb hby at_151) (fun _ _ => ⟨rfl, e161, (by decide : 13 + 1 ≤ _), (by decide : 35 + 2 ≤ _)⟩)
      dsimp only [Pt.U, Pt.locs, Pt.cells, Pt.slots] at X162 l162 y162 z162 st162 hQ162
      subst l162 y162 z162
      obtain ⟨b162, g162⟩ : ∃ z, z = h161.size := ⟨_, rfl⟩
      have ne_b148_b162 : b148 ≠ b162 := Nat.ne_of_lt (Nat.lt_of_lt_of_le E_b148.lt (Nat.le_of_eq g162.symm))
      have ne_b149_b162 : b149 ≠ b162 := Nat.ne_of_lt (Nat.lt_of_lt_of_le E_b149.lt (Nat.le_of_eq g162.symm))
      have ne_b154_b162 : b154 ≠ b162 := Nat.ne_of_lt (Nat.lt_of_lt_of_le E_b154.lt (Nat.le_of_eq g162.symm))
      have ne_c156_b162 : c156 ≠ b162 := Nat.ne_of_lt (Nat.lt_of_lt_of_le E_c156.lt (Nat.le_of_eq g162.symm))
      have ne_d156_b162 : d156 ≠ b162 := Nat.ne_of_lt (Nat.lt_of_lt_of_le E_d156.lt (Nat.le_of_eq g162.symm))
      have ne_c157_b162 : c157 ≠ b162 := Nat.ne_of_lt (Nat.lt_of_lt_of_le E_c157.lt (Nat.le_of_eq g162.symm))
      have ne_d157_b162 : d157 ≠ b162 := Nat.ne_of_lt (Nat.lt_of_lt_of_le E_d157.lt (Nat.le_of_eq g162.symm))
      have g_b162 : n0 ≤ b162 := Nat.le_trans Zz161 (Nat.le_of_eq g162.symm)
      have sz_b162 : h0.size ≤ b162 := Nat.le_trans Kk161.1 (Nat.le_of_eq g162.symm)
      obtain ⟨rfl, Nq162, Kq162, Eq162, Vq162⟩ := hQ162
      rw [← g162] at Eq162 Vq162 st162
      clear S_DEFAULTCAPACITY_EMPTY_ELEMENTDATA
      replace E_b148 := E_b148.keep Kq162
      replace V_b148 := V_b148.keep Kq162 nin0
      replace E_b149 := E_b149.keep Kq162
      replace V_b149 := V_b149.keep Kq162 nin0
      replace E_b154 := E_b154.keep Kq162
      replace E_c156 := E_c156.keep Kq162
      replace V_c156 := V_c156.keep Kq162 nin0
      replace E_d156 := E_d156.keep Kq162
      replace V_d156 := V_d156.keep Kq162 nin0
      replace F_low_b154 := F_low_b154.keep Kq162 nin0
      replace F_high_b154 := F_high_b154.keep Kq162 nin0
      replace E_c157 := E_c157.keep Kq162
      replace V_c157 := V_c157.keep Kq162 nin0
      replace E_d157 := E_d157.keep Kq162
      replace V_d157 := V_d157.keep Kq162 nin0
      have Zz162 := Nat.le_trans Zz161 Kq162.1
      have Kk162 := Kk161.trans Kq162 all0
      have E_b162 := Eq162
      have V_b162 := Vq162
      have N162 := Fr.app N161 Nq162
      refine go (fun t kt => st162.trans kt) ?_
      show Go p e below _ m T162 154 #[iv p0, iv p1, iv p2, iv p3, iv p4, iv p5, iv (2 : Int32), iv (2 : Int32), rv b148, rv b149, rv b154, .unset, .unset, .unset] [(.ref b162)]
      refine go (fun t kt => XS.astore X162.here hx rfl (hb hby at_154) rfl rfl (l' := #[iv p0, iv p1, iv p2, iv p3, iv p4, iv p5, iv (2 : Int32), iv (2 : Int32), rv b148, rv b149, rv b154, rv b162, .unset, .unset]) rfl kt) ?_
      show Go p e below _ m T162 156 #[iv p0, iv p1, iv p2, iv p3, iv p4, iv p5, iv (2 : Int32), iv (2 : Int32), rv b148, rv b149, rv b154, rv b162, .unset, .unset] []
      refine go (fun t kt => XS.aload X162.here hx rfl (hb hby at_156) rfl rfl kt) ?_
      show Go p e below _ m T162 158 #[iv p0, iv p1, iv p2, iv p3, iv p4, iv p5, iv (2 : Int32), iv (2 : Int32), rv b148, rv b149, rv b154, rv b162, .unset, .unset] [(.ref b154)]
      obtain ⟨cq163, kq163, q163a, q163b, q163c⟩ := isOf hZ rfl E_b154
      obtain ⟨_, _, ⟨T163, L163, k163, n163⟩, -, X163, ⟨Lc163, hQ163, l163, y163, z163⟩, st163⟩ := X162.virtualBack hx (y := (⟨"com/example/anytime_arena/anytimearena/io/VariableTable", "high", "()[I"⟩ : MethodName)) (z := (⟨"com/example/anytime_arena/anytimearena/io/VariableTable", "high", "()[I"⟩ : MethodName)) hown (mvT hZ (hw _ (List.mem_of_getElem? (i := 81) rfl))) (mvT hZ (hw _ (List.mem_of_getElem? (i := 82) rfl))) (notFace_of_selects (args := #[]) (mvT hZ (hw _ (List.mem_of_getElem? (i := 84) rfl)))) (mvT hZ (hw _ (List.mem_of_getElem? (i := 84) rfl))) (mvT hZ (hw _ (List.mem_of_getElem? (i := 83) rfl))) (by decide) (backOf (W := 0) (rm10 l Z a0 hw [] b154 d157 k149 (2 : Int32) [(.int p1), (.int p3)] T162.heap n0 Zz162 F_high_b154 E_d157 V_d157 (by decide)) hZ (hw _ (List.mem_of_getElem? (i := 85) rfl)) (hw _ (List.mem_of_getElem? (i := 3) rfl)) (by decide) (by decide)) q163a q163c (g := (mkF m 158 #[iv p0, iv p1, iv p2, iv p3, iv p4, iv p5, iv (2 : Int32), iv (2 : Int32), rv b148, rv b149, rv b154, rv b162, .unset, .unset] [(.ref b154)])) rfl (by rw [hml]; rfl) (Steps.refl _) (argsL := []) (rest := []) (lenOf pd_2 rfl) rfl (by show 2 * 0 + _ ≤ _; exact Nat.le_of_eq rfl) (hb hby at_158) (fun _ _ => ⟨rfl, rfl, (by decide : 14 + 1 ≤ _), (by decide : 37 + 2 ≤ _)⟩)
      dsimp only [Pt.U, Pt.locs, Pt.cells, Pt.slots] at X163 l163 y163 z163 st163 hQ163
      subst l163 y163 z163
      obtain ⟨b163, g163⟩ : ∃ z, z = T162.heap.size := ⟨_, rfl⟩
      have ne_b148_b163 : b148 ≠ b163 := Nat.ne_of_lt (Nat.lt_of_lt_of_le E_b148.lt (Nat.le_of_eq g163.symm))
      have ne_b149_b163 : b149 ≠ b163 := Nat.ne_of_lt (Nat.lt_of_lt_of_le E_b149.lt (Nat.le_of_eq g163.symm))
      have ne_b154_b163 : b154 ≠ b163 := Nat.ne_of_lt (Nat.lt_of_lt_of_le E_b154.lt (Nat.le_of_eq g163.symm))
      have ne_c156_b163 : c156 ≠ b163 := Nat.ne_of_lt (Nat.lt_of_lt_of_le E_c156.lt (Nat.le_of_eq g163.symm))
      have ne_d156_b163 : d156 ≠ b163 := Nat.ne_of_lt (Nat.lt_of_lt_of_le E_d156.lt (Nat.le_of_eq g163.symm))
      have ne_c157_b163 : c157 ≠ b163 := Nat.ne_of_lt (Nat.lt_of_lt_of_le E_c157.lt (Nat.le_of_eq g163.symm))
      have ne_d157_b163 : d157 ≠ b163 := Nat.ne_of_lt (Nat.lt_of_lt_of_le E_d157.lt (Nat.le_of_eq g163.symm))
      have ne_b162_b163 : b162 ≠ b163 := Nat.ne_of_lt (Nat.lt_of_lt_of_le E_b162.lt (Nat.le_of_eq g163.symm))
      have g_b163 : n0 ≤ b163 := Nat.le_trans Zz162 (Nat.le_of_eq g163.symm)
      have sz_b163 : h0.size ≤ b163 := Nat.le_trans Kk162.1 (Nat.le_of_eq g163.symm)
      obtain ⟨rfl, Nq163, Kq163, Eq163, Vq163⟩ := hQ163
      rw [← g163] at Eq163 Vq163 st163
      replace E_b148 := E_b148.keep Kq163
      replace V_b148 := V_b148.keep Kq163 nin0
      replace E_b149 := E_b149.keep Kq163
      replace V_b149 := V_b149.keep Kq163 nin0
      replace E_b154 := E_b154.keep Kq163
      replace E_c156 := E_c156.keep Kq163
      replace V_c156 := V_c156.keep Kq163 nin0
      replace E_d156 := E_d156.keep Kq163
      replace V_d156 := V_d156.keep Kq163 nin0
      replace F_low_b154 := F_low_b154.keep Kq163 nin0
      replace F_high_b154 := F_high_b154.keep Kq163 nin0
      replace E_c157 := E_c157.keep Kq163
      replace V_c157 := V_c157.keep Kq163 nin0
      replace E_d157 := E_d157.keep Kq163
      replace V_d157 := V_d157.keep Kq163 nin0
      replace E_b162 := E_b162.keep Kq163
      replace V_b162 := V_b162.keep Kq163 nin0
      have Zz163 := Nat.le_trans Zz162 Kq163.1
      have Kk163 := Kk162.trans Kq163 all0
      have E_b163 := Eq163
      have V_b163 := Vq163
      have N163 := Fr.app N162 Nq163
      refine go (fun t kt => st163.trans kt) ?_
      show Go p e below _ m T163 161 #[iv p0, iv p1, iv p2, iv p3, iv p4, iv p5, iv (2 : Int32), iv (2 : Int32), rv b148, rv b149, rv b154, rv b162, .unset, .unset] [(.ref b163)]
      refine go (fun t kt => XS.astore X163.here hx rfl (hb hby at_161) rfl rfl (l' := #[iv p0, iv p1, iv p2, iv p3, iv p4, iv p5, iv (2 : Int32), iv (2 : Int32), rv b148, rv b149, rv b154, rv b162, rv b163, .unset]) rfl kt) ?_
      show Go p e below _ m T163 163 #[iv p0, iv p1, iv p2, iv p3, iv p4, iv p5, iv (2 : Int32), iv (2 : Int32), rv b148, rv b149, rv b154, rv b162, rv b163, .unset] []
      refine go (fun t kt => XS.aload X163.here hx rfl (hb hby at_163) rfl rfl kt) ?_
      show Go p e below _ m T163 165 #[iv p0, iv p1, iv p2, iv p3, iv p4, iv p5, iv (2 : Int32), iv (2 : Int32), rv b148, rv b149, rv b154, rv b162, rv b163, .unset] [(.ref b162)]
      obtain ⟨cl164, Ar164, q164, S164, M164, H164, G164⟩ := id V_b162
      refine go (X163.arraylength hx Ar164.1 (State.isArrayOf_alike hZ.alike Ar164.2.1) (g := (mkF m 165 #[iv p0, iv p1, iv p2, iv p3, iv p4, iv p5, iv (2 : Int32), iv (2 : Int32), rv b148, rv b149, rv b154, rv b162, rv b163, .unset] [(.ref b162)])) rfl rfl (hb hby at_165)) ?_
      rw [len_of S164 M164]
      show Go p e below _ m T163 166 #[iv p0, iv p1, iv p2, iv p3, iv p4, iv p5, iv (2 : Int32), iv (2 : Int32), rv b148, rv b149, rv b154, rv b162, rv b163, .unset] [(.int (2 : Int32))]
      refine go (fun t kt => XS.iload X163.here hx rfl (hb hby at_166) rfl kt) ?_
      show Go p e below _ m T163 168 #[iv p0, iv p1, iv p2, iv p3, iv p4, iv p5, iv (2 : Int32), iv (2 : Int32), rv b148, rv b149, rv b154, rv b162, rv b163, .unset] [(.int (2 : Int32)), (.int (2 : Int32))]
      refine go (fun t kt => XS.icmpNo X163.here hx rfl (hb hby at_168) rfl (teq (by decide : ((2 : Int32) = (2 : Int32)))).2 kt) ?_
      show Go p e below _ m T163 171 #[iv p0, iv p1, iv p2, iv p3, iv p4, iv p5, iv (2 : Int32), iv (2 : Int32), rv b148, rv b149, rv b154, rv b162, rv b163, .unset] []
      refine go (fun t kt => XS.aload X163.here hx rfl (hb hby at_171) rfl rfl kt) ?_
      show Go p e below _ m T163 173 #[iv p0, iv p1, iv p2, iv p3, iv p4, iv p5, iv (2 : Int32), iv (2 : Int32), rv b148, rv b149, rv b154, rv b162, rv b163, .unset] [(.ref b163)]
      obtain ⟨cl165, Ar165, q165, S165, M165, H165, G165⟩ := id V_b163
      refine go (X163.arraylength hx Ar165.1 (State.isArrayOf_alike hZ.alike Ar165.2.1) (g := (mkF m 173 #[iv p0, iv p1, iv p2, iv p3, iv p4, iv p5, iv (2 : Int32), iv (2 : Int32), rv b148, rv b149, rv b154, rv b162, rv b163, .unset] [(.ref b163)])) rfl rfl (hb hby at_173)) ?_
      rw [len_of S165 M165]
      show Go p e below _ m T163 174 #[iv p0, iv p1, iv p2, iv p3, iv p4, iv p5, iv (2 : Int32), iv (2 : Int32), rv b148, rv b149, rv b154, rv b162, rv b163, .unset] [(.int (2 : Int32))]
      refine go (fun t kt => XS.iload X163.here hx rfl (hb hby at_174) rfl kt) ?_
      show Go p e below _ m T163 176 #[iv p0, iv p1, iv p2, iv p3, iv p4, iv p5, iv (2 : Int32), iv (2 : Int32), rv b148, rv b149, rv b154, rv b162, rv b163, .unset] [(.int (2 : Int32)), (.int (2 : Int32))]
      refine go (fun t kt => XS.icmpYes X163.here hx rfl (pc0 := 176) (pc' := 181) rfl (hb hby at_176) rfl (teq (by decide : ((2 : Int32) = (2 : Int32)))).1 (by decide) (by decide) kt) ?_
      show Go p e below _ m T163 181 #[iv p0, iv p1, iv p2, iv p3, iv p4, iv p5, iv (2 : Int32), iv (2 : Int32), rv b148, rv b149, rv b154, rv b162, rv b163, .unset] []
      refine go (fun t kt => XS.iconst X163.here hx rfl (hb hby at_181) kt) ?_
      show Go p e below _ m T163 182 #[iv p0, iv p1, iv p2, iv p3, iv p4, iv p5, iv (2 : Int32), iv (2 : Int32), rv b148, rv b149, rv b154, rv b162, rv b163, .unset] [(.int (1 : Int32))]
      refine go (fun t kt => XS.istore X163.here hx rfl (hb hby at_182) rfl (l' := #[iv p0, iv p1, iv p2, iv p3, iv p4, iv p5, iv (2 : Int32), iv (2 : Int32), rv b148, rv b149, rv b154, rv b162, rv b163, iv (1 : Int32)]) rfl kt) ?_
      show Go p e below _ m T163 184 #[iv p0, iv p1, iv p2, iv p3, iv p4, iv p5, iv (2 : Int32), iv (2 : Int32), rv b148, rv b149, rv b154, rv b162, rv b163, iv (1 : Int32)] []
      refine go (fun t kt => XS.iload X163.here hx rfl (hb hby at_184) rfl kt) ?_
      show Go p e below _ m T163 186 #[iv p0, iv p1, iv p2, iv p3, iv p4, iv p5, iv (2 : Int32), iv (2 : Int32), rv b148, rv b149, rv b154, rv b162, rv b163, iv (1 : Int32)] [(.int (2 : Int32))]
      refine go (fun t kt => XS.ifNo X163.here hx rfl (hb hby at_186) rfl ((if0 _ _).trans (tlt (by decide : ((0 : Int32) < (2 : Int32)))).2.2.2) kt) ?_
      show Go p e below _ m T163 189 #[iv p0, iv p1, iv p2, iv p3, iv p4, iv p5, iv (2 : Int32), iv (2 : Int32), rv b148, rv b149, rv b154, rv b162, rv b163, iv (1 : Int32)] []
      refine go (fun t kt => XS.iload X163.here hx rfl (hb hby at_189) rfl kt) ?_
      show Go p e below _ m T163 191 #[iv p0, iv p1, iv p2, iv p3, iv p4, iv p5, iv (2 : Int32), iv (2 : Int32), rv b148, rv b149, rv b154, rv b162, rv b163, iv (1 : Int32)] [(.int (1 : Int32))]
      refine go (fun t kt => XS.ifNo X163.here hx rfl (hb hby at_191) rfl ((if0 _ _).trans (feq (by decide : ¬ ((1 : Int32) = (0 : Int32)))).1) kt) ?_
      show Go p e below _ m T163 194 #[iv p0, iv p1, iv p2, iv p3, iv p4, iv p5, iv (2 : Int32), iv (2 : Int32), rv b148, rv b149, rv b154, rv b162, rv b163, iv (1 : Int32)] []
      refine go (fun t kt => XS.aload X163.here hx rfl (hb hby at_194) rfl rfl kt) ?_
      show Go p e below _ m T163 196 #[iv p0, iv p1, iv p2, iv p3, iv p4, iv p5, iv (2 : Int32), iv (2 : Int32), rv b148, rv b149, rv b154, rv b162, rv b163, iv (1 : Int32)] [(.ref b162)]
      refine go (fun t kt => XS.iconst X163.here hx rfl (hb hby at_196) kt) ?_
      show Go p e below _ m T163 197 #[iv p0, iv p1, iv p2, iv p3, iv p4, iv p5, iv (2 : Int32), iv (2 : Int32), rv b148, rv b149, rv b154, rv b162, rv b163, iv (1 : Int32)] [(.int (0 : Int32)), (.ref b162)]
      obtain ⟨cl166, Ar166, q166, S166, M166, H166, G166⟩ := id V_b162
      have hin166 : ¬ ((0 : Int32) < 0 ∨ cl166.slots.size ≤ ((0 : Int32)).toNatClampNeg) := inb_of S166 ⟨by decide, by decide⟩
      have hat166 : cl166.slots[((0 : Int32)).toNatClampNeg]? = some (.int p0) := H166.at hin166 rfl
      refine go (X163.iaload hx (j := (0 : Int32)) (v := (.int p0)) Ar166.1 (State.isArrayOf_alike hZ.alike Ar166.2.1) Ar166.2.2 hin166 hat166 (g := (mkF m 197 #[iv p0, iv p1, iv p2, iv p3, iv p4, iv p5, iv (2 : Int32), iv (2 : Int32), rv b148, rv b149, rv b154, rv b162, rv b163, iv (1 : Int32)] [(.int (0 : Int32)), (.ref b162)])) rfl rfl (hb hby at_197)) ?_
      show Go p e below _ m T163 198 #[iv p0, iv p1, iv p2, iv p3, iv p4, iv p5, iv (2 : Int32), iv (2 : Int32), rv b148, rv b149, rv b154, rv b162, rv b163, iv (1 : Int32)] [(.int p0)]
      refine go (fun t kt => XS.iloadN X163.here hx rfl (hb hby at_198) rfl kt) ?_
      show Go p e below _ m T163 199 #[iv p0, iv p1, iv p2, iv p3, iv p4, iv p5, iv (2 : Int32), iv (2 : Int32), rv b148, rv b149, rv b154, rv b162, rv b163, iv (1 : Int32)] [(.int p0), (.int p0)]
      refine go (fun t kt => XS.icmpNo X163.here hx rfl (hb hby at_199) rfl (teq (rfl : p0 = p0)).2 kt) ?_
      show Go p e below _ m T163 202 #[iv p0, iv p1, iv p2, iv p3, iv p4, iv p5, iv (2 : Int32), iv (2 : Int32), rv b148, rv b149, rv b154, rv b162, rv b163, iv (1 : Int32)] []
      refine go (fun t kt => XS.iconst X163.here hx rfl (hb hby at_202) kt) ?_
      show Go p e below _ m T163 203 #[iv p0, iv p1, iv p2, iv p3, iv p4, iv p5, iv (2 : Int32), iv (2 : Int32), rv b148, rv b149, rv b154, rv b162, rv b163, iv (1 : Int32)] [(.int (1 : Int32))]
      refine go (fun t kt => XS.goto X163.here hx rfl (pc0 := 203) (pc' := 207) rfl (hb hby at_203) (by decide) (by decide) kt) ?_
      show Go p e below _ m T163 207 #[iv p0, iv p1, iv p2, iv p3, iv p4, iv p5, iv (2 : Int32), iv (2 : Int32), rv b148, rv b149, rv b154, rv b162, rv b163, iv (1 : Int32)] [(.int (1 : Int32))]
      refine go (fun t kt => XS.istore X163.here hx rfl (hb hby at_207) rfl (l' := #[iv p0, iv p1, iv p2, iv p3, iv p4, iv p5, iv (2 : Int32), iv (2 : Int32), rv b148, rv b149, rv b154, rv b162, rv b163, iv (1 : Int32)]) rfl kt) ?_
      show Go p e below _ m T163 209 #[iv p0, iv p1, iv p2, iv p3, iv p4, iv p5, iv (2 : Int32), iv (2 : Int32), rv b148, rv b149, rv b154, rv b162, rv b163, iv (1 : Int32)] []
      refine go (fun t kt => XS.iload X163.here hx rfl (hb hby at_209) rfl kt) ?_
      show Go p e below _ m T163 211 #[iv p0, iv p1, iv p2, iv p3, iv p4, iv p5, iv (2 : Int32), iv (2 : Int32), rv b148, rv b149, rv b154, rv b162, rv b163, iv (1 : Int32)] [(.int (2 : Int32))]
      refine go (fun t kt => XS.iconst X163.here hx rfl (hb hby at_211) kt) ?_
      show Go p e below _ m T163 212 #[iv p0, iv p1, iv p2, iv p3, iv p4, iv p5, iv (2 : Int32), iv (2 : Int32), rv b148, rv b149, rv b154, rv b162, rv b163, iv (1 : Int32)] [(.int (1 : Int32)), (.int (2 : Int32))]
      refine go (fun t kt => XS.icmpNo X163.here hx rfl (hb hby at_212) rfl (tlt (by decide : ((1 : Int32) < (2 : Int32)))).2.2.2 kt) ?_
      show Go p e below _ m T163 215 #[iv p0, iv p1, iv p2, iv p3, iv p4, iv p5, iv (2 : Int32), iv (2 : Int32), rv b148, rv b149, rv b154, rv b162, rv b163, iv (1 : Int32)] []
      refine go (fun t kt => XS.iload X163.here hx rfl (hb hby at_215) rfl kt) ?_
      show Go p e below _ m T163 217 #[iv p0, iv p1, iv p2, iv p3, iv p4, iv p5, iv (2 : Int32), iv (2 : Int32), rv b148, rv b149, rv b154, rv b162, rv b163, iv (1 : Int32)] [(.int (1 : Int32))]
      refine go (fun t kt => XS.ifNo X163.here hx rfl (hb hby at_217) rfl ((if0 _ _).trans (feq (by decide : ¬ ((1 : Int32) = (0 : Int32)))).1) kt) ?_
      show Go p e below _ m T163 220 #[iv p0, iv p1, iv p2, iv p3, iv p4, iv p5, iv (2 : Int32), iv (2 : Int32), rv b148, rv b149, rv b154, rv b162, rv b163, iv (1 : Int32)] []
      refine go (fun t kt => XS.aload X163.here hx rfl (hb hby at_220) rfl rfl kt) ?_
      show Go p e below _ m T163 222 #[iv p0, iv p1, iv p2, iv p3, iv p4, iv p5, iv (2 : Int32), iv (2 : Int32), rv b148, rv b149, rv b154, rv b162, rv b163, iv (1 : Int32)] [(.ref b162)]
      refine go (fun t kt => XS.iconst X163.here hx rfl (hb hby at_222) kt) ?_
      show Go p e below _ m T163 223 #[iv p0, iv p1, iv p2, iv p3, iv p4, iv p5, iv (2 : Int32), iv (2 : Int32), rv b148, rv b149, rv b154, rv b162, rv b163, iv (1 : Int32)] [(.int (1 : Int32)), (.ref b162)]
      obtain ⟨cl167, Ar167, q167, S167, M167, H167, G167⟩ := id V_b162
      have hin167 : ¬ ((1 : Int32) < 0 ∨ cl167.slots.size ≤ ((1 : Int32)).toNatClampNeg) := inb_of S167 ⟨by decide, by decide⟩
      have hat167 : cl167.slots[((1 : Int32)).toNatClampNeg]? = some (.int p2) := H167.at hin167 rfl
      refine go (X163.iaload hx (j := (1 : Int32)) (v := (.int p2)) Ar167.1 (State.isArrayOf_alike hZ.alike Ar167.2.1) Ar167.2.2 hin167 hat167 (g := (mkF m 223 #[iv p0, iv p1, iv p2, iv p3, iv p4, iv p5, iv (2 : Int32), iv (2 : Int32), rv b148, rv b149, rv b154, rv b162, rv b163, iv (1 : Int32)] [(.int (1 : Int32)), (.ref b162)])) rfl rfl (hb hby at_223)) ?_
      show Go p e below _ m T163 224 #[iv p0, iv p1, iv p2, iv p3, iv p4, iv p5, iv (2 : Int32), iv (2 : Int32), rv b148, rv b149, rv b154, rv b162, rv b163, iv (1 : Int32)] [(.int p2)]
      refine go (fun t kt => XS.iloadN X163.here hx rfl (hb hby at_224) rfl kt) ?_
      show Go p e below _ m T163 225 #[iv p0, iv p1, iv p2, iv p3, iv p4, iv p5, iv (2 : Int32), iv (2 : Int32), rv b148, rv b149, rv b154, rv b162, rv b163, iv (1 : Int32)] [(.int p2), (.int p2)]
      refine go (fun t kt => XS.icmpNo X163.here hx rfl (hb hby at_225) rfl (teq (rfl : p2 = p2)).2 kt) ?_
      show Go p e below _ m T163 228 #[iv p0, iv p1, iv p2, iv p3, iv p4, iv p5, iv (2 : Int32), iv (2 : Int32), rv b148, rv b149, rv b154, rv b162, rv b163, iv (1 : Int32)] []
      refine go (fun t kt => XS.iconst X163.here hx rfl (hb hby at_228) kt) ?_
      show Go p e below _ m T163 229 #[iv p0, iv p1, iv p2, iv p3, iv p4, iv p5, iv (2 : Int32), iv (2 : Int32), rv b148, rv b149, rv b154, rv b162, rv b163, iv (1 : Int32)] [(.int (1 : Int32))]
      refine go (fun t kt => XS.goto X163.here hx rfl (pc0 := 229) (pc' := 233) rfl (hb hby at_229) (by decide) (by decide) kt) ?_
      show Go p e below _ m T163 233 #[iv p0, iv p1, iv p2, iv p3, iv p4, iv p5, iv (2 : Int32), iv (2 : Int32), rv b148, rv b149, rv b154, rv b162, rv b163, iv (1 : Int32)] [(.int (1 : Int32))]
      refine go (fun t kt => XS.istore X163.here hx rfl (hb hby at_233) rfl (l' := #[iv p0, iv p1, iv p2, iv p3, iv p4, iv p5, iv (2 : Int32), iv (2 : Int32), rv b148, rv b149, rv b154, rv b162, rv b163, iv (1 : Int32)]) rfl kt) ?_
      show Go p e below _ m T163 235 #[iv p0, iv p1, iv p2, iv p3, iv p4, iv p5, iv (2 : Int32), iv (2 : Int32), rv b148, rv b149, rv b154, rv b162, rv b163, iv (1 : Int32)] []
      refine go (fun t kt => XS.iload X163.here hx rfl (hb hby at_235) rfl kt) ?_
      show Go p e below _ m T163 237 #[iv p0, iv p1, iv p2, iv p3, iv p4, iv p5, iv (2 : Int32), iv (2 : Int32), rv b148, rv b149, rv b154, rv b162, rv b163, iv (1 : Int32)] [(.int (2 : Int32))]
      refine go (fun t kt => XS.ifNo X163.here hx rfl (hb hby at_237) rfl ((if0 _ _).trans (tlt (by decide : ((0 : Int32) < (2 : Int32)))).2.2.2) kt) ?_
      show Go p e below _ m T163 240 #[iv p0, iv p1, iv p2, iv p3, iv p4, iv p5, iv (2 : Int32), iv (2 : Int32), rv b148, rv b149, rv b154, rv b162, rv b163, iv (1 : Int32)] []
      refine go (fun t kt => XS.iload X163.here hx rfl (hb hby at_240) rfl kt) ?_
      show Go p e below _ m T163 242 #[iv p0, iv p1, iv p2, iv p3, iv p4, iv p5, iv (2 : Int32), iv (2 : Int32), rv b148, rv b149, rv b154, rv b162, rv b163, iv (1 : Int32)] [(.int (1 : Int32))]
      refine go (fun t kt => XS.ifNo X163.here hx rfl (hb hby at_242) rfl ((if0 _ _).trans (feq (by decide : ¬ ((1 : Int32) = (0 : Int32)))).1) kt) ?_
      show Go p e below _ m T163 245 #[iv p0, iv p1, iv p2, iv p3, iv p4, iv p5, iv (2 : Int32), iv (2 : Int32), rv b148, rv b149, rv b154, rv b162, rv b163, iv (1 : Int32)] []
      refine go (fun t kt => XS.aload X163.here hx rfl (hb hby at_245) rfl rfl kt) ?_
      show Go p e below _ m T163 247 #[iv p0, iv p1, iv p2, iv p3, iv p4, iv p5, iv (2 : Int32), iv (2 : Int32), rv b148, rv b149, rv b154, rv b162, rv b163, iv (1 : Int32)] [(.ref b163)]
      refine go (fun t kt => XS.iconst X163.here hx rfl (hb hby at_247) kt) ?_
      show Go p e below _ m T163 248 #[iv p0, iv p1, iv p2, iv p3, iv p4, iv p5, iv (2 : Int32), iv (2 : Int32), rv b148, rv b149, rv b154, rv b162, rv b163, iv (1 : Int32)] [(.int (0 : Int32)), (.ref b163)]
      obtain ⟨cl168, Ar168, q168, S168, M168, H168, G168⟩ := id V_b163
      have hin168 : ¬ ((0 : Int32) < 0 ∨ cl168.slots.size ≤ ((0 : Int32)).toNatClampNeg) := inb_of S168 ⟨by decide, by decide⟩
      have hat168 : cl168.slots[((0 : Int32)).toNatClampNeg]? = some (.int p1) := H168.at hin168 rfl
      refine go (X163.iaload hx (j := (0 : Int32)) (v := (.int p1)) Ar168.1 (State.isArrayOf_alike hZ.alike Ar168.2.1) Ar168.2.2 hin168 hat168 (g := (mkF m 248 #[iv p0, iv p1, iv p2, iv p3, iv p4, iv p5, iv (2 : Int32), iv (2 : Int32), rv b148, rv b149, rv b154, rv b162, rv b163, iv (1 : Int32)] [(.int (0 : Int32)), (.ref b163)])) rfl rfl (hb hby at_248)) ?_
      show Go p e below _ m T163 249 #[iv p0, iv p1, iv p2, iv p3, iv p4, iv p5, iv (2 : Int32), iv (2 : Int32), rv b148, rv b149, rv b154, rv b162, rv b163, iv (1 : Int32)] [(.int p1)]
      refine go (fun t kt => XS.iloadN X163.here hx rfl (hb hby at_249) rfl kt) ?_
      show Go p e below _ m T163 250 #[iv p0, iv p1, iv p2, iv p3, iv p4, iv p5, iv (2 : Int32), iv (2 : Int32), rv b148, rv b149, rv b154, rv b162, rv b163, iv (1 : Int32)] [(.int p1), (.int p1)]
      refine go (fun t kt => XS.icmpNo X163.here hx rfl (hb hby at_250) rfl (teq (rfl : p1 = p1)).2 kt) ?_
      show Go p e below _ m T163 253 #[iv p0, iv p1, iv p2, iv p3, iv p4, iv p5, iv (2 : Int32), iv (2 : Int32), rv b148, rv b149, rv b154, rv b162, rv b163, iv (1 : Int32)] []
      refine go (fun t kt => XS.iconst X163.here hx rfl (hb hby at_253) kt) ?_
      show Go p e below _ m T163 254 #[iv p0, iv p1, iv p2, iv p3, iv p4, iv p5, iv (2 : Int32), iv (2 : Int32), rv b148, rv b149, rv b154, rv b162, rv b163, iv (1 : Int32)] [(.int (1 : Int32))]
      refine go (fun t kt => XS.goto X163.here hx rfl (pc0 := 254) (pc' := 258) rfl (hb hby at_254) (by decide) (by decide) kt) ?_
      show Go p e below _ m T163 258 #[iv p0, iv p1, iv p2, iv p3, iv p4, iv p5, iv (2 : Int32), iv (2 : Int32), rv b148, rv b149, rv b154, rv b162, rv b163, iv (1 : Int32)] [(.int (1 : Int32))]
      refine go (fun t kt => XS.istore X163.here hx rfl (hb hby at_258) rfl (l' := #[iv p0, iv p1, iv p2, iv p3, iv p4, iv p5, iv (2 : Int32), iv (2 : Int32), rv b148, rv b149, rv b154, rv b162, rv b163, iv (1 : Int32)]) rfl kt) ?_
      show Go p e below _ m T163 260 #[iv p0, iv p1, iv p2, iv p3, iv p4, iv p5, iv (2 : Int32), iv (2 : Int32), rv b148, rv b149, rv b154, rv b162, rv b163, iv (1 : Int32)] []
      refine go (fun t kt => XS.iload X163.here hx rfl (hb hby at_260) rfl kt) ?_
      show Go p e below _ m T163 262 #[iv p0, iv p1, iv p2, iv p3, iv p4, iv p5, iv (2 : Int32), iv (2 : Int32), rv b148, rv b149, rv b154, rv b162, rv b163, iv (1 : Int32)] [(.int (2 : Int32))]
      refine go (fun t kt => XS.iconst X163.here hx rfl (hb hby at_262) kt) ?_
      show Go p e below _ m T163 263 #[iv p0, iv p1, iv p2, iv p3, iv p4, iv p5, iv (2 : Int32), iv (2 : Int32), rv b148, rv b149, rv b154, rv b162, rv b163, iv (1 : Int32)] [(.int (1 : Int32)), (.int (2 : Int32))]
      refine go (fun t kt => XS.icmpNo X163.here hx rfl (hb hby at_263) rfl (tlt (by decide : ((1 : Int32) < (2 : Int32)))).2.2.2 kt) ?_
      show Go p e below _ m T163 266 #[iv p0, iv p1, iv p2, iv p3, iv p4, iv p5, iv (2 : Int32), iv (2 : Int32), rv b148, rv b149, rv b154, rv b162, rv b163, iv (1 : Int32)] []
      refine go (fun t kt => XS.iload X163.here hx rfl (hb hby at_266) rfl kt) ?_
      show Go p e below _ m T163 268 #[iv p0, iv p1, iv p2, iv p3, iv p4, iv p5, iv (2 : Int32), iv (2 : Int32), rv b148, rv b149, rv b154, rv b162, rv b163, iv (1 : Int32)] [(.int (1 : Int32))]
      refine go (fun t kt => XS.ifNo X163.here hx rfl (hb hby at_268) rfl ((if0 _ _).trans (feq (by decide : ¬ ((1 : Int32) = (0 : Int32)))).1) kt) ?_
      show Go p e below _ m T163 271 #[iv p0, iv p1, iv p2, iv p3, iv p4, iv p5, iv (2 : Int32), iv (2 : Int32), rv b148, rv b149, rv b154, rv b162, rv b163, iv (1 : Int32)] []
      refine go (fun t kt => XS.aload X163.here hx rfl (hb hby at_271) rfl rfl kt) ?_
      show Go p e below _ m T163 273 #[iv p0, iv p1, iv p2, iv p3, iv p4, iv p5, iv (2 : Int32), iv (2 : Int32), rv b148, rv b149, rv b154, rv b162, rv b163, iv (1 : Int32)] [(.ref b163)]
      refine go (fun t kt => XS.iconst X163.here hx rfl (hb hby at_273) kt) ?_
      show Go p e below _ m T163 274 #[iv p0, iv p1, iv p2, iv p3, iv p4, iv p5, iv (2 : Int32), iv (2 : Int32), rv b148, rv b149, rv b154, rv b162, rv b163, iv (1 : Int32)] [(.int (1 : Int32)), (.ref b163)]
      obtain ⟨cl169, Ar169, q169, S169, M169, H169, G169⟩ := id V_b163
      have hin169 : ¬ ((1 : Int32) < 0 ∨ cl169.slots.size ≤ ((1 : Int32)).toNatClampNeg) := inb_of S169 ⟨by decide, by decide⟩
      have hat169 : cl169.slots[((1 : Int32)).toNatClampNeg]? = some (.int p3) := H169.at hin169 rfl
      refine go (X163.iaload hx (j := (1 : Int32)) (v := (.int p3)) Ar169.1 (State.isArrayOf_alike hZ.alike Ar169.2.1) Ar169.2.2 hin169 hat169 (g := (mkF m 274 #[iv p0, iv p1, iv p2, iv p3, iv p4, iv p5, iv (2 : Int32), iv (2 : Int32), rv b148, rv b149, rv b154, rv b162, rv b163, iv (1 : Int32)] [(.int (1 : Int32)), (.ref b163)])) rfl rfl (hb hby at_274)) ?_
      show Go p e below _ m T163 275 #[iv p0, iv p1, iv p2, iv p3, iv p4, iv p5, iv (2 : Int32), iv (2 : Int32), rv b148, rv b149, rv b154, rv b162, rv b163, iv (1 : Int32)] [(.int p3)]
      refine go (fun t kt => XS.iloadN X163.here hx rfl (hb hby at_275) rfl kt) ?_
      show Go p e below _ m T163 276 #[iv p0, iv p1, iv p2, iv p3, iv p4, iv p5, iv (2 : Int32), iv (2 : Int32), rv b148, rv b149, rv b154, rv b162, rv b163, iv (1 : Int32)] [(.int p3), (.int p3)]
      refine go (fun t kt => XS.icmpNo X163.here hx rfl (hb hby at_276) rfl (teq (rfl : p3 = p3)).2 kt) ?_
      show Go p e below _ m T163 279 #[iv p0, iv p1, iv p2, iv p3, iv p4, iv p5, iv (2 : Int32), iv (2 : Int32), rv b148, rv b149, rv b154, rv b162, rv b163, iv (1 : Int32)] []
      refine go (fun t kt => XS.iconst X163.here hx rfl (hb hby at_279) kt) ?_
      show Go p e below _ m T163 280 #[iv p0, iv p1, iv p2, iv p3, iv p4, iv p5, iv (2 : Int32), iv (2 : Int32), rv b148, rv b149, rv b154, rv b162, rv b163, iv (1 : Int32)] [(.int (1 : Int32))]
      refine go (fun t kt => XS.goto X163.here hx rfl (pc0 := 280) (pc' := 284) rfl (hb hby at_280) (by decide) (by decide) kt) ?_
      show Go p e below _ m T163 284 #[iv p0, iv p1, iv p2, iv p3, iv p4, iv p5, iv (2 : Int32), iv (2 : Int32), rv b148, rv b149, rv b154, rv b162, rv b163, iv (1 : Int32)] [(.int (1 : Int32))]
      refine go (fun t kt => XS.istore X163.here hx rfl (hb hby at_284) rfl (l' := #[iv p0, iv p1, iv p2, iv p3, iv p4, iv p5, iv (2 : Int32), iv (2 : Int32), rv b148, rv b149, rv b154, rv b162, rv b163, iv (1 : Int32)]) rfl kt) ?_
      show Go p e below _ m T163 286 #[iv p0, iv p1, iv p2, iv p3, iv p4, iv p5, iv (2 : Int32), iv (2 : Int32), rv b148, rv b149, rv b154, rv b162, rv b163, iv (1 : Int32)] []
      refine go (fun t kt => XS.iload X163.here hx rfl (hb hby at_286) rfl kt) ?_
      show Go p e below _ m T163 288 #[iv p0, iv p1, iv p2, iv p3, iv p4, iv p5, iv (2 : Int32), iv (2 : Int32), rv b148, rv b149, rv b154, rv b162, rv b163, iv (1 : Int32)] [(.int (2 : Int32))]
      refine go (fun t kt => XS.ifNo X163.here hx rfl (hb hby at_288) rfl ((if0 _ _).trans (tlt (by decide : ((0 : Int32) < (2 : Int32)))).2.2.2) kt) ?_
      show Go p e below _ m T163 291 #[iv p0, iv p1, iv p2, iv p3, iv p4, iv p5, iv (2 : Int32), iv (2 : Int32), rv b148, rv b149, rv b154, rv b162, rv b163, iv (1 : Int32)] []
      refine go (fun t kt => XS.iload X163.here hx rfl (hb hby at_291) rfl kt) ?_
      show Go p e below _ m T163 293 #[iv p0, iv p1, iv p2, iv p3, iv p4, iv p5, iv (2 : Int32), iv (2 : Int32), rv b148, rv b149, rv b154, rv b162, rv b163, iv (1 : Int32)] [(.int (2 : Int32))]
      refine go (fun t kt => XS.ifNo X163.here hx rfl (hb hby at_293) rfl ((if0 _ _).trans (tlt (by decide : ((0 : Int32) < (2 : Int32)))).2.2.2) kt) ?_
      show Go p e below _ m T163 296 #[iv p0, iv p1, iv p2, iv p3, iv p4, iv p5, iv (2 : Int32), iv (2 : Int32), rv b148, rv b149, rv b154, rv b162, rv b163, iv (1 : Int32)] []
      refine go (fun t kt => XS.iload X163.here hx rfl (hb hby at_296) rfl kt) ?_
      show Go p e below _ m T163 298 #[iv p0, iv p1, iv p2, iv p3, iv p4, iv p5, iv (2 : Int32), iv (2 : Int32), rv b148, rv b149, rv b154, rv b162, rv b163, iv (1 : Int32)] [(.int (1 : Int32))]
      refine go (fun t kt => XS.ifNo X163.here hx rfl (hb hby at_298) rfl ((if0 _ _).trans (feq (by decide : ¬ ((1 : Int32) = (0 : Int32)))).1) kt) ?_
      show Go p e below _ m T163 301 #[iv p0, iv p1, iv p2, iv p3, iv p4, iv p5, iv (2 : Int32), iv (2 : Int32), rv b148, rv b149, rv b154, rv b162, rv b163, iv (1 : Int32)] []
      refine go (fun t kt => XS.aload X163.here hx rfl (hb hby at_301) rfl rfl kt) ?_
      show Go p e below _ m T163 303 #[iv p0, iv p1, iv p2, iv p3, iv p4, iv p5, iv (2 : Int32), iv (2 : Int32), rv b148, rv b149, rv b154, rv b162, rv b163, iv (1 : Int32)] [(.ref b154)]
      refine go (fun t kt => XS.iconst X163.here hx rfl (hb hby at_303) kt) ?_
      show Go p e below _ m T163 304 #[iv p0, iv p1, iv p2, iv p3, iv p4, iv p5, iv (2 : Int32), iv (2 : Int32), rv b148, rv b149, rv b154, rv b162, rv b163, iv (1 : Int32)] [(.int (0 : Int32)), (.ref b154)]
      refine go (fun t kt => XS.iload X163.here hx rfl (hb hby at_304) rfl kt) ?_
      show Go p e below _ m T163 306 #[iv p0, iv p1, iv p2, iv p3, iv p4, iv p5, iv (2 : Int32), iv (2 : Int32), rv b148, rv b149, rv b154, rv b162, rv b163, iv (1 : Int32)] [(.int p5), (.int (0 : Int32)), (.ref b154)]
      obtain ⟨cq170, kq170, q170a, q170b, q170c⟩ := isOf hZ rfl E_b154
      obtain ⟨_, _, ⟨T170, L170, k170, n170⟩, -, X170, ⟨Lc170, hQ170, l170, y170, z170⟩, st170⟩ := X163.virtualBack hx (y := (⟨"com/example/anytime_arena/anytimearena/io/VariableTable", "inRange", "(II)Z"⟩ : MethodName)) (z := (⟨"com/example/anytime_arena/anytimearena/io/VariableTable", "inRange", "(II)Z"⟩ : MethodName)) hown (mvT hZ (hw _ (List.mem_of_getElem? (i := 86) rfl))) (mvT hZ (hw _ (List.mem_of_getElem? (i := 87) rfl))) (notFace_of_selects (args := #[]) (mvT hZ (hw _ (List.mem_of_getElem? (i := 89) rfl)))) (mvT hZ (hw _ (List.mem_of_getElem? (i := 89) rfl))) (mvT hZ (hw _ (List.mem_of_getElem? (i := 88) rfl))) (by decide) (backOf (W := 0) (rm11 l Z a0 hw [] b154 (0 : Int32) p5 c157 d157 k148 (2 : Int32) [(.int p0), (.int p2)] k149 (2 : Int32) [(.int p1), (.int p3)] p0 p1 T163.heap n0 Zz163 F_low_b154 F_high_b154 V_c157 V_d157 ⟨by decide, by decide⟩ ⟨by decide, by decide⟩ rfl rfl) hZ (hw _ (List.mem_of_getElem? (i := 90) rfl)) (hw _ (List.mem_of_getElem? (i := 3) rfl)) (by decide) (by decide)) q170a q170c (g := (mkF m 306 #[iv p0, iv p1, iv p2, iv p3, iv p4, iv p5, iv (2 : Int32), iv (2 : Int32), rv b148, rv b149, rv b154, rv b162, rv b163, iv (1 : Int32)] [(.int p5), (.int (0 : Int32)), (.ref b154)])) rfl (by rw [hml]; rfl) (Steps.refl _) (argsL := [(.int (0 : Int32)), (.int p5)]) (rest := []) (lenOf pd_3 rfl) rfl (by show 2 * 0 + _ ≤ _; exact Nat.le_of_eq rfl) (hb hby at_306) (fun _ _ => ⟨rfl, rfl, (by decide : 15 + 0 ≤ _), (by decide : 39 + 0 ≤ _)⟩)
      dsimp only [Pt.U, Pt.locs, Pt.cells, Pt.slots] at X170 l170 y170 z170 st170 hQ170
      subst l170 y170 z170
      obtain ⟨rfl, Nq170, e170⟩ := hQ170
      have N170 := Fr.app N163 Nq170
      refine go (fun t kt => st170.trans kt) ?_
      show Go p e below _ m T170 309 #[iv p0, iv p1, iv p2, iv p3, iv p4, iv p5, iv (2 : Int32), iv (2 : Int32), rv b148, rv b149, rv b154, rv b162, rv b163, iv (1 : Int32)] [(.int (own_inR p5 p0 p1))]
      refine go (fun t kt => XS.iload X170.here hx rfl (hb hby at_309) rfl kt) ?_
      show Go p e below _ m T170 311 #[iv p0, iv p1, iv p2, iv p3, iv p4, iv p5, iv (2 : Int32), iv (2 : Int32), rv b148, rv b149, rv b154, rv b162, rv b163, iv (1 : Int32)] [(.int p5), (.int (own_inR p5 p0 p1))]
      refine go (fun t kt => XS.iloadN X170.here hx rfl (hb hby at_311) rfl kt) ?_
      show Go p e below _ m T170 312 #[iv p0, iv p1, iv p2, iv p3, iv p4, iv p5, iv (2 : Int32), iv (2 : Int32), rv b148, rv b149, rv b154, rv b162, rv b163, iv (1 : Int32)] [(.int p0), (.int p5), (.int (own_inR p5 p0 p1))]
      by_cases hc171 : p5 < p0
      ·
        refine go (fun t kt => XS.icmpYes X170.here hx rfl (pc0 := 312) (pc' := 325) rfl (hb hby at_312) rfl (tlt hc171).1 (by decide) (by decide) kt) ?_
        show Go p e below _ m T170 325 #[iv p0, iv p1, iv p2, iv p3, iv p4, iv p5, iv (2 : Int32), iv (2 : Int32), rv b148, rv b149, rv b154, rv b162, rv b163, iv (1 : Int32)] [(.int (own_inR p5 p0 p1))]
        refine go (fun t kt => XS.iconst X170.here hx rfl (hb hby at_325) kt) ?_
        show Go p e below _ m T170 326 #[iv p0, iv p1, iv p2, iv p3, iv p4, iv p5, iv (2 : Int32), iv (2 : Int32), rv b148, rv b149, rv b154, rv b162, rv b163, iv (1 : Int32)] [(.int (0 : Int32)), (.int (own_inR p5 p0 p1))]
        refine go (fun t kt => XS.icmpNo X170.here hx rfl (hb hby at_326) rfl (teq (own_r1 _ _ _ hc171)).2 kt) ?_
        show Go p e below _ m T170 329 #[iv p0, iv p1, iv p2, iv p3, iv p4, iv p5, iv (2 : Int32), iv (2 : Int32), rv b148, rv b149, rv b154, rv b162, rv b163, iv (1 : Int32)] []
        refine go (fun t kt => XS.iconst X170.here hx rfl (hb hby at_329) kt) ?_
        show Go p e below _ m T170 330 #[iv p0, iv p1, iv p2, iv p3, iv p4, iv p5, iv (2 : Int32), iv (2 : Int32), rv b148, rv b149, rv b154, rv b162, rv b163, iv (1 : Int32)] [(.int (1 : Int32))]
        refine go (fun t kt => XS.goto X170.here hx rfl (pc0 := 330) (pc' := 334) rfl (hb hby at_330) (by decide) (by decide) kt) ?_
        show Go p e below _ m T170 334 #[iv p0, iv p1, iv p2, iv p3, iv p4, iv p5, iv (2 : Int32), iv (2 : Int32), rv b148, rv b149, rv b154, rv b162, rv b163, iv (1 : Int32)] [(.int (1 : Int32))]
        refine go (fun t kt => XS.istore X170.here hx rfl (hb hby at_334) rfl (l' := #[iv p0, iv p1, iv p2, iv p3, iv p4, iv p5, iv (2 : Int32), iv (2 : Int32), rv b148, rv b149, rv b154, rv b162, rv b163, iv (1 : Int32)]) rfl kt) ?_
        show Go p e below _ m T170 336 #[iv p0, iv p1, iv p2, iv p3, iv p4, iv p5, iv (2 : Int32), iv (2 : Int32), rv b148, rv b149, rv b154, rv b162, rv b163, iv (1 : Int32)] []
        refine go (fun t kt => XS.iload X170.here hx rfl (hb hby at_336) rfl kt) ?_
        show Go p e below _ m T170 338 #[iv p0, iv p1, iv p2, iv p3, iv p4, iv p5, iv (2 : Int32), iv (2 : Int32), rv b148, rv b149, rv b154, rv b162, rv b163, iv (1 : Int32)] [(.int (2 : Int32))]
        refine go (fun t kt => XS.iconst X170.here hx rfl (hb hby at_338) kt) ?_
        show Go p e below _ m T170 339 #[iv p0, iv p1, iv p2, iv p3, iv p4, iv p5, iv (2 : Int32), iv (2 : Int32), rv b148, rv b149, rv b154, rv b162, rv b163, iv (1 : Int32)] [(.int (1 : Int32)), (.int (2 : Int32))]
        refine go (fun t kt => XS.icmpNo X170.here hx rfl (hb hby at_339) rfl (tlt (by decide : ((1 : Int32) < (2 : Int32)))).2.2.2 kt) ?_
        show Go p e below _ m T170 342 #[iv p0, iv p1, iv p2, iv p3, iv p4, iv p5, iv (2 : Int32), iv (2 : Int32), rv b148, rv b149, rv b154, rv b162, rv b163, iv (1 : Int32)] []
        refine go (fun t kt => XS.iload X170.here hx rfl (hb hby at_342) rfl kt) ?_
        show Go p e below _ m T170 344 #[iv p0, iv p1, iv p2, iv p3, iv p4, iv p5, iv (2 : Int32), iv (2 : Int32), rv b148, rv b149, rv b154, rv b162, rv b163, iv (1 : Int32)] [(.int (2 : Int32))]
        refine go (fun t kt => XS.iconst X170.here hx rfl (hb hby at_344) kt) ?_
        show Go p e below _ m T170 345 #[iv p0, iv p1, iv p2, iv p3, iv p4, iv p5, iv (2 : Int32), iv (2 : Int32), rv b148, rv b149, rv b154, rv b162, rv b163, iv (1 : Int32)] [(.int (1 : Int32)), (.int (2 : Int32))]
        refine go (fun t kt => XS.icmpNo X170.here hx rfl (hb hby at_345) rfl (tlt (by decide : ((1 : Int32) < (2 : Int32)))).2.2.2 kt) ?_
        show Go p e below _ m T170 348 #[iv p0, iv p1, iv p2, iv p3, iv p4, iv p5, iv (2 : Int32), iv (2 : Int32), rv b148, rv b149, rv b154, rv b162, rv b163, iv (1 : Int32)] []
        refine go (fun t kt => XS.iload X170.here hx rfl (hb hby at_348) rfl kt) ?_
        show Go p e below _ m T170 350 #[iv p0, iv p1, iv p2, iv p3, iv p4, iv p5, iv (2 : Int32), iv (2 : Int32), rv b148, rv b149, rv b154, rv b162, rv b163, iv (1 : Int32)] [(.int (1 : Int32))]
        refine go (fun t kt => XS.ifNo X170.here hx rfl (hb hby at_350) rfl ((if0 _ _).trans (feq (by decide : ¬ ((1 : Int32) = (0 : Int32)))).1) kt) ?_
        show Go p e below _ m T170 353 #[iv p0, iv p1, iv p2, iv p3, iv p4, iv p5, iv (2 : Int32), iv (2 : Int32), rv b148, rv b149, rv b154, rv b162, rv b163, iv (1 : Int32)] []
        refine go (fun t kt => XS.aload X170.here hx rfl (hb hby at_353) rfl rfl kt) ?_
        show Go p e below _ m T170 355 #[iv p0, iv p1, iv p2, iv p3, iv p4, iv p5, iv (2 : Int32), iv (2 : Int32), rv b148, rv b149, rv b154, rv b162, rv b163, iv (1 : Int32)] [(.ref b154)]
        refine go (fun t kt => XS.iconst X170.here hx rfl (hb hby at_355) kt) ?_
        show Go p e below _ m T170 356 #[iv p0, iv p1, iv p2, iv p3, iv p4, iv p5, iv (2 : Int32), iv (2 : Int32), rv b148, rv b149, rv b154, rv b162, rv b163, iv (1 : Int32)] [(.int (1 : Int32)), (.ref b154)]
        refine go (fun t kt => XS.iload X170.here hx rfl (hb hby at_356) rfl kt) ?_
        show Go p e below _ m T170 358 #[iv p0, iv p1, iv p2, iv p3, iv p4, iv p5, iv (2 : Int32), iv (2 : Int32), rv b148, rv b149, rv b154, rv b162, rv b163, iv (1 : Int32)] [(.int p5), (.int (1 : Int32)), (.ref b154)]
        obtain ⟨cq172, kq172, q172a, q172b, q172c⟩ := isOf hZ e170 E_b154
        obtain ⟨_, _, ⟨T172, L172, k172, n172⟩, -, X172, ⟨Lc172, hQ172, l172, y172, z172⟩, st172⟩ := X170.virtualBack hx (y := (⟨"com/example/anytime_arena/anytimearena/io/VariableTable", "inRange", "(II)Z"⟩ : MethodName)) (z := (⟨"com/example/anytime_arena/anytimearena/io/VariableTable", "inRange", "(II)Z"⟩ : MethodName)) hown (mvT hZ (hw _ (List.mem_of_getElem? (i := 86) rfl))) (mvT hZ (hw _ (List.mem_of_getElem? (i := 87) rfl))) (notFace_of_selects (args := #[]) (mvT hZ (hw _ (List.mem_of_getElem? (i := 89) rfl)))) (mvT hZ (hw _ (List.mem_of_getElem? (i := 89) rfl))) (mvT hZ (hw _ (List.mem_of_getElem? (i := 88) rfl))) (by decide) (backOf (W := 0) (rm11 l Z a0 hw [] b154 (1 : Int32) p5 c157 d157 k148 (2 : Int32) [(.int p0), (.int p2)] k149 (2 : Int32) [(.int p1), (.int p3)] p2 p3 T163.heap n0 Zz163 F_low_b154 F_high_b154 V_c157 V_d157 ⟨by decide, by decide⟩ ⟨by decide, by decide⟩ rfl rfl) hZ (hw _ (List.mem_of_getElem? (i := 90) rfl)) (hw _ (List.mem_of_getElem? (i := 3) rfl)) (by decide) (by decide)) q172a q172c (g := (mkF m 358 #[iv p0, iv p1, iv p2, iv p3, iv p4, iv p5, iv (2 : Int32), iv (2 : Int32), rv b148, rv b149, rv b154, rv b162, rv b163, iv (1 : Int32)] [(.int p5), (.int (1 : Int32)), (.ref b154)])) rfl (by rw [hml]; rfl) (Steps.refl _) (argsL := [(.int (1 : Int32)), (.int p5)]) (rest := []) (lenOf pd_3 rfl) rfl (by show 2 * 0 + _ ≤ _; exact Nat.le_of_eq rfl) (hb hby at_358) (fun _ _ => ⟨rfl, e170, (by decide : 15 + 0 ≤ _), (by decide : 39 + 0 ≤ _)⟩)
        dsimp only [Pt.U, Pt.locs, Pt.cells, Pt.slots] at X172 l172 y172 z172 st172 hQ172
        subst l172 y172 z172
        obtain ⟨rfl, Nq172, e172⟩ := hQ172
        have N172 := Fr.app N170 Nq172
        refine go (fun t kt => st172.trans kt) ?_
        show Go p e below _ m T172 361 #[iv p0, iv p1, iv p2, iv p3, iv p4, iv p5, iv (2 : Int32), iv (2 : Int32), rv b148, rv b149, rv b154, rv b162, rv b163, iv (1 : Int32)] [(.int (own_inR p5 p2 p3))]
        refine go (fun t kt => XS.iload X172.here hx rfl (hb hby at_361) rfl kt) ?_
        show Go p e below _ m T172 363 #[iv p0, iv p1, iv p2, iv p3, iv p4, iv p5, iv (2 : Int32), iv (2 : Int32), rv b148, rv b149, rv b154, rv b162, rv b163, iv (1 : Int32)] [(.int p5), (.int (own_inR p5 p2 p3))]
        refine go (fun t kt => XS.iloadN X172.here hx rfl (hb hby at_363) rfl kt) ?_
        show Go p e below _ m T172 364 #[iv p0, iv p1, iv p2, iv p3, iv p4, iv p5, iv (2 : Int32), iv (2 : Int32), rv b148, rv b149, rv b154, rv b162, rv b163, iv (1 : Int32)] [(.int p2), (.int p5), (.int (own_inR p5 p2 p3))]
        by_cases hc173 : p5 < p2
        ·
          refine go (fun t kt => XS.icmpYes X172.here hx rfl (pc0 := 364) (pc' := 377) rfl (hb hby at_364) rfl (tlt hc173).1 (by decide) (by decide) kt) ?_
          show Go p e below _ m T172 377 #[iv p0, iv p1, iv p2, iv p3, iv p4, iv p5, iv (2 : Int32), iv (2 : Int32), rv b148, rv b149, rv b154, rv b162, rv b163, iv (1 : Int32)] [(.int (own_inR p5 p2 p3))]
          refine go (fun t kt => XS.iconst X172.here hx rfl (hb hby at_377) kt) ?_
          show Go p e below _ m T172 378 #[iv p0, iv p1, iv p2, iv p3, iv p4, iv p5, iv (2 : Int32), iv (2 : Int32), rv b148, rv b149, rv b154, rv b162, rv b163, iv (1 : Int32)] [(.int (0 : Int32)), (.int (own_inR p5 p2 p3))]
          refine go (fun t kt => XS.icmpNo X172.here hx rfl (hb hby at_378) rfl (teq (own_r1 _ _ _ hc173)).2 kt) ?_
          show Go p e below _ m T172 381 #[iv p0, iv p1, iv p2, iv p3, iv p4, iv p5, iv (2 : Int32), iv (2 : Int32), rv b148, rv b149, rv b154, rv b162, rv b163, iv (1 : Int32)] []
          refine go (fun t kt => XS.iconst X172.here hx rfl (hb hby at_381) kt) ?_
          show Go p e below _ m T172 382 #[iv p0, iv p1, iv p2, iv p3, iv p4, iv p5, iv (2 : Int32), iv (2 : Int32), rv b148, rv b149, rv b154, rv b162, rv b163, iv (1 : Int32)] [(.int (1 : Int32))]
          refine go (fun t kt => XS.goto X172.here hx rfl (pc0 := 382) (pc' := 386) rfl (hb hby at_382) (by decide) (by decide) kt) ?_
          show Go p e below _ m T172 386 #[iv p0, iv p1, iv p2, iv p3, iv p4, iv p5, iv (2 : Int32), iv (2 : Int32), rv b148, rv b149, rv b154, rv b162, rv b163, iv (1 : Int32)] [(.int (1 : Int32))]
          refine go (fun t kt => XS.istore X172.here hx rfl (hb hby at_386) rfl (l' := #[iv p0, iv p1, iv p2, iv p3, iv p4, iv p5, iv (2 : Int32), iv (2 : Int32), rv b148, rv b149, rv b154, rv b162, rv b163, iv (1 : Int32)]) rfl kt) ?_
          show Go p e below _ m T172 388 #[iv p0, iv p1, iv p2, iv p3, iv p4, iv p5, iv (2 : Int32), iv (2 : Int32), rv b148, rv b149, rv b154, rv b162, rv b163, iv (1 : Int32)] []
          refine go (fun t kt => XS.iload X172.here hx rfl (hb hby at_388) rfl kt) ?_
          show Go p e below _ m T172 390 #[iv p0, iv p1, iv p2, iv p3, iv p4, iv p5, iv (2 : Int32), iv (2 : Int32), rv b148, rv b149, rv b154, rv b162, rv b163, iv (1 : Int32)] [(.int (1 : Int32))]
          obtain ⟨fs, hr, hrun, hended, hW, hsame⟩ := X172.leave (v := some (.int (1 : Int32))) (fun h => by rw [Bd.returns] at h; cases h)
          refine ⟨_, _, retN X172 hx (t := .boolean) Bd.returns (by simp) (hb hby at_390) hr, hrun, hended, _, _, rfl, ?_, ⟨_, rfl⟩, hW, hsame.mono (by decide) (by decide)⟩
          show Q0 Z p0 p1 p2 p3 p4 p5 sd h0 n0 _ T172.heap _
          rw [e172]
          exact ⟨rfl, N172⟩
        ·
          refine go (fun t kt => XS.icmpNo X172.here hx rfl (hb hby at_364) rfl (flt hc173).1 kt) ?_
          show Go p e below _ m T172 367 #[iv p0, iv p1, iv p2, iv p3, iv p4, iv p5, iv (2 : Int32), iv (2 : Int32), rv b148, rv b149, rv b154, rv b162, rv b163, iv (1 : Int32)] [(.int (own_inR p5 p2 p3))]
          refine go (fun t kt => XS.iload X172.here hx rfl (hb hby at_367) rfl kt) ?_
          show Go p e below _ m T172 369 #[iv p0, iv p1, iv p2, iv p3, iv p4, iv p5, iv (2 : Int32), iv (2 : Int32), rv b148, rv b149, rv b154, rv b162, rv b163, iv (1 : Int32)] [(.int p5), (.int (own_inR p5 p2 p3))]
          refine go (fun t kt => XS.iloadN X172.here hx rfl (hb hby at_369) rfl kt) ?_
          show Go p e below _ m T172 370 #[iv p0, iv p1, iv p2, iv p3, iv p4, iv p5, iv (2 : Int32), iv (2 : Int32), rv b148, rv b149, rv b154, rv b162, rv b163, iv (1 : Int32)] [(.int p3), (.int p5), (.int (own_inR p5 p2 p3))]
          by_cases hc175 : p3 < p5
          ·
            refine go (fun t kt => XS.icmpYes X172.here hx rfl (pc0 := 370) (pc' := 377) rfl (hb hby at_370) rfl (tlt hc175).2.2.1 (by decide) (by decide) kt) ?_
            show Go p e below _ m T172 377 #[iv p0, iv p1, iv p2, iv p3, iv p4, iv p5, iv (2 : Int32), iv (2 : Int32), rv b148, rv b149, rv b154, rv b162, rv b163, iv (1 : Int32)] [(.int (own_inR p5 p2 p3))]
            refine go (fun t kt => XS.iconst X172.here hx rfl (hb hby at_377) kt) ?_
            show Go p e below _ m T172 378 #[iv p0, iv p1, iv p2, iv p3, iv p4, iv p5, iv (2 : Int32), iv (2 : Int32), rv b148, rv b149, rv b154, rv b162, rv b163, iv (1 : Int32)] [(.int (0 : Int32)), (.int (own_inR p5 p2 p3))]
            refine go (fun t kt => XS.icmpNo X172.here hx rfl (hb hby at_378) rfl (teq (own_r2 _ _ _ hc173 hc175)).2 kt) ?_
            show Go p e below _ m T172 381 #[iv p0, iv p1, iv p2, iv p3, iv p4, iv p5, iv (2 : Int32), iv (2 : Int32), rv b148, rv b149, rv b154, rv b162, rv b163, iv (1 : Int32)] []
            refine go (fun t kt => XS.iconst X172.here hx rfl (hb hby at_381) kt) ?_
            show Go p e below _ m T172 382 #[iv p0, iv p1, iv p2, iv p3, iv p4, iv p5, iv (2 : Int32), iv (2 : Int32), rv b148, rv b149, rv b154, rv b162, rv b163, iv (1 : Int32)] [(.int (1 : Int32))]
            refine go (fun t kt => XS.goto X172.here hx rfl (pc0 := 382) (pc' := 386) rfl (hb hby at_382) (by decide) (by decide) kt) ?_
            show Go p e below _ m T172 386 #[iv p0, iv p1, iv p2, iv p3, iv p4, iv p5, iv (2 : Int32), iv (2 : Int32), rv b148, rv b149, rv b154, rv b162, rv b163, iv (1 : Int32)] [(.int (1 : Int32))]
            refine go (fun t kt => XS.istore X172.here hx rfl (hb hby at_386) rfl (l' := #[iv p0, iv p1, iv p2, iv p3, iv p4, iv p5, iv (2 : Int32), iv (2 : Int32), rv b148, rv b149, rv b154, rv b162, rv b163, iv (1 : Int32)]) rfl kt) ?_
            show Go p e below _ m T172 388 #[iv p0, iv p1, iv p2, iv p3, iv p4, iv p5, iv (2 : Int32), iv (2 : Int32), rv b148, rv b149, rv b154, rv b162, rv b163, iv (1 : Int32)] []
            refine go (fun t kt => XS.iload X172.here hx rfl (hb hby at_388) rfl kt) ?_
            show Go p e below _ m T172 390 #[iv p0, iv p1, iv p2, iv p3, iv p4, iv p5, iv (2 : Int32), iv (2 : Int32), rv b148, rv b149, rv b154, rv b162, rv b163, iv (1 : Int32)] [(.int (1 : Int32))]
            obtain ⟨fs, hr, hrun, hended, hW, hsame⟩ := X172.leave (v := some (.int (1 : Int32))) (fun h => by rw [Bd.returns] at h; cases h)
            refine ⟨_, _, retN X172 hx (t := .boolean) Bd.returns (by simp) (hb hby at_390) hr, hrun, hended, _, _, rfl, ?_, ⟨_, rfl⟩, hW, hsame.mono (by decide) (by decide)⟩
            show Q0 Z p0 p1 p2 p3 p4 p5 sd h0 n0 _ T172.heap _
            rw [e172]
            exact ⟨rfl, N172⟩
          ·
            refine go (fun t kt => XS.icmpNo X172.here hx rfl (hb hby at_370) rfl (flt hc175).2.2.1 kt) ?_
            show Go p e below _ m T172 373 #[iv p0, iv p1, iv p2, iv p3, iv p4, iv p5, iv (2 : Int32), iv (2 : Int32), rv b148, rv b149, rv b154, rv b162, rv b163, iv (1 : Int32)] [(.int (own_inR p5 p2 p3))]
            refine go (fun t kt => XS.iconst X172.here hx rfl (hb hby at_373) kt) ?_
            show Go p e below _ m T172 374 #[iv p0, iv p1, iv p2, iv p3, iv p4, iv p5, iv (2 : Int32), iv (2 : Int32), rv b148, rv b149, rv b154, rv b162, rv b163, iv (1 : Int32)] [(.int (1 : Int32)), (.int (own_inR p5 p2 p3))]
            refine go (fun t kt => XS.goto X172.here hx rfl (pc0 := 374) (pc' := 378) rfl (hb hby at_374) (by decide) (by decide) kt) ?_
            show Go p e below _ m T172 378 #[iv p0, iv p1, iv p2, iv p3, iv p4, iv p5, iv (2 : Int32), iv (2 : Int32), rv b148, rv b149, rv b154, rv b162, rv b163, iv (1 : Int32)] [(.int (1 : Int32)), (.int (own_inR p5 p2 p3))]
            refine go (fun t kt => XS.icmpNo X172.here hx rfl (hb hby at_378) rfl (teq (own_r3 _ _ _ hc173 hc175)).2 kt) ?_
            show Go p e below _ m T172 381 #[iv p0, iv p1, iv p2, iv p3, iv p4, iv p5, iv (2 : Int32), iv (2 : Int32), rv b148, rv b149, rv b154, rv b162, rv b163, iv (1 : Int32)] []
            refine go (fun t kt => XS.iconst X172.here hx rfl (hb hby at_381) kt) ?_
            show Go p e below _ m T172 382 #[iv p0, iv p1, iv p2, iv p3, iv p4, iv p5, iv (2 : Int32), iv (2 : Int32), rv b148, rv b149, rv b154, rv b162, rv b163, iv (1 : Int32)] [(.int (1 : Int32))]
            refine go (fun t kt => XS.goto X172.here hx rfl (pc0 := 382) (pc' := 386) rfl (hb hby at_382) (by decide) (by decide) kt) ?_
            show Go p e below _ m T172 386 #[iv p0, iv p1, iv p2, iv p3, iv p4, iv p5, iv (2 : Int32), iv (2 : Int32), rv b148, rv b149, rv b154, rv b162, rv b163, iv (1 : Int32)] [(.int (1 : Int32))]
            refine go (fun t kt => XS.istore X172.here hx rfl (hb hby at_386) rfl (l' := #[iv p0, iv p1, iv p2, iv p3, iv p4, iv p5, iv (2 : Int32), iv (2 : Int32), rv b148, rv b149, rv b154, rv b162, rv b163, iv (1 : Int32)]) rfl kt) ?_
            show Go p e below _ m T172 388 #[iv p0, iv p1, iv p2, iv p3, iv p4, iv p5, iv (2 : Int32), iv (2 : Int32), rv b148, rv b149, rv b154, rv b162, rv b163, iv (1 : Int32)] []
            refine go (fun t kt => XS.iload X172.here hx rfl (hb hby at_388) rfl kt) ?_
            show Go p e below _ m T172 390 #[iv p0, iv p1, iv p2, iv p3, iv p4, iv p5, iv (2 : Int32), iv (2 : Int32), rv b148, rv b149, rv b154, rv b162, rv b163, iv (1 : Int32)] [(.int (1 : Int32))]
            obtain ⟨fs, hr, hrun, hended, hW, hsame⟩ := X172.leave (v := some (.int (1 : Int32))) (fun h => by rw [Bd.returns] at h; cases h)
            refine ⟨_, _, retN X172 hx (t := .boolean) Bd.returns (by simp) (hb hby at_390) hr, hrun, hended, _, _, rfl, ?_, ⟨_, rfl⟩, hW, hsame.mono (by decide) (by decide)⟩
            show Q0 Z p0 p1 p2 p3 p4 p5 sd h0 n0 _ T172.heap _
            rw [e172]
            exact ⟨rfl, N172⟩
      ·
        refine go (fun t kt => XS.icmpNo X170.here hx rfl (hb hby at_312) rfl (flt hc171).1 kt) ?_
        show Go p e below _ m T170 315 #[iv p0, iv p1, iv p2, iv p3, iv p4, iv p5, iv (2 : Int32), iv (2 : Int32), rv b148, rv b149, rv b154, rv b162, rv b163, iv (1 : Int32)] [(.int (own_inR p5 p0 p1))]
        refine go (fun t kt => XS.iload X170.here hx rfl (hb hby at_315) rfl kt) ?_
        show Go p e below _ m T170 317 #[iv p0, iv p1, iv p2, iv p3, iv p4, iv p5, iv (2 : Int32), iv (2 : Int32), rv b148, rv b149, rv b154, rv b162, rv b163, iv (1 : Int32)] [(.int p5), (.int (own_inR p5 p0 p1))]
        refine go (fun t kt => XS.iloadN X170.here hx rfl (hb hby at_317) rfl kt) ?_
        show Go p e below _ m T170 318 #[iv p0, iv p1, iv p2, iv p3, iv p4, iv p5, iv (2 : Int32), iv (2 : Int32), rv b148, rv b149, rv b154, rv b162, rv b163, iv (1 : Int32)] [(.int p1), (.int p5), (.int (own_inR p5 p0 p1))]
        by_cases hc178 : p1 < p5
        ·
          refine go (fun t kt => XS.icmpYes X170.here hx rfl (pc0 := 318) (pc' := 325) rfl (hb hby at_318) rfl (tlt hc178).2.2.1 (by decide) (by decide) kt) ?_
          show Go p e below _ m T170 325 #[iv p0, iv p1, iv p2, iv p3, iv p4, iv p5, iv (2 : Int32), iv (2 : Int32), rv b148, rv b149, rv b154, rv b162, rv b163, iv (1 : Int32)] [(.int (own_inR p5 p0 p1))]
          refine go (fun t kt => XS.iconst X170.here hx rfl (hb hby at_325) kt) ?_
          show Go p e below _ m T170 326 #[iv p0, iv p1, iv p2, iv p3, iv p4, iv p5, iv (2 : Int32), iv (2 : Int32), rv b148, rv b149, rv b154, rv b162, rv b163, iv (1 : Int32)] [(.int (0 : Int32)), (.int (own_inR p5 p0 p1))]
          refine go (fun t kt => XS.icmpNo X170.here hx rfl (hb hby at_326) rfl (teq (own_r2 _ _ _ hc171 hc178)).2 kt) ?_
          show Go p e below _ m T170 329 #[iv p0, iv p1, iv p2, iv p3, iv p4, iv p5, iv (2 : Int32), iv (2 : Int32), rv b148, rv b149, rv b154, rv b162, rv b163, iv (1 : Int32)] []
          refine go (fun t kt => XS.iconst X170.here hx rfl (hb hby at_329) kt) ?_
          show Go p e below _ m T170 330 #[iv p0, iv p1, iv p2, iv p3, iv p4, iv p5, iv (2 : Int32), iv (2 : Int32), rv b148, rv b149, rv b154, rv b162, rv b163, iv (1 : Int32)] [(.int (1 : Int32))]
          refine go (fun t kt => XS.goto X170.here hx rfl (pc0 := 330) (pc' := 334) rfl (hb hby at_330) (by decide) (by decide) kt) ?_
          show Go p e below _ m T170 334 #[iv p0, iv p1, iv p2, iv p3, iv p4, iv p5, iv (2 : Int32), iv (2 : Int32), rv b148, rv b149, rv b154, rv b162, rv b163, iv (1 : Int32)] [(.int (1 : Int32))]
          refine go (fun t kt => XS.istore X170.here hx rfl (hb hby at_334) rfl (l' := #[iv p0, iv p1, iv p2, iv p3, iv p4, iv p5, iv (2 : Int32), iv (2 : Int32), rv b148, rv b149, rv b154, rv b162, rv b163, iv (1 : Int32)]) rfl kt) ?_
          show Go p e below _ m T170 336 #[iv p0, iv p1, iv p2, iv p3, iv p4, iv p5, iv (2 : Int32), iv (2 : Int32), rv b148, rv b149, rv b154, rv b162, rv b163, iv (1 : Int32)] []
          refine go (fun t kt => XS.iload X170.here hx rfl (hb hby at_336) rfl kt) ?_
          show Go p e below _ m T170 338 #[iv p0, iv p1, iv p2, iv p3, iv p4, iv p5, iv (2 : Int32), iv (2 : Int32), rv b148, rv b149, rv b154, rv b162, rv b163, iv (1 : Int32)] [(.int (2 : Int32))]
          refine go (fun t kt => XS.iconst X170.here hx rfl (hb hby at_338) kt) ?_
          show Go p e below _ m T170 339 #[iv p0, iv p1, iv p2, iv p3, iv p4, iv p5, iv (2 : Int32), iv (2 : Int32), rv b148, rv b149, rv b154, rv b162, rv b163, iv (1 : Int32)] [(.int (1 : Int32)), (.int (2 : Int32))]
          refine go (fun t kt => XS.icmpNo X170.here hx rfl (hb hby at_339) rfl (tlt (by decide : ((1 : Int32) < (2 : Int32)))).2.2.2 kt) ?_
          show Go p e below _ m T170 342 #[iv p0, iv p1, iv p2, iv p3, iv p4, iv p5, iv (2 : Int32), iv (2 : Int32), rv b148, rv b149, rv b154, rv b162, rv b163, iv (1 : Int32)] []
          refine go (fun t kt => XS.iload X170.here hx rfl (hb hby at_342) rfl kt) ?_
          show Go p e below _ m T170 344 #[iv p0, iv p1, iv p2, iv p3, iv p4, iv p5, iv (2 : Int32), iv (2 : Int32), rv b148, rv b149, rv b154, rv b162, rv b163, iv (1 : Int32)] [(.int (2 : Int32))]
          refine go (fun t kt => XS.iconst X170.here hx rfl (hb hby at_344) kt) ?_
          show Go p e below _ m T170 345 #[iv p0, iv p1, iv p2, iv p3, iv p4, iv p5, iv (2 : Int32), iv (2 : Int32), rv b148, rv b149, rv b154, rv b162, rv b163, iv (1 : Int32)] [(.int (1 : Int32)), (.int (2 : Int32))]
          refine go (fun t kt => XS.icmpNo X170.here hx rfl (hb hby at_345) rfl (tlt (by decide : ((1 : Int32) < (2 : Int32)))).2.2.2 kt) ?_
          show Go p e below _ m T170 348 #[iv p0, iv p1, iv p2, iv p3, iv p4, iv p5, iv (2 : Int32), iv (2 : Int32), rv b148, rv b149, rv b154, rv b162, rv b163, iv (1 : Int32)] []
          refine go (fun t kt => XS.iload X170.here hx rfl (hb hby at_348) rfl kt) ?_
          show Go p e below _ m T170 350 #[iv p0, iv p1, iv p2, iv p3, iv p4, iv p5, iv (2 : Int32), iv (2 : Int32), rv b148, rv b149, rv b154, rv b162, rv b163, iv (1 : Int32)] [(.int (1 : Int32))]
          refine go (fun t kt => XS.ifNo X170.here hx rfl (hb hby at_350) rfl ((if0 _ _).trans (feq (by decide : ¬ ((1 : Int32) = (0 : Int32)))).1) kt) ?_
          show Go p e below _ m T170 353 #[iv p0, iv p1, iv p2, iv p3, iv p4, iv p5, iv (2 : Int32), iv (2 : Int32), rv b148, rv b149, rv b154, rv b162, rv b163, iv (1 : Int32)] []
          refine go (fun t kt => XS.aload X170.here hx rfl (hb hby at_353) rfl rfl kt) ?_
          show Go p e below _ m T170 355 #[iv p0, iv p1, iv p2, iv p3, iv p4, iv p5, iv (2 : Int32), iv (2 : Int32), rv b148, rv b149, rv b154, rv b162, rv b163, iv (1 : Int32)] [(.ref b154)]
          refine go (fun t kt => XS.iconst X170.here hx rfl (hb hby at_355) kt) ?_
          show Go p e below _ m T170 356 #[iv p0, iv p1, iv p2, iv p3, iv p4, iv p5, iv (2 : Int32), iv (2 : Int32), rv b148, rv b149, rv b154, rv b162, rv b163, iv (1 : Int32)] [(.int (1 : Int32)), (.ref b154)]
          refine go (fun t kt => XS.iload X170.here hx rfl (hb hby at_356) rfl kt) ?_
          show Go p e below _ m T170 358 #[iv p0, iv p1, iv p2, iv p3, iv p4, iv p5, iv (2 : Int32), iv (2 : Int32), rv b148, rv b149, rv b154, rv b162, rv b163, iv (1 : Int32)] [(.int p5), (.int (1 : Int32)), (.ref b154)]
          obtain ⟨cq179, kq179, q179a, q179b, q179c⟩ := isOf hZ e170 E_b154
          obtain ⟨_, _, ⟨T179, L179, k179, n179⟩, -, X179, ⟨Lc179, hQ179, l179, y179, z179⟩, st179⟩ := X170.virtualBack hx (y := (⟨"com/example/anytime_arena/anytimearena/io/VariableTable", "inRange", "(II)Z"⟩ : MethodName)) (z := (⟨"com/example/anytime_arena/anytimearena/io/VariableTable", "inRange", "(II)Z"⟩ : MethodName)) hown (mvT hZ (hw _ (List.mem_of_getElem? (i := 86) rfl))) (mvT hZ (hw _ (List.mem_of_getElem? (i := 87) rfl))) (notFace_of_selects (args := #[]) (mvT hZ (hw _ (List.mem_of_getElem? (i := 89) rfl)))) (mvT hZ (hw _ (List.mem_of_getElem? (i := 89) rfl))) (mvT hZ (hw _ (List.mem_of_getElem? (i := 88) rfl))) (by decide) (backOf (W := 0) (rm11 l Z a0 hw [] b154 (1 : Int32) p5 c157 d157 k148 (2 : Int32) [(.int p0), (.int p2)] k149 (2 : Int32) [(.int p1), (.int p3)] p2 p3 T163.heap n0 Zz163 F_low_b154 F_high_b154 V_c157 V_d157 ⟨by decide, by decide⟩ ⟨by decide, by decide⟩ rfl rfl) hZ (hw _ (List.mem_of_getElem? (i := 90) rfl)) (hw _ (List.mem_of_getElem? (i := 3) rfl)) (by decide) (by decide)) q179a q179c (g := (mkF m 358 #[iv p0, iv p1, iv p2, iv p3, iv p4, iv p5, iv (2 : Int32), iv (2 : Int32), rv b148, rv b149, rv b154, rv b162, rv b163, iv (1 : Int32)] [(.int p5), (.int (1 : Int32)), (.ref b154)])) rfl (by rw [hml]; rfl) (Steps.refl _) (argsL := [(.int (1 : Int32)), (.int p5)]) (rest := []) (lenOf pd_3 rfl) rfl (by show 2 * 0 + _ ≤ _; exact Nat.le_of_eq rfl) (hb hby at_358) (fun _ _ => ⟨rfl, e170, (by decide : 15 + 0 ≤ _), (by decide : 39 + 0 ≤ _)⟩)
          dsimp only [Pt.U, Pt.locs, Pt.cells, Pt.slots] at X179 l179 y179 z179 st179 hQ179
          subst l179 y179 z179
          obtain ⟨rfl, Nq179, e179⟩ := hQ179
          have N179 := Fr.app N170 Nq179
          refine go (fun t kt => st179.trans kt) ?_
          show Go p e below _ m T179 361 #[iv p0, iv p1, iv p2, iv p3, iv p4, iv p5, iv (2 : Int32), iv (2 : Int32), rv b148, rv b149, rv b154, rv b162, rv b163, iv (1 : Int32)] [(.int (own_inR p5 p2 p3))]
          refine go (fun t kt => XS.iload X179.here hx rfl (hb hby at_361) rfl kt) ?_
          show Go p e below _ m T179 363 #[iv p0, iv p1, iv p2, iv p3, iv p4, iv p5, iv (2 : Int32), iv (2 : Int32), rv b148, rv b149, rv b154, rv b162, rv b163, iv (1 : Int32)] [(.int p5), (.int (own_inR p5 p2 p3))]
          refine go (fun t kt => XS.iloadN X179.here hx rfl (hb hby at_363) rfl kt) ?_
          show Go p e below _ m T179 364 #[iv p0, iv p1, iv p2, iv p3, iv p4, iv p5, iv (2 : Int32), iv (2 : Int32), rv b148, rv b149, rv b154, rv b162, rv b163, iv (1 : Int32)] [(.int p2), (.int p5), (.int (own_inR p5 p2 p3))]
          by_cases hc180 : p5 < p2
          ·
            refine go (fun t kt => XS.icmpYes X179.here hx rfl (pc0 := 364) (pc' := 377) rfl (hb hby at_364) rfl (tlt hc180).1 (by decide) (by decide) kt) ?_
            show Go p e below _ m T179 377 #[iv p0, iv p1, iv p2, iv p3, iv p4, iv p5, iv (2 : Int32), iv (2 : Int32), rv b148, rv b149, rv b154, rv b162, rv b163, iv (1 : Int32)] [(.int (own_inR p5 p2 p3))]
            refine go (fun t kt => XS.iconst X179.here hx rfl (hb hby at_377) kt) ?_
            show Go p e below _ m T179 378 #[iv p0, iv p1, iv p2, iv p3, iv p4, iv p5, iv (2 : Int32), iv (2 : Int32), rv b148, rv b149, rv b154, rv b162, rv b163, iv (1 : Int32)] [(.int (0 : Int32)), (.int (own_inR p5 p2 p3))]
            refine go (fun t kt => XS.icmpNo X179.here hx rfl (hb hby at_378) rfl (teq (own_r1 _ _ _ hc180)).2 kt) ?_
            show Go p e below _ m T179 381 #[iv p0, iv p1, iv p2, iv p3, iv p4, iv p5, iv (2 : Int32), iv (2 : Int32), rv b148, rv b149, rv b154, rv b162, rv b163, iv (1 : Int32)] []
            refine go (fun t kt => XS.iconst X179.here hx rfl (hb hby at_381) kt) ?_
            show Go p e below _ m T179 382 #[iv p0, iv p1, iv p2, iv p3, iv p4, iv p5, iv (2 : Int32), iv (2 : Int32), rv b148, rv b149, rv b154, rv b162, rv b163, iv (1 : Int32)] [(.int (1 : Int32))]
            refine go (fun t kt => XS.goto X179.here hx rfl (pc0 := 382) (pc' := 386) rfl (hb hby at_382) (by decide) (by decide) kt) ?_
            show Go p e below _ m T179 386 #[iv p0, iv p1, iv p2, iv p3, iv p4, iv p5, iv (2 : Int32), iv (2 : Int32), rv b148, rv b149, rv b154, rv b162, rv b163, iv (1 : Int32)] [(.int (1 : Int32))]
            refine go (fun t kt => XS.istore X179.here hx rfl (hb hby at_386) rfl (l' := #[iv p0, iv p1, iv p2, iv p3, iv p4, iv p5, iv (2 : Int32), iv (2 : Int32), rv b148, rv b149, rv b154, rv b162, rv b163, iv (1 : Int32)]) rfl kt) ?_
            show Go p e below _ m T179 388 #[iv p0, iv p1, iv p2, iv p3, iv p4, iv p5, iv (2 : Int32), iv (2 : Int32), rv b148, rv b149, rv b154, rv b162, rv b163, iv (1 : Int32)] []
            refine go (fun t kt => XS.iload X179.here hx rfl (hb hby at_388) rfl kt) ?_
            show Go p e below _ m T179 390 #[iv p0, iv p1, iv p2, iv p3, iv p4, iv p5, iv (2 : Int32), iv (2 : Int32), rv b148, rv b149, rv b154, rv b162, rv b163, iv (1 : Int32)] [(.int (1 : Int32))]
            obtain ⟨fs, hr, hrun, hended, hW, hsame⟩ := X179.leave (v := some (.int (1 : Int32))) (fun h => by rw [Bd.returns] at h; cases h)
            refine ⟨_, _, retN X179 hx (t := .boolean) Bd.returns (by simp) (hb hby at_390) hr, hrun, hended, _, _, rfl, ?_, ⟨_, rfl⟩, hW, hsame.mono (by decide) (by decide)⟩
            show Q0 Z p0 p1 p2 p3 p4 p5 sd h0 n0 _ T179.heap _
            rw [e179]
            exact ⟨rfl, N179⟩
          ·
            refine go (fun t kt => XS.icmpNo X179.here hx rfl (hb hby at_364) rfl (flt hc180).1 kt) ?_
            show Go p e below _ m T179 367 #[iv p0, iv p1, iv p2, iv p3, iv p4, iv p5, iv (2 : Int32), iv (2 : Int32), rv b148, rv b149, rv b154, rv b162, rv b163, iv (1 : Int32)] [(.int (own_inR p5 p2 p3))]
            refine go (fun t kt => XS.iload X179.here hx rfl (hb hby at_367) rfl kt) ?_
            show Go p e below _ m T179 369 #[iv p0, iv p1, iv p2, iv p3, iv p4, iv p5, iv (2 : Int32), iv (2 : Int32), rv b148, rv b149, rv b154, rv b162, rv b163, iv (1 : Int32)] [(.int p5), (.int (own_inR p5 p2 p3))]
            refine go (fun t kt => XS.iloadN X179.here hx rfl (hb hby at_369) rfl kt) ?_
            show Go p e below _ m T179 370 #[iv p0, iv p1, iv p2, iv p3, iv p4, iv p5, iv (2 : Int32), iv (2 : Int32), rv b148, rv b149, rv b154, rv b162, rv b163, iv (1 : Int32)] [(.int p3), (.int p5), (.int (own_inR p5 p2 p3))]
            by_cases hc182 : p3 < p5
            ·
              refine go (fun t kt => XS.icmpYes X179.here hx rfl (pc0 := 370) (pc' := 377) rfl (hb hby at_370) rfl (tlt hc182).2.2.1 (by decide) (by decide) kt) ?_
              show Go p e below _ m T179 377 #[iv p0, iv p1, iv p2, iv p3, iv p4, iv p5, iv (2 : Int32), iv (2 : Int32), rv b148, rv b149, rv b154, rv b162, rv b163, iv (1 : Int32)] [(.int (own_inR p5 p2 p3))]
              refine go (fun t kt => XS.iconst X179.here hx rfl (hb hby at_377) kt) ?_
              show Go p e below _ m T179 378 #[iv p0, iv p1, iv p2, iv p3, iv p4, iv p5, iv (2 : Int32), iv (2 : Int32), rv b148, rv b149, rv b154, rv b162, rv b163, iv (1 : Int32)] [(.int (0 : Int32)), (.int (own_inR p5 p2 p3))]
              refine go (fun t kt => XS.icmpNo X179.here hx rfl (hb hby at_378) rfl (teq (own_r2 _ _ _ hc180 hc182)).2 kt) ?_
              show Go p e below _ m T179 381 #[iv p0, iv p1, iv p2, iv p3, iv p4, iv p5, iv (2 : Int32), iv (2 : Int32), rv b148, rv b149, rv b154, rv b162, rv b163, iv (1 : Int32)] []
              refine go (fun t kt => XS.iconst X179.here hx rfl (hb hby at_381) kt) ?_
              show Go p e below _ m T179 382 #[iv p0, iv p1, iv p2, iv p3, iv p4, iv p5, iv (2 : Int32), iv (2 : Int32), rv b148, rv b149, rv b154, rv b162, rv b163, iv (1 : Int32)] [(.int (1 : Int32))]
              refine go (fun t kt => XS.goto X179.here hx rfl (pc0 := 382) (pc' := 386) rfl (hb hby at_382) (by decide) (by decide) kt) ?_
              show Go p e below _ m T179 386 #[iv p0, iv p1, iv p2, iv p3, iv p4, iv p5, iv (2 : Int32), iv (2 : Int32), rv b148, rv b149, rv b154, rv b162, rv b163, iv (1 : Int32)] [(.int (1 : Int32))]
              refine go (fun t kt => XS.istore X179.here hx rfl (hb hby at_386) rfl (l' := #[iv p0, iv p1, iv p2, iv p3, iv p4, iv p5, iv (2 : Int32), iv (2 : Int32), rv b148, rv b149, rv b154, rv b162, rv b163, iv (1 : Int32)]) rfl kt) ?_
              show Go p e below _ m T179 388 #[iv p0, iv p1, iv p2, iv p3, iv p4, iv p5, iv (2 : Int32), iv (2 : Int32), rv b148, rv b149, rv b154, rv b162, rv b163, iv (1 : Int32)] []
              refine go (fun t kt => XS.iload X179.here hx rfl (hb hby at_388) rfl kt) ?_
              show Go p e below _ m T179 390 #[iv p0, iv p1, iv p2, iv p3, iv p4, iv p5, iv (2 : Int32), iv (2 : Int32), rv b148, rv b149, rv b154, rv b162, rv b163, iv (1 : Int32)] [(.int (1 : Int32))]
              obtain ⟨fs, hr, hrun, hended, hW, hsame⟩ := X179.leave (v := some (.int (1 : Int32))) (fun h => by rw [Bd.returns] at h; cases h)
              refine ⟨_, _, retN X179 hx (t := .boolean) Bd.returns (by simp) (hb hby at_390) hr, hrun, hended, _, _, rfl, ?_, ⟨_, rfl⟩, hW, hsame.mono (by decide) (by decide)⟩
              show Q0 Z p0 p1 p2 p3 p4 p5 sd h0 n0 _ T179.heap _
              rw [e179]
              exact ⟨rfl, N179⟩
            ·
              refine go (fun t kt => XS.icmpNo X179.here hx rfl (hb hby at_370) rfl (flt hc182).2.2.1 kt) ?_
              show Go p e below _ m T179 373 #[iv p0, iv p1, iv p2, iv p3, iv p4, iv p5, iv (2 : Int32), iv (2 : Int32), rv b148, rv b149, rv b154, rv b162, rv b163, iv (1 : Int32)] [(.int (own_inR p5 p2 p3))]
              refine go (fun t kt => XS.iconst X179.here hx rfl (hb hby at_373) kt) ?_
              show Go p e below _ m T179 374 #[iv p0, iv p1, iv p2, iv p3, iv p4, iv p5, iv (2 : Int32), iv (2 : Int32), rv b148, rv b149, rv b154, rv b162, rv b163, iv (1 : Int32)] [(.int (1 : Int32)), (.int (own_inR p5 p2 p3))]
              refine go (fun t kt => XS.goto X179.here hx rfl (pc0 := 374) (pc' := 378) rfl (hb hby at_374) (by decide) (by decide) kt) ?_
              show Go p e below _ m T179 378 #[iv p0, iv p1, iv p2, iv p3, iv p4, iv p5, iv (2 : Int32), iv (2 : Int32), rv b148, rv b149, rv b154, rv b162, rv b163, iv (1 : Int32)] [(.int (1 : Int32)), (.int (own_inR p5 p2 p3))]
              refine go (fun t kt => XS.icmpNo X179.here hx rfl (hb hby at_378) rfl (teq (own_r3 _ _ _ hc180 hc182)).2 kt) ?_
              show Go p e below _ m T179 381 #[iv p0, iv p1, iv p2, iv p3, iv p4, iv p5, iv (2 : Int32), iv (2 : Int32), rv b148, rv b149, rv b154, rv b162, rv b163, iv (1 : Int32)] []
              refine go (fun t kt => XS.iconst X179.here hx rfl (hb hby at_381) kt) ?_
              show Go p e below _ m T179 382 #[iv p0, iv p1, iv p2, iv p3, iv p4, iv p5, iv (2 : Int32), iv (2 : Int32), rv b148, rv b149, rv b154, rv b162, rv b163, iv (1 : Int32)] [(.int (1 : Int32))]
              refine go (fun t kt => XS.goto X179.here hx rfl (pc0 := 382) (pc' := 386) rfl (hb hby at_382) (by decide) (by decide) kt) ?_
              show Go p e below _ m T179 386 #[iv p0, iv p1, iv p2, iv p3, iv p4, iv p5, iv (2 : Int32), iv (2 : Int32), rv b148, rv b149, rv b154, rv b162, rv b163, iv (1 : Int32)] [(.int (1 : Int32))]
              refine go (fun t kt => XS.istore X179.here hx rfl (hb hby at_386) rfl (l' := #[iv p0, iv p1, iv p2, iv p3, iv p4, iv p5, iv (2 : Int32), iv (2 : Int32), rv b148, rv b149, rv b154, rv b162, rv b163, iv (1 : Int32)]) rfl kt) ?_
              show Go p e below _ m T179 388 #[iv p0, iv p1, iv p2, iv p3, iv p4, iv p5, iv (2 : Int32), iv (2 : Int32), rv b148, rv b149, rv b154, rv b162, rv b163, iv (1 : Int32)] []
              refine go (fun t kt => XS.iload X179.here hx rfl (hb hby at_388) rfl kt) ?_
              show Go p e below _ m T179 390 #[iv p0, iv p1, iv p2, iv p3, iv p4, iv p5, iv (2 : Int32), iv (2 : Int32), rv b148, rv b149, rv b154, rv b162, rv b163, iv (1 : Int32)] [(.int (1 : Int32))]
              obtain ⟨fs, hr, hrun, hended, hW, hsame⟩ := X179.leave (v := some (.int (1 : Int32))) (fun h => by rw [Bd.returns] at h; cases h)
              refine ⟨_, _, retN X179 hx (t := .boolean) Bd.returns (by simp) (hb hby at_390) hr, hrun, hended, _, _, rfl, ?_, ⟨_, rfl⟩, hW, hsame.mono (by decide) (by decide)⟩
              show Q0 Z p0 p1 p2 p3 p4 p5 sd h0 n0 _ T179.heap _
              rw [e179]
              exact ⟨rfl, N179⟩
        ·
          refine go (fun t kt => XS.icmpNo X170.here hx rfl (hb hby at_318) rfl (flt hc178).2.2.1 kt) ?_
          show Go p e below _ m T170 321 #[iv p0, iv p1, iv p2, iv p3, iv p4, iv p5, iv (2 : Int32), iv (2 : Int32), rv b148, rv b149, rv b154, rv b162, rv b163, iv (1 : Int32)] [(.int (own_inR p5 p0 p1))]
          refine go (fun t kt => XS.iconst X170.here hx rfl (hb hby at_321) kt) ?_
          show Go p e below _ m T170 322 #[iv p0, iv p1, iv p2, iv p3, iv p4, iv p5, iv (2 : Int32), iv (2 : Int32), rv b148, rv b149, rv b154, rv b162, rv b163, iv (1 : Int32)] [(.int (1 : Int32)), (.int (own_inR p5 p0 p1))]
          refine go (fun t kt => XS.goto X170.here hx rfl (pc0 := 322) (pc' := 326) rfl (hb hby at_322) (by decide) (by decide) kt) ?_
          show Go p e below _ m T170 326 #[iv p0, iv p1, iv p2, iv p3, iv p4, iv p5, iv (2 : Int32), iv (2 : Int32), rv b148, rv b149, rv b154, rv b162, rv b163, iv (1 : Int32)] [(.int (1 : Int32)), (.int (own_inR p5 p0 p1))]
          refine go (fun t kt => XS.icmpNo X170.here hx rfl (hb hby at_326) rfl (teq (own_r3 _ _ _ hc171 hc178)).2 kt) ?_
          show Go p e below _ m T170 329 #[iv p0, iv p1, iv p2, iv p3, iv p4, iv p5, iv (2 : Int32), iv (2 : Int32), rv b148, rv b149, rv b154, rv b162, rv b163, iv (1 : Int32)] []
          refine go (fun t kt => XS.iconst X170.here hx rfl (hb hby at_329) kt) ?_
          show Go p e below _ m T170 330 #[iv p0, iv p1, iv p2, iv p3, iv p4, iv p5, iv (2 : Int32), iv (2 : Int32), rv b148, rv b149, rv b154, rv b162, rv b163, iv (1 : Int32)] [(.int (1 : Int32))]
          refine go (fun t kt => XS.goto X170.here hx rfl (pc0 := 330) (pc' := 334) rfl (hb hby at_330) (by decide) (by decide) kt) ?_
          show Go p e below _ m T170 334 #[iv p0, iv p1, iv p2, iv p3, iv p4, iv p5, iv (2 : Int32), iv (2 : Int32), rv b148, rv b149, rv b154, rv b162, rv b163, iv (1 : Int32)] [(.int (1 : Int32))]
          refine go (fun t kt => XS.istore X170.here hx rfl (hb hby at_334) rfl (l' := #[iv p0, iv p1, iv p2, iv p3, iv p4, iv p5, iv (2 : Int32), iv (2 : Int32), rv b148, rv b149, rv b154, rv b162, rv b163, iv (1 : Int32)]) rfl kt) ?_
          show Go p e below _ m T170 336 #[iv p0, iv p1, iv p2, iv p3, iv p4, iv p5, iv (2 : Int32), iv (2 : Int32), rv b148, rv b149, rv b154, rv b162, rv b163, iv (1 : Int32)] []
          refine go (fun t kt => XS.iload X170.here hx rfl (hb hby at_336) rfl kt) ?_
          show Go p e below _ m T170 338 #[iv p0, iv p1, iv p2, iv p3, iv p4, iv p5, iv (2 : Int32), iv (2 : Int32), rv b148, rv b149, rv b154, rv b162, rv b163, iv (1 : Int32)] [(.int (2 : Int32))]
          refine go (fun t kt => XS.iconst X170.here hx rfl (hb hby at_338) kt) ?_
          show Go p e below _ m T170 339 #[iv p0, iv p1, iv p2, iv p3, iv p4, iv p5, iv (2 : Int32), iv (2 : Int32), rv b148, rv b149, rv b154, rv b162, rv b163, iv (1 : Int32)] [(.int (1 : Int32)), (.int (2 : Int32))]
          refine go (fun t kt => XS.icmpNo X170.here hx rfl (hb hby at_339) rfl (tlt (by decide : ((1 : Int32) < (2 : Int32)))).2.2.2 kt) ?_
          show Go p e below _ m T170 342 #[iv p0, iv p1, iv p2, iv p3, iv p4, iv p5, iv (2 : Int32), iv (2 : Int32), rv b148, rv b149, rv b154, rv b162, rv b163, iv (1 : Int32)] []
          refine go (fun t kt => XS.iload X170.here hx rfl (hb hby at_342) rfl kt) ?_
          show Go p e below _ m T170 344 #[iv p0, iv p1, iv p2, iv p3, iv p4, iv p5, iv (2 : Int32), iv (2 : Int32), rv b148, rv b149, rv b154, rv b162, rv b163, iv (1 : Int32)] [(.int (2 : Int32))]
          refine go (fun t kt => XS.iconst X170.here hx rfl (hb hby at_344) kt) ?_
          show Go p e below _ m T170 345 #[iv p0, iv p1, iv p2, iv p3, iv p4, iv p5, iv (2 : Int32), iv (2 : Int32), rv b148, rv b149, rv b154, rv b162, rv b163, iv (1 : Int32)] [(.int (1 : Int32)), (.int (2 : Int32))]
          refine go (fun t kt => XS.icmpNo X170.here hx rfl (hb hby at_345) rfl (tlt (by decide : ((1 : Int32) < (2 : Int32)))).2.2.2 kt) ?_
          show Go p e below _ m T170 348 #[iv p0, iv p1, iv p2, iv p3, iv p4, iv p5, iv (2 : Int32), iv (2 : Int32), rv b148, rv b149, rv b154, rv b162, rv b163, iv (1 : Int32)] []
          refine go (fun t kt => XS.iload X170.here hx rfl (hb hby at_348) rfl kt) ?_
          show Go p e below _ m T170 350 #[iv p0, iv p1, iv p2, iv p3, iv p4, iv p5, iv (2 : Int32), iv (2 : Int32), rv b148, rv b149, rv b154, rv b162, rv b163, iv (1 : Int32)] [(.int (1 : Int32))]
          refine go (fun t kt => XS.ifNo X170.here hx rfl (hb hby at_350) rfl ((if0 _ _).trans (feq (by decide : ¬ ((1 : Int32) = (0 : Int32)))).1) kt) ?_
          show Go p e below _ m T170 353 #[iv p0, iv p1, iv p2, iv p3, iv p4, iv p5, iv (2 : Int32), iv (2 : Int32), rv b148, rv b149, rv b154, rv b162, rv b163, iv (1 : Int32)] []
          refine go (fun t kt => XS.aload X170.here hx rfl (hb hby at_353) rfl rfl kt) ?_
          show Go p e below _ m T170 355 #[iv p0, iv p1, iv p2, iv p3, iv p4, iv p5, iv (2 : Int32), iv (2 : Int32), rv b148, rv b149, rv b154, rv b162, rv b163, iv (1 : Int32)] [(.ref b154)]
          refine go (fun t kt => XS.iconst X170.here hx rfl (hb hby at_355) kt) ?_
          show Go p e below _ m T170 356 #[iv p0, iv p1, iv p2, iv p3, iv p4, iv p5, iv (2 : Int32), iv (2 : Int32), rv b148, rv b149, rv b154, rv b162, rv b163, iv (1 : Int32)] [(.int (1 : Int32)), (.ref b154)]
          refine go (fun t kt => XS.iload X170.here hx rfl (hb hby at_356) rfl kt) ?_
          show Go p e below _ m T170 358 #[iv p0, iv p1, iv p2, iv p3, iv p4, iv p5, iv (2 : Int32), iv (2 : Int32), rv b148, rv b149, rv b154, rv b162, rv b163, iv (1 : Int32)] [(.int p5), (.int (1 : Int32)), (.ref b154)]
          obtain ⟨cq185, kq185, q185a, q185b, q185c⟩ := isOf hZ e170 E_b154
          obtain ⟨_, _, ⟨T185, L185, k185, n185⟩, -, X185, ⟨Lc185, hQ185, l185, y185, z185⟩, st185⟩ := X170.virtualBack hx (y := (⟨"com/example/anytime_arena/anytimearena/io/VariableTable", "inRange", "(II)Z"⟩ : MethodName)) (z := (⟨"com/example/anytime_arena/anytimearena/io/VariableTable", "inRange", "(II)Z"⟩ : MethodName)) hown (mvT hZ (hw _ (List.mem_of_getElem? (i := 86) rfl))) (mvT hZ (hw _ (List.mem_of_getElem? (i := 87) rfl))) (notFace_of_selects (args := #[]) (mvT hZ (hw _ (List.mem_of_getElem? (i := 89) rfl)))) (mvT hZ (hw _ (List.mem_of_getElem? (i := 89) rfl))) (mvT hZ (hw _ (List.mem_of_getElem? (i := 88) rfl))) (by decide) (backOf (W := 0) (rm11 l Z a0 hw [] b154 (1 : Int32) p5 c157 d157 k148 (2 : Int32) [(.int p0), (.int p2)] k149 (2 : Int32) [(.int p1), (.int p3)] p2 p3 T163.heap n0 Zz163 F_low_b154 F_high_b154 V_c157 V_d157 ⟨by decide, by decide⟩ ⟨by decide, by decide⟩ rfl rfl) hZ (hw _ (List.mem_of_getElem? (i := 90) rfl)) (hw _ (List.mem_of_getElem? (i := 3) rfl)) (by decide) (by decide)) q185a q185c (g := (mkF m 358 #[iv p0, iv p1, iv p2, iv p3, iv p4, iv p5, iv (2 : Int32), iv (2 : Int32), rv b148, rv b149, rv b154, rv b162, rv b163, iv (1 : Int32)] [(.int p5), (.int (1 : Int32)), (.ref b154)])) rfl (by rw [hml]; rfl) (Steps.refl _) (argsL := [(.int (1 : Int32)), (.int p5)]) (rest := []) (lenOf pd_3 rfl) rfl (by show 2 * 0 + _ ≤ _; exact Nat.le_of_eq rfl) (hb hby at_358) (fun _ _ => ⟨rfl, e170, (by decide : 15 + 0 ≤ _), (by decide : 39 + 0 ≤ _)⟩)
          dsimp only [Pt.U, Pt.locs, Pt.cells, Pt.slots] at X185 l185 y185 z185 st185 hQ185
          subst l185 y185 z185
          obtain ⟨rfl, Nq185, e185⟩ := hQ185
          have N185 := Fr.app N170 Nq185
          refine go (fun t kt => st185.trans kt) ?_
          show Go p e below _ m T185 361 #[iv p0, iv p1, iv p2, iv p3, iv p4, iv p5, iv (2 : Int32), iv (2 : Int32), rv b148, rv b149, rv b154, rv b162, rv b163, iv (1 : Int32)] [(.int (own_inR p5 p2 p3))]
          refine go (fun t kt => XS.iload X185.here hx rfl (hb hby at_361) rfl kt) ?_
          show Go p e below _ m T185 363 #[iv p0, iv p1, iv p2, iv p3, iv p4, iv p5, iv (2 : Int32), iv (2 : Int32), rv b148, rv b149, rv b154, rv b162, rv b163, iv (1 : Int32)] [(.int p5), (.int (own_inR p5 p2 p3))]
          refine go (fun t kt => XS.iloadN X185.here hx rfl (hb hby at_363) rfl kt) ?_
          show Go p e below _ m T185 364 #[iv p0, iv p1, iv p2, iv p3, iv p4, iv p5, iv (2 : Int32), iv (2 : Int32), rv b148, rv b149, rv b154, rv b162, rv b163, iv (1 : Int32)] [(.int p2), (.int p5), (.int (own_inR p5 p2 p3))]
          by_cases hc186 : p5 < p2
          ·
            refine go (fun t kt => XS.icmpYes X185.here hx rfl (pc0 := 364) (pc' := 377) rfl (hb hby at_364) rfl (tlt hc186).1 (by decide) (by decide) kt) ?_
            show Go p e below _ m T185 377 #[iv p0, iv p1, iv p2, iv p3, iv p4, iv p5, iv (2 : Int32), iv (2 : Int32), rv b148, rv b149, rv b154, rv b162, rv b163, iv (1 : Int32)] [(.int (own_inR p5 p2 p3))]
            refine go (fun t kt => XS.iconst X185.here hx rfl (hb hby at_377) kt) ?_
            show Go p e below _ m T185 378 #[iv p0, iv p1, iv p2, iv p3, iv p4, iv p5, iv (2 : Int32), iv (2 : Int32), rv b148, rv b149, rv b154, rv b162, rv b163, iv (1 : Int32)] [(.int (0 : Int32)), (.int (own_inR p5 p2 p3))]
            refine go (fun t kt => XS.icmpNo X185.here hx rfl (hb hby at_378) rfl (teq (own_r1 _ _ _ hc186)).2 kt) ?_
            show Go p e below _ m T185 381 #[iv p0, iv p1, iv p2, iv p3, iv p4, iv p5, iv (2 : Int32), iv (2 : Int32), rv b148, rv b149, rv b154, rv b162, rv b163, iv (1 : Int32)] []
            refine go (fun t kt => XS.iconst X185.here hx rfl (hb hby at_381) kt) ?_
            show Go p e below _ m T185 382 #[iv p0, iv p1, iv p2, iv p3, iv p4, iv p5, iv (2 : Int32), iv (2 : Int32), rv b148, rv b149, rv b154, rv b162, rv b163, iv (1 : Int32)] [(.int (1 : Int32))]
            refine go (fun t kt => XS.goto X185.here hx rfl (pc0 := 382) (pc' := 386) rfl (hb hby at_382) (by decide) (by decide) kt) ?_
            show Go p e below _ m T185 386 #[iv p0, iv p1, iv p2, iv p3, iv p4, iv p5, iv (2 : Int32), iv (2 : Int32), rv b148, rv b149, rv b154, rv b162, rv b163, iv (1 : Int32)] [(.int (1 : Int32))]
            refine go (fun t kt => XS.istore X185.here hx rfl (hb hby at_386) rfl (l' := #[iv p0, iv p1, iv p2, iv p3, iv p4, iv p5, iv (2 : Int32), iv (2 : Int32), rv b148, rv b149, rv b154, rv b162, rv b163, iv (1 : Int32)]) rfl kt) ?_
            show Go p e below _ m T185 388 #[iv p0, iv p1, iv p2, iv p3, iv p4, iv p5, iv (2 : Int32), iv (2 : Int32), rv b148, rv b149, rv b154, rv b162, rv b163, iv (1 : Int32)] []
            refine go (fun t kt => XS.iload X185.here hx rfl (hb hby at_388) rfl kt) ?_
            show Go p e below _ m T185 390 #[iv p0, iv p1, iv p2, iv p3, iv p4, iv p5, iv (2 : Int32), iv (2 : Int32), rv b148, rv b149, rv b154, rv b162, rv b163, iv (1 : Int32)] [(.int (1 : Int32))]
            obtain ⟨fs, hr, hrun, hended, hW, hsame⟩ := X185.leave (v := some (.int (1 : Int32))) (fun h => by rw [Bd.returns] at h; cases h)
            refine ⟨_, _, retN X185 hx (t := .boolean) Bd.returns (by simp) (hb hby at_390) hr, hrun, hended, _, _, rfl, ?_, ⟨_, rfl⟩, hW, hsame.mono (by decide) (by decide)⟩
            show Q0 Z p0 p1 p2 p3 p4 p5 sd h0 n0 _ T185.heap _
            rw [e185]
            exact ⟨rfl, N185⟩
          ·
            refine go (fun t kt => XS.icmpNo X185.here hx rfl (hb hby at_364) rfl (flt hc186).1 kt) ?_
            show Go p e below _ m T185 367 #[iv p0, iv p1, iv p2, iv p3, iv p4, iv p5, iv (2 : Int32), iv (2 : Int32), rv b148, rv b149, rv b154, rv b162, rv b163, iv (1 : Int32)] [(.int (own_inR p5 p2 p3))]
            refine go (fun t kt => XS.iload X185.here hx rfl (hb hby at_367) rfl kt) ?_
            show Go p e below _ m T185 369 #[iv p0, iv p1, iv p2, iv p3, iv p4, iv p5, iv (2 : Int32), iv (2 : Int32), rv b148, rv b149, rv b154, rv b162, rv b163, iv (1 : Int32)] [(.int p5), (.int (own_inR p5 p2 p3))]
            refine go (fun t kt => XS.iloadN X185.here hx rfl (hb hby at_369) rfl kt) ?_
            show Go p e below _ m T185 370 #[iv p0, iv p1, iv p2, iv p3, iv p4, iv p5, iv (2 : Int32), iv (2 : Int32), rv b148, rv b149, rv b154, rv b162, rv b163, iv (1 : Int32)] [(.int p3), (.int p5), (.int (own_inR p5 p2 p3))]
            by_cases hc188 : p3 < p5
            ·
              refine go (fun t kt => XS.icmpYes X185.here hx rfl (pc0 := 370) (pc' := 377) rfl (hb hby at_370) rfl (tlt hc188).2.2.1 (by decide) (by decide) kt) ?_
              show Go p e below _ m T185 377 #[iv p0, iv p1, iv p2, iv p3, iv p4, iv p5, iv (2 : Int32), iv (2 : Int32), rv b148, rv b149, rv b154, rv b162, rv b163, iv (1 : Int32)] [(.int (own_inR p5 p2 p3))]
              refine go (fun t kt => XS.iconst X185.here hx rfl (hb hby at_377) kt) ?_
              show Go p e below _ m T185 378 #[iv p0, iv p1, iv p2, iv p3, iv p4, iv p5, iv (2 : Int32), iv (2 : Int32), rv b148, rv b149, rv b154, rv b162, rv b163, iv (1 : Int32)] [(.int (0 : Int32)), (.int (own_inR p5 p2 p3))]
              refine go (fun t kt => XS.icmpNo X185.here hx rfl (hb hby at_378) rfl (teq (own_r2 _ _ _ hc186 hc188)).2 kt) ?_
              show Go p e below _ m T185 381 #[iv p0, iv p1, iv p2, iv p3, iv p4, iv p5, iv (2 : Int32), iv (2 : Int32), rv b148, rv b149, rv b154, rv b162, rv b163, iv (1 : Int32)] []
              refine go (fun t kt => XS.iconst X185.here hx rfl (hb hby at_381) kt) ?_
              show Go p e below _ m T185 382 #[iv p0, iv p1, iv p2, iv p3, iv p4, iv p5, iv (2 : Int32), iv (2 : Int32), rv b148, rv b149, rv b154, rv b162, rv b163, iv (1 : Int32)] [(.int (1 : Int32))]
              refine go (fun t kt => XS.goto X185.here hx rfl (pc0 := 382) (pc' := 386) rfl (hb hby at_382) (by decide) (by decide) kt) ?_
              show Go p e below _ m T185 386 #[iv p0, iv p1, iv p2, iv p3, iv p4, iv p5, iv (2 : Int32), iv (2 : Int32), rv b148, rv b149, rv b154, rv b162, rv b163, iv (1 : Int32)] [(.int (1 : Int32))]
              refine go (fun t kt => XS.istore X185.here hx rfl (hb hby at_386) rfl (l' := #[iv p0, iv p1, iv p2, iv p3, iv p4, iv p5, iv (2 : Int32), iv (2 : Int32), rv b148, rv b149, rv b154, rv b162, rv b163, iv (1 : Int32)]) rfl kt) ?_
              show Go p e below _ m T185 388 #[iv p0, iv p1, iv p2, iv p3, iv p4, iv p5, iv (2 : Int32), iv (2 : Int32), rv b148, rv b149, rv b154, rv b162, rv b163, iv (1 : Int32)] []
              refine go (fun t kt => XS.iload X185.here hx rfl (hb hby at_388) rfl kt) ?_
              show Go p e below _ m T185 390 #[iv p0, iv p1, iv p2, iv p3, iv p4, iv p5, iv (2 : Int32), iv (2 : Int32), rv b148, rv b149, rv b154, rv b162, rv b163, iv (1 : Int32)] [(.int (1 : Int32))]
              obtain ⟨fs, hr, hrun, hended, hW, hsame⟩ := X185.leave (v := some (.int (1 : Int32))) (fun h => by rw [Bd.returns] at h; cases h)
              refine ⟨_, _, retN X185 hx (t := .boolean) Bd.returns (by simp) (hb hby at_390) hr, hrun, hended, _, _, rfl, ?_, ⟨_, rfl⟩, hW, hsame.mono (by decide) (by decide)⟩
              show Q0 Z p0 p1 p2 p3 p4 p5 sd h0 n0 _ T185.heap _
              rw [e185]
              exact ⟨rfl, N185⟩
            ·
              refine go (fun t kt => XS.icmpNo X185.here hx rfl (hb hby at_370) rfl (flt hc188).2.2.1 kt) ?_
              show Go p e below _ m T185 373 #[iv p0, iv p1, iv p2, iv p3, iv p4, iv p5, iv (2 : Int32), iv (2 : Int32), rv b148, rv b149, rv b154, rv b162, rv b163, iv (1 : Int32)] [(.int (own_inR p5 p2 p3))]
              refine go (fun t kt => XS.iconst X185.here hx rfl (hb hby at_373) kt) ?_
              show Go p e below _ m T185 374 #[iv p0, iv p1, iv p2, iv p3, iv p4, iv p5, iv (2 : Int32), iv (2 : Int32), rv b148, rv b149, rv b154, rv b162, rv b163, iv (1 : Int32)] [(.int (1 : Int32)), (.int (own_inR p5 p2 p3))]
              refine go (fun t kt => XS.goto X185.here hx rfl (pc0 := 374) (pc' := 378) rfl (hb hby at_374) (by decide) (by decide) kt) ?_
              show Go p e below _ m T185 378 #[iv p0, iv p1, iv p2, iv p3, iv p4, iv p5, iv (2 : Int32), iv (2 : Int32), rv b148, rv b149, rv b154, rv b162, rv b163, iv (1 : Int32)] [(.int (1 : Int32)), (.int (own_inR p5 p2 p3))]
              refine go (fun t kt => XS.icmpNo X185.here hx rfl (hb hby at_378) rfl (teq (own_r3 _ _ _ hc186 hc188)).2 kt) ?_
              show Go p e below _ m T185 381 #[iv p0, iv p1, iv p2, iv p3, iv p4, iv p5, iv (2 : Int32), iv (2 : Int32), rv b148, rv b149, rv b154, rv b162, rv b163, iv (1 : Int32)] []
              refine go (fun t kt => XS.iconst X185.here hx rfl (hb hby at_381) kt) ?_
              show Go p e below _ m T185 382 #[iv p0, iv p1, iv p2, iv p3, iv p4, iv p5, iv (2 : Int32), iv (2 : Int32), rv b148, rv b149, rv b154, rv b162, rv b163, iv (1 : Int32)] [(.int (1 : Int32))]
              refine go (fun t kt => XS.goto X185.here hx rfl (pc0 := 382) (pc' := 386) rfl (hb hby at_382) (by decide) (by decide) kt) ?_
              show Go p e below _ m T185 386 #[iv p0, iv p1, iv p2, iv p3, iv p4, iv p5, iv (2 : Int32), iv (2 : Int32), rv b148, rv b149, rv b154, rv b162, rv b163, iv (1 : Int32)] [(.int (1 : Int32))]
              refine go (fun t kt => XS.istore X185.here hx rfl (hb hby at_386) rfl (l' := #[iv p0, iv p1, iv p2, iv p3, iv p4, iv p5, iv (2 : Int32), iv (2 : Int32), rv b148, rv b149, rv b154, rv b162, rv b163, iv (1 : Int32)]) rfl kt) ?_
              show Go p e below _ m T185 388 #[iv p0, iv p1, iv p2, iv p3, iv p4, iv p5, iv (2 : Int32), iv (2 : Int32), rv b148, rv b149, rv b154, rv b162, rv b163, iv (1 : Int32)] []
              refine go (fun t kt => XS.iload X185.here hx rfl (hb hby at_388) rfl kt) ?_
              show Go p e below _ m T185 390 #[iv p0, iv p1, iv p2, iv p3, iv p4, iv p5, iv (2 : Int32), iv (2 : Int32), rv b148, rv b149, rv b154, rv b162, rv b163, iv (1 : Int32)] [(.int (1 : Int32))]
              obtain ⟨fs, hr, hrun, hended, hW, hsame⟩ := X185.leave (v := some (.int (1 : Int32))) (fun h => by rw [Bd.returns] at h; cases h)
              refine ⟨_, _, retN X185 hx (t := .boolean) Bd.returns (by simp) (hb hby at_390) hr, hrun, hended, _, _, rfl, ?_, ⟨_, rfl⟩, hW, hsame.mono (by decide) (by decide)⟩
              show Q0 Z p0 p1 p2 p3 p4 p5 sd h0 n0 _ T185.heap _
              rw [e185]
              exact ⟨rfl, N185⟩
set_option maxRecDepth 65536 in
set_option maxHeartbeats 40000000 in
theorem comes_1 {Post : Tables → Env → Array Value → State → Outcome → State → Prop} (hpost : ∀ tb e args s v u, (limb_1_1.after args s (.returned v) u = true ∧ limb_1_2.after args s (.returned v) u = true ∧ True) → FrameEnd s (.returned v) u (Jvm.fieldLocs frame_1_writes args s ++ Jvm.arrayLocs frame_1_arrays args s ++ Jvm.staticLocs frame_1_statics s) 40 192 → Post tb e args s (.returned v) u) :
    ArmFor flags0 classFile x code maxLocals ret World_1 tables_1 room_1 Calls_1 rest_1 Pre_1 Post := by
  intro l hfl _ _ p e ha hc hk s m args below hf hA hF happ hP
  obtain ⟨hcalls, hrest, hpre⟩ := hP
  obtain ⟨-, -, -, hnamed, -, -, -, hat⟩ := (Spec.applies_iff hf).mp happ
  obtain ⟨hg, hn⟩ := and_e (Cond.before_iff.mp (show (Jvm.Cond.and given_1 narrow_1).before args s = true from hpre))
  obtain ⟨u1, u2⟩ := and_e hg
  obtain ⟨u3, u4⟩ := and_e u2
  obtain ⟨u5, u6⟩ := and_e u4
  obtain ⟨u7, u8⟩ := and_e u6
  obtain ⟨u9, u10⟩ := and_e u8
  obtain ⟨u11, u12⟩ := and_e u10
  obtain ⟨w0, w1, w2, w3, w4, w5, rfl⟩ : ∃ w0 w1 w2 w3 w4 w5 : Value, args = #[w0, w1, w2, w3, w4, w5] := by
    have hs : args.size = 6 := by simpa [Cond.value, given_1] using u1
    obtain ⟨L⟩ := args
    match L, hs with
    | [w0, w1, w2, w3, w4, w5], _ => exact ⟨w0, w1, w2, w3, w4, w5, rfl⟩
  have hw := fun d (hd : d ∈ tables_1) => atoms_spec (ws := Jvm.Cond.code x code maxLocals ret :: tables_1) hat d (List.mem_cons_of_mem _ hd)
  obtain ⟨hsets, hown0⟩ := atoms_of _ (rest_1_c_eq ▸ (show rest_1_c.before _ s = true from hrest))
  obtain ⟨sd, esd⟩ := exa_v (Cond.before_iff.mp (hsets _ (List.mem_of_getElem? (i := 7) rfl)))
  have S0 : Sta s s.heap "java/util/ArrayList" "DEFAULTCAPACITY_EMPTY_ELEMENTDATA" "[Ljava/lang/Object;" (.ref sd) := Sta.start esd (Or.inr ⟨(hw _ (List.mem_of_getElem? (i := 12) rfl)), hsets _ (List.mem_of_getElem? (i := 2) rfl)⟩)
  obtain ⟨i0, ei0⟩ := is_v u3
  obtain rfl : w0 = (.int i0) := Option.some.inj ei0
  obtain ⟨i1, ei1⟩ := is_v u5
  obtain rfl : w1 = (.int i1) := Option.some.inj ei1
  obtain ⟨i2, ei2⟩ := is_v u7
  obtain rfl : w2 = (.int i2) := Option.some.inj ei2
  obtain ⟨i3, ei3⟩ := is_v u9
  obtain rfl : w3 = (.int i3) := Option.some.inj ei3
  obtain ⟨i4, ei4⟩ := is_v u11
  obtain rfl : w4 = (.int i4) := Option.some.inj ei4
  obtain ⟨i5, ei5⟩ := is_v u12
  obtain rfl : w5 = (.int i5) := Option.some.inj ei5
  obtain ⟨n, o, h1, h2, h3, _, L, rfl, ⟨rfl, N⟩, hq⟩ := rm0 l s _ hw tables_1 i0 i1 i2 i3 i4 i5 sd s.heap s.heap.size (Nat.le_refl _) S0 p e ha hc hk s m _ below hf ((Spec.applies_iff_loose hf).mp happ).1 ⟨rfl, State.Warmed39.refl s, rfl⟩ trivial
  refine ⟨n, _, h1, h2, h3, hpost _ _ _ _ _ _ ⟨Cond.after_iff.mpr rfl, Cond.after_iff.mpr (eq_i res_at (Term.int_eval (1)) rfl), trivial⟩ ⟨hq.1, hq.2.1, (hq.2.2.sift fun y hy => Or.inr (N y hy)).mono (by decide) (by decide)⟩⟩
theorem main_1_1 : Claimed_1_1 := comes_1 fun _ _ _ _ _ _ h hF => ⟨h.1, hF⟩
theorem main_1_2 : Claimed_1_2 := comes_1 fun _ _ _ _ _ _ h hF => ⟨h.2.1, hF⟩
end Jvm.Pilot.@@N@@
namespace Jvm.Pilot.@@N@@
open Jvm Jvm.ClassFile Sem Op Lib Jvm.Free Jvm.Stand Jvm.Pilot.@@N@@.Jvm.D
/-! MADE BY PROGRAM (witnessworld.py) out of the Statement's table words and the real class files: 21 classes; the members and pool entries that the words name. The judged class is class 1, her method 1. -/
namespace start1
open Jvm.ClassFile
def u (s : String) : CpInfo := .utf8 (stringToUtf16 s)
/-- a pool by its gaps: so many unusable entries, then the entry; so many at the end -/
def gap : Nat → List CpInfo → List CpInfo
  | 0, r => r
  | n + 1, r => .unusable :: gap n r
def poolList (es : List (Nat × CpInfo)) (last : Nat) : List CpInfo := es.foldr (fun e r => gap e.1 (e.2 :: r)) (gap last [])
def pool (es : List (Nat × CpInfo)) (last : Nat) : Array CpInfo := ⟨poolList es last⟩
def fileOf (pool : Array CpInfo) (this : Nat) (attrs : Array Attribute := #[]) (ms : Array MethodInfo := #[]) (fl : Nat := 33) (sup : Nat := 0) (ifs : Array Nat := #[]) (fds : Array FieldInfo := #[]) : ClassFile where
  minorVersion := 0
  majorVersion := 65
  constantPool := pool
  accessFlags := fl
  thisClass := this
  superClass := sup
  interfaces := ifs
  fields := fds
  methods := ms
  attributes := attrs
def plain (name : String) (sup : Option ClassId) : Class where
  name := name
  kind := .ordinary
  loader := none
  accessFlags := 33
  super := sup
  interfaces := #[]
  cf := none
  fields := #[]
  methods := #[]
  instanceTypes := #[]
  staticTypes := #[]
  resolved := #[]
  callSites := []
  init := .initialized
  statics := none
  mirror := none

def pool0 : Array CpInfo := pool [(5, u "<init>"), (0, u "()V"), (1, .class_ 10), (1, u "java/lang/Object"), (85, u "clone"), (0, u "()Ljava/lang/Object;")] 26

def k0c0 : Code := { maxStack := 0, maxLocals := 1, code := object_method_1_code, exceptionTable := #[], attributes := #[] }
def k0m0 : Method := { name := "<init>", desc := "()V", sig := { parameters := [], returnType := none }, accessFlags := 1, code := some k0c0 }
def k0m1 : Method := { name := "clone", desc := "()Ljava/lang/Object;", sig := { parameters := [], returnType := some (.object "java/lang/Object") }, accessFlags := 260, code := none }
/-- java/lang/Object -/
def k0 : Class := { plain "java/lang/Object" none with
  accessFlags := 33
  interfaces := #[]
  cf := some (fileOf pool0 8 #[] #[{ accessFlags := 1, nameIndex := 5, descriptorIndex := 6, attributes := #[] }, { accessFlags := 260, nameIndex := 96, descriptorIndex := 97, attributes := #[] }] 33 0 #[] #[])
  fields := #[]
  methods := #[k0m0, k0m1]
  instanceTypes := #[]
  staticTypes := #[]
  resolved := Array.replicate 124 none
  statics := none }

def pool1 : Array CpInfo := pool [(2, .class_ 4), (0, .nameAndType 5 6), (0, u "java/lang/Object"), (0, u "<init>"), (0, u "()V"), (0, .class_ 8), (0, u "com/example/anytime_arena/anytimearena/io/VariableTable"), (0, .methodref 7 3), (0, .methodref 7 11), (0, .nameAndType 12 13), (0, u "setRanges"), (0, u "([I[I)V"), (0, .methodref 7 15), (0, .nameAndType 16 17), (0, u "low"), (0, u "()[I"), (0, .methodref 7 19), (0, .nameAndType 20 17), (0, u "high"), (0, .methodref 7 22), (0, .nameAndType 23 24), (0, u "inRange"), (0, u "(II)Z"), (0, .class_ 26), (0, u "com/example/anytime_arena/anytimearena/io/VariableTableSetRangesPinLaw"), (2, u "law"), (0, u "(IIIIII)Z")] 5

def k1m0 : Method := { name := "<init>", desc := "()V", sig := { parameters := [], returnType := none }, accessFlags := 1, code := none }
def k1c1 : Code := { maxStack := 4, maxLocals := 14, code := code, exceptionTable := #[], attributes := #[] }
def k1m1 : Method := { name := "law", desc := "(IIIIII)Z", sig := { parameters := [.int, .int, .int, .int, .int, .int], returnType := some .boolean }, accessFlags := 9, code := some k1c1 }
/-- com/example/anytime_arena/anytimearena/io/VariableTableSetRangesPinLaw -/
def k1 : Class := { plain "com/example/anytime_arena/anytimearena/io/VariableTableSetRangesPinLaw" (some 0) with
  accessFlags := 49
  interfaces := #[]
  cf := some (fileOf pool1 25 #[] #[{ accessFlags := 1, nameIndex := 5, descriptorIndex := 6, attributes := #[] }, { accessFlags := 9, nameIndex := 29, descriptorIndex := 30, attributes := #[] }] 49 2 #[] #[])
  fields := #[]
  methods := #[k1m0, k1m1]
  instanceTypes := #[]
  staticTypes := #[]
  resolved := Array.replicate 36 none
  statics := none }

def pool2 : Array CpInfo := pool [(1, .methodref 2 3), (0, .class_ 4), (0, .nameAndType 5 6), (0, u "java/lang/Object"), (0, u "<init>"), (0, u "()V"), (0, .class_ 8), (0, u "java/util/ArrayList"), (0, .methodref 7 3), (0, .fieldref 11 12), (0, .class_ 13), (0, .nameAndType 14 15), (0, u "com/example/anytime_arena/anytimearena/io/VariableTable"), (0, u "names"), (0, u "Ljava/util/List;"), (0, .fieldref 11 17), (0, .nameAndType 18 15), (0, u "types"), (0, .fieldref 11 20), (0, .nameAndType 21 15), (0, u "owners"), (0, .class_ 23), (0, u "java/util/HashMap"), (0, .methodref 22 3), (0, .fieldref 11 26), (0, .nameAndType 27 28), (0, u "slots"), (0, u "Ljava/util/Map;"), (0, .fieldref 11 30), (0, .nameAndType 31 32), (0, u "low"), (0, u "[I"), (0, .fieldref 11 34), (0, .nameAndType 35 32), (0, u "high"), (22, .methodref 59 60), (0, .class_ 32), (0, .nameAndType 61 62), (0, u "clone"), (0, u "()Ljava/lang/Object;"), (56, u "GLOBAL"), (0, u "Ljava/lang/String;"), (8, u "setRanges"), (0, u "([I[I)V"), (7, u "()[I"), (0, u "inRange"), (0, u "(II)Z")] 24

def k2c0 : Code := { maxStack := 3, maxLocals := 1, code := prog_88_method_1_code, exceptionTable := #[], attributes := #[] }
def k2m0 : Method := { name := "<init>", desc := "()V", sig := { parameters := [], returnType := none }, accessFlags := 0, code := some k2c0 }
def k2c1 : Code := { maxStack := 2, maxLocals := 3, code := prog_88_method_3_code, exceptionTable := #[], attributes := #[] }
def k2m1 : Method := { name := "setRanges", desc := "([I[I)V", sig := { parameters := [(.array .int), (.array .int)], returnType := none }, accessFlags := 0, code := some k2c1 }
def k2c2 : Code := { maxStack := 1, maxLocals := 1, code := prog_88_method_9_code, exceptionTable := #[], attributes := #[] }
def k2m2 : Method := { name := "low", desc := "()[I", sig := { parameters := [], returnType := some (.array .int) }, accessFlags := 0, code := some k2c2 }
def k2c3 : Code := { maxStack := 1, maxLocals := 1, code := prog_88_method_10_code, exceptionTable := #[], attributes := #[] }
def k2m3 : Method := { name := "high", desc := "()[I", sig := { parameters := [], returnType := some (.array .int) }, accessFlags := 0, code := some k2c3 }
def k2c4 : Code := { maxStack := 3, maxLocals := 3, code := prog_88_method_11_code, exceptionTable := #[], attributes := #[] }
def k2m4 : Method := { name := "inRange", desc := "(II)Z", sig := { parameters := [.int, .int], returnType := some .boolean }, accessFlags := 0, code := some k2c4 }
/-- com/example/anytime_arena/anytimearena/io/VariableTable -/
def k2 : Class := { plain "com/example/anytime_arena/anytimearena/io/VariableTable" (some 0) with
  accessFlags := 48
  interfaces := #[]
  cf := some (fileOf pool2 11 #[] #[{ accessFlags := 0, nameIndex := 5, descriptorIndex := 6, attributes := #[] }, { accessFlags := 0, nameIndex := 129, descriptorIndex := 130, attributes := #[] }, { accessFlags := 0, nameIndex := 31, descriptorIndex := 138, attributes := #[] }, { accessFlags := 0, nameIndex := 35, descriptorIndex := 138, attributes := #[] }, { accessFlags := 0, nameIndex := 139, descriptorIndex := 140, attributes := #[] }] 48 2 #[] #[{ accessFlags := 24, nameIndex := 119, descriptorIndex := 120, attributes := #[] }, { accessFlags := 18, nameIndex := 14, descriptorIndex := 15, attributes := #[] }, { accessFlags := 18, nameIndex := 18, descriptorIndex := 15, attributes := #[] }, { accessFlags := 18, nameIndex := 21, descriptorIndex := 15, attributes := #[] }, { accessFlags := 18, nameIndex := 27, descriptorIndex := 28, attributes := #[] }, { accessFlags := 2, nameIndex := 31, descriptorIndex := 32, attributes := #[] }, { accessFlags := 2, nameIndex := 35, descriptorIndex := 32, attributes := #[] }])
  fields := #[{ name := "GLOBAL", type := (.object "java/lang/String"), accessFlags := 24, slot := 0, constantValue := 0 }, { name := "names", type := (.object "java/util/List"), accessFlags := 18, slot := 0, constantValue := 0 }, { name := "types", type := (.object "java/util/List"), accessFlags := 18, slot := 1, constantValue := 0 }, { name := "owners", type := (.object "java/util/List"), accessFlags := 18, slot := 2, constantValue := 0 }, { name := "slots", type := (.object "java/util/Map"), accessFlags := 18, slot := 3, constantValue := 0 }, { name := "low", type := (.array .int), accessFlags := 2, slot := 4, constantValue := 0 }, { name := "high", type := (.array .int), accessFlags := 2, slot := 5, constantValue := 0 }]
  methods := #[k2m0, k2m1, k2m2, k2m3, k2m4]
  instanceTypes := #[(.object "java/util/List"), (.object "java/util/List"), (.object "java/util/List"), (.object "java/util/Map"), (.array .int), (.array .int)]
  staticTypes := #[(.object "java/lang/String")]
  resolved := Array.replicate 165 none
  statics := none }

def pool3 : Array CpInfo := pool [(8, .class_ 10), (1, u "java/lang/Iterable"), (24, .class_ 36), (0, u "java/lang/Object")] 25

/-- java/lang/Iterable -/
def k3 : Class := { plain "java/lang/Iterable" (some 0) with
  accessFlags := 1537
  interfaces := #[]
  cf := some (fileOf pool3 8 #[] #[] 1537 35 #[] #[])
  fields := #[]
  methods := #[]
  instanceTypes := #[]
  staticTypes := #[]
  resolved := Array.replicate 62 none
  statics := none }

def pool4 : Array CpInfo := pool [(10, .class_ 12), (1, u "java/util/Collection"), (47, .class_ 61), (0, u "java/lang/Object"), (0, .class_ 63), (0, u "java/lang/Iterable")] 51

/-- java/util/Collection -/
def k4 : Class := { plain "java/util/Collection" (some 0) with
  accessFlags := 1537
  interfaces := #[3]
  cf := some (fileOf pool4 10 #[] #[] 1537 60 #[62] #[])
  fields := #[]
  methods := #[]
  instanceTypes := #[]
  staticTypes := #[]
  resolved := Array.replicate 115 none
  statics := none }

def pool5 : Array CpInfo := pool [(1, .methodref 2 3), (0, .class_ 4), (0, .nameAndType 5 6), (0, u "java/lang/Object"), (0, u "<init>"), (0, u "()V"), (1, .class_ 10), (1, u "java/util/AbstractCollection"), (66, .class_ 78), (0, u "java/util/Collection")] 81

def k5c0 : Code := { maxStack := 1, maxLocals := 1, code := jdk_22_method_1_code, exceptionTable := #[], attributes := #[] }
def k5m0 : Method := { name := "<init>", desc := "()V", sig := { parameters := [], returnType := none }, accessFlags := 4, code := some k5c0 }
/-- java/util/AbstractCollection -/
def k5 : Class := { plain "java/util/AbstractCollection" (some 0) with
  accessFlags := 1057
  interfaces := #[4]
  cf := some (fileOf pool5 8 #[] #[{ accessFlags := 4, nameIndex := 5, descriptorIndex := 6, attributes := #[] }] 1057 2 #[77] #[])
  fields := #[]
  methods := #[k5m0]
  instanceTypes := #[]
  staticTypes := #[]
  resolved := Array.replicate 160 none
  statics := none }

def pool6 : Array CpInfo := pool [(8, .class_ 10), (1, u "java/util/SequencedCollection"), (15, .class_ 27), (0, u "java/lang/Object"), (0, .class_ 29), (0, u "java/util/Collection")] 27

/-- java/util/SequencedCollection -/
def k6 : Class := { plain "java/util/SequencedCollection" (some 0) with
  accessFlags := 1537
  interfaces := #[4]
  cf := some (fileOf pool6 8 #[] #[] 1537 26 #[28] #[])
  fields := #[]
  methods := #[]
  instanceTypes := #[]
  staticTypes := #[]
  resolved := Array.replicate 57 none
  statics := none }

def pool7 : Array CpInfo := pool [(8, .class_ 10), (1, u "java/util/List"), (92, .class_ 104), (0, u "java/lang/Object"), (15, .class_ 121), (0, u "java/util/SequencedCollection")] 129

/-- java/util/List -/
def k7 : Class := { plain "java/util/List" (some 0) with
  accessFlags := 1537
  interfaces := #[6]
  cf := some (fileOf pool7 8 #[] #[] 1537 103 #[120] #[])
  fields := #[]
  methods := #[]
  instanceTypes := #[]
  staticTypes := #[]
  resolved := Array.replicate 251 none
  statics := none }

def pool8 : Array CpInfo := pool [(1, .methodref 2 3), (0, .class_ 4), (0, .nameAndType 5 6), (0, u "java/util/AbstractCollection"), (0, u "<init>"), (0, u "()V"), (0, .fieldref 8 9), (0, .class_ 10), (0, .nameAndType 11 12), (0, u "java/util/AbstractList"), (0, u "modCount"), (0, u "I"), (64, .class_ 78), (0, u "java/util/AbstractList$Itr"), (3, .class_ 83), (0, u "java/util/AbstractList$ListItr"), (9, .class_ 94), (0, u "java/util/AbstractList$RandomAccessSubList"), (3, .class_ 99), (0, u "java/util/AbstractList$SubList"), (33, .class_ 134), (0, u "java/util/List"), (73, .class_ 209), (0, u "java/util/AbstractList$SubList$1"), (0, .class_ 211), (0, u "java/util/AbstractList$RandomAccessSpliterator")] 6

def k8c0 : Code := { maxStack := 2, maxLocals := 1, code := jdk_39_method_1_code, exceptionTable := #[], attributes := #[] }
def k8m0 : Method := { name := "<init>", desc := "()V", sig := { parameters := [], returnType := none }, accessFlags := 4, code := some k8c0 }
/-- java/util/AbstractList -/
def k8 : Class := { plain "java/util/AbstractList" (some 5) with
  accessFlags := 1057
  interfaces := #[7]
  cf := some (fileOf pool8 8 #[.nestMembers #[93, 98, 208, 210, 82, 77]] #[{ accessFlags := 4, nameIndex := 5, descriptorIndex := 6, attributes := #[] }] 1057 2 #[133] #[{ accessFlags := 132, nameIndex := 11, descriptorIndex := 12, attributes := #[] }])
  fields := #[{ name := "modCount", type := .int, accessFlags := 132, slot := 0, constantValue := 0 }]
  methods := #[k8m0]
  instanceTypes := #[.int]
  staticTypes := #[]
  resolved := Array.replicate 218 none
  statics := none }

def pool9 : Array CpInfo := pool [(1, .class_ 2), (0, u "java/util/RandomAccess"), (0, .class_ 4), (0, u "java/lang/Object")] 2

/-- java/util/RandomAccess -/
def k9 : Class := { plain "java/util/RandomAccess" (some 0) with
  accessFlags := 1537
  interfaces := #[]
  cf := some (fileOf pool9 1 #[] #[] 1537 3 #[] #[])
  fields := #[]
  methods := #[]
  instanceTypes := #[]
  staticTypes := #[]
  resolved := Array.replicate 7 none
  statics := none }

def pool10 : Array CpInfo := pool [(1, .class_ 2), (0, u "java/lang/Cloneable"), (0, .class_ 4), (0, u "java/lang/Object")] 2

/-- java/lang/Cloneable -/
def k10 : Class := { plain "java/lang/Cloneable" (some 0) with
  accessFlags := 1537
  interfaces := #[]
  cf := some (fileOf pool10 1 #[] #[] 1537 3 #[] #[])
  fields := #[]
  methods := #[]
  instanceTypes := #[]
  staticTypes := #[]
  resolved := Array.replicate 7 none
  statics := none }

def pool11 : Array CpInfo := pool [(1, .class_ 2), (0, u "java/io/Serializable"), (0, .class_ 4), (0, u "java/lang/Object")] 2

/-- java/io/Serializable -/
def k11 : Class := { plain "java/io/Serializable" (some 0) with
  accessFlags := 1537
  interfaces := #[]
  cf := some (fileOf pool11 1 #[] #[] 1537 3 #[] #[])
  fields := #[]
  methods := #[]
  instanceTypes := #[]
  staticTypes := #[]
  resolved := Array.replicate 7 none
  statics := none }

def pool12 : Array CpInfo := pool [(1, .methodref 2 3), (0, .class_ 4), (0, .nameAndType 5 6), (0, u "java/util/AbstractList"), (0, u "<init>"), (0, u "()V"), (2, .fieldref 10 11), (0, .class_ 12), (0, .nameAndType 13 14), (0, u "java/util/ArrayList"), (0, u "elementData"), (0, u "[Ljava/lang/Object;"), (2, u "EMPTY_ELEMENTDATA"), (21, .fieldref 10 40), (0, .nameAndType 41 14), (0, u "DEFAULTCAPACITY_EMPTY_ELEMENTDATA"), (8, u "size"), (0, u "I"), (96, .class_ 149), (0, u "java/util/List"), (112, .class_ 263), (0, u "java/util/ArrayList$ListItr"), (3, .class_ 268), (0, u "java/util/ArrayList$Itr"), (7, .class_ 277), (0, u "java/util/ArrayList$SubList"), (12, .class_ 291), (0, u "java/util/ArrayList$ArrayListSpliterator"), (37, .class_ 330), (0, u "java/util/RandomAccess"), (0, .class_ 332), (0, u "java/lang/Cloneable"), (0, .class_ 334), (0, u "java/io/Serializable"), (0, u "serialVersionUID"), (0, u "J"), (3, u "DEFAULT_CAPACITY"), (159, .class_ 501), (0, u "java/util/ArrayList$SubList$2"), (0, .class_ 503), (0, u "java/util/ArrayList$SubList$1")] 5

def k12c0 : Code := { maxStack := 2, maxLocals := 1, code := jdk_38_method_2_code, exceptionTable := #[], attributes := #[] }
def k12m0 : Method := { name := "<init>", desc := "()V", sig := { parameters := [], returnType := none }, accessFlags := 1, code := some k12c0 }
/-- java/util/ArrayList -/
def k12 : Class := { plain "java/util/ArrayList" (some 8) with
  accessFlags := 33
  interfaces := #[7, 9, 10, 11]
  cf := some (fileOf pool12 10 #[.nestMembers #[290, 276, 500, 502, 262, 267]] #[{ accessFlags := 1, nameIndex := 5, descriptorIndex := 6, attributes := #[] }] 33 2 #[148, 329, 331, 333] #[{ accessFlags := 26, nameIndex := 335, descriptorIndex := 336, attributes := #[] }, { accessFlags := 26, nameIndex := 340, descriptorIndex := 51, attributes := #[] }, { accessFlags := 26, nameIndex := 17, descriptorIndex := 14, attributes := #[] }, { accessFlags := 26, nameIndex := 41, descriptorIndex := 14, attributes := #[] }, { accessFlags := 128, nameIndex := 13, descriptorIndex := 14, attributes := #[] }, { accessFlags := 2, nameIndex := 50, descriptorIndex := 51, attributes := #[] }])
  fields := #[{ name := "serialVersionUID", type := .long, accessFlags := 26, slot := 0, constantValue := 0 }, { name := "DEFAULT_CAPACITY", type := .int, accessFlags := 26, slot := 1, constantValue := 0 }, { name := "EMPTY_ELEMENTDATA", type := (.array (.object "java/lang/Object")), accessFlags := 26, slot := 2, constantValue := 0 }, { name := "DEFAULTCAPACITY_EMPTY_ELEMENTDATA", type := (.array (.object "java/lang/Object")), accessFlags := 26, slot := 3, constantValue := 0 }, { name := "elementData", type := (.array (.object "java/lang/Object")), accessFlags := 128, slot := 1, constantValue := 0 }, { name := "size", type := .int, accessFlags := 2, slot := 2, constantValue := 0 }]
  methods := #[k12m0]
  instanceTypes := #[.int, (.array (.object "java/lang/Object")), .int]
  staticTypes := #[.long, .int, (.array (.object "java/lang/Object")), (.array (.object "java/lang/Object"))]
  resolved := Array.replicate 509 none
  statics := some 0 }

def pool13 : Array CpInfo := pool [(2, .class_ 4), (1, u "java/util/Map"), (31, .class_ 37), (0, u "java/util/Map$Entry"), (55, .class_ 94), (0, u "java/lang/Object")] 168

/-- java/util/Map -/
def k13 : Class := { plain "java/util/Map" (some 0) with
  accessFlags := 1537
  interfaces := #[]
  cf := some (fileOf pool13 2 #[.nestMembers #[36]] #[] 1537 93 #[] #[])
  fields := #[]
  methods := #[]
  instanceTypes := #[]
  staticTypes := #[]
  resolved := Array.replicate 263 none
  statics := none }

def pool14 : Array CpInfo := pool [(1, .methodref 2 3), (0, .class_ 4), (0, .nameAndType 5 6), (0, u "java/lang/Object"), (0, u "<init>"), (0, u "()V"), (1, .class_ 10), (1, u "java/util/AbstractMap"), (42, .class_ 54), (0, u "java/util/Map"), (9, u "keySet"), (0, u "Ljava/util/Set;"), (0, .class_ 67), (0, u "java/util/AbstractMap$1"), (5, u "values"), (0, u "Ljava/util/Collection;"), (0, .class_ 76), (0, u "java/util/AbstractMap$2"), (104, .class_ 182), (0, u "java/util/AbstractMap$ViewCollection"), (0, .class_ 184), (0, u "java/util/AbstractMap$SimpleImmutableEntry"), (0, .class_ 186), (0, u "java/util/AbstractMap$SimpleEntry"), (0, .class_ 188), (0, u "java/util/AbstractMap$2$1"), (0, .class_ 190), (0, u "java/util/AbstractMap$1$1")] 5

def k14c0 : Code := { maxStack := 1, maxLocals := 1, code := jdk_71_method_1_code, exceptionTable := #[], attributes := #[] }
def k14m0 : Method := { name := "<init>", desc := "()V", sig := { parameters := [], returnType := none }, accessFlags := 4, code := some k14c0 }
/-- java/util/AbstractMap -/
def k14 : Class := { plain "java/util/AbstractMap" (some 0) with
  accessFlags := 1057
  interfaces := #[13]
  cf := some (fileOf pool14 8 #[.nestMembers #[181, 183, 185, 75, 187, 66, 189]] #[{ accessFlags := 4, nameIndex := 5, descriptorIndex := 6, attributes := #[] }] 1057 2 #[53] #[{ accessFlags := 128, nameIndex := 64, descriptorIndex := 65, attributes := #[] }, { accessFlags := 128, nameIndex := 73, descriptorIndex := 74, attributes := #[] }])
  fields := #[{ name := "keySet", type := (.object "java/util/Set"), accessFlags := 128, slot := 0, constantValue := 0 }, { name := "values", type := (.object "java/util/Collection"), accessFlags := 128, slot := 1, constantValue := 0 }]
  methods := #[k14m0]
  instanceTypes := #[(.object "java/util/Set"), (.object "java/util/Collection")]
  staticTypes := #[]
  resolved := Array.replicate 196 none
  statics := none }

def pool15 : Array CpInfo := pool [(40, .class_ 41), (0, u "java/util/HashMap"), (1, .methodref 44 45), (0, .class_ 46), (0, .nameAndType 47 48), (0, u "java/util/AbstractMap"), (0, u "<init>"), (0, u "()V"), (32, .fieldref 40 82), (0, .nameAndType 83 84), (0, u "loadFactor"), (0, u "F"), (5, u "threshold"), (0, u "I"), (0, .float 1061158912), (8, .class_ 103), (1, u "java/util/Map"), (0, u "size"), (2, u "table"), (0, u "[Ljava/util/HashMap$Node;"), (14, u "entrySet"), (39, .class_ 165), (1, u "java/util/HashMap$Node"), (14, .class_ 181), (0, u "java/util/HashMap$TreeNode"), (22, u "modCount"), (37, u "Ljava/util/Set;"), (0, .class_ 244), (0, u "java/util/HashMap$KeySet"), (18, .class_ 264), (0, u "java/util/HashMap$Values"), (3, .class_ 269), (0, u "java/util/HashMap$EntrySet"), (76, .class_ 348), (1, u "java/util/HashMap$UnsafeHolder"), (43, .class_ 393), (0, u "java/lang/Cloneable"), (0, .class_ 395), (0, u "java/io/Serializable"), (0, u "serialVersionUID"), (0, u "J"), (3, u "DEFAULT_INITIAL_CAPACITY"), (1, u "MAXIMUM_CAPACITY"), (0, u "DEFAULT_LOAD_FACTOR"), (0, u "TREEIFY_THRESHOLD"), (1, u "UNTREEIFY_THRESHOLD"), (1, u "MIN_TREEIFY_CAPACITY"), (186, .class_ 597), (0, u "java/util/HashMap$EntrySpliterator"), (0, .class_ 599), (0, u "java/util/HashMap$ValueSpliterator"), (0, .class_ 601), (0, u "java/util/HashMap$KeySpliterator"), (0, .class_ 603), (0, u "java/util/HashMap$HashMapSpliterator"), (0, .class_ 605), (0, u "java/util/HashMap$EntryIterator"), (0, .class_ 607), (0, u "java/util/HashMap$ValueIterator"), (0, .class_ 609), (0, u "java/util/HashMap$KeyIterator"), (0, .class_ 611), (0, u "java/util/HashMap$HashIterator")] 17

def k15c0 : Code := { maxStack := 2, maxLocals := 1, code := jdk_69_method_7_code, exceptionTable := #[], attributes := #[] }
def k15m0 : Method := { name := "<init>", desc := "()V", sig := { parameters := [], returnType := none }, accessFlags := 1, code := some k15c0 }
/-- java/util/HashMap -/
def k15 : Class := { plain "java/util/HashMap" (some 14) with
  accessFlags := 33
  interfaces := #[13, 10, 11]
  cf := some (fileOf pool15 40 #[.nestMembers #[180, 596, 598, 600, 602, 604, 606, 608, 610, 346, 268, 263, 243, 163]] #[{ accessFlags := 1, nameIndex := 47, descriptorIndex := 48, attributes := #[] }] 33 44 #[101, 392, 394] #[{ accessFlags := 26, nameIndex := 396, descriptorIndex := 397, attributes := #[] }, { accessFlags := 24, nameIndex := 401, descriptorIndex := 91, attributes := #[] }, { accessFlags := 24, nameIndex := 403, descriptorIndex := 91, attributes := #[] }, { accessFlags := 24, nameIndex := 404, descriptorIndex := 84, attributes := #[] }, { accessFlags := 24, nameIndex := 405, descriptorIndex := 91, attributes := #[] }, { accessFlags := 24, nameIndex := 407, descriptorIndex := 91, attributes := #[] }, { accessFlags := 24, nameIndex := 409, descriptorIndex := 91, attributes := #[] }, { accessFlags := 128, nameIndex := 107, descriptorIndex := 108, attributes := #[] }, { accessFlags := 128, nameIndex := 123, descriptorIndex := 242, attributes := #[] }, { accessFlags := 128, nameIndex := 104, descriptorIndex := 91, attributes := #[] }, { accessFlags := 128, nameIndex := 204, descriptorIndex := 91, attributes := #[] }, { accessFlags := 0, nameIndex := 90, descriptorIndex := 91, attributes := #[] }, { accessFlags := 16, nameIndex := 83, descriptorIndex := 84, attributes := #[] }])
  fields := #[{ name := "serialVersionUID", type := .long, accessFlags := 26, slot := 0, constantValue := 0 }, { name := "DEFAULT_INITIAL_CAPACITY", type := .int, accessFlags := 24, slot := 1, constantValue := 0 }, { name := "MAXIMUM_CAPACITY", type := .int, accessFlags := 24, slot := 2, constantValue := 0 }, { name := "DEFAULT_LOAD_FACTOR", type := .float, accessFlags := 24, slot := 3, constantValue := 0 }, { name := "TREEIFY_THRESHOLD", type := .int, accessFlags := 24, slot := 4, constantValue := 0 }, { name := "UNTREEIFY_THRESHOLD", type := .int, accessFlags := 24, slot := 5, constantValue := 0 }, { name := "MIN_TREEIFY_CAPACITY", type := .int, accessFlags := 24, slot := 6, constantValue := 0 }, { name := "table", type := (.array (.object "java/util/HashMap$Node")), accessFlags := 128, slot := 2, constantValue := 0 }, { name := "entrySet", type := (.object "java/util/Set"), accessFlags := 128, slot := 3, constantValue := 0 }, { name := "size", type := .int, accessFlags := 128, slot := 4, constantValue := 0 }, { name := "modCount", type := .int, accessFlags := 128, slot := 5, constantValue := 0 }, { name := "threshold", type := .int, accessFlags := 0, slot := 6, constantValue := 0 }, { name := "loadFactor", type := .float, accessFlags := 16, slot := 7, constantValue := 0 }]
  methods := #[k15m0]
  instanceTypes := #[(.object "java/util/Set"), (.object "java/util/Collection"), (.array (.object "java/util/HashMap$Node")), (.object "java/util/Set"), .int, .int, .int, .float]
  staticTypes := #[.long, .int, .int, .float, .int, .int, .int]
  resolved := Array.replicate 629 none
  statics := none }

/-- the primitive byte -/
def k16 : Class := { plain "byte" none with kind := .primitive 'B', accessFlags := 0x411 }
/-- [B -/
def k17 : Class := { plain "[B" (some 0) with kind := .array 16 .byte, interfaces := #[10, 11], accessFlags := 1041 }

/-- the primitive int -/
def k18 : Class := { plain "int" none with kind := .primitive 'I', accessFlags := 0x411 }
/-- [I -/
def k19 : Class := { plain "[I" (some 0) with kind := .array 18 .int, interfaces := #[10, 11], accessFlags := 1041 }

/-- [Ljava/lang/Object; -/
def k20 : Class := { plain "[Ljava/lang/Object;" (some 0) with kind := .array 0 (.object "java/lang/Object"), interfaces := #[10, 11], accessFlags := 1041 }

def heap : Heap := #[{ cls := 12, slots := #[.long 0, .int 0, .ref 1, .ref 2], vm := .statics 12 },
  { cls := 20, slots := #[], vm := .none },
  { cls := 20, slots := #[], vm := .none }]
def classes : Array Class := #[k0, k1, k2, k3, k4, k5, k6, k7, k8, k9, k10, k11, k12, k13, k14, k15, k16, k17, k18, k19, k20]
def interned : List (Array UInt16 × Addr) := []
def slotsUsed : Nat := 4
def theMethod : MethodId := ⟨1, 1⟩
def args0 : Array Value := #[.int 5, .int 7, .int 6, .int 1, .int 2, .int 3]
def aboutOver (below : List Frame) : State where
  vm := { classes := classes, interned := interned.toArray }
  heap := heap
  slotsUsed := slotsUsed
  threads := #[{ frames := .invoking theMethod args0 :: below }]
def below0 : List Frame := [.native { method := ⟨0, 0⟩, args := #[] }]
def about1 : State := aboutOver below0
def p0 : Program := .bare "" "" ""
def e0 : Env := launch0.env 0 0 0
theorem w_frames : about1.frames = Frame.invoking theMethod args0 :: below0 := rfl
set_option maxRecDepth 65536 in
theorem w_args : argsFit about1.vm theMethod args0 = true := by decide +kernel
set_option maxRecDepth 65536 in
theorem w_heap : heapFits about1 = true := by decide +kernel
set_option maxRecDepth 65536 in
theorem w_runnable : about1.curStatus? = some .runnable := by decide +kernel
set_option maxRecDepth 65536 in
theorem w_alone : about1.alone = true := by decide +kernel
set_option maxRecDepth 65536 in
theorem w_named : about1.methodNamed? x = some theMethod := by decide +kernel
set_option maxRecDepth 65536 in
theorem w_hears : about1.hears theMethod below0 = true := by decide +kernel
set_option maxRecDepth 65536 in
theorem w_ripe : about1.ripe theMethod args0 below0 = true := by decide +kernel
theorem w_running : about1.status = .running := rfl
set_option maxRecDepth 65536 in
theorem w_room : about1.hasRoom e0.platform room_1 = true :=
  launch0.hasRoom_least _ room_1 (by decide +kernel) (by decide +kernel) (by decide +kernel) (by decide +kernel) (by decide +kernel) (by decide +kernel)
theorem allAtoms_all (ts : List Jvm.Cond) (a : Array Jvm.Value) (st : Jvm.State) : (allAtoms ts).before a st = ts.all (fun c => c.before a st) := by
  induction ts with
  | nil => rfl
  | cons c t ih =>
    show (Jvm.Cond.and c (allAtoms t)).before a st = _
    rw [Jvm.Cond.before_and, ih, List.all_cons]
def words1 : List Jvm.Cond := Jvm.Cond.code x code maxLocals ret :: tables_1
/-- a 'code' word, met by the world's own term for the bytes: nothing is compared byte by byte -/
theorem code_word {y : MethodName} {bytes : ByteArray} {mx : Nat} {rt : Option FieldType} {a : Array Value} {s : State} {m : MethodId} {meth : Method} {c : Code} (h1 : s.methodNamed? y = some m) (h2 : s.vm.method? m = some meth) (h3 : meth.code = some c) (h4 : c.code = bytes)
    (h5 : (c.maxLocals == mx && c.exceptionTable.isEmpty && decide (c.maxStack ≤ mostOperands) && decide (meth.sig.returnType = rt) && !meth.locks && decide (parseMethodDescriptor y.desc = some meth.sig)) = true) : (Jvm.Cond.code y bytes mx rt).before a s = true := by
  simp only [Bool.and_eq_true, beq_iff_eq, Bool.not_eq_true', decide_eq_true_eq] at h5
  obtain ⟨⟨⟨⟨⟨g1, g2⟩, g3⟩, g4⟩, g5⟩, g6⟩ := h5
  simp [Cond.before, Cond.holds, Cond.value, h1, h2, h3, h4, g1, g2, g3, g4, g5, g6]
def isCode : Jvm.Cond → Bool
  | .code _ _ _ _ => true
  | _ => false
theorem all_split {L : List Jvm.Cond} {P : Jvm.Cond → Bool} (h1 : L.all (fun c => isCode c || P c) = true) (h2 : ∀ c ∈ L.filter isCode, P c = true) : L.all P = true := by
  refine List.all_eq_true.mpr fun c hc => ?_
  have h := List.all_eq_true.mp h1 c hc
  rcases Bool.eq_false_or_eq_true (isCode c) with hi | hi
  · exact h2 c (List.mem_filter.mpr ⟨hc, hi⟩)
  · simpa [hi] using h
set_option maxRecDepth 65536 in
theorem w_c0 : (Jvm.Cond.code x code maxLocals ret).before args0 about1 = true := code_word (m := ⟨1, 1⟩) (meth := k1m1) (c := k1c1) (by decide +kernel) rfl rfl rfl (by decide +kernel)
set_option maxRecDepth 65536 in
theorem w_c1 : (Jvm.Cond.code ({ cls := "com/example/anytime_arena/anytimearena/io/VariableTable", name := "<init>", desc := "()V" } : Jvm.MethodName) prog_88_method_1_code (1 : Nat) (Option.none : Option Jvm.ClassFile.FieldType)).before args0 about1 = true := code_word (m := ⟨2, 0⟩) (meth := k2m0) (c := k2c0) (by decide +kernel) rfl rfl rfl (by decide +kernel)
set_option maxRecDepth 65536 in
theorem w_c2 : (Jvm.Cond.code ({ cls := "java/lang/Object", name := "<init>", desc := "()V" } : Jvm.MethodName) object_method_1_code (1 : Nat) (Option.none : Option Jvm.ClassFile.FieldType)).before args0 about1 = true := code_word (m := ⟨0, 0⟩) (meth := k0m0) (c := k0c0) (by decide +kernel) rfl rfl rfl (by decide +kernel)
set_option maxRecDepth 65536 in
theorem w_c3 : (Jvm.Cond.code ({ cls := "java/util/ArrayList", name := "<init>", desc := "()V" } : Jvm.MethodName) jdk_38_method_2_code (1 : Nat) (Option.none : Option Jvm.ClassFile.FieldType)).before args0 about1 = true := code_word (m := ⟨12, 0⟩) (meth := k12m0) (c := k12c0) (by decide +kernel) rfl rfl rfl (by decide +kernel)
set_option maxRecDepth 65536 in
theorem w_c4 : (Jvm.Cond.code ({ cls := "java/util/AbstractList", name := "<init>", desc := "()V" } : Jvm.MethodName) jdk_39_method_1_code (1 : Nat) (Option.none : Option Jvm.ClassFile.FieldType)).before args0 about1 = true := code_word (m := ⟨8, 0⟩) (meth := k8m0) (c := k8c0) (by decide +kernel) rfl rfl rfl (by decide +kernel)
set_option maxRecDepth 65536 in
theorem w_c5 : (Jvm.Cond.code ({ cls := "java/util/AbstractCollection", name := "<init>", desc := "()V" } : Jvm.MethodName) jdk_22_method_1_code (1 : Nat) (Option.none : Option Jvm.ClassFile.FieldType)).before args0 about1 = true := code_word (m := ⟨5, 0⟩) (meth := k5m0) (c := k5c0) (by decide +kernel) rfl rfl rfl (by decide +kernel)
set_option maxRecDepth 65536 in
theorem w_c6 : (Jvm.Cond.code ({ cls := "java/util/HashMap", name := "<init>", desc := "()V" } : Jvm.MethodName) jdk_69_method_7_code (1 : Nat) (Option.none : Option Jvm.ClassFile.FieldType)).before args0 about1 = true := code_word (m := ⟨15, 0⟩) (meth := k15m0) (c := k15c0) (by decide +kernel) rfl rfl rfl (by decide +kernel)
set_option maxRecDepth 65536 in
theorem w_c7 : (Jvm.Cond.code ({ cls := "java/util/AbstractMap", name := "<init>", desc := "()V" } : Jvm.MethodName) jdk_71_method_1_code (1 : Nat) (Option.none : Option Jvm.ClassFile.FieldType)).before args0 about1 = true := code_word (m := ⟨14, 0⟩) (meth := k14m0) (c := k14c0) (by decide +kernel) rfl rfl rfl (by decide +kernel)
set_option maxRecDepth 65536 in
theorem w_c8 : (Jvm.Cond.code ({ cls := "com/example/anytime_arena/anytimearena/io/VariableTable", name := "setRanges", desc := "([I[I)V" } : Jvm.MethodName) prog_88_method_3_code (3 : Nat) (Option.none : Option Jvm.ClassFile.FieldType)).before args0 about1 = true := code_word (m := ⟨2, 1⟩) (meth := k2m1) (c := k2c1) (by decide +kernel) rfl rfl rfl (by decide +kernel)
set_option maxRecDepth 65536 in
theorem w_c9 : (Jvm.Cond.code ({ cls := "com/example/anytime_arena/anytimearena/io/VariableTable", name := "low", desc := "()[I" } : Jvm.MethodName) prog_88_method_9_code (1 : Nat) (Option.some (Jvm.ClassFile.FieldType.array Jvm.ClassFile.FieldType.int))).before args0 about1 = true := code_word (m := ⟨2, 2⟩) (meth := k2m2) (c := k2c2) (by decide +kernel) rfl rfl rfl (by decide +kernel)
set_option maxRecDepth 65536 in
theorem w_c10 : (Jvm.Cond.code ({ cls := "com/example/anytime_arena/anytimearena/io/VariableTable", name := "high", desc := "()[I" } : Jvm.MethodName) prog_88_method_10_code (1 : Nat) (Option.some (Jvm.ClassFile.FieldType.array Jvm.ClassFile.FieldType.int))).before args0 about1 = true := code_word (m := ⟨2, 3⟩) (meth := k2m3) (c := k2c3) (by decide +kernel) rfl rfl rfl (by decide +kernel)
set_option maxRecDepth 65536 in
theorem w_c11 : (Jvm.Cond.code ({ cls := "com/example/anytime_arena/anytimearena/io/VariableTable", name := "inRange", desc := "(II)Z" } : Jvm.MethodName) prog_88_method_11_code (3 : Nat) (Option.some Jvm.ClassFile.FieldType.boolean)).before args0 about1 = true := code_word (m := ⟨2, 4⟩) (meth := k2m4) (c := k2c4) (by decide +kernel) rfl rfl rfl (by decide +kernel)
def codes1 : List Jvm.Cond := [Jvm.Cond.code x code maxLocals ret, Jvm.Cond.code ({ cls := "com/example/anytime_arena/anytimearena/io/VariableTable", name := "<init>", desc := "()V" } : Jvm.MethodName) prog_88_method_1_code (1 : Nat) (Option.none : Option Jvm.ClassFile.FieldType), Jvm.Cond.code ({ cls := "java/lang/Object", name := "<init>", desc := "()V" } : Jvm.MethodName) object_method_1_code (1 : Nat) (Option.none : Option Jvm.ClassFile.FieldType), Jvm.Cond.code ({ cls := "java/util/ArrayList", name := "<init>", desc := "()V" } : Jvm.MethodName) jdk_38_method_2_code (1 : Nat) (Option.none : Option Jvm.ClassFile.FieldType), Jvm.Cond.code ({ cls := "java/util/AbstractList", name := "<init>", desc := "()V" } : Jvm.MethodName) jdk_39_method_1_code (1 : Nat) (Option.none : Option Jvm.ClassFile.FieldType), Jvm.Cond.code ({ cls := "java/util/AbstractCollection", name := "<init>", desc := "()V" } : Jvm.MethodName) jdk_22_method_1_code (1 : Nat) (Option.none : Option Jvm.ClassFile.FieldType), Jvm.Cond.code ({ cls := "java/util/HashMap", name := "<init>", desc := "()V" } : Jvm.MethodName) jdk_69_method_7_code (1 : Nat) (Option.none : Option Jvm.ClassFile.FieldType), Jvm.Cond.code ({ cls := "java/util/AbstractMap", name := "<init>", desc := "()V" } : Jvm.MethodName) jdk_71_method_1_code (1 : Nat) (Option.none : Option Jvm.ClassFile.FieldType), Jvm.Cond.code ({ cls := "com/example/anytime_arena/anytimearena/io/VariableTable", name := "setRanges", desc := "([I[I)V" } : Jvm.MethodName) prog_88_method_3_code (3 : Nat) (Option.none : Option Jvm.ClassFile.FieldType), Jvm.Cond.code ({ cls := "com/example/anytime_arena/anytimearena/io/VariableTable", name := "low", desc := "()[I" } : Jvm.MethodName) prog_88_method_9_code (1 : Nat) (Option.some (Jvm.ClassFile.FieldType.array Jvm.ClassFile.FieldType.int)), Jvm.Cond.code ({ cls := "com/example/anytime_arena/anytimearena/io/VariableTable", name := "high", desc := "()[I" } : Jvm.MethodName) prog_88_method_10_code (1 : Nat) (Option.some (Jvm.ClassFile.FieldType.array Jvm.ClassFile.FieldType.int)), Jvm.Cond.code ({ cls := "com/example/anytime_arena/anytimearena/io/VariableTable", name := "inRange", desc := "(II)Z" } : Jvm.MethodName) prog_88_method_11_code (3 : Nat) (Option.some Jvm.ClassFile.FieldType.boolean)]
set_option maxRecDepth 65536 in
theorem codes_eq : words1.filter isCode = codes1 := rfl
theorem w_codes : ∀ c ∈ words1.filter isCode, c.before args0 about1 = true := by
  rw [codes_eq]
  intro c hc
  simp only [codes1, List.mem_cons, List.not_mem_nil, or_false] at hc
  rcases hc with rfl | rfl | rfl | rfl | rfl | rfl | rfl | rfl | rfl | rfl | rfl | rfl
  · exact w_c0
  · exact w_c1
  · exact w_c2
  · exact w_c3
  · exact w_c4
  · exact w_c5
  · exact w_c6
  · exact w_c7
  · exact w_c8
  · exact w_c9
  · exact w_c10
  · exact w_c11
set_option maxRecDepth 65536 in
theorem w_t1 : (words1.take 24).all (fun c => isCode c || c.before args0 about1) = true := by decide +kernel
set_option maxRecDepth 65536 in
theorem w_t2 : ((words1.drop 24).take 24).all (fun c => isCode c || c.before args0 about1) = true := by decide +kernel
set_option maxRecDepth 65536 in
theorem w_t3 : (((words1.drop 24).drop 24).take 24).all (fun c => isCode c || c.before args0 about1) = true := by decide +kernel
set_option maxRecDepth 65536 in
theorem w_t4 : (((words1.drop 24).drop 24).drop 24).all (fun c => isCode c || c.before args0 about1) = true := by decide +kernel
theorem w_tables : (allAtoms (Jvm.Cond.code x code maxLocals ret :: tables_1)).before args0 about1 = true := by
  rw [allAtoms_all]
  show words1.all (fun c => c.before args0 about1) = true
  refine all_split ?_ w_codes
  rw [← List.take_append_drop 24 words1, List.all_append, w_t1, ← List.take_append_drop 24 (words1.drop 24), List.all_append, w_t2, ← List.take_append_drop 24 ((words1.drop 24).drop 24), List.all_append, w_t3, w_t4]
  rfl
set_option maxRecDepth 65536 in
theorem w_rest : rest_1_c.before args0 about1 = true := by decide +kernel
set_option maxRecDepth 65536 in
theorem w_case : (Jvm.Cond.and given_1 narrow_1).before args0 about1 = true := by decide +kernel
theorem w_applies : (headSpec (Jvm.Cond.code x code maxLocals ret :: tables_1) room_1).applies x e0.platform about1 = true :=
  (Spec.applies_iff w_frames).mpr ⟨w_running, w_runnable, w_alone, w_named, w_hears, w_ripe, w_room, w_tables⟩
theorem atStart : AtStart classFile x code maxLocals ret World_1 tables_1 room_1 Calls_1 rest_1 Pre_1 launch0 p0 e0 about1 theMethod args0 below0 :=
  ⟨lists_1, trivial, launch0.admits_env _ _ _, launch0.least_env, fairChoices_fair.cas, fairChoices_fair.clock, w_frames, w_args, w_heap, w_applies, trivial, w_rest, w_case⟩
end start1
theorem witness_1 : WitnessClaimed_1 := ⟨start1.p0, start1.e0, start1.about1, start1.theMethod, start1.args0, start1.below0, start1.atStart⟩
end Jvm.Pilot.@@N@@
