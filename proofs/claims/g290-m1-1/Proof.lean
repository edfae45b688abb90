import JvmDerived
import JvmDerived.Pilot.@@N@@Statement
import JvmDerived.Pilot.@@N@@Code
set_option linter.unusedVariables false
set_option linter.unusedSimpArgs false
@@BLOCK:NumsL.lean.txt@@
namespace Jvm.Pilot.@@N@@
open Jvm Jvm.ClassFile Sem Op Lib Jvm.Free Jvm.Stand Jvm.LawKit Jvm.RoadKit Bundle Jvm.Pilot.@@N@@.Jvm.D
def Goes (tb : Tables) (e : Env) (below : List Frame) (G : State → Outcome → Prop) (A : State) : Prop := ∃ s₂ o, Steps tb e below A s₂ ∧ s₂.status = .running ∧ Ended s₂ below o ∧ G s₂ o
theorem go {tb : Tables} {e : Env} {below : List Frame} {G : State → Outcome → Prop} {A B : State} (h : ∀ t, Steps tb e below B t → Steps tb e below A t) (k : Goes tb e below G B) : Goes tb e below G A := by
  obtain ⟨s₂, o, h1, h2⟩ := k; exact ⟨s₂, o, h _ h1, h2⟩
theorem goEnd {tb : Tables} {e : Env} {below : List Frame} {G : State → Outcome → Prop} {A B : State} (h : ∀ t, Steps tb e below B t → Steps tb e below A t) (k : Goes tb e below G B) : ∃ s₂ o, Steps tb e below A s₂ ∧ s₂.status = .running ∧ Ended s₂ below o ∧ G s₂ o := go h k
theorem own_sta_keep {Z : State} {h h' : Heap} {C n d K : String} {v : Value} {a : Addr} (S : Sta Z h C n d v) (E : Exa Z h a K) (Kp : Keep h h' [a]) : Sta Z h' C n d v := by
  obtain ⟨cf, i, k, f, st, cell, h1, h2, h3, h4, h5, h6, h7⟩ := S
  obtain ⟨c', k', e1, -, -, e4, -⟩ := E
  refine ⟨cf, i, k, f, st, cell, h1, h2, h3, h4, Kp.2.1 st cell h5 (fun q => ?_), h6, h7⟩
  have q' : st = a := by simpa using q
  subst q'
  cases h5.symm.trans e1
  rw [e4] at h6; cases h6
abbrev iv (x : Int32) : Slot := .val (.int x)
abbrev jv (x : Int64) : Slot := .val (.long x)
abbrev rv (x : Addr) : Slot := .val (.ref x)
abbrev Go (p : Program) (e : Env) (below : List Frame) (G : State → Outcome → Prop) (m : MethodId) (T : State) (pc : Nat) (L : Array Slot) (S : List Value) : Prop := Goes p.tables e below G (T.setTop (mkF m pc L S))
theorem d1_0 : decode prog_16_method_1_code 0 = .ok (.aload_n 0, 1) := by decide +kernel
theorem d1_1 : decode prog_16_method_1_code 1 = .ok (.invokespecial 1, 3) := by decide +kernel
theorem d1_4 : decode prog_16_method_1_code 4 = .ok (.aload_n 0, 1) := by decide +kernel
theorem d1_5 : decode prog_16_method_1_code 5 = .ok (.lload_n 1, 1) := by decide +kernel
theorem d1_6 : decode prog_16_method_1_code 6 = .ok (.putfield 7, 3) := by decide +kernel
theorem d1_9 : decode prog_16_method_1_code 9 = .ok (.return_, 1) := by decide +kernel
theorem pn_1 : plainName "com/example/sumbit/sumbit/protocol/TransitMemory" = true := by first | (simp [plainName, overriddenIn]; done) | decide +kernel
theorem ef_1 (m : MethodId) (o0 : Addr) (q1 : Int64) : entryFrame m #[(.ref o0), (.long q1)] 3 = mkF m 0 #[.val (.ref o0), .val (.long q1), .second] [] := by first | (simp [entryFrame, mkF, argsToLocals, Value.category]; done) | rfl
def Q1 (Z : State) (o0 : Addr) (q1 : Int64) (u1 : Value) (u2 : Value) (h0 : Heap) (n0 : Nat) (v : Option Value) (h : Heap) (L : List Loc) : Prop := v = none ∧ Fr n0 L ∧ Keep h0 h [o0] ∧ Exa Z h o0 "com/example/sumbit/sumbit/protocol/TransitMemory" ∧ Fld Z h o0 "com/example/sumbit/sumbit/protocol/TransitMemory" "limit" "J" (.long q1) ∧ Fld Z h o0 "com/example/sumbit/sumbit/protocol/TransitMemory" "held" "J" u2
set_option maxRecDepth 65536 in
set_option maxHeartbeats 40000000 in
theorem rm1 (l : Launch) (Z : State) (a0 : Array Value) (hw : ∀ d ∈ tables_1, d.before a0 Z = true) (ws : List Jvm.Cond) (o0 : Addr) (q1 : Int64) (u1 : Value) (u2 : Value) (h0 : Heap) (n0 : Nat) (Z0 : n0 ≤ h0.size) (E_o0 : Exa Z h0 o0 "com/example/sumbit/sumbit/protocol/TransitMemory") (F_limit_o0 : Fld Z h0 o0 "com/example/sumbit/sumbit/protocol/TransitMemory" "limit" "J" u1) (F_held_o0 : Fld Z h0 o0 "com/example/sumbit/sumbit/protocol/TransitMemory" "held" "J" u2) (g_o0 : n0 ≤ o0) :
    MetFree l (⟨"com/example/sumbit/sumbit/protocol/TransitMemory", "<init>", "(J)V"⟩ : MethodName) (head1 (Jvm.Cond.code (⟨"com/example/sumbit/sumbit/protocol/TransitMemory", "<init>", "(J)V"⟩ : MethodName) prog_16_method_1_code 3 none :: ws) ({ frames := 1, cells := 0, slots := 0, locals := 12 } : Room)) (fun a U => a = #[(.ref o0), (.long q1)] ∧ Z.Warmed39 U.vm ∧ U.heap = h0) (fun _ _ _ _ _ => True) (fun _ U o U' => ∃ v L, o = .returned v ∧ Q1 Z o0 q1 u1 u2 h0 n0 v U'.heap L ∧ FrameEnd U o U' L ({ frames := 1, cells := 0, slots := 0, locals := 12 } : Room).cells ({ frames := 1, cells := 0, slots := 0, locals := 12 } : Room).slots) := by
  refine MetFree.of_bodySF (plainFor_of_name pn_1) hisR ?_
  intro p e s m args below meth c s₁ Bd hml0 hP hK
  obtain ⟨rfl, hZ, hh⟩ := hP
  have hx := Bd.exec
  have hby := Bd.bytes
  have hml : c.maxLocals = 3 := hml0
  have hown : s.vm.findClass "com/example/sumbit/sumbit/protocol/TransitMemory" = some m.cls := findClass_of_methodNamed Bd.named
  have hnm := (name_of_methodNamed Bd.named Bd.method).1
  have X0 : Stand p l e ({ frames := 1, cells := 0, slots := 0, locals := 12 } : Room) s m #[(.ref o0), (.long q1)] below meth c s₁ [] 0 0 := Stand.of_body Bd
  have e0 : s₁.heap = h0 := by rw [← hh, Bd.state]; rfl
  have N0 := Fr.nil n0
  have K0 := Keep.refl h0 [o0]
  suffices hgo : Goes p.tables e below (fun s₂ o => ∃ v L, o = .returned v ∧ Q1 Z o0 q1 u1 u2 h0 n0 v s₂.heap L ∧ FrameEnd s o s₂ L ({ frames := 1, cells := 0, slots := 0, locals := 12 } : Room).cells ({ frames := 1, cells := 0, slots := 0, locals := 12 } : Room).slots) (s₁.setTop (mkF m 0 #[.val (.ref o0), .val (.long q1), .second] [])) from goEnd (fun t k => castTop (ef_1 m o0 q1) k) hgo
  refine go (fun t kt => XS.aloadN X0.here hx rfl (hb hby d1_0) rfl rfl kt) ?_
  show Goes p.tables e below _ (s₁.setTop (mkF m 1 #[.val (.ref o0), .val (.long q1), .second] [(.ref o0)]))
  obtain ⟨T1, X1, e1, st1⟩ := initO X0 hx hZ hown (hw _ (List.mem_of_getElem? (i := 7) rfl)) (hw _ (List.mem_of_getElem? (i := 8) rfl)) (hw _ (List.mem_of_getElem? (i := 9) rfl)) e0 (g := (mkF m 1 #[.val (.ref o0), .val (.long q1), .second] [(.ref o0)])) rfl (by rw [hml]; rfl) rfl (hb hby d1_1) (by decide) (W := 0) (by show 2 * 0 + _ ≤ _; exact Nat.le_of_eq rfl) (by decide)
  refine go st1 ?_
  show Goes p.tables e below _ (T1.setTop (mkF m 4 #[.val (.ref o0), .val (.long q1), .second] []))
  refine go (fun t kt => XS.aloadN X1.here hx rfl (hb hby d1_4) rfl rfl kt) ?_
  show Goes p.tables e below _ (T1.setTop (mkF m 5 #[.val (.ref o0), .val (.long q1), .second] [(.ref o0)]))
  refine go (fun t kt => XS.lloadN X1.here hx rfl (hb hby d1_5) rfl kt) ?_
  show Goes p.tables e below _ (T1.setTop (mkF m 6 #[.val (.ref o0), .val (.long q1), .second] [(.long q1), (.ref o0)]))
  obtain ⟨T2, h2, X2, e2, W2, st2⟩ := putF X1 hx hZ hown (host := "") (Or.inl (hw _ (List.mem_of_getElem? (i := 10) rfl))) Via.refl e1 F_limit_o0 E_o0 (Or.inr ⟨(hw _ (List.mem_of_getElem? (i := 11) rfl)), rfl, hnm⟩) (hw _ (List.mem_of_getElem? (i := 2) rfl)) (ty := .long) (by decide) rfl rfl (g := (mkF m 6 #[.val (.ref o0), .val (.long q1), .second] [(.long q1), (.ref o0)])) rfl rfl (hb hby d1_6)
  replace F_limit_o0 := F_limit_o0.same W2
  replace E_o0 := E_o0.wr W2
  replace F_held_o0 := F_held_o0.other W2 (Or.inr (slot_ne (Or.inl (hw _ (List.mem_of_getElem? (i := 18) rfl))) (Or.inr (hw _ (List.mem_of_getElem? (i := 11) rfl))) (by decide) (t := .long) (t' := .long) (by decide) (by decide)))
  have Zz2 := Nat.le_trans Z0 (Keep.of_wr W2).1
  have Kk2 := K0.wr W2 (Or.inl (List.mem_of_getElem? (i := 0) rfl))
  have N2 := Fr.snoc X2 N0 g_o0
  refine go st2 ?_
  show Goes p.tables e below _ (T2.setTop (mkF m 9 #[.val (.ref o0), .val (.long q1), .second] []))
  obtain ⟨fs, hr, hrun, hended, hW, hsame⟩ := X2.leave (v := none) (fun _ => rfl)
  refine ⟨_, _, X2.returnOut hx Bd.returns (hb hby d1_9) hr, hrun, hended, _, _, rfl, ?_, ⟨_, rfl⟩, hW, hsame.mono (by decide) (by decide)⟩
  show Q1 Z o0 q1 u1 u2 h0 n0 _ T2.heap _
  rw [e2]
  exact ⟨rfl, N2, Kk2, E_o0, F_limit_o0, F_held_o0⟩
theorem d3_0 : decode prog_16_method_4_code 0 = .ok (.aload_n 0, 1) := by decide +kernel
theorem d3_1 : decode prog_16_method_4_code 1 = .ok (.dup, 1) := by decide +kernel
theorem d3_2 : decode prog_16_method_4_code 2 = .ok (.getfield 17, 3) := by decide +kernel
theorem d3_5 : decode prog_16_method_4_code 5 = .ok (.lload_n 1, 1) := by decide +kernel
theorem d3_6 : decode prog_16_method_4_code 6 = .ok (.ladd, 1) := by decide +kernel
theorem d3_7 : decode prog_16_method_4_code 7 = .ok (.putfield 17, 3) := by decide +kernel
theorem d3_10 : decode prog_16_method_4_code 10 = .ok (.return_, 1) := by decide +kernel
theorem ef_3 (m : MethodId) (o0 : Addr) (q1 : Int64) : entryFrame m #[(.ref o0), (.long q1)] 3 = mkF m 0 #[.val (.ref o0), .val (.long q1), .second] [] := by first | (simp [entryFrame, mkF, argsToLocals, Value.category]; done) | rfl
def Q3 (Z : State) (o0 : Addr) (q1 : Int64) (w1 : Int64) (w2 : Int64) (h0 : Heap) (n0 : Nat) (v : Option Value) (h : Heap) (L : List Loc) : Prop := v = none ∧ Fr n0 L ∧ Keep h0 h [o0] ∧ Exa Z h o0 "com/example/sumbit/sumbit/protocol/TransitMemory" ∧ Fld Z h o0 "com/example/sumbit/sumbit/protocol/TransitMemory" "limit" "J" (.long w1) ∧ Fld Z h o0 "com/example/sumbit/sumbit/protocol/TransitMemory" "held" "J" (.long (w2 + q1))
set_option maxRecDepth 65536 in
set_option maxHeartbeats 40000000 in
theorem rm3 (l : Launch) (Z : State) (a0 : Array Value) (hw : ∀ d ∈ tables_1, d.before a0 Z = true) (ws : List Jvm.Cond) (o0 : Addr) (q1 : Int64) (w1 : Int64) (w2 : Int64) (h0 : Heap) (n0 : Nat) (Z0 : n0 ≤ h0.size) (E_o0 : Exa Z h0 o0 "com/example/sumbit/sumbit/protocol/TransitMemory") (F_limit_o0 : Fld Z h0 o0 "com/example/sumbit/sumbit/protocol/TransitMemory" "limit" "J" (.long w1)) (F_held_o0 : Fld Z h0 o0 "com/example/sumbit/sumbit/protocol/TransitMemory" "held" "J" (.long w2)) (g_o0 : n0 ≤ o0) :
    MetFree l (⟨"com/example/sumbit/sumbit/protocol/TransitMemory", "take", "(J)V"⟩ : MethodName) (head1 (Jvm.Cond.code (⟨"com/example/sumbit/sumbit/protocol/TransitMemory", "take", "(J)V"⟩ : MethodName) prog_16_method_4_code 3 none :: ws) ({ frames := 0, cells := 0, slots := 0, locals := 0 } : Room)) (fun a U => a = #[(.ref o0), (.long q1)] ∧ Z.Warmed39 U.vm ∧ U.heap = h0) (fun _ _ _ _ _ => True) (fun _ U o U' => ∃ v L, o = .returned v ∧ Q3 Z o0 q1 w1 w2 h0 n0 v U'.heap L ∧ FrameEnd U o U' L ({ frames := 0, cells := 0, slots := 0, locals := 0 } : Room).cells ({ frames := 0, cells := 0, slots := 0, locals := 0 } : Room).slots) := by
  refine MetFree.of_bodySF (plainFor_of_name pn_1) hisR ?_
  intro p e s m args below meth c s₁ Bd hml0 hP hK
  obtain ⟨rfl, hZ, hh⟩ := hP
  have hx := Bd.exec
  have hby := Bd.bytes
  have hml : c.maxLocals = 3 := hml0
  have hown : s.vm.findClass "com/example/sumbit/sumbit/protocol/TransitMemory" = some m.cls := findClass_of_methodNamed Bd.named
  have hnm := (name_of_methodNamed Bd.named Bd.method).1
  have X0 : Stand p l e ({ frames := 0, cells := 0, slots := 0, locals := 0 } : Room) s m #[(.ref o0), (.long q1)] below meth c s₁ [] 0 0 := Stand.of_body Bd
  have e0 : s₁.heap = h0 := by rw [← hh, Bd.state]; rfl
  have N0 := Fr.nil n0
  have K0 := Keep.refl h0 [o0]
  suffices hgo : Goes p.tables e below (fun s₂ o => ∃ v L, o = .returned v ∧ Q3 Z o0 q1 w1 w2 h0 n0 v s₂.heap L ∧ FrameEnd s o s₂ L ({ frames := 0, cells := 0, slots := 0, locals := 0 } : Room).cells ({ frames := 0, cells := 0, slots := 0, locals := 0 } : Room).slots) (s₁.setTop (mkF m 0 #[.val (.ref o0), .val (.long q1), .second] [])) from goEnd (fun t k => castTop (ef_3 m o0 q1) k) hgo
  refine go (fun t kt => XS.aloadN X0.here hx rfl (hb hby d3_0) rfl rfl kt) ?_
  show Goes p.tables e below _ (s₁.setTop (mkF m 1 #[.val (.ref o0), .val (.long q1), .second] [(.ref o0)]))
  refine go (fun t kt => XS.dup X0.here hx rfl (hb hby d3_1) rfl rfl kt) ?_
  show Goes p.tables e below _ (s₁.setTop (mkF m 2 #[.val (.ref o0), .val (.long q1), .second] [(.ref o0), (.ref o0)]))
  obtain ⟨T1, X1, e1, st1⟩ := getF X0 hx hZ hown (host := "") (Or.inl (hw _ (List.mem_of_getElem? (i := 17) rfl))) Via.refl e0 F_held_o0 (g := (mkF m 2 #[.val (.ref o0), .val (.long q1), .second] [(.ref o0), (.ref o0)])) rfl rfl (hb hby d3_2)
  refine go st1 ?_
  show Goes p.tables e below _ (T1.setTop (mkF m 5 #[.val (.ref o0), .val (.long q1), .second] [(.long w2), (.ref o0)]))
  refine go (fun t kt => XS.lloadN X1.here hx rfl (hb hby d3_5) rfl kt) ?_
  show Goes p.tables e below _ (T1.setTop (mkF m 6 #[.val (.ref o0), .val (.long q1), .second] [(.long q1), (.long w2), (.ref o0)]))
  refine go (fun t kt => XS.ladd X1.here hx rfl (hb hby d3_6) rfl kt) ?_
  show Goes p.tables e below _ (T1.setTop (mkF m 7 #[.val (.ref o0), .val (.long q1), .second] [(.long (w2 + q1)), (.ref o0)]))
  obtain ⟨T2, h2, X2, e2, W2, st2⟩ := putF X1 hx hZ hown (host := "") (Or.inl (hw _ (List.mem_of_getElem? (i := 17) rfl))) Via.refl e1 F_held_o0 E_o0 (Or.inl (hw _ (List.mem_of_getElem? (i := 18) rfl))) (hw _ (List.mem_of_getElem? (i := 2) rfl)) (ty := .long) (by decide) rfl rfl (g := (mkF m 7 #[.val (.ref o0), .val (.long q1), .second] [(.long (w2 + q1)), (.ref o0)])) rfl rfl (hb hby d3_7)
  replace F_held_o0 := F_held_o0.same W2
  replace E_o0 := E_o0.wr W2
  replace F_limit_o0 := F_limit_o0.other W2 (Or.inr (slot_ne (Or.inr (hw _ (List.mem_of_getElem? (i := 11) rfl))) (Or.inl (hw _ (List.mem_of_getElem? (i := 18) rfl))) (by decide) (t := .long) (t' := .long) (by decide) (by decide)))
  have Zz2 := Nat.le_trans Z0 (Keep.of_wr W2).1
  have Kk2 := K0.wr W2 (Or.inl (List.mem_of_getElem? (i := 0) rfl))
  have N2 := Fr.snoc X2 N0 g_o0
  refine go st2 ?_
  show Goes p.tables e below _ (T2.setTop (mkF m 10 #[.val (.ref o0), .val (.long q1), .second] []))
  obtain ⟨fs, hr, hrun, hended, hW, hsame⟩ := X2.leave (v := none) (fun _ => rfl)
  refine ⟨_, _, X2.returnOut hx Bd.returns (hb hby d3_10) hr, hrun, hended, _, _, rfl, ?_, ⟨_, rfl⟩, hW, hsame.mono (by decide) (by decide)⟩
  show Q3 Z o0 q1 w1 w2 h0 n0 _ T2.heap _
  rw [e2]
  exact ⟨rfl, N2, Kk2, E_o0, F_limit_o0, F_held_o0⟩
theorem d4_0 : decode prog_16_method_3_code 0 = .ok (.aload_n 0, 1) := by decide +kernel
theorem d4_1 : decode prog_16_method_3_code 1 = .ok (.getfield 17, 3) := by decide +kernel
theorem d4_4 : decode prog_16_method_3_code 4 = .ok (.lload_n 1, 1) := by decide +kernel
theorem d4_5 : decode prog_16_method_3_code 5 = .ok (.ladd, 1) := by decide +kernel
theorem d4_6 : decode prog_16_method_3_code 6 = .ok (.aload_n 0, 1) := by decide +kernel
theorem d4_7 : decode prog_16_method_3_code 7 = .ok (.getfield 7, 3) := by decide +kernel
theorem d4_10 : decode prog_16_method_3_code 10 = .ok (.lcmp, 1) := by decide +kernel
theorem d4_11 : decode prog_16_method_3_code 11 = .ok (.ifCond .gt 7, 3) := by decide +kernel
theorem d4_18 : decode prog_16_method_3_code 18 = .ok (.iconst 0, 1) := by decide +kernel
theorem d4_19 : decode prog_16_method_3_code 19 = .ok (.ireturn, 1) := by decide +kernel
theorem d4_14 : decode prog_16_method_3_code 14 = .ok (.iconst 1, 1) := by decide +kernel
theorem d4_15 : decode prog_16_method_3_code 15 = .ok (.goto 4, 3) := by decide +kernel
def own_allows (q1 : Int64) (w1 : Int64) (w2 : Int64) : Int32 := (if w2 < (w1 + q1) then (0 : Int32) else (1 : Int32))
theorem ef_4 (m : MethodId) (o0 : Addr) (q1 : Int64) : entryFrame m #[(.ref o0), (.long q1)] 3 = mkF m 0 #[.val (.ref o0), .val (.long q1), .second] [] := by first | (simp [entryFrame, mkF, argsToLocals, Value.category]; done) | rfl
def Q4 (Z : State) (o0 : Addr) (q1 : Int64) (w1 : Int64) (w2 : Int64) (h0 : Heap) (n0 : Nat) (v : Option Value) (h : Heap) (L : List Loc) : Prop := v = some (.int (own_allows q1 w1 w2)) ∧ Fr n0 L ∧ h = h0
set_option maxRecDepth 65536 in
set_option maxHeartbeats 40000000 in
theorem rm4 (l : Launch) (Z : State) (a0 : Array Value) (hw : ∀ d ∈ tables_1, d.before a0 Z = true) (ws : List Jvm.Cond) (o0 : Addr) (q1 : Int64) (w1 : Int64) (w2 : Int64) (h0 : Heap) (n0 : Nat) (Z0 : n0 ≤ h0.size) (F_held_o0 : Fld Z h0 o0 "com/example/sumbit/sumbit/protocol/TransitMemory" "held" "J" (.long w1)) (F_limit_o0 : Fld Z h0 o0 "com/example/sumbit/sumbit/protocol/TransitMemory" "limit" "J" (.long w2)) :
    MetFree l (⟨"com/example/sumbit/sumbit/protocol/TransitMemory", "allows", "(J)Z"⟩ : MethodName) (head1 (Jvm.Cond.code (⟨"com/example/sumbit/sumbit/protocol/TransitMemory", "allows", "(J)Z"⟩ : MethodName) prog_16_method_3_code 3 (some .boolean) :: ws) ({ frames := 0, cells := 0, slots := 0, locals := 0 } : Room)) (fun a U => a = #[(.ref o0), (.long q1)] ∧ Z.Warmed39 U.vm ∧ U.heap = h0) (fun _ _ _ _ _ => True) (fun _ U o U' => ∃ v L, o = .returned v ∧ Q4 Z o0 q1 w1 w2 h0 n0 v U'.heap L ∧ FrameEnd U o U' L ({ frames := 0, cells := 0, slots := 0, locals := 0 } : Room).cells ({ frames := 0, cells := 0, slots := 0, locals := 0 } : Room).slots) := by
  refine MetFree.of_bodySF (plainFor_of_name pn_1) hisR ?_
  intro p e s m args below meth c s₁ Bd hml0 hP hK
  obtain ⟨rfl, hZ, hh⟩ := hP
  have hx := Bd.exec
  have hby := Bd.bytes
  have hml : c.maxLocals = 3 := hml0
  have hown : s.vm.findClass "com/example/sumbit/sumbit/protocol/TransitMemory" = some m.cls := findClass_of_methodNamed Bd.named
  have hnm := (name_of_methodNamed Bd.named Bd.method).1
  have X0 : Stand p l e ({ frames := 0, cells := 0, slots := 0, locals := 0 } : Room) s m #[(.ref o0), (.long q1)] below meth c s₁ [] 0 0 := Stand.of_body Bd
  have e0 : s₁.heap = h0 := by rw [← hh, Bd.state]; rfl
  have N0 := Fr.nil n0
  have K0 := Keep.refl h0 []
  suffices hgo : Goes p.tables e below (fun s₂ o => ∃ v L, o = .returned v ∧ Q4 Z o0 q1 w1 w2 h0 n0 v s₂.heap L ∧ FrameEnd s o s₂ L ({ frames := 0, cells := 0, slots := 0, locals := 0 } : Room).cells ({ frames := 0, cells := 0, slots := 0, locals := 0 } : Room).slots) (s₁.setTop (mkF m 0 #[.val (.ref o0), .val (.long q1), .second] [])) from goEnd (fun t k => castTop (ef_4 m o0 q1) k) hgo
  refine go (fun t kt => XS.aloadN X0.here hx rfl (hb hby d4_0) rfl rfl kt) ?_
  show Goes p.tables e below _ (s₁.setTop (mkF m 1 #[.val (.ref o0), .val (.long q1), .second] [(.ref o0)]))
  obtain ⟨T1, X1, e1, st1⟩ := getF X0 hx hZ hown (host := "") (Or.inl (hw _ (List.mem_of_getElem? (i := 17) rfl))) Via.refl e0 F_held_o0 (g := (mkF m 1 #[.val (.ref o0), .val (.long q1), .second] [(.ref o0)])) rfl rfl (hb hby d4_1)
  refine go st1 ?_
  show Goes p.tables e below _ (T1.setTop (mkF m 4 #[.val (.ref o0), .val (.long q1), .second] [(.long w1)]))
  refine go (fun t kt => XS.lloadN X1.here hx rfl (hb hby d4_4) rfl kt) ?_
  show Goes p.tables e below _ (T1.setTop (mkF m 5 #[.val (.ref o0), .val (.long q1), .second] [(.long q1), (.long w1)]))
  refine go (fun t kt => XS.ladd X1.here hx rfl (hb hby d4_5) rfl kt) ?_
  show Goes p.tables e below _ (T1.setTop (mkF m 6 #[.val (.ref o0), .val (.long q1), .second] [(.long (w1 + q1))]))
  refine go (fun t kt => XS.aloadN X1.here hx rfl (hb hby d4_6) rfl rfl kt) ?_
  show Goes p.tables e below _ (T1.setTop (mkF m 7 #[.val (.ref o0), .val (.long q1), .second] [(.ref o0), (.long (w1 + q1))]))
  obtain ⟨T2, X2, e2, st2⟩ := getF X1 hx hZ hown (host := "") (Or.inl (hw _ (List.mem_of_getElem? (i := 10) rfl))) Via.refl e1 F_limit_o0 (g := (mkF m 7 #[.val (.ref o0), .val (.long q1), .second] [(.ref o0), (.long (w1 + q1))])) rfl rfl (hb hby d4_7)
  refine go st2 ?_
  show Goes p.tables e below _ (T2.setTop (mkF m 10 #[.val (.ref o0), .val (.long q1), .second] [(.long w2), (.long (w1 + q1))]))
  refine go (fun t kt => XS.lcmp X2.here hx rfl (hb hby d4_10) rfl kt) ?_
  show Goes p.tables e below _ (T2.setTop (mkF m 11 #[.val (.ref o0), .val (.long q1), .second] [(.int (lcmpW (w1 + q1) w2))]))
  by_cases hc3 : w2 < (w1 + q1)
  ·
    refine go (fun t kt => XS.ifYes X2.here hx rfl (pc0 := 11) (pc' := 18) rfl (hb hby d4_11) rfl ((if0 _ _).trans (tlt ((lw_gt (w1 + q1) w2).mpr hc3)).2.2.1) (by decide) (by decide) kt) ?_
    show Goes p.tables e below _ (T2.setTop (mkF m 18 #[.val (.ref o0), .val (.long q1), .second] []))
    refine go (fun t kt => XS.iconst X2.here hx rfl (hb hby d4_18) kt) ?_
    show Goes p.tables e below _ (T2.setTop (mkF m 19 #[.val (.ref o0), .val (.long q1), .second] [(.int (0 : Int32))]))
    obtain ⟨fs, hr, hrun, hended, hW, hsame⟩ := X2.leave (v := some (.int (0 : Int32))) (fun h => by rw [Bd.returns] at h; cases h)
    refine ⟨_, _, retN X2 hx (t := .boolean) Bd.returns (by simp) (hb hby d4_19) hr, hrun, hended, _, _, rfl, ?_, ⟨_, rfl⟩, hW, hsame.mono (by decide) (by decide)⟩
    show Q4 Z o0 q1 w1 w2 h0 n0 _ T2.heap _
    rw [e2]
    exact ⟨(by unfold own_allows; rw [if_pos hc3]), N0, rfl⟩
  ·
    refine go (fun t kt => XS.ifNo X2.here hx rfl (hb hby d4_11) rfl ((if0 _ _).trans (flt (fun q => hc3 ((lw_gt (w1 + q1) w2).mp q))).2.2.1) kt) ?_
    show Goes p.tables e below _ (T2.setTop (mkF m 14 #[.val (.ref o0), .val (.long q1), .second] []))
    refine go (fun t kt => XS.iconst X2.here hx rfl (hb hby d4_14) kt) ?_
    show Goes p.tables e below _ (T2.setTop (mkF m 15 #[.val (.ref o0), .val (.long q1), .second] [(.int (1 : Int32))]))
    refine go (fun t kt => XS.goto X2.here hx rfl (pc0 := 15) (pc' := 19) rfl (hb hby d4_15) (by decide) (by decide) kt) ?_
    show Goes p.tables e below _ (T2.setTop (mkF m 19 #[.val (.ref o0), .val (.long q1), .second] [(.int (1 : Int32))]))
    obtain ⟨fs, hr, hrun, hended, hW, hsame⟩ := X2.leave (v := some (.int (1 : Int32))) (fun h => by rw [Bd.returns] at h; cases h)
    refine ⟨_, _, retN X2 hx (t := .boolean) Bd.returns (by simp) (hb hby d4_19) hr, hrun, hended, _, _, rfl, ?_, ⟨_, rfl⟩, hW, hsame.mono (by decide) (by decide)⟩
    show Q4 Z o0 q1 w1 w2 h0 n0 _ T2.heap _
    rw [e2]
    exact ⟨(by unfold own_allows; rw [if_neg hc3]), N0, rfl⟩
theorem d5_0 : decode prog_16_method_6_code 0 = .ok (.aload_n 0, 1) := by decide +kernel
theorem d5_1 : decode prog_16_method_6_code 1 = .ok (.getfield 17, 3) := by decide +kernel
theorem d5_4 : decode prog_16_method_6_code 4 = .ok (.lreturn, 1) := by decide +kernel
def own_held (w1 : Int64) : Int64 := w1
theorem ef_5 (m : MethodId) (o0 : Addr) : entryFrame m #[(.ref o0)] 1 = mkF m 0 #[.val (.ref o0)] [] := by first | (simp [entryFrame, mkF, argsToLocals, Value.category]; done) | rfl
def Q5 (Z : State) (o0 : Addr) (w1 : Int64) (h0 : Heap) (n0 : Nat) (v : Option Value) (h : Heap) (L : List Loc) : Prop := v = some (.long (own_held w1)) ∧ Fr n0 L ∧ h = h0
set_option maxRecDepth 65536 in
set_option maxHeartbeats 40000000 in
theorem rm5 (l : Launch) (Z : State) (a0 : Array Value) (hw : ∀ d ∈ tables_1, d.before a0 Z = true) (ws : List Jvm.Cond) (o0 : Addr) (w1 : Int64) (h0 : Heap) (n0 : Nat) (Z0 : n0 ≤ h0.size) (F_held_o0 : Fld Z h0 o0 "com/example/sumbit/sumbit/protocol/TransitMemory" "held" "J" (.long w1)) :
    MetFree l (⟨"com/example/sumbit/sumbit/protocol/TransitMemory", "held", "()J"⟩ : MethodName) (head1 (Jvm.Cond.code (⟨"com/example/sumbit/sumbit/protocol/TransitMemory", "held", "()J"⟩ : MethodName) prog_16_method_6_code 1 (some .long) :: ws) ({ frames := 0, cells := 0, slots := 0, locals := 0 } : Room)) (fun a U => a = #[(.ref o0)] ∧ Z.Warmed39 U.vm ∧ U.heap = h0) (fun _ _ _ _ _ => True) (fun _ U o U' => ∃ v L, o = .returned v ∧ Q5 Z o0 w1 h0 n0 v U'.heap L ∧ FrameEnd U o U' L ({ frames := 0, cells := 0, slots := 0, locals := 0 } : Room).cells ({ frames := 0, cells := 0, slots := 0, locals := 0 } : Room).slots) := by
  refine MetFree.of_bodySF (plainFor_of_name pn_1) hisR ?_
  intro p e s m args below meth c s₁ Bd hml0 hP hK
  obtain ⟨rfl, hZ, hh⟩ := hP
  have hx := Bd.exec
  have hby := Bd.bytes
  have hml : c.maxLocals = 1 := hml0
  have hown : s.vm.findClass "com/example/sumbit/sumbit/protocol/TransitMemory" = some m.cls := findClass_of_methodNamed Bd.named
  have hnm := (name_of_methodNamed Bd.named Bd.method).1
  have X0 : Stand p l e ({ frames := 0, cells := 0, slots := 0, locals := 0 } : Room) s m #[(.ref o0)] below meth c s₁ [] 0 0 := Stand.of_body Bd
  have e0 : s₁.heap = h0 := by rw [← hh, Bd.state]; rfl
  have N0 := Fr.nil n0
  have K0 := Keep.refl h0 []
  suffices hgo : Goes p.tables e below (fun s₂ o => ∃ v L, o = .returned v ∧ Q5 Z o0 w1 h0 n0 v s₂.heap L ∧ FrameEnd s o s₂ L ({ frames := 0, cells := 0, slots := 0, locals := 0 } : Room).cells ({ frames := 0, cells := 0, slots := 0, locals := 0 } : Room).slots) (s₁.setTop (mkF m 0 #[.val (.ref o0)] [])) from goEnd (fun t k => castTop (ef_5 m o0) k) hgo
  refine go (fun t kt => XS.aloadN X0.here hx rfl (hb hby d5_0) rfl rfl kt) ?_
  show Goes p.tables e below _ (s₁.setTop (mkF m 1 #[.val (.ref o0)] [(.ref o0)]))
  obtain ⟨T1, X1, e1, st1⟩ := getF X0 hx hZ hown (host := "") (Or.inl (hw _ (List.mem_of_getElem? (i := 17) rfl))) Via.refl e0 F_held_o0 (g := (mkF m 1 #[.val (.ref o0)] [(.ref o0)])) rfl rfl (hb hby d5_1)
  refine go st1 ?_
  show Goes p.tables e below _ (T1.setTop (mkF m 4 #[.val (.ref o0)] [(.long w1)]))
  obtain ⟨fs, hr, hrun, hended, hW, hsame⟩ := X1.leave (v := some (.long w1)) (fun h => by rw [Bd.returns] at h; cases h)
  refine ⟨_, _, retOut X1 hx (i := .lreturn) Bd.returns rfl (Or.inr (Or.inl ⟨rfl, rfl, _, rfl⟩)) (hb hby d5_4) hr, hrun, hended, _, _, rfl, ?_, ⟨_, rfl⟩, hW, hsame.mono (by decide) (by decide)⟩
  show Q5 Z o0 w1 h0 n0 _ T1.heap _
  rw [e1]
  exact ⟨rfl, N0, rfl⟩
theorem own_m (x : Int64) : 0 ≤ (x &&& 4611686018427387903).toInt ∧ (x &&& 4611686018427387903).toInt < 4611686018427387904 := by
  rw [Jvm.Kit.i64_mask x 4611686018427387903 (k := 62) (by decide) (by decide)]
  omega
theorem own_z (h : Int64) : own_held ((0 : Int64) + h) = h := by unfold own_held; exact Int64.zero_add h
theorem own_neg (l h b : Int64) (h1 : 0 ≤ h.toInt ∧ h.toInt < 4611686018427387904) (h2 : 0 ≤ b.toInt ∧ b.toInt < 4611686018427387904) (hl : l < 0) : own_allows b ((0 : Int64) + h) l = 0 := by
  have e0 : (0 : Int64).toInt = 0 := rfl
  have e1 : (h + b).toInt = h.toInt + b.toInt := Jvm.Kit.i64_add (by omega) (by omega)
  unfold own_allows; rw [Int64.zero_add, if_pos]
  rw [Int64.lt_iff_toInt_lt] at *; omega
theorem own_in (l h b : Int64) (h1 : 0 ≤ h.toInt ∧ h.toInt < 4611686018427387904) (h2 : 0 ≤ b.toInt ∧ b.toInt < 4611686018427387904) (hl : ¬ l < 0) (hb : ¬ (l - h) < b) : own_allows b ((0 : Int64) + h) l = 1 := by
  have e0 : (0 : Int64).toInt = 0 := rfl
  have := l.toInt_lt
  rw [Int64.lt_iff_toInt_lt] at hl
  have e1 : (h + b).toInt = h.toInt + b.toInt := Jvm.Kit.i64_add (by omega) (by omega)
  have e2 : (l - h).toInt = l.toInt - h.toInt := Jvm.Kit.i64_sub (by omega) (by omega)
  unfold own_allows; rw [Int64.zero_add, if_neg]
  rw [Int64.lt_iff_toInt_lt] at *; omega
theorem own_out (l h b : Int64) (h1 : 0 ≤ h.toInt ∧ h.toInt < 4611686018427387904) (h2 : 0 ≤ b.toInt ∧ b.toInt < 4611686018427387904) (hl : ¬ l < 0) (hb : (l - h) < b) : own_allows b ((0 : Int64) + h) l = 0 := by
  have e0 : (0 : Int64).toInt = 0 := rfl
  have := l.toInt_lt
  rw [Int64.lt_iff_toInt_lt] at hl
  have e1 : (h + b).toInt = h.toInt + b.toInt := Jvm.Kit.i64_add (by omega) (by omega)
  have e2 : (l - h).toInt = l.toInt - h.toInt := Jvm.Kit.i64_sub (by omega) (by omega)
  unfold own_allows; rw [Int64.zero_add, if_pos]
  rw [Int64.lt_iff_toInt_lt] at *; omega
theorem own_near (b : Int64) (h1 : ¬ b < 0) (h2 : ¬ (4611686018427387903 : Int64) < b) : 0 ≤ b.toInt ∧ b.toInt < 4611686018427387904 := by
  have e0 : (0 : Int64).toInt = 0 := rfl
  have e1 : (4611686018427387903 : Int64).toInt = 4611686018427387903 := rfl
  rw [Int64.lt_iff_toInt_lt] at *; omega
theorem pd_0 : parseMethodDescriptor "(J)V" = some ⟨[.long], none⟩ := by decide +kernel
theorem pd_1 : parseMethodDescriptor "(J)Z" = some ⟨[.long], some .boolean⟩ := by decide +kernel
theorem pd_2 : parseMethodDescriptor "()J" = some ⟨[], some .long⟩ := by decide +kernel
theorem pn_0 : plainName "com/example/sumbit/sumbit/protocol/TransitMemoryAllowsPinLaw" = true := by first | (simp [plainName, overriddenIn]; done) | decide +kernel
theorem ef_0 (m : MethodId) (q0 : Int64) (q1 : Int64) (q2 : Int64) (p3 : Int32) : entryFrame m #[(.long q0), (.long q1), (.long q2), (.int p3)] maxLocals = mkF m 0 #[.val (.long q0), .second, .val (.long q1), .second, .val (.long q2), .second, .val (.int p3), .unset, .unset, .unset, .unset, .unset, .unset, .unset] [] := by first | (simp [entryFrame, mkF, argsToLocals, Value.category, maxLocals]; done) | rfl
def Q0 (Z : State) (q0 : Int64) (q1 : Int64) (q2 : Int64) (p3 : Int32) (h0 : Heap) (n0 : Nat) (v : Option Value) (h : Heap) (L : List Loc) : Prop := v = some (.int (1 : Int32)) ∧ Fr n0 L
set_option maxRecDepth 65536 in
set_option maxHeartbeats 40000000 in
theorem rm0 (l : Launch) (Z : State) (a0 : Array Value) (hw : ∀ d ∈ tables_1, d.before a0 Z = true) (ws : List Jvm.Cond) (q0 : Int64) (q1 : Int64) (q2 : Int64) (p3 : Int32) (h0 : Heap) (n0 : Nat) (Z0 : n0 ≤ h0.size)  :
    MetFree l x (head1 (Jvm.Cond.code x code maxLocals ret :: ws) room_1) (fun a U => a = #[(.long q0), (.long q1), (.long q2), (.int p3)] ∧ Z.Warmed39 U.vm ∧ U.heap = h0) (fun _ _ _ _ _ => True) (fun _ U o U' => ∃ v L, o = .returned v ∧ Q0 Z q0 q1 q2 p3 h0 n0 v U'.heap L ∧ FrameEnd U o U' L 1 2) := by
  refine MetFree.of_bodySF (plainFor_of_name pn_0) hisR ?_
  intro p e s m args below meth c s₁ Bd hml0 hP hK
  obtain ⟨rfl, hZ, hh⟩ := hP
  have hx := Bd.exec
  have hby := Bd.bytes
  have hml : c.maxLocals = 14 := hml0
  have hown : s.vm.findClass "com/example/sumbit/sumbit/protocol/TransitMemoryAllowsPinLaw" = some m.cls := findClass_of_methodNamed Bd.named
  have hnm := (name_of_methodNamed Bd.named Bd.method).1
  have X0 : Stand p l e room_1 s m #[(.long q0), (.long q1), (.long q2), (.int p3)] below meth c s₁ [] 0 0 := Stand.of_body Bd
  have e0 : s₁.heap = h0 := by rw [← hh, Bd.state]; rfl
  have N0 := Fr.nil n0
  have K0 := Keep.refl h0 []
  suffices hgo : Goes p.tables e below (fun s₂ o => ∃ v L, o = .returned v ∧ Q0 Z q0 q1 q2 p3 h0 n0 v s₂.heap L ∧ FrameEnd s o s₂ L 1 2) (s₁.setTop (mkF m 0 #[.val (.long q0), .second, .val (.long q1), .second, .val (.long q2), .second, .val (.int p3), .unset, .unset, .unset, .unset, .unset, .unset, .unset] [])) from goEnd (fun t k => castTop (ef_0 m q0 q1 q2 p3) k) hgo
  refine go (fun t kt => XS.lloadN X0.here hx rfl (hb hby at_0) rfl kt) ?_
  show Goes p.tables e below _ (s₁.setTop (mkF m 1 #[.val (.long q0), .second, .val (.long q1), .second, .val (.long q2), .second, .val (.int p3), .unset, .unset, .unset, .unset, .unset, .unset, .unset] [(.long q1)]))
  refine go (X0.ldc2Long hx hown (mvT hZ (hw _ (List.mem_of_getElem? (i := 0) rfl))) (g := (mkF m 1 #[.val (.long q0), .second, .val (.long q1), .second, .val (.long q2), .second, .val (.int p3), .unset, .unset, .unset, .unset, .unset, .unset, .unset] [(.long q1)])) rfl (hb hby at_1)) ?_
  show Goes p.tables e below _ (s₁.setTop (mkF m 4 #[.val (.long q0), .second, .val (.long q1), .second, .val (.long q2), .second, .val (.int p3), .unset, .unset, .unset, .unset, .unset, .unset, .unset] [(.long (4611686018427387903 : Int64)), (.long q1)]))
  refine go (fun t kt => XS.land X0.here hx rfl (hb hby at_4) rfl kt) ?_
  show Goes p.tables e below _ (s₁.setTop (mkF m 5 #[.val (.long q0), .second, .val (.long q1), .second, .val (.long q2), .second, .val (.int p3), .unset, .unset, .unset, .unset, .unset, .unset, .unset] [(.long (q1 &&& (4611686018427387903 : Int64)))]))
  refine go (fun t kt => XS.lstore X0.here hx rfl (hb hby at_5) rfl (l' := #[.val (.long q0), .second, .val (.long q1), .second, .val (.long q2), .second, .val (.int p3), .val (.long (q1 &&& (4611686018427387903 : Int64))), .second, .unset, .unset, .unset, .unset, .unset]) rfl kt) ?_
  show Goes p.tables e below _ (s₁.setTop (mkF m 7 #[.val (.long q0), .second, .val (.long q1), .second, .val (.long q2), .second, .val (.int p3), .val (.long (q1 &&& (4611686018427387903 : Int64))), .second, .unset, .unset, .unset, .unset, .unset] []))
  refine go (fun t kt => XS.lload X0.here hx rfl (hb hby at_7) rfl kt) ?_
  show Goes p.tables e below _ (s₁.setTop (mkF m 9 #[.val (.long q0), .second, .val (.long q1), .second, .val (.long q2), .second, .val (.int p3), .val (.long (q1 &&& (4611686018427387903 : Int64))), .second, .unset, .unset, .unset, .unset, .unset] [(.long q2)]))
  refine go (X0.ldc2Long hx hown (mvT hZ (hw _ (List.mem_of_getElem? (i := 0) rfl))) (g := (mkF m 9 #[.val (.long q0), .second, .val (.long q1), .second, .val (.long q2), .second, .val (.int p3), .val (.long (q1 &&& (4611686018427387903 : Int64))), .second, .unset, .unset, .unset, .unset, .unset] [(.long q2)])) rfl (hb hby at_9)) ?_
  show Goes p.tables e below _ (s₁.setTop (mkF m 12 #[.val (.long q0), .second, .val (.long q1), .second, .val (.long q2), .second, .val (.int p3), .val (.long (q1 &&& (4611686018427387903 : Int64))), .second, .unset, .unset, .unset, .unset, .unset] [(.long (4611686018427387903 : Int64)), (.long q2)]))
  refine go (fun t kt => XS.land X0.here hx rfl (hb hby at_12) rfl kt) ?_
  show Goes p.tables e below _ (s₁.setTop (mkF m 13 #[.val (.long q0), .second, .val (.long q1), .second, .val (.long q2), .second, .val (.int p3), .val (.long (q1 &&& (4611686018427387903 : Int64))), .second, .unset, .unset, .unset, .unset, .unset] [(.long (q2 &&& (4611686018427387903 : Int64)))]))
  refine go (fun t kt => XS.lstore X0.here hx rfl (hb hby at_13) rfl (l' := #[.val (.long q0), .second, .val (.long q1), .second, .val (.long q2), .second, .val (.int p3), .val (.long (q1 &&& (4611686018427387903 : Int64))), .second, .val (.long (q2 &&& (4611686018427387903 : Int64))), .second, .unset, .unset, .unset]) rfl kt) ?_
  show Goes p.tables e below _ (s₁.setTop (mkF m 15 #[.val (.long q0), .second, .val (.long q1), .second, .val (.long q2), .second, .val (.int p3), .val (.long (q1 &&& (4611686018427387903 : Int64))), .second, .val (.long (q2 &&& (4611686018427387903 : Int64))), .second, .unset, .unset, .unset] []))
  refine go (fun t kt => XS.iload X0.here hx rfl (hb hby at_15) rfl kt) ?_
  show Goes p.tables e below _ (s₁.setTop (mkF m 17 #[.val (.long q0), .second, .val (.long q1), .second, .val (.long q2), .second, .val (.int p3), .val (.long (q1 &&& (4611686018427387903 : Int64))), .second, .val (.long (q2 &&& (4611686018427387903 : Int64))), .second, .unset, .unset, .unset] [(.int p3)]))
  refine go (fun t kt => XS.iconst X0.here hx rfl (hb hby at_17) kt) ?_
  show Goes p.tables e below _ (s₁.setTop (mkF m 18 #[.val (.long q0), .second, .val (.long q1), .second, .val (.long q2), .second, .val (.int p3), .val (.long (q1 &&& (4611686018427387903 : Int64))), .second, .val (.long (q2 &&& (4611686018427387903 : Int64))), .second, .unset, .unset, .unset] [(.int (4 : Int32)), (.int p3)]))
  refine go (fun t kt => XS.iand X0.here hx rfl (hb hby at_18) rfl kt) ?_
  show Goes p.tables e below _ (s₁.setTop (mkF m 19 #[.val (.long q0), .second, .val (.long q1), .second, .val (.long q2), .second, .val (.int p3), .val (.long (q1 &&& (4611686018427387903 : Int64))), .second, .val (.long (q2 &&& (4611686018427387903 : Int64))), .second, .unset, .unset, .unset] [(.int (p3 &&& (4 : Int32)))]))
  by_cases hc1 : (p3 &&& (4 : Int32)) = (0 : Int32)
  ·
    refine go (fun t kt => XS.ifYes X0.here hx rfl (pc0 := 19) (pc' := 56) rfl (hb hby at_19) rfl ((if0 _ _).trans (teq hc1).1) (by decide) (by decide) kt) ?_
    show Goes p.tables e below _ (s₁.setTop (mkF m 56 #[.val (.long q0), .second, .val (.long q1), .second, .val (.long q2), .second, .val (.int p3), .val (.long (q1 &&& (4611686018427387903 : Int64))), .second, .val (.long (q2 &&& (4611686018427387903 : Int64))), .second, .unset, .unset, .unset] []))
    obtain ⟨T2, h2, X2, e2, E2, A2, D2, -, st2⟩ := newO X0 hx hZ hown (hw _ (List.mem_of_getElem? (i := 1) rfl)) (hw _ (List.mem_of_getElem? (i := 2) rfl)) (hw _ (List.mem_of_getElem? (i := 3) rfl)) e0 (g := (mkF m 56 #[.val (.long q0), .second, .val (.long q1), .second, .val (.long q2), .second, .val (.int p3), .val (.long (q1 &&& (4611686018427387903 : Int64))), .second, .val (.long (q2 &&& (4611686018427387903 : Int64))), .second, .unset, .unset, .unset] [])) rfl (hb hby at_56) (by decide) (by decide)
    obtain ⟨b2, g2⟩ : ∃ z, z = h0.size := ⟨_, rfl⟩
    rw [← g2] at A2 D2 st2
    have g_b2 : n0 ≤ b2 := Nat.le_trans Z0 (Nat.le_of_eq g2.symm)
    have sz_b2 : h0.size ≤ b2 := Nat.le_trans K0.1 (Nat.le_of_eq g2.symm)
    have Zz2 := Nat.le_trans Z0 E2.1
    have Kk2 := K0.ext E2
    have E_b2 := A2
    have F_limit_b2 : Fld Z h2 b2 "com/example/sumbit/sumbit/protocol/TransitMemory" "limit" "J" (.long (0 : Int64)) := D2 (Or.inr (hw _ (List.mem_of_getElem? (i := 11) rfl))) (ty := .long) (by decide)
    have F_held_b2 : Fld Z h2 b2 "com/example/sumbit/sumbit/protocol/TransitMemory" "held" "J" (.long (0 : Int64)) := D2 (Or.inl (hw _ (List.mem_of_getElem? (i := 18) rfl))) (ty := .long) (by decide)
    refine go st2 ?_
    show Goes p.tables e below _ (T2.setTop (mkF m 59 #[.val (.long q0), .second, .val (.long q1), .second, .val (.long q2), .second, .val (.int p3), .val (.long (q1 &&& (4611686018427387903 : Int64))), .second, .val (.long (q2 &&& (4611686018427387903 : Int64))), .second, .unset, .unset, .unset] [(.ref b2)]))
    refine go (fun t kt => XS.dup X2.here hx rfl (hb hby at_59) rfl rfl kt) ?_
    show Goes p.tables e below _ (T2.setTop (mkF m 60 #[.val (.long q0), .second, .val (.long q1), .second, .val (.long q2), .second, .val (.int p3), .val (.long (q1 &&& (4611686018427387903 : Int64))), .second, .val (.long (q2 &&& (4611686018427387903 : Int64))), .second, .unset, .unset, .unset] [(.ref b2), (.ref b2)]))
    refine go (fun t kt => XS.lloadN X2.here hx rfl (hb hby at_60) rfl kt) ?_
    show Goes p.tables e below _ (T2.setTop (mkF m 61 #[.val (.long q0), .second, .val (.long q1), .second, .val (.long q2), .second, .val (.int p3), .val (.long (q1 &&& (4611686018427387903 : Int64))), .second, .val (.long (q2 &&& (4611686018427387903 : Int64))), .second, .unset, .unset, .unset] [(.long q0), (.ref b2), (.ref b2)]))
    obtain ⟨_, _, ⟨T3, L3, k3, n3⟩, -, X3, ⟨Lc3, hQ3, l3, y3, z3⟩, st3⟩ := X2.specialBack hx (y := (⟨"com/example/sumbit/sumbit/protocol/TransitMemory", "<init>", "(J)V"⟩ : MethodName)) rfl hown (mvT hZ (hw _ (List.mem_of_getElem? (i := 4) rfl))) (mvT hZ (hw _ (List.mem_of_getElem? (i := 5) rfl))) (mvT hZ (hw _ (List.mem_of_getElem? (i := 6) rfl))) (by decide) (backOf (W := 1) (rm1 l Z a0 hw [] b2 q0 (.long (0 : Int64)) (.long (0 : Int64)) h2 n0 Zz2 E_b2 F_limit_b2 F_held_b2 g_b2) hZ (hw _ (List.mem_of_getElem? (i := 6) rfl)) (hw _ (List.mem_of_getElem? (i := 3) rfl)) (by decide) (by decide)) (g := (mkF m 61 #[.val (.long q0), .second, .val (.long q1), .second, .val (.long q2), .second, .val (.int p3), .val (.long (q1 &&& (4611686018427387903 : Int64))), .second, .val (.long (q2 &&& (4611686018427387903 : Int64))), .second, .unset, .unset, .unset] [(.long q0), (.ref b2), (.ref b2)])) rfl (by rw [hml]; rfl) (Steps.refl _) (a := b2) (argsL := [(.long q0)]) (rest := [(.ref b2)]) (lenOf pd_0 rfl) rfl (by show 2 * 0 + _ ≤ _; exact Nat.le_of_eq rfl) (hb hby at_61) (fun _ _ => ⟨rfl, e2, (by decide : 1 + 0 ≤ _), (by decide : 2 + 0 ≤ _)⟩)
    dsimp only [Pt.U, Pt.locs, Pt.cells, Pt.slots] at X3 l3 y3 z3 st3 hQ3
    subst l3 y3 z3
    obtain ⟨rfl, Nq3, Kq3, Eq3_o0, Fq3_limit_o0, Fq3_held_o0⟩ := hQ3
    replace E_b2 := E_b2.keep Kq3
    clear F_limit_b2
    clear F_held_b2
    have Zz3 := Nat.le_trans Zz2 Kq3.1
    have Kk3 := Kk2.trans Kq3 (allS (Or.inr sz_b2) all0)
    have E_b2 := Eq3_o0
    have F_limit_b2 := Fq3_limit_o0
    have F_held_b2 := Fq3_held_o0
    have N3 := Fr.app N0 Nq3
    refine go (fun t kt => st3.trans kt) ?_
    show Goes p.tables e below _ (T3.setTop (mkF m 64 #[.val (.long q0), .second, .val (.long q1), .second, .val (.long q2), .second, .val (.int p3), .val (.long (q1 &&& (4611686018427387903 : Int64))), .second, .val (.long (q2 &&& (4611686018427387903 : Int64))), .second, .unset, .unset, .unset] [(.ref b2)]))
    refine go (fun t kt => XS.astore X3.here hx rfl (hb hby at_64) rfl rfl (l' := #[.val (.long q0), .second, .val (.long q1), .second, .val (.long q2), .second, .val (.int p3), .val (.long (q1 &&& (4611686018427387903 : Int64))), .second, .val (.long (q2 &&& (4611686018427387903 : Int64))), .second, .val (.ref b2), .unset, .unset]) rfl kt) ?_
    show Goes p.tables e below _ (T3.setTop (mkF m 66 #[.val (.long q0), .second, .val (.long q1), .second, .val (.long q2), .second, .val (.int p3), .val (.long (q1 &&& (4611686018427387903 : Int64))), .second, .val (.long (q2 &&& (4611686018427387903 : Int64))), .second, .val (.ref b2), .unset, .unset] []))
    refine go (fun t kt => XS.aload X3.here hx rfl (hb hby at_66) rfl rfl kt) ?_
    show Goes p.tables e below _ (T3.setTop (mkF m 68 #[.val (.long q0), .second, .val (.long q1), .second, .val (.long q2), .second, .val (.int p3), .val (.long (q1 &&& (4611686018427387903 : Int64))), .second, .val (.long (q2 &&& (4611686018427387903 : Int64))), .second, .val (.ref b2), .unset, .unset] [(.ref b2)]))
    refine go (fun t kt => XS.lload X3.here hx rfl (hb hby at_68) rfl kt) ?_
    show Goes p.tables e below _ (T3.setTop (mkF m 70 #[.val (.long q0), .second, .val (.long q1), .second, .val (.long q2), .second, .val (.int p3), .val (.long (q1 &&& (4611686018427387903 : Int64))), .second, .val (.long (q2 &&& (4611686018427387903 : Int64))), .second, .val (.ref b2), .unset, .unset] [(.long (q1 &&& (4611686018427387903 : Int64))), (.ref b2)]))
    obtain ⟨cq4, kq4, q4a, q4b, q4c⟩ := isOf hZ rfl E_b2
    obtain ⟨_, _, ⟨T4, L4, k4, n4⟩, -, X4, ⟨Lc4, hQ4, l4, y4, z4⟩, st4⟩ := X3.virtualBack hx (y := (⟨"com/example/sumbit/sumbit/protocol/TransitMemory", "take", "(J)V"⟩ : MethodName)) (z := (⟨"com/example/sumbit/sumbit/protocol/TransitMemory", "take", "(J)V"⟩ : MethodName)) hown (mvT hZ (hw _ (List.mem_of_getElem? (i := 12) rfl))) (mvT hZ (hw _ (List.mem_of_getElem? (i := 13) rfl))) (notFace_of_selects (args := #[]) (mvT hZ (hw _ (List.mem_of_getElem? (i := 15) rfl)))) (mvT hZ (hw _ (List.mem_of_getElem? (i := 15) rfl))) (mvT hZ (hw _ (List.mem_of_getElem? (i := 14) rfl))) (by decide) (backOf (W := 0) (rm3 l Z a0 hw [] b2 (q1 &&& (4611686018427387903 : Int64)) q0 (0 : Int64) T3.heap n0 Zz3 E_b2 F_limit_b2 F_held_b2 g_b2) hZ (hw _ (List.mem_of_getElem? (i := 16) rfl)) (hw _ (List.mem_of_getElem? (i := 3) rfl)) (by decide) (by decide)) q4a q4c (g := (mkF m 70 #[.val (.long q0), .second, .val (.long q1), .second, .val (.long q2), .second, .val (.int p3), .val (.long (q1 &&& (4611686018427387903 : Int64))), .second, .val (.long (q2 &&& (4611686018427387903 : Int64))), .second, .val (.ref b2), .unset, .unset] [(.long (q1 &&& (4611686018427387903 : Int64))), (.ref b2)])) rfl (by rw [hml]; rfl) (Steps.refl _) (argsL := [(.long (q1 &&& (4611686018427387903 : Int64)))]) (rest := []) (lenOf pd_0 rfl) rfl (by show 2 * 0 + _ ≤ _; exact Nat.le_of_eq rfl) (hb hby at_70) (fun _ _ => ⟨rfl, rfl, (by decide : 1 + 0 ≤ _), (by decide : 2 + 0 ≤ _)⟩)
    dsimp only [Pt.U, Pt.locs, Pt.cells, Pt.slots] at X4 l4 y4 z4 st4 hQ4
    subst l4 y4 z4
    obtain ⟨rfl, Nq4, Kq4, Eq4_o0, Fq4_limit_o0, Fq4_held_o0⟩ := hQ4
    replace E_b2 := E_b2.keep Kq4
    clear F_limit_b2
    clear F_held_b2
    have Zz4 := Nat.le_trans Zz3 Kq4.1
    have Kk4 := Kk3.trans Kq4 (allS (Or.inr sz_b2) all0)
    have E_b2 := Eq4_o0
    have F_limit_b2 := Fq4_limit_o0
    have F_held_b2 := Fq4_held_o0
    have N4 := Fr.app N3 Nq4
    refine go (fun t kt => st4.trans kt) ?_
    show Goes p.tables e below _ (T4.setTop (mkF m 73 #[.val (.long q0), .second, .val (.long q1), .second, .val (.long q2), .second, .val (.int p3), .val (.long (q1 &&& (4611686018427387903 : Int64))), .second, .val (.long (q2 &&& (4611686018427387903 : Int64))), .second, .val (.ref b2), .unset, .unset] []))
    refine go (fun t kt => XS.aload X4.here hx rfl (hb hby at_73) rfl rfl kt) ?_
    show Goes p.tables e below _ (T4.setTop (mkF m 75 #[.val (.long q0), .second, .val (.long q1), .second, .val (.long q2), .second, .val (.int p3), .val (.long (q1 &&& (4611686018427387903 : Int64))), .second, .val (.long (q2 &&& (4611686018427387903 : Int64))), .second, .val (.ref b2), .unset, .unset] [(.ref b2)]))
    refine go (fun t kt => XS.lload X4.here hx rfl (hb hby at_75) rfl kt) ?_
    show Goes p.tables e below _ (T4.setTop (mkF m 77 #[.val (.long q0), .second, .val (.long q1), .second, .val (.long q2), .second, .val (.int p3), .val (.long (q1 &&& (4611686018427387903 : Int64))), .second, .val (.long (q2 &&& (4611686018427387903 : Int64))), .second, .val (.ref b2), .unset, .unset] [(.long (q2 &&& (4611686018427387903 : Int64))), (.ref b2)]))
    obtain ⟨cq5, kq5, q5a, q5b, q5c⟩ := isOf hZ rfl E_b2
    obtain ⟨_, _, ⟨T5, L5, k5, n5⟩, -, X5, ⟨Lc5, hQ5, l5, y5, z5⟩, st5⟩ := X4.virtualBack hx (y := (⟨"com/example/sumbit/sumbit/protocol/TransitMemory", "allows", "(J)Z"⟩ : MethodName)) (z := (⟨"com/example/sumbit/sumbit/protocol/TransitMemory", "allows", "(J)Z"⟩ : MethodName)) hown (mvT hZ (hw _ (List.mem_of_getElem? (i := 19) rfl))) (mvT hZ (hw _ (List.mem_of_getElem? (i := 20) rfl))) (notFace_of_selects (args := #[]) (mvT hZ (hw _ (List.mem_of_getElem? (i := 22) rfl)))) (mvT hZ (hw _ (List.mem_of_getElem? (i := 22) rfl))) (mvT hZ (hw _ (List.mem_of_getElem? (i := 21) rfl))) (by decide) (backOf (W := 0) (rm4 l Z a0 hw [] b2 (q2 &&& (4611686018427387903 : Int64)) ((0 : Int64) + (q1 &&& (4611686018427387903 : Int64))) q0 T4.heap n0 Zz4 F_held_b2 F_limit_b2) hZ (hw _ (List.mem_of_getElem? (i := 23) rfl)) (hw _ (List.mem_of_getElem? (i := 3) rfl)) (by decide) (by decide)) q5a q5c (g := (mkF m 77 #[.val (.long q0), .second, .val (.long q1), .second, .val (.long q2), .second, .val (.int p3), .val (.long (q1 &&& (4611686018427387903 : Int64))), .second, .val (.long (q2 &&& (4611686018427387903 : Int64))), .second, .val (.ref b2), .unset, .unset] [(.long (q2 &&& (4611686018427387903 : Int64))), (.ref b2)])) rfl (by rw [hml]; rfl) (Steps.refl _) (argsL := [(.long (q2 &&& (4611686018427387903 : Int64)))]) (rest := []) (lenOf pd_1 rfl) rfl (by show 2 * 0 + _ ≤ _; exact Nat.le_of_eq rfl) (hb hby at_77) (fun _ _ => ⟨rfl, rfl, (by decide : 1 + 0 ≤ _), (by decide : 2 + 0 ≤ _)⟩)
    dsimp only [Pt.U, Pt.locs, Pt.cells, Pt.slots] at X5 l5 y5 z5 st5 hQ5
    subst l5 y5 z5
    obtain ⟨rfl, Nq5, e5⟩ := hQ5
    have N5 := Fr.app N4 Nq5
    refine go (fun t kt => st5.trans kt) ?_
    show Goes p.tables e below _ (T5.setTop (mkF m 80 #[.val (.long q0), .second, .val (.long q1), .second, .val (.long q2), .second, .val (.int p3), .val (.long (q1 &&& (4611686018427387903 : Int64))), .second, .val (.long (q2 &&& (4611686018427387903 : Int64))), .second, .val (.ref b2), .unset, .unset] [(.int (own_allows (q2 &&& (4611686018427387903 : Int64)) ((0 : Int64) + (q1 &&& (4611686018427387903 : Int64))) q0))]))
    refine go (fun t kt => XS.istore X5.here hx rfl (hb hby at_80) rfl (l' := #[.val (.long q0), .second, .val (.long q1), .second, .val (.long q2), .second, .val (.int p3), .val (.long (q1 &&& (4611686018427387903 : Int64))), .second, .val (.long (q2 &&& (4611686018427387903 : Int64))), .second, .val (.ref b2), .val (.int (own_allows (q2 &&& (4611686018427387903 : Int64)) ((0 : Int64) + (q1 &&& (4611686018427387903 : Int64))) q0)), .unset]) rfl kt) ?_
    show Goes p.tables e below _ (T5.setTop (mkF m 82 #[.val (.long q0), .second, .val (.long q1), .second, .val (.long q2), .second, .val (.int p3), .val (.long (q1 &&& (4611686018427387903 : Int64))), .second, .val (.long (q2 &&& (4611686018427387903 : Int64))), .second, .val (.ref b2), .val (.int (own_allows (q2 &&& (4611686018427387903 : Int64)) ((0 : Int64) + (q1 &&& (4611686018427387903 : Int64))) q0)), .unset] []))
    refine go (fun t kt => XS.lloadN X5.here hx rfl (hb hby at_82) rfl kt) ?_
    show Goes p.tables e below _ (T5.setTop (mkF m 83 #[.val (.long q0), .second, .val (.long q1), .second, .val (.long q2), .second, .val (.int p3), .val (.long (q1 &&& (4611686018427387903 : Int64))), .second, .val (.long (q2 &&& (4611686018427387903 : Int64))), .second, .val (.ref b2), .val (.int (own_allows (q2 &&& (4611686018427387903 : Int64)) ((0 : Int64) + (q1 &&& (4611686018427387903 : Int64))) q0)), .unset] [(.long q0)]))
    refine go (fun t kt => XS.lconst X5.here hx rfl (hb hby at_83) kt) ?_
    show Goes p.tables e below _ (T5.setTop (mkF m 84 #[.val (.long q0), .second, .val (.long q1), .second, .val (.long q2), .second, .val (.int p3), .val (.long (q1 &&& (4611686018427387903 : Int64))), .second, .val (.long (q2 &&& (4611686018427387903 : Int64))), .second, .val (.ref b2), .val (.int (own_allows (q2 &&& (4611686018427387903 : Int64)) ((0 : Int64) + (q1 &&& (4611686018427387903 : Int64))) q0)), .unset] [(.long (0 : Int64)), (.long q0)]))
    refine go (fun t kt => XS.lcmp X5.here hx rfl (hb hby at_84) rfl kt) ?_
    show Goes p.tables e below _ (T5.setTop (mkF m 85 #[.val (.long q0), .second, .val (.long q1), .second, .val (.long q2), .second, .val (.int p3), .val (.long (q1 &&& (4611686018427387903 : Int64))), .second, .val (.long (q2 &&& (4611686018427387903 : Int64))), .second, .val (.ref b2), .val (.int (own_allows (q2 &&& (4611686018427387903 : Int64)) ((0 : Int64) + (q1 &&& (4611686018427387903 : Int64))) q0)), .unset] [(.int (lcmpW q0 (0 : Int64)))]))
    by_cases hc6 : q0 < (0 : Int64)
    ·
      refine go (fun t kt => XS.ifNo X5.here hx rfl (hb hby at_85) rfl ((if0 _ _).trans (tlt ((lw_lt q0 (0 : Int64)).mpr hc6)).2.1) kt) ?_
      show Goes p.tables e below _ (T5.setTop (mkF m 88 #[.val (.long q0), .second, .val (.long q1), .second, .val (.long q2), .second, .val (.int p3), .val (.long (q1 &&& (4611686018427387903 : Int64))), .second, .val (.long (q2 &&& (4611686018427387903 : Int64))), .second, .val (.ref b2), .val (.int (own_allows (q2 &&& (4611686018427387903 : Int64)) ((0 : Int64) + (q1 &&& (4611686018427387903 : Int64))) q0)), .unset] []))
      refine go (fun t kt => XS.iconst X5.here hx rfl (hb hby at_88) kt) ?_
      show Goes p.tables e below _ (T5.setTop (mkF m 89 #[.val (.long q0), .second, .val (.long q1), .second, .val (.long q2), .second, .val (.int p3), .val (.long (q1 &&& (4611686018427387903 : Int64))), .second, .val (.long (q2 &&& (4611686018427387903 : Int64))), .second, .val (.ref b2), .val (.int (own_allows (q2 &&& (4611686018427387903 : Int64)) ((0 : Int64) + (q1 &&& (4611686018427387903 : Int64))) q0)), .unset] [(.int (0 : Int32))]))
      refine go (fun t kt => XS.istore X5.here hx rfl (hb hby at_89) rfl (l' := #[.val (.long q0), .second, .val (.long q1), .second, .val (.long q2), .second, .val (.int p3), .val (.long (q1 &&& (4611686018427387903 : Int64))), .second, .val (.long (q2 &&& (4611686018427387903 : Int64))), .second, .val (.ref b2), .val (.int (own_allows (q2 &&& (4611686018427387903 : Int64)) ((0 : Int64) + (q1 &&& (4611686018427387903 : Int64))) q0)), .val (.int (0 : Int32))]) rfl kt) ?_
      show Goes p.tables e below _ (T5.setTop (mkF m 91 #[.val (.long q0), .second, .val (.long q1), .second, .val (.long q2), .second, .val (.int p3), .val (.long (q1 &&& (4611686018427387903 : Int64))), .second, .val (.long (q2 &&& (4611686018427387903 : Int64))), .second, .val (.ref b2), .val (.int (own_allows (q2 &&& (4611686018427387903 : Int64)) ((0 : Int64) + (q1 &&& (4611686018427387903 : Int64))) q0)), .val (.int (0 : Int32))] []))
      refine go (fun t kt => XS.goto X5.here hx rfl (pc0 := 91) (pc' := 111) rfl (hb hby at_91) (by decide) (by decide) kt) ?_
      show Goes p.tables e below _ (T5.setTop (mkF m 111 #[.val (.long q0), .second, .val (.long q1), .second, .val (.long q2), .second, .val (.int p3), .val (.long (q1 &&& (4611686018427387903 : Int64))), .second, .val (.long (q2 &&& (4611686018427387903 : Int64))), .second, .val (.ref b2), .val (.int (own_allows (q2 &&& (4611686018427387903 : Int64)) ((0 : Int64) + (q1 &&& (4611686018427387903 : Int64))) q0)), .val (.int (0 : Int32))] []))
      refine go (fun t kt => XS.iload X5.here hx rfl (hb hby at_111) rfl kt) ?_
      show Goes p.tables e below _ (T5.setTop (mkF m 113 #[.val (.long q0), .second, .val (.long q1), .second, .val (.long q2), .second, .val (.int p3), .val (.long (q1 &&& (4611686018427387903 : Int64))), .second, .val (.long (q2 &&& (4611686018427387903 : Int64))), .second, .val (.ref b2), .val (.int (own_allows (q2 &&& (4611686018427387903 : Int64)) ((0 : Int64) + (q1 &&& (4611686018427387903 : Int64))) q0)), .val (.int (0 : Int32))] [(.int (own_allows (q2 &&& (4611686018427387903 : Int64)) ((0 : Int64) + (q1 &&& (4611686018427387903 : Int64))) q0))]))
      refine go (fun t kt => XS.iload X5.here hx rfl (hb hby at_113) rfl kt) ?_
      show Goes p.tables e below _ (T5.setTop (mkF m 115 #[.val (.long q0), .second, .val (.long q1), .second, .val (.long q2), .second, .val (.int p3), .val (.long (q1 &&& (4611686018427387903 : Int64))), .second, .val (.long (q2 &&& (4611686018427387903 : Int64))), .second, .val (.ref b2), .val (.int (own_allows (q2 &&& (4611686018427387903 : Int64)) ((0 : Int64) + (q1 &&& (4611686018427387903 : Int64))) q0)), .val (.int (0 : Int32))] [(.int (0 : Int32)), (.int (own_allows (q2 &&& (4611686018427387903 : Int64)) ((0 : Int64) + (q1 &&& (4611686018427387903 : Int64))) q0))]))
      refine go (fun t kt => XS.icmpNo X5.here hx rfl (hb hby at_115) rfl (teq (own_neg _ _ _ (own_m q1) (own_m q2) hc6)).2 kt) ?_
      show Goes p.tables e below _ (T5.setTop (mkF m 118 #[.val (.long q0), .second, .val (.long q1), .second, .val (.long q2), .second, .val (.int p3), .val (.long (q1 &&& (4611686018427387903 : Int64))), .second, .val (.long (q2 &&& (4611686018427387903 : Int64))), .second, .val (.ref b2), .val (.int (own_allows (q2 &&& (4611686018427387903 : Int64)) ((0 : Int64) + (q1 &&& (4611686018427387903 : Int64))) q0)), .val (.int (0 : Int32))] []))
      refine go (fun t kt => XS.aload X5.here hx rfl (hb hby at_118) rfl rfl kt) ?_
      show Goes p.tables e below _ (T5.setTop (mkF m 120 #[.val (.long q0), .second, .val (.long q1), .second, .val (.long q2), .second, .val (.int p3), .val (.long (q1 &&& (4611686018427387903 : Int64))), .second, .val (.long (q2 &&& (4611686018427387903 : Int64))), .second, .val (.ref b2), .val (.int (own_allows (q2 &&& (4611686018427387903 : Int64)) ((0 : Int64) + (q1 &&& (4611686018427387903 : Int64))) q0)), .val (.int (0 : Int32))] [(.ref b2)]))
      obtain ⟨cq7, kq7, q7a, q7b, q7c⟩ := isOf hZ e5 E_b2
      obtain ⟨_, _, ⟨T7, L7, k7, n7⟩, -, X7, ⟨Lc7, hQ7, l7, y7, z7⟩, st7⟩ := X5.virtualBack hx (y := (⟨"com/example/sumbit/sumbit/protocol/TransitMemory", "held", "()J"⟩ : MethodName)) (z := (⟨"com/example/sumbit/sumbit/protocol/TransitMemory", "held", "()J"⟩ : MethodName)) hown (mvT hZ (hw _ (List.mem_of_getElem? (i := 24) rfl))) (mvT hZ (hw _ (List.mem_of_getElem? (i := 25) rfl))) (notFace_of_selects (args := #[]) (mvT hZ (hw _ (List.mem_of_getElem? (i := 27) rfl)))) (mvT hZ (hw _ (List.mem_of_getElem? (i := 27) rfl))) (mvT hZ (hw _ (List.mem_of_getElem? (i := 26) rfl))) (by decide) (backOf (W := 0) (rm5 l Z a0 hw [] b2 ((0 : Int64) + (q1 &&& (4611686018427387903 : Int64))) T4.heap n0 Zz4 F_held_b2) hZ (hw _ (List.mem_of_getElem? (i := 28) rfl)) (hw _ (List.mem_of_getElem? (i := 3) rfl)) (by decide) (by decide)) q7a q7c (g := (mkF m 120 #[.val (.long q0), .second, .val (.long q1), .second, .val (.long q2), .second, .val (.int p3), .val (.long (q1 &&& (4611686018427387903 : Int64))), .second, .val (.long (q2 &&& (4611686018427387903 : Int64))), .second, .val (.ref b2), .val (.int (own_allows (q2 &&& (4611686018427387903 : Int64)) ((0 : Int64) + (q1 &&& (4611686018427387903 : Int64))) q0)), .val (.int (0 : Int32))] [(.ref b2)])) rfl (by rw [hml]; rfl) (Steps.refl _) (argsL := []) (rest := []) (lenOf pd_2 rfl) rfl (by show 2 * 0 + _ ≤ _; exact Nat.le_of_eq rfl) (hb hby at_120) (fun _ _ => ⟨rfl, e5, (by decide : 1 + 0 ≤ _), (by decide : 2 + 0 ≤ _)⟩)
      dsimp only [Pt.U, Pt.locs, Pt.cells, Pt.slots] at X7 l7 y7 z7 st7 hQ7
      subst l7 y7 z7
      obtain ⟨rfl, Nq7, e7⟩ := hQ7
      have N7 := Fr.app N5 Nq7
      refine go (fun t kt => st7.trans kt) ?_
      show Goes p.tables e below _ (T7.setTop (mkF m 123 #[.val (.long q0), .second, .val (.long q1), .second, .val (.long q2), .second, .val (.int p3), .val (.long (q1 &&& (4611686018427387903 : Int64))), .second, .val (.long (q2 &&& (4611686018427387903 : Int64))), .second, .val (.ref b2), .val (.int (own_allows (q2 &&& (4611686018427387903 : Int64)) ((0 : Int64) + (q1 &&& (4611686018427387903 : Int64))) q0)), .val (.int (0 : Int32))] [(.long (own_held ((0 : Int64) + (q1 &&& (4611686018427387903 : Int64)))))]))
      refine go (fun t kt => XS.lload X7.here hx rfl (hb hby at_123) rfl kt) ?_
      show Goes p.tables e below _ (T7.setTop (mkF m 125 #[.val (.long q0), .second, .val (.long q1), .second, .val (.long q2), .second, .val (.int p3), .val (.long (q1 &&& (4611686018427387903 : Int64))), .second, .val (.long (q2 &&& (4611686018427387903 : Int64))), .second, .val (.ref b2), .val (.int (own_allows (q2 &&& (4611686018427387903 : Int64)) ((0 : Int64) + (q1 &&& (4611686018427387903 : Int64))) q0)), .val (.int (0 : Int32))] [(.long (q1 &&& (4611686018427387903 : Int64))), (.long (own_held ((0 : Int64) + (q1 &&& (4611686018427387903 : Int64)))))]))
      refine go (fun t kt => XS.lcmp X7.here hx rfl (hb hby at_125) rfl kt) ?_
      show Goes p.tables e below _ (T7.setTop (mkF m 126 #[.val (.long q0), .second, .val (.long q1), .second, .val (.long q2), .second, .val (.int p3), .val (.long (q1 &&& (4611686018427387903 : Int64))), .second, .val (.long (q2 &&& (4611686018427387903 : Int64))), .second, .val (.ref b2), .val (.int (own_allows (q2 &&& (4611686018427387903 : Int64)) ((0 : Int64) + (q1 &&& (4611686018427387903 : Int64))) q0)), .val (.int (0 : Int32))] [(.int (lcmpW (own_held ((0 : Int64) + (q1 &&& (4611686018427387903 : Int64)))) (q1 &&& (4611686018427387903 : Int64))))]))
      refine go (fun t kt => XS.ifNo X7.here hx rfl (hb hby at_126) rfl ((if0 _ _).trans (teq ((lw_eq (own_held ((0 : Int64) + (q1 &&& (4611686018427387903 : Int64)))) (q1 &&& (4611686018427387903 : Int64))).mpr (own_z _))).2) kt) ?_
      show Goes p.tables e below _ (T7.setTop (mkF m 129 #[.val (.long q0), .second, .val (.long q1), .second, .val (.long q2), .second, .val (.int p3), .val (.long (q1 &&& (4611686018427387903 : Int64))), .second, .val (.long (q2 &&& (4611686018427387903 : Int64))), .second, .val (.ref b2), .val (.int (own_allows (q2 &&& (4611686018427387903 : Int64)) ((0 : Int64) + (q1 &&& (4611686018427387903 : Int64))) q0)), .val (.int (0 : Int32))] []))
      refine go (fun t kt => XS.iconst X7.here hx rfl (hb hby at_129) kt) ?_
      show Goes p.tables e below _ (T7.setTop (mkF m 130 #[.val (.long q0), .second, .val (.long q1), .second, .val (.long q2), .second, .val (.int p3), .val (.long (q1 &&& (4611686018427387903 : Int64))), .second, .val (.long (q2 &&& (4611686018427387903 : Int64))), .second, .val (.ref b2), .val (.int (own_allows (q2 &&& (4611686018427387903 : Int64)) ((0 : Int64) + (q1 &&& (4611686018427387903 : Int64))) q0)), .val (.int (0 : Int32))] [(.int (1 : Int32))]))
      refine go (fun t kt => XS.goto X7.here hx rfl (pc0 := 130) (pc' := 134) rfl (hb hby at_130) (by decide) (by decide) kt) ?_
      show Goes p.tables e below _ (T7.setTop (mkF m 134 #[.val (.long q0), .second, .val (.long q1), .second, .val (.long q2), .second, .val (.int p3), .val (.long (q1 &&& (4611686018427387903 : Int64))), .second, .val (.long (q2 &&& (4611686018427387903 : Int64))), .second, .val (.ref b2), .val (.int (own_allows (q2 &&& (4611686018427387903 : Int64)) ((0 : Int64) + (q1 &&& (4611686018427387903 : Int64))) q0)), .val (.int (0 : Int32))] [(.int (1 : Int32))]))
      obtain ⟨fs, hr, hrun, hended, hW, hsame⟩ := X7.leave (v := some (.int (1 : Int32))) (fun h => by rw [Bd.returns] at h; cases h)
      refine ⟨_, _, retN X7 hx (t := .boolean) Bd.returns (by simp) (hb hby at_134) hr, hrun, hended, _, _, rfl, ?_, ⟨_, rfl⟩, hW, hsame.mono (by decide) (by decide)⟩
      show Q0 Z q0 q1 q2 p3 h0 n0 _ T7.heap _
      rw [e7]
      exact ⟨rfl, N7⟩
    ·
      refine go (fun t kt => XS.ifYes X5.here hx rfl (pc0 := 85) (pc' := 94) rfl (hb hby at_85) rfl ((if0 _ _).trans (flt (fun q => hc6 ((lw_lt q0 (0 : Int64)).mp q))).2.1) (by decide) (by decide) kt) ?_
      show Goes p.tables e below _ (T5.setTop (mkF m 94 #[.val (.long q0), .second, .val (.long q1), .second, .val (.long q2), .second, .val (.int p3), .val (.long (q1 &&& (4611686018427387903 : Int64))), .second, .val (.long (q2 &&& (4611686018427387903 : Int64))), .second, .val (.ref b2), .val (.int (own_allows (q2 &&& (4611686018427387903 : Int64)) ((0 : Int64) + (q1 &&& (4611686018427387903 : Int64))) q0)), .unset] []))
      refine go (fun t kt => XS.lload X5.here hx rfl (hb hby at_94) rfl kt) ?_
      show Goes p.tables e below _ (T5.setTop (mkF m 96 #[.val (.long q0), .second, .val (.long q1), .second, .val (.long q2), .second, .val (.int p3), .val (.long (q1 &&& (4611686018427387903 : Int64))), .second, .val (.long (q2 &&& (4611686018427387903 : Int64))), .second, .val (.ref b2), .val (.int (own_allows (q2 &&& (4611686018427387903 : Int64)) ((0 : Int64) + (q1 &&& (4611686018427387903 : Int64))) q0)), .unset] [(.long (q2 &&& (4611686018427387903 : Int64)))]))
      refine go (fun t kt => XS.lloadN X5.here hx rfl (hb hby at_96) rfl kt) ?_
      show Goes p.tables e below _ (T5.setTop (mkF m 97 #[.val (.long q0), .second, .val (.long q1), .second, .val (.long q2), .second, .val (.int p3), .val (.long (q1 &&& (4611686018427387903 : Int64))), .second, .val (.long (q2 &&& (4611686018427387903 : Int64))), .second, .val (.ref b2), .val (.int (own_allows (q2 &&& (4611686018427387903 : Int64)) ((0 : Int64) + (q1 &&& (4611686018427387903 : Int64))) q0)), .unset] [(.long q0), (.long (q2 &&& (4611686018427387903 : Int64)))]))
      refine go (fun t kt => XS.lload X5.here hx rfl (hb hby at_97) rfl kt) ?_
      show Goes p.tables e below _ (T5.setTop (mkF m 99 #[.val (.long q0), .second, .val (.long q1), .second, .val (.long q2), .second, .val (.int p3), .val (.long (q1 &&& (4611686018427387903 : Int64))), .second, .val (.long (q2 &&& (4611686018427387903 : Int64))), .second, .val (.ref b2), .val (.int (own_allows (q2 &&& (4611686018427387903 : Int64)) ((0 : Int64) + (q1 &&& (4611686018427387903 : Int64))) q0)), .unset] [(.long (q1 &&& (4611686018427387903 : Int64))), (.long q0), (.long (q2 &&& (4611686018427387903 : Int64)))]))
      refine go (fun t kt => XS.lsub X5.here hx rfl (hb hby at_99) rfl kt) ?_
      show Goes p.tables e below _ (T5.setTop (mkF m 100 #[.val (.long q0), .second, .val (.long q1), .second, .val (.long q2), .second, .val (.int p3), .val (.long (q1 &&& (4611686018427387903 : Int64))), .second, .val (.long (q2 &&& (4611686018427387903 : Int64))), .second, .val (.ref b2), .val (.int (own_allows (q2 &&& (4611686018427387903 : Int64)) ((0 : Int64) + (q1 &&& (4611686018427387903 : Int64))) q0)), .unset] [(.long (q0 - (q1 &&& (4611686018427387903 : Int64)))), (.long (q2 &&& (4611686018427387903 : Int64)))]))
      refine go (fun t kt => XS.lcmp X5.here hx rfl (hb hby at_100) rfl kt) ?_
      show Goes p.tables e below _ (T5.setTop (mkF m 101 #[.val (.long q0), .second, .val (.long q1), .second, .val (.long q2), .second, .val (.int p3), .val (.long (q1 &&& (4611686018427387903 : Int64))), .second, .val (.long (q2 &&& (4611686018427387903 : Int64))), .second, .val (.ref b2), .val (.int (own_allows (q2 &&& (4611686018427387903 : Int64)) ((0 : Int64) + (q1 &&& (4611686018427387903 : Int64))) q0)), .unset] [(.int (lcmpW (q2 &&& (4611686018427387903 : Int64)) (q0 - (q1 &&& (4611686018427387903 : Int64)))))]))
      by_cases hc9 : (q0 - (q1 &&& (4611686018427387903 : Int64))) < (q2 &&& (4611686018427387903 : Int64))
      ·
        refine go (fun t kt => XS.ifYes X5.here hx rfl (pc0 := 101) (pc' := 108) rfl (hb hby at_101) rfl ((if0 _ _).trans (tlt ((lw_gt (q2 &&& (4611686018427387903 : Int64)) (q0 - (q1 &&& (4611686018427387903 : Int64)))).mpr hc9)).2.2.1) (by decide) (by decide) kt) ?_
        show Goes p.tables e below _ (T5.setTop (mkF m 108 #[.val (.long q0), .second, .val (.long q1), .second, .val (.long q2), .second, .val (.int p3), .val (.long (q1 &&& (4611686018427387903 : Int64))), .second, .val (.long (q2 &&& (4611686018427387903 : Int64))), .second, .val (.ref b2), .val (.int (own_allows (q2 &&& (4611686018427387903 : Int64)) ((0 : Int64) + (q1 &&& (4611686018427387903 : Int64))) q0)), .unset] []))
        refine go (fun t kt => XS.iconst X5.here hx rfl (hb hby at_108) kt) ?_
        show Goes p.tables e below _ (T5.setTop (mkF m 109 #[.val (.long q0), .second, .val (.long q1), .second, .val (.long q2), .second, .val (.int p3), .val (.long (q1 &&& (4611686018427387903 : Int64))), .second, .val (.long (q2 &&& (4611686018427387903 : Int64))), .second, .val (.ref b2), .val (.int (own_allows (q2 &&& (4611686018427387903 : Int64)) ((0 : Int64) + (q1 &&& (4611686018427387903 : Int64))) q0)), .unset] [(.int (0 : Int32))]))
        refine go (fun t kt => XS.istore X5.here hx rfl (hb hby at_109) rfl (l' := #[.val (.long q0), .second, .val (.long q1), .second, .val (.long q2), .second, .val (.int p3), .val (.long (q1 &&& (4611686018427387903 : Int64))), .second, .val (.long (q2 &&& (4611686018427387903 : Int64))), .second, .val (.ref b2), .val (.int (own_allows (q2 &&& (4611686018427387903 : Int64)) ((0 : Int64) + (q1 &&& (4611686018427387903 : Int64))) q0)), .val (.int (0 : Int32))]) rfl kt) ?_
        show Goes p.tables e below _ (T5.setTop (mkF m 111 #[.val (.long q0), .second, .val (.long q1), .second, .val (.long q2), .second, .val (.int p3), .val (.long (q1 &&& (4611686018427387903 : Int64))), .second, .val (.long (q2 &&& (4611686018427387903 : Int64))), .second, .val (.ref b2), .val (.int (own_allows (q2 &&& (4611686018427387903 : Int64)) ((0 : Int64) + (q1 &&& (4611686018427387903 : Int64))) q0)), .val (.int (0 : Int32))] []))
        refine go (fun t kt => XS.iload X5.here hx rfl (hb hby at_111) rfl kt) ?_
        show Goes p.tables e below _ (T5.setTop (mkF m 113 #[.val (.long q0), .second, .val (.long q1), .second, .val (.long q2), .second, .val (.int p3), .val (.long (q1 &&& (4611686018427387903 : Int64))), .second, .val (.long (q2 &&& (4611686018427387903 : Int64))), .second, .val (.ref b2), .val (.int (own_allows (q2 &&& (4611686018427387903 : Int64)) ((0 : Int64) + (q1 &&& (4611686018427387903 : Int64))) q0)), .val (.int (0 : Int32))] [(.int (own_allows (q2 &&& (4611686018427387903 : Int64)) ((0 : Int64) + (q1 &&& (4611686018427387903 : Int64))) q0))]))
        refine go (fun t kt => XS.iload X5.here hx rfl (hb hby at_113) rfl kt) ?_
        show Goes p.tables e below _ (T5.setTop (mkF m 115 #[.val (.long q0), .second, .val (.long q1), .second, .val (.long q2), .second, .val (.int p3), .val (.long (q1 &&& (4611686018427387903 : Int64))), .second, .val (.long (q2 &&& (4611686018427387903 : Int64))), .second, .val (.ref b2), .val (.int (own_allows (q2 &&& (4611686018427387903 : Int64)) ((0 : Int64) + (q1 &&& (4611686018427387903 : Int64))) q0)), .val (.int (0 : Int32))] [(.int (0 : Int32)), (.int (own_allows (q2 &&& (4611686018427387903 : Int64)) ((0 : Int64) + (q1 &&& (4611686018427387903 : Int64))) q0))]))
        refine go (fun t kt => XS.icmpNo X5.here hx rfl (hb hby at_115) rfl (teq (own_out _ _ _ (own_m q1) (own_m q2) hc6 hc9)).2 kt) ?_
        show Goes p.tables e below _ (T5.setTop (mkF m 118 #[.val (.long q0), .second, .val (.long q1), .second, .val (.long q2), .second, .val (.int p3), .val (.long (q1 &&& (4611686018427387903 : Int64))), .second, .val (.long (q2 &&& (4611686018427387903 : Int64))), .second, .val (.ref b2), .val (.int (own_allows (q2 &&& (4611686018427387903 : Int64)) ((0 : Int64) + (q1 &&& (4611686018427387903 : Int64))) q0)), .val (.int (0 : Int32))] []))
        refine go (fun t kt => XS.aload X5.here hx rfl (hb hby at_118) rfl rfl kt) ?_
        show Goes p.tables e below _ (T5.setTop (mkF m 120 #[.val (.long q0), .second, .val (.long q1), .second, .val (.long q2), .second, .val (.int p3), .val (.long (q1 &&& (4611686018427387903 : Int64))), .second, .val (.long (q2 &&& (4611686018427387903 : Int64))), .second, .val (.ref b2), .val (.int (own_allows (q2 &&& (4611686018427387903 : Int64)) ((0 : Int64) + (q1 &&& (4611686018427387903 : Int64))) q0)), .val (.int (0 : Int32))] [(.ref b2)]))
        obtain ⟨cq10, kq10, q10a, q10b, q10c⟩ := isOf hZ e5 E_b2
        obtain ⟨_, _, ⟨T10, L10, k10, n10⟩, -, X10, ⟨Lc10, hQ10, l10, y10, z10⟩, st10⟩ := X5.virtualBack hx (y := (⟨"com/example/sumbit/sumbit/protocol/TransitMemory", "held", "()J"⟩ : MethodName)) (z := (⟨"com/example/sumbit/sumbit/protocol/TransitMemory", "held", "()J"⟩ : MethodName)) hown (mvT hZ (hw _ (List.mem_of_getElem? (i := 24) rfl))) (mvT hZ (hw _ (List.mem_of_getElem? (i := 25) rfl))) (notFace_of_selects (args := #[]) (mvT hZ (hw _ (List.mem_of_getElem? (i := 27) rfl)))) (mvT hZ (hw _ (List.mem_of_getElem? (i := 27) rfl))) (mvT hZ (hw _ (List.mem_of_getElem? (i := 26) rfl))) (by decide) (backOf (W := 0) (rm5 l Z a0 hw [] b2 ((0 : Int64) + (q1 &&& (4611686018427387903 : Int64))) T4.heap n0 Zz4 F_held_b2) hZ (hw _ (List.mem_of_getElem? (i := 28) rfl)) (hw _ (List.mem_of_getElem? (i := 3) rfl)) (by decide) (by decide)) q10a q10c (g := (mkF m 120 #[.val (.long q0), .second, .val (.long q1), .second, .val (.long q2), .second, .val (.int p3), .val (.long (q1 &&& (4611686018427387903 : Int64))), .second, .val (.long (q2 &&& (4611686018427387903 : Int64))), .second, .val (.ref b2), .val (.int (own_allows (q2 &&& (4611686018427387903 : Int64)) ((0 : Int64) + (q1 &&& (4611686018427387903 : Int64))) q0)), .val (.int (0 : Int32))] [(.ref b2)])) rfl (by rw [hml]; rfl) (Steps.refl _) (argsL := []) (rest := []) (lenOf pd_2 rfl) rfl (by show 2 * 0 + _ ≤ _; exact Nat.le_of_eq rfl) (hb hby at_120) (fun _ _ => ⟨rfl, e5, (by decide : 1 + 0 ≤ _), (by decide : 2 + 0 ≤ _)⟩)
        dsimp only [Pt.U, Pt.locs, Pt.cells, Pt.slots] at X10 l10 y10 z10 st10 hQ10
        subst l10 y10 z10
        obtain ⟨rfl, Nq10, e10⟩ := hQ10
        have N10 := Fr.app N5 Nq10
        refine go (fun t kt => st10.trans kt) ?_
        show Goes p.tables e below _ (T10.setTop (mkF m 123 #[.val (.long q0), .second, .val (.long q1), .second, .val (.long q2), .second, .val (.int p3), .val (.long (q1 &&& (4611686018427387903 : Int64))), .second, .val (.long (q2 &&& (4611686018427387903 : Int64))), .second, .val (.ref b2), .val (.int (own_allows (q2 &&& (4611686018427387903 : Int64)) ((0 : Int64) + (q1 &&& (4611686018427387903 : Int64))) q0)), .val (.int (0 : Int32))] [(.long (own_held ((0 : Int64) + (q1 &&& (4611686018427387903 : Int64)))))]))
        refine go (fun t kt => XS.lload X10.here hx rfl (hb hby at_123) rfl kt) ?_
        show Goes p.tables e below _ (T10.setTop (mkF m 125 #[.val (.long q0), .second, .val (.long q1), .second, .val (.long q2), .second, .val (.int p3), .val (.long (q1 &&& (4611686018427387903 : Int64))), .second, .val (.long (q2 &&& (4611686018427387903 : Int64))), .second, .val (.ref b2), .val (.int (own_allows (q2 &&& (4611686018427387903 : Int64)) ((0 : Int64) + (q1 &&& (4611686018427387903 : Int64))) q0)), .val (.int (0 : Int32))] [(.long (q1 &&& (4611686018427387903 : Int64))), (.long (own_held ((0 : Int64) + (q1 &&& (4611686018427387903 : Int64)))))]))
        refine go (fun t kt => XS.lcmp X10.here hx rfl (hb hby at_125) rfl kt) ?_
        show Goes p.tables e below _ (T10.setTop (mkF m 126 #[.val (.long q0), .second, .val (.long q1), .second, .val (.long q2), .second, .val (.int p3), .val (.long (q1 &&& (4611686018427387903 : Int64))), .second, .val (.long (q2 &&& (4611686018427387903 : Int64))), .second, .val (.ref b2), .val (.int (own_allows (q2 &&& (4611686018427387903 : Int64)) ((0 : Int64) + (q1 &&& (4611686018427387903 : Int64))) q0)), .val (.int (0 : Int32))] [(.int (lcmpW (own_held ((0 : Int64) + (q1 &&& (4611686018427387903 : Int64)))) (q1 &&& (4611686018427387903 : Int64))))]))
        refine go (fun t kt => XS.ifNo X10.here hx rfl (hb hby at_126) rfl ((if0 _ _).trans (teq ((lw_eq (own_held ((0 : Int64) + (q1 &&& (4611686018427387903 : Int64)))) (q1 &&& (4611686018427387903 : Int64))).mpr (own_z _))).2) kt) ?_
        show Goes p.tables e below _ (T10.setTop (mkF m 129 #[.val (.long q0), .second, .val (.long q1), .second, .val (.long q2), .second, .val (.int p3), .val (.long (q1 &&& (4611686018427387903 : Int64))), .second, .val (.long (q2 &&& (4611686018427387903 : Int64))), .second, .val (.ref b2), .val (.int (own_allows (q2 &&& (4611686018427387903 : Int64)) ((0 : Int64) + (q1 &&& (4611686018427387903 : Int64))) q0)), .val (.int (0 : Int32))] []))
        refine go (fun t kt => XS.iconst X10.here hx rfl (hb hby at_129) kt) ?_
        show Goes p.tables e below _ (T10.setTop (mkF m 130 #[.val (.long q0), .second, .val (.long q1), .second, .val (.long q2), .second, .val (.int p3), .val (.long (q1 &&& (4611686018427387903 : Int64))), .second, .val (.long (q2 &&& (4611686018427387903 : Int64))), .second, .val (.ref b2), .val (.int (own_allows (q2 &&& (4611686018427387903 : Int64)) ((0 : Int64) + (q1 &&& (4611686018427387903 : Int64))) q0)), .val (.int (0 : Int32))] [(.int (1 : Int32))]))
        refine go (fun t kt => XS.goto X10.here hx rfl (pc0 := 130) (pc' := 134) rfl (hb hby at_130) (by decide) (by decide) kt) ?_
        show Goes p.tables e below _ (T10.setTop (mkF m 134 #[.val (.long q0), .second, .val (.long q1), .second, .val (.long q2), .second, .val (.int p3), .val (.long (q1 &&& (4611686018427387903 : Int64))), .second, .val (.long (q2 &&& (4611686018427387903 : Int64))), .second, .val (.ref b2), .val (.int (own_allows (q2 &&& (4611686018427387903 : Int64)) ((0 : Int64) + (q1 &&& (4611686018427387903 : Int64))) q0)), .val (.int (0 : Int32))] [(.int (1 : Int32))]))
        obtain ⟨fs, hr, hrun, hended, hW, hsame⟩ := X10.leave (v := some (.int (1 : Int32))) (fun h => by rw [Bd.returns] at h; cases h)
        refine ⟨_, _, retN X10 hx (t := .boolean) Bd.returns (by simp) (hb hby at_134) hr, hrun, hended, _, _, rfl, ?_, ⟨_, rfl⟩, hW, hsame.mono (by decide) (by decide)⟩
        show Q0 Z q0 q1 q2 p3 h0 n0 _ T10.heap _
        rw [e10]
        exact ⟨rfl, N10⟩
      ·
        refine go (fun t kt => XS.ifNo X5.here hx rfl (hb hby at_101) rfl ((if0 _ _).trans (flt (fun q => hc9 ((lw_gt (q2 &&& (4611686018427387903 : Int64)) (q0 - (q1 &&& (4611686018427387903 : Int64)))).mp q))).2.2.1) kt) ?_
        show Goes p.tables e below _ (T5.setTop (mkF m 104 #[.val (.long q0), .second, .val (.long q1), .second, .val (.long q2), .second, .val (.int p3), .val (.long (q1 &&& (4611686018427387903 : Int64))), .second, .val (.long (q2 &&& (4611686018427387903 : Int64))), .second, .val (.ref b2), .val (.int (own_allows (q2 &&& (4611686018427387903 : Int64)) ((0 : Int64) + (q1 &&& (4611686018427387903 : Int64))) q0)), .unset] []))
        refine go (fun t kt => XS.iconst X5.here hx rfl (hb hby at_104) kt) ?_
        show Goes p.tables e below _ (T5.setTop (mkF m 105 #[.val (.long q0), .second, .val (.long q1), .second, .val (.long q2), .second, .val (.int p3), .val (.long (q1 &&& (4611686018427387903 : Int64))), .second, .val (.long (q2 &&& (4611686018427387903 : Int64))), .second, .val (.ref b2), .val (.int (own_allows (q2 &&& (4611686018427387903 : Int64)) ((0 : Int64) + (q1 &&& (4611686018427387903 : Int64))) q0)), .unset] [(.int (1 : Int32))]))
        refine go (fun t kt => XS.goto X5.here hx rfl (pc0 := 105) (pc' := 109) rfl (hb hby at_105) (by decide) (by decide) kt) ?_
        show Goes p.tables e below _ (T5.setTop (mkF m 109 #[.val (.long q0), .second, .val (.long q1), .second, .val (.long q2), .second, .val (.int p3), .val (.long (q1 &&& (4611686018427387903 : Int64))), .second, .val (.long (q2 &&& (4611686018427387903 : Int64))), .second, .val (.ref b2), .val (.int (own_allows (q2 &&& (4611686018427387903 : Int64)) ((0 : Int64) + (q1 &&& (4611686018427387903 : Int64))) q0)), .unset] [(.int (1 : Int32))]))
        refine go (fun t kt => XS.istore X5.here hx rfl (hb hby at_109) rfl (l' := #[.val (.long q0), .second, .val (.long q1), .second, .val (.long q2), .second, .val (.int p3), .val (.long (q1 &&& (4611686018427387903 : Int64))), .second, .val (.long (q2 &&& (4611686018427387903 : Int64))), .second, .val (.ref b2), .val (.int (own_allows (q2 &&& (4611686018427387903 : Int64)) ((0 : Int64) + (q1 &&& (4611686018427387903 : Int64))) q0)), .val (.int (1 : Int32))]) rfl kt) ?_
        show Goes p.tables e below _ (T5.setTop (mkF m 111 #[.val (.long q0), .second, .val (.long q1), .second, .val (.long q2), .second, .val (.int p3), .val (.long (q1 &&& (4611686018427387903 : Int64))), .second, .val (.long (q2 &&& (4611686018427387903 : Int64))), .second, .val (.ref b2), .val (.int (own_allows (q2 &&& (4611686018427387903 : Int64)) ((0 : Int64) + (q1 &&& (4611686018427387903 : Int64))) q0)), .val (.int (1 : Int32))] []))
        refine go (fun t kt => XS.iload X5.here hx rfl (hb hby at_111) rfl kt) ?_
        show Goes p.tables e below _ (T5.setTop (mkF m 113 #[.val (.long q0), .second, .val (.long q1), .second, .val (.long q2), .second, .val (.int p3), .val (.long (q1 &&& (4611686018427387903 : Int64))), .second, .val (.long (q2 &&& (4611686018427387903 : Int64))), .second, .val (.ref b2), .val (.int (own_allows (q2 &&& (4611686018427387903 : Int64)) ((0 : Int64) + (q1 &&& (4611686018427387903 : Int64))) q0)), .val (.int (1 : Int32))] [(.int (own_allows (q2 &&& (4611686018427387903 : Int64)) ((0 : Int64) + (q1 &&& (4611686018427387903 : Int64))) q0))]))
        refine go (fun t kt => XS.iload X5.here hx rfl (hb hby at_113) rfl kt) ?_
        show Goes p.tables e below _ (T5.setTop (mkF m 115 #[.val (.long q0), .second, .val (.long q1), .second, .val (.long q2), .second, .val (.int p3), .val (.long (q1 &&& (4611686018427387903 : Int64))), .second, .val (.long (q2 &&& (4611686018427387903 : Int64))), .second, .val (.ref b2), .val (.int (own_allows (q2 &&& (4611686018427387903 : Int64)) ((0 : Int64) + (q1 &&& (4611686018427387903 : Int64))) q0)), .val (.int (1 : Int32))] [(.int (1 : Int32)), (.int (own_allows (q2 &&& (4611686018427387903 : Int64)) ((0 : Int64) + (q1 &&& (4611686018427387903 : Int64))) q0))]))
        refine go (fun t kt => XS.icmpNo X5.here hx rfl (hb hby at_115) rfl (teq (own_in _ _ _ (own_m q1) (own_m q2) hc6 hc9)).2 kt) ?_
        show Goes p.tables e below _ (T5.setTop (mkF m 118 #[.val (.long q0), .second, .val (.long q1), .second, .val (.long q2), .second, .val (.int p3), .val (.long (q1 &&& (4611686018427387903 : Int64))), .second, .val (.long (q2 &&& (4611686018427387903 : Int64))), .second, .val (.ref b2), .val (.int (own_allows (q2 &&& (4611686018427387903 : Int64)) ((0 : Int64) + (q1 &&& (4611686018427387903 : Int64))) q0)), .val (.int (1 : Int32))] []))
        refine go (fun t kt => XS.aload X5.here hx rfl (hb hby at_118) rfl rfl kt) ?_
        show Goes p.tables e below _ (T5.setTop (mkF m 120 #[.val (.long q0), .second, .val (.long q1), .second, .val (.long q2), .second, .val (.int p3), .val (.long (q1 &&& (4611686018427387903 : Int64))), .second, .val (.long (q2 &&& (4611686018427387903 : Int64))), .second, .val (.ref b2), .val (.int (own_allows (q2 &&& (4611686018427387903 : Int64)) ((0 : Int64) + (q1 &&& (4611686018427387903 : Int64))) q0)), .val (.int (1 : Int32))] [(.ref b2)]))
        obtain ⟨cq12, kq12, q12a, q12b, q12c⟩ := isOf hZ e5 E_b2
        obtain ⟨_, _, ⟨T12, L12, k12, n12⟩, -, X12, ⟨Lc12, hQ12, l12, y12, z12⟩, st12⟩ := X5.virtualBack hx (y := (⟨"com/example/sumbit/sumbit/protocol/TransitMemory", "held", "()J"⟩ : MethodName)) (z := (⟨"com/example/sumbit/sumbit/protocol/TransitMemory", "held", "()J"⟩ : MethodName)) hown (mvT hZ (hw _ (List.mem_of_getElem? (i := 24) rfl))) (mvT hZ (hw _ (List.mem_of_getElem? (i := 25) rfl))) (notFace_of_selects (args := #[]) (mvT hZ (hw _ (List.mem_of_getElem? (i := 27) rfl)))) (mvT hZ (hw _ (List.mem_of_getElem? (i := 27) rfl))) (mvT hZ (hw _ (List.mem_of_getElem? (i := 26) rfl))) (by decide) (backOf (W := 0) (rm5 l Z a0 hw [] b2 ((0 : Int64) + (q1 &&& (4611686018427387903 : Int64))) T4.heap n0 Zz4 F_held_b2) hZ (hw _ (List.mem_of_getElem? (i := 28) rfl)) (hw _ (List.mem_of_getElem? (i := 3) rfl)) (by decide) (by decide)) q12a q12c (g := (mkF m 120 #[.val (.long q0), .second, .val (.long q1), .second, .val (.long q2), .second, .val (.int p3), .val (.long (q1 &&& (4611686018427387903 : Int64))), .second, .val (.long (q2 &&& (4611686018427387903 : Int64))), .second, .val (.ref b2), .val (.int (own_allows (q2 &&& (4611686018427387903 : Int64)) ((0 : Int64) + (q1 &&& (4611686018427387903 : Int64))) q0)), .val (.int (1 : Int32))] [(.ref b2)])) rfl (by rw [hml]; rfl) (Steps.refl _) (argsL := []) (rest := []) (lenOf pd_2 rfl) rfl (by show 2 * 0 + _ ≤ _; exact Nat.le_of_eq rfl) (hb hby at_120) (fun _ _ => ⟨rfl, e5, (by decide : 1 + 0 ≤ _), (by decide : 2 + 0 ≤ _)⟩)
        dsimp only [Pt.U, Pt.locs, Pt.cells, Pt.slots] at X12 l12 y12 z12 st12 hQ12
        subst l12 y12 z12
        obtain ⟨rfl, Nq12, e12⟩ := hQ12
        have N12 := Fr.app N5 Nq12
        refine go (fun t kt => st12.trans kt) ?_
        show Goes p.tables e below _ (T12.setTop (mkF m 123 #[.val (.long q0), .second, .val (.long q1), .second, .val (.long q2), .second, .val (.int p3), .val (.long (q1 &&& (4611686018427387903 : Int64))), .second, .val (.long (q2 &&& (4611686018427387903 : Int64))), .second, .val (.ref b2), .val (.int (own_allows (q2 &&& (4611686018427387903 : Int64)) ((0 : Int64) + (q1 &&& (4611686018427387903 : Int64))) q0)), .val (.int (1 : Int32))] [(.long (own_held ((0 : Int64) + (q1 &&& (4611686018427387903 : Int64)))))]))
        refine go (fun t kt => XS.lload X12.here hx rfl (hb hby at_123) rfl kt) ?_
        show Goes p.tables e below _ (T12.setTop (mkF m 125 #[.val (.long q0), .second, .val (.long q1), .second, .val (.long q2), .second, .val (.int p3), .val (.long (q1 &&& (4611686018427387903 : Int64))), .second, .val (.long (q2 &&& (4611686018427387903 : Int64))), .second, .val (.ref b2), .val (.int (own_allows (q2 &&& (4611686018427387903 : Int64)) ((0 : Int64) + (q1 &&& (4611686018427387903 : Int64))) q0)), .val (.int (1 : Int32))] [(.long (q1 &&& (4611686018427387903 : Int64))), (.long (own_held ((0 : Int64) + (q1 &&& (4611686018427387903 : Int64)))))]))
        refine go (fun t kt => XS.lcmp X12.here hx rfl (hb hby at_125) rfl kt) ?_
        show Goes p.tables e below _ (T12.setTop (mkF m 126 #[.val (.long q0), .second, .val (.long q1), .second, .val (.long q2), .second, .val (.int p3), .val (.long (q1 &&& (4611686018427387903 : Int64))), .second, .val (.long (q2 &&& (4611686018427387903 : Int64))), .second, .val (.ref b2), .val (.int (own_allows (q2 &&& (4611686018427387903 : Int64)) ((0 : Int64) + (q1 &&& (4611686018427387903 : Int64))) q0)), .val (.int (1 : Int32))] [(.int (lcmpW (own_held ((0 : Int64) + (q1 &&& (4611686018427387903 : Int64)))) (q1 &&& (4611686018427387903 : Int64))))]))
        refine go (fun t kt => XS.ifNo X12.here hx rfl (hb hby at_126) rfl ((if0 _ _).trans (teq ((lw_eq (own_held ((0 : Int64) + (q1 &&& (4611686018427387903 : Int64)))) (q1 &&& (4611686018427387903 : Int64))).mpr (own_z _))).2) kt) ?_
        show Goes p.tables e below _ (T12.setTop (mkF m 129 #[.val (.long q0), .second, .val (.long q1), .second, .val (.long q2), .second, .val (.int p3), .val (.long (q1 &&& (4611686018427387903 : Int64))), .second, .val (.long (q2 &&& (4611686018427387903 : Int64))), .second, .val (.ref b2), .val (.int (own_allows (q2 &&& (4611686018427387903 : Int64)) ((0 : Int64) + (q1 &&& (4611686018427387903 : Int64))) q0)), .val (.int (1 : Int32))] []))
        refine go (fun t kt => XS.iconst X12.here hx rfl (hb hby at_129) kt) ?_
        show Goes p.tables e below _ (T12.setTop (mkF m 130 #[.val (.long q0), .second, .val (.long q1), .second, .val (.long q2), .second, .val (.int p3), .val (.long (q1 &&& (4611686018427387903 : Int64))), .second, .val (.long (q2 &&& (4611686018427387903 : Int64))), .second, .val (.ref b2), .val (.int (own_allows (q2 &&& (4611686018427387903 : Int64)) ((0 : Int64) + (q1 &&& (4611686018427387903 : Int64))) q0)), .val (.int (1 : Int32))] [(.int (1 : Int32))]))
        refine go (fun t kt => XS.goto X12.here hx rfl (pc0 := 130) (pc' := 134) rfl (hb hby at_130) (by decide) (by decide) kt) ?_
        show Goes p.tables e below _ (T12.setTop (mkF m 134 #[.val (.long q0), .second, .val (.long q1), .second, .val (.long q2), .second, .val (.int p3), .val (.long (q1 &&& (4611686018427387903 : Int64))), .second, .val (.long (q2 &&& (4611686018427387903 : Int64))), .second, .val (.ref b2), .val (.int (own_allows (q2 &&& (4611686018427387903 : Int64)) ((0 : Int64) + (q1 &&& (4611686018427387903 : Int64))) q0)), .val (.int (1 : Int32))] [(.int (1 : Int32))]))
        obtain ⟨fs, hr, hrun, hended, hW, hsame⟩ := X12.leave (v := some (.int (1 : Int32))) (fun h => by rw [Bd.returns] at h; cases h)
        refine ⟨_, _, retN X12 hx (t := .boolean) Bd.returns (by simp) (hb hby at_134) hr, hrun, hended, _, _, rfl, ?_, ⟨_, rfl⟩, hW, hsame.mono (by decide) (by decide)⟩
        show Q0 Z q0 q1 q2 p3 h0 n0 _ T12.heap _
        rw [e12]
        exact ⟨rfl, N12⟩
  ·
    refine go (fun t kt => XS.ifNo X0.here hx rfl (hb hby at_19) rfl ((if0 _ _).trans (feq hc1).1) kt) ?_
    show Goes p.tables e below _ (s₁.setTop (mkF m 22 #[.val (.long q0), .second, .val (.long q1), .second, .val (.long q2), .second, .val (.int p3), .val (.long (q1 &&& (4611686018427387903 : Int64))), .second, .val (.long (q2 &&& (4611686018427387903 : Int64))), .second, .unset, .unset, .unset] []))
    refine go (fun t kt => XS.lloadN X0.here hx rfl (hb hby at_22) rfl kt) ?_
    show Goes p.tables e below _ (s₁.setTop (mkF m 23 #[.val (.long q0), .second, .val (.long q1), .second, .val (.long q2), .second, .val (.int p3), .val (.long (q1 &&& (4611686018427387903 : Int64))), .second, .val (.long (q2 &&& (4611686018427387903 : Int64))), .second, .unset, .unset, .unset] [(.long q0)]))
    refine go (fun t kt => XS.lload X0.here hx rfl (hb hby at_23) rfl kt) ?_
    show Goes p.tables e below _ (s₁.setTop (mkF m 25 #[.val (.long q0), .second, .val (.long q1), .second, .val (.long q2), .second, .val (.int p3), .val (.long (q1 &&& (4611686018427387903 : Int64))), .second, .val (.long (q2 &&& (4611686018427387903 : Int64))), .second, .unset, .unset, .unset] [(.long (q1 &&& (4611686018427387903 : Int64))), (.long q0)]))
    refine go (fun t kt => XS.lsub X0.here hx rfl (hb hby at_25) rfl kt) ?_
    show Goes p.tables e below _ (s₁.setTop (mkF m 26 #[.val (.long q0), .second, .val (.long q1), .second, .val (.long q2), .second, .val (.int p3), .val (.long (q1 &&& (4611686018427387903 : Int64))), .second, .val (.long (q2 &&& (4611686018427387903 : Int64))), .second, .unset, .unset, .unset] [(.long (q0 - (q1 &&& (4611686018427387903 : Int64))))]))
    refine go (fun t kt => XS.iload X0.here hx rfl (hb hby at_26) rfl kt) ?_
    show Goes p.tables e below _ (s₁.setTop (mkF m 28 #[.val (.long q0), .second, .val (.long q1), .second, .val (.long q2), .second, .val (.int p3), .val (.long (q1 &&& (4611686018427387903 : Int64))), .second, .val (.long (q2 &&& (4611686018427387903 : Int64))), .second, .unset, .unset, .unset] [(.int p3), (.long (q0 - (q1 &&& (4611686018427387903 : Int64))))]))
    refine go (fun t kt => XS.iconst X0.here hx rfl (hb hby at_28) kt) ?_
    show Goes p.tables e below _ (s₁.setTop (mkF m 29 #[.val (.long q0), .second, .val (.long q1), .second, .val (.long q2), .second, .val (.int p3), .val (.long (q1 &&& (4611686018427387903 : Int64))), .second, .val (.long (q2 &&& (4611686018427387903 : Int64))), .second, .unset, .unset, .unset] [(.int (3 : Int32)), (.int p3), (.long (q0 - (q1 &&& (4611686018427387903 : Int64))))]))
    refine go (fun t kt => XS.iand X0.here hx rfl (hb hby at_29) rfl kt) ?_
    show Goes p.tables e below _ (s₁.setTop (mkF m 30 #[.val (.long q0), .second, .val (.long q1), .second, .val (.long q2), .second, .val (.int p3), .val (.long (q1 &&& (4611686018427387903 : Int64))), .second, .val (.long (q2 &&& (4611686018427387903 : Int64))), .second, .unset, .unset, .unset] [(.int (p3 &&& (3 : Int32))), (.long (q0 - (q1 &&& (4611686018427387903 : Int64))))]))
    refine go (fun t kt => XS.iconst X0.here hx rfl (hb hby at_30) kt) ?_
    show Goes p.tables e below _ (s₁.setTop (mkF m 31 #[.val (.long q0), .second, .val (.long q1), .second, .val (.long q2), .second, .val (.int p3), .val (.long (q1 &&& (4611686018427387903 : Int64))), .second, .val (.long (q2 &&& (4611686018427387903 : Int64))), .second, .unset, .unset, .unset] [(.int (1 : Int32)), (.int (p3 &&& (3 : Int32))), (.long (q0 - (q1 &&& (4611686018427387903 : Int64))))]))
    refine go (fun t kt => XS.isub X0.here hx rfl (hb hby at_31) rfl kt) ?_
    show Goes p.tables e below _ (s₁.setTop (mkF m 32 #[.val (.long q0), .second, .val (.long q1), .second, .val (.long q2), .second, .val (.int p3), .val (.long (q1 &&& (4611686018427387903 : Int64))), .second, .val (.long (q2 &&& (4611686018427387903 : Int64))), .second, .unset, .unset, .unset] [(.int ((p3 &&& (3 : Int32)) - (1 : Int32))), (.long (q0 - (q1 &&& (4611686018427387903 : Int64))))]))
    refine go (fun t kt => XS.i2l X0.here hx rfl (hb hby at_32) rfl kt) ?_
    show Goes p.tables e below _ (s₁.setTop (mkF m 33 #[.val (.long q0), .second, .val (.long q1), .second, .val (.long q2), .second, .val (.int p3), .val (.long (q1 &&& (4611686018427387903 : Int64))), .second, .val (.long (q2 &&& (4611686018427387903 : Int64))), .second, .unset, .unset, .unset] [(.long (((p3 &&& (3 : Int32)) - (1 : Int32)).toInt64)), (.long (q0 - (q1 &&& (4611686018427387903 : Int64))))]))
    refine go (fun t kt => XS.ladd X0.here hx rfl (hb hby at_33) rfl kt) ?_
    show Goes p.tables e below _ (s₁.setTop (mkF m 34 #[.val (.long q0), .second, .val (.long q1), .second, .val (.long q2), .second, .val (.int p3), .val (.long (q1 &&& (4611686018427387903 : Int64))), .second, .val (.long (q2 &&& (4611686018427387903 : Int64))), .second, .unset, .unset, .unset] [(.long ((q0 - (q1 &&& (4611686018427387903 : Int64))) + (((p3 &&& (3 : Int32)) - (1 : Int32)).toInt64)))]))
    refine go (fun t kt => XS.lstore X0.here hx rfl (hb hby at_34) rfl (l' := #[.val (.long q0), .second, .val (.long q1), .second, .val (.long q2), .second, .val (.int p3), .val (.long (q1 &&& (4611686018427387903 : Int64))), .second, .val (.long (q2 &&& (4611686018427387903 : Int64))), .second, .val (.long ((q0 - (q1 &&& (4611686018427387903 : Int64))) + (((p3 &&& (3 : Int32)) - (1 : Int32)).toInt64))), .second, .unset]) rfl kt) ?_
    show Goes p.tables e below _ (s₁.setTop (mkF m 36 #[.val (.long q0), .second, .val (.long q1), .second, .val (.long q2), .second, .val (.int p3), .val (.long (q1 &&& (4611686018427387903 : Int64))), .second, .val (.long (q2 &&& (4611686018427387903 : Int64))), .second, .val (.long ((q0 - (q1 &&& (4611686018427387903 : Int64))) + (((p3 &&& (3 : Int32)) - (1 : Int32)).toInt64))), .second, .unset] []))
    refine go (fun t kt => XS.lload X0.here hx rfl (hb hby at_36) rfl kt) ?_
    show Goes p.tables e below _ (s₁.setTop (mkF m 38 #[.val (.long q0), .second, .val (.long q1), .second, .val (.long q2), .second, .val (.int p3), .val (.long (q1 &&& (4611686018427387903 : Int64))), .second, .val (.long (q2 &&& (4611686018427387903 : Int64))), .second, .val (.long ((q0 - (q1 &&& (4611686018427387903 : Int64))) + (((p3 &&& (3 : Int32)) - (1 : Int32)).toInt64))), .second, .unset] [(.long ((q0 - (q1 &&& (4611686018427387903 : Int64))) + (((p3 &&& (3 : Int32)) - (1 : Int32)).toInt64)))]))
    refine go (fun t kt => XS.lconst X0.here hx rfl (hb hby at_38) kt) ?_
    show Goes p.tables e below _ (s₁.setTop (mkF m 39 #[.val (.long q0), .second, .val (.long q1), .second, .val (.long q2), .second, .val (.int p3), .val (.long (q1 &&& (4611686018427387903 : Int64))), .second, .val (.long (q2 &&& (4611686018427387903 : Int64))), .second, .val (.long ((q0 - (q1 &&& (4611686018427387903 : Int64))) + (((p3 &&& (3 : Int32)) - (1 : Int32)).toInt64))), .second, .unset] [(.long (0 : Int64)), (.long ((q0 - (q1 &&& (4611686018427387903 : Int64))) + (((p3 &&& (3 : Int32)) - (1 : Int32)).toInt64)))]))
    refine go (fun t kt => XS.lcmp X0.here hx rfl (hb hby at_39) rfl kt) ?_
    show Goes p.tables e below _ (s₁.setTop (mkF m 40 #[.val (.long q0), .second, .val (.long q1), .second, .val (.long q2), .second, .val (.int p3), .val (.long (q1 &&& (4611686018427387903 : Int64))), .second, .val (.long (q2 &&& (4611686018427387903 : Int64))), .second, .val (.long ((q0 - (q1 &&& (4611686018427387903 : Int64))) + (((p3 &&& (3 : Int32)) - (1 : Int32)).toInt64))), .second, .unset] [(.int (lcmpW ((q0 - (q1 &&& (4611686018427387903 : Int64))) + (((p3 &&& (3 : Int32)) - (1 : Int32)).toInt64)) (0 : Int64)))]))
    by_cases hc14 : ((q0 - (q1 &&& (4611686018427387903 : Int64))) + (((p3 &&& (3 : Int32)) - (1 : Int32)).toInt64)) < (0 : Int64)
    ·
      refine go (fun t kt => XS.ifYes X0.here hx rfl (pc0 := 40) (pc' := 56) rfl (hb hby at_40) rfl ((if0 _ _).trans (tlt ((lw_lt ((q0 - (q1 &&& (4611686018427387903 : Int64))) + (((p3 &&& (3 : Int32)) - (1 : Int32)).toInt64)) (0 : Int64)).mpr hc14)).1) (by decide) (by decide) kt) ?_
      show Goes p.tables e below _ (s₁.setTop (mkF m 56 #[.val (.long q0), .second, .val (.long q1), .second, .val (.long q2), .second, .val (.int p3), .val (.long (q1 &&& (4611686018427387903 : Int64))), .second, .val (.long (q2 &&& (4611686018427387903 : Int64))), .second, .val (.long ((q0 - (q1 &&& (4611686018427387903 : Int64))) + (((p3 &&& (3 : Int32)) - (1 : Int32)).toInt64))), .second, .unset] []))
      obtain ⟨T15, h15, X15, e15, E15, A15, D15, -, st15⟩ := newO X0 hx hZ hown (hw _ (List.mem_of_getElem? (i := 1) rfl)) (hw _ (List.mem_of_getElem? (i := 2) rfl)) (hw _ (List.mem_of_getElem? (i := 3) rfl)) e0 (g := (mkF m 56 #[.val (.long q0), .second, .val (.long q1), .second, .val (.long q2), .second, .val (.int p3), .val (.long (q1 &&& (4611686018427387903 : Int64))), .second, .val (.long (q2 &&& (4611686018427387903 : Int64))), .second, .val (.long ((q0 - (q1 &&& (4611686018427387903 : Int64))) + (((p3 &&& (3 : Int32)) - (1 : Int32)).toInt64))), .second, .unset] [])) rfl (hb hby at_56) (by decide) (by decide)
      obtain ⟨b15, g15⟩ : ∃ z, z = h0.size := ⟨_, rfl⟩
      rw [← g15] at A15 D15 st15
      have g_b15 : n0 ≤ b15 := Nat.le_trans Z0 (Nat.le_of_eq g15.symm)
      have sz_b15 : h0.size ≤ b15 := Nat.le_trans K0.1 (Nat.le_of_eq g15.symm)
      have Zz15 := Nat.le_trans Z0 E15.1
      have Kk15 := K0.ext E15
      have E_b15 := A15
      have F_limit_b15 : Fld Z h15 b15 "com/example/sumbit/sumbit/protocol/TransitMemory" "limit" "J" (.long (0 : Int64)) := D15 (Or.inr (hw _ (List.mem_of_getElem? (i := 11) rfl))) (ty := .long) (by decide)
      have F_held_b15 : Fld Z h15 b15 "com/example/sumbit/sumbit/protocol/TransitMemory" "held" "J" (.long (0 : Int64)) := D15 (Or.inl (hw _ (List.mem_of_getElem? (i := 18) rfl))) (ty := .long) (by decide)
      refine go st15 ?_
      show Goes p.tables e below _ (T15.setTop (mkF m 59 #[.val (.long q0), .second, .val (.long q1), .second, .val (.long q2), .second, .val (.int p3), .val (.long (q1 &&& (4611686018427387903 : Int64))), .second, .val (.long (q2 &&& (4611686018427387903 : Int64))), .second, .val (.long ((q0 - (q1 &&& (4611686018427387903 : Int64))) + (((p3 &&& (3 : Int32)) - (1 : Int32)).toInt64))), .second, .unset] [(.ref b15)]))
      refine go (fun t kt => XS.dup X15.here hx rfl (hb hby at_59) rfl rfl kt) ?_
      show Goes p.tables e below _ (T15.setTop (mkF m 60 #[.val (.long q0), .second, .val (.long q1), .second, .val (.long q2), .second, .val (.int p3), .val (.long (q1 &&& (4611686018427387903 : Int64))), .second, .val (.long (q2 &&& (4611686018427387903 : Int64))), .second, .val (.long ((q0 - (q1 &&& (4611686018427387903 : Int64))) + (((p3 &&& (3 : Int32)) - (1 : Int32)).toInt64))), .second, .unset] [(.ref b15), (.ref b15)]))
      refine go (fun t kt => XS.lloadN X15.here hx rfl (hb hby at_60) rfl kt) ?_
      show Goes p.tables e below _ (T15.setTop (mkF m 61 #[.val (.long q0), .second, .val (.long q1), .second, .val (.long q2), .second, .val (.int p3), .val (.long (q1 &&& (4611686018427387903 : Int64))), .second, .val (.long (q2 &&& (4611686018427387903 : Int64))), .second, .val (.long ((q0 - (q1 &&& (4611686018427387903 : Int64))) + (((p3 &&& (3 : Int32)) - (1 : Int32)).toInt64))), .second, .unset] [(.long q0), (.ref b15), (.ref b15)]))
      obtain ⟨_, _, ⟨T16, L16, k16, n16⟩, -, X16, ⟨Lc16, hQ16, l16, y16, z16⟩, st16⟩ := X15.specialBack hx (y := (⟨"com/example/sumbit/sumbit/protocol/TransitMemory", "<init>", "(J)V"⟩ : MethodName)) rfl hown (mvT hZ (hw _ (List.mem_of_getElem? (i := 4) rfl))) (mvT hZ (hw _ (List.mem_of_getElem? (i := 5) rfl))) (mvT hZ (hw _ (List.mem_of_getElem? (i := 6) rfl))) (by decide) (backOf (W := 1) (rm1 l Z a0 hw [] b15 q0 (.long (0 : Int64)) (.long (0 : Int64)) h15 n0 Zz15 E_b15 F_limit_b15 F_held_b15 g_b15) hZ (hw _ (List.mem_of_getElem? (i := 6) rfl)) (hw _ (List.mem_of_getElem? (i := 3) rfl)) (by decide) (by decide)) (g := (mkF m 61 #[.val (.long q0), .second, .val (.long q1), .second, .val (.long q2), .second, .val (.int p3), .val (.long (q1 &&& (4611686018427387903 : Int64))), .second, .val (.long (q2 &&& (4611686018427387903 : Int64))), .second, .val (.long ((q0 - (q1 &&& (4611686018427387903 : Int64))) + (((p3 &&& (3 : Int32)) - (1 : Int32)).toInt64))), .second, .unset] [(.long q0), (.ref b15), (.ref b15)])) rfl (by rw [hml]; rfl) (Steps.refl _) (a := b15) (argsL := [(.long q0)]) (rest := [(.ref b15)]) (lenOf pd_0 rfl) rfl (by show 2 * 0 + _ ≤ _; exact Nat.le_of_eq rfl) (hb hby at_61) (fun _ _ => ⟨rfl, e15, (by decide : 1 + 0 ≤ _), (by decide : 2 + 0 ≤ _)⟩)
      dsimp only [Pt.U, Pt.locs, Pt.cells, Pt.slots] at X16 l16 y16 z16 st16 hQ16
      subst l16 y16 z16
      obtain ⟨rfl, Nq16, Kq16, Eq16_o0, Fq16_limit_o0, Fq16_held_o0⟩ := hQ16
      replace E_b15 := E_b15.keep Kq16
      clear F_limit_b15
      clear F_held_b15
      have Zz16 := Nat.le_trans Zz15 Kq16.1
      have Kk16 := Kk15.trans Kq16 (allS (Or.inr sz_b15) all0)
      have E_b15 := Eq16_o0
      have F_limit_b15 := Fq16_limit_o0
      have F_held_b15 := Fq16_held_o0
      have N16 := Fr.app N0 Nq16
      refine go (fun t kt => st16.trans kt) ?_
      show Goes p.tables e below _ (T16.setTop (mkF m 64 #[.val (.long q0), .second, .val (.long q1), .second, .val (.long q2), .second, .val (.int p3), .val (.long (q1 &&& (4611686018427387903 : Int64))), .second, .val (.long (q2 &&& (4611686018427387903 : Int64))), .second, .val (.long ((q0 - (q1 &&& (4611686018427387903 : Int64))) + (((p3 &&& (3 : Int32)) - (1 : Int32)).toInt64))), .second, .unset] [(.ref b15)]))
      refine go (fun t kt => XS.astore X16.here hx rfl (hb hby at_64) rfl rfl (l' := #[.val (.long q0), .second, .val (.long q1), .second, .val (.long q2), .second, .val (.int p3), .val (.long (q1 &&& (4611686018427387903 : Int64))), .second, .val (.long (q2 &&& (4611686018427387903 : Int64))), .second, .val (.ref b15), .unset, .unset]) rfl kt) ?_
      show Goes p.tables e below _ (T16.setTop (mkF m 66 #[.val (.long q0), .second, .val (.long q1), .second, .val (.long q2), .second, .val (.int p3), .val (.long (q1 &&& (4611686018427387903 : Int64))), .second, .val (.long (q2 &&& (4611686018427387903 : Int64))), .second, .val (.ref b15), .unset, .unset] []))
      refine go (fun t kt => XS.aload X16.here hx rfl (hb hby at_66) rfl rfl kt) ?_
      show Goes p.tables e below _ (T16.setTop (mkF m 68 #[.val (.long q0), .second, .val (.long q1), .second, .val (.long q2), .second, .val (.int p3), .val (.long (q1 &&& (4611686018427387903 : Int64))), .second, .val (.long (q2 &&& (4611686018427387903 : Int64))), .second, .val (.ref b15), .unset, .unset] [(.ref b15)]))
      refine go (fun t kt => XS.lload X16.here hx rfl (hb hby at_68) rfl kt) ?_
      show Goes p.tables e below _ (T16.setTop (mkF m 70 #[.val (.long q0), .second, .val (.long q1), .second, .val (.long q2), .second, .val (.int p3), .val (.long (q1 &&& (4611686018427387903 : Int64))), .second, .val (.long (q2 &&& (4611686018427387903 : Int64))), .second, .val (.ref b15), .unset, .unset] [(.long (q1 &&& (4611686018427387903 : Int64))), (.ref b15)]))
      obtain ⟨cq17, kq17, q17a, q17b, q17c⟩ := isOf hZ rfl E_b15
      obtain ⟨_, _, ⟨T17, L17, k17, n17⟩, -, X17, ⟨Lc17, hQ17, l17, y17, z17⟩, st17⟩ := X16.virtualBack hx (y := (⟨"com/example/sumbit/sumbit/protocol/TransitMemory", "take", "(J)V"⟩ : MethodName)) (z := (⟨"com/example/sumbit/sumbit/protocol/TransitMemory", "take", "(J)V"⟩ : MethodName)) hown (mvT hZ (hw _ (List.mem_of_getElem? (i := 12) rfl))) (mvT hZ (hw _ (List.mem_of_getElem? (i := 13) rfl))) (notFace_of_selects (args := #[]) (mvT hZ (hw _ (List.mem_of_getElem? (i := 15) rfl)))) (mvT hZ (hw _ (List.mem_of_getElem? (i := 15) rfl))) (mvT hZ (hw _ (List.mem_of_getElem? (i := 14) rfl))) (by decide) (backOf (W := 0) (rm3 l Z a0 hw [] b15 (q1 &&& (4611686018427387903 : Int64)) q0 (0 : Int64) T16.heap n0 Zz16 E_b15 F_limit_b15 F_held_b15 g_b15) hZ (hw _ (List.mem_of_getElem? (i := 16) rfl)) (hw _ (List.mem_of_getElem? (i := 3) rfl)) (by decide) (by decide)) q17a q17c (g := (mkF m 70 #[.val (.long q0), .second, .val (.long q1), .second, .val (.long q2), .second, .val (.int p3), .val (.long (q1 &&& (4611686018427387903 : Int64))), .second, .val (.long (q2 &&& (4611686018427387903 : Int64))), .second, .val (.ref b15), .unset, .unset] [(.long (q1 &&& (4611686018427387903 : Int64))), (.ref b15)])) rfl (by rw [hml]; rfl) (Steps.refl _) (argsL := [(.long (q1 &&& (4611686018427387903 : Int64)))]) (rest := []) (lenOf pd_0 rfl) rfl (by show 2 * 0 + _ ≤ _; exact Nat.le_of_eq rfl) (hb hby at_70) (fun _ _ => ⟨rfl, rfl, (by decide : 1 + 0 ≤ _), (by decide : 2 + 0 ≤ _)⟩)
      dsimp only [Pt.U, Pt.locs, Pt.cells, Pt.slots] at X17 l17 y17 z17 st17 hQ17
      subst l17 y17 z17
      obtain ⟨rfl, Nq17, Kq17, Eq17_o0, Fq17_limit_o0, Fq17_held_o0⟩ := hQ17
      replace E_b15 := E_b15.keep Kq17
      clear F_limit_b15
      clear F_held_b15
      have Zz17 := Nat.le_trans Zz16 Kq17.1
      have Kk17 := Kk16.trans Kq17 (allS (Or.inr sz_b15) all0)
      have E_b15 := Eq17_o0
      have F_limit_b15 := Fq17_limit_o0
      have F_held_b15 := Fq17_held_o0
      have N17 := Fr.app N16 Nq17
      refine go (fun t kt => st17.trans kt) ?_
      show Goes p.tables e below _ (T17.setTop (mkF m 73 #[.val (.long q0), .second, .val (.long q1), .second, .val (.long q2), .second, .val (.int p3), .val (.long (q1 &&& (4611686018427387903 : Int64))), .second, .val (.long (q2 &&& (4611686018427387903 : Int64))), .second, .val (.ref b15), .unset, .unset] []))
      refine go (fun t kt => XS.aload X17.here hx rfl (hb hby at_73) rfl rfl kt) ?_
      show Goes p.tables e below _ (T17.setTop (mkF m 75 #[.val (.long q0), .second, .val (.long q1), .second, .val (.long q2), .second, .val (.int p3), .val (.long (q1 &&& (4611686018427387903 : Int64))), .second, .val (.long (q2 &&& (4611686018427387903 : Int64))), .second, .val (.ref b15), .unset, .unset] [(.ref b15)]))
      refine go (fun t kt => XS.lload X17.here hx rfl (hb hby at_75) rfl kt) ?_
      show Goes p.tables e below _ (T17.setTop (mkF m 77 #[.val (.long q0), .second, .val (.long q1), .second, .val (.long q2), .second, .val (.int p3), .val (.long (q1 &&& (4611686018427387903 : Int64))), .second, .val (.long (q2 &&& (4611686018427387903 : Int64))), .second, .val (.ref b15), .unset, .unset] [(.long (q2 &&& (4611686018427387903 : Int64))), (.ref b15)]))
      obtain ⟨cq18, kq18, q18a, q18b, q18c⟩ := isOf hZ rfl E_b15
      obtain ⟨_, _, ⟨T18, L18, k18, n18⟩, -, X18, ⟨Lc18, hQ18, l18, y18, z18⟩, st18⟩ := X17.virtualBack hx (y := (⟨"com/example/sumbit/sumbit/protocol/TransitMemory", "allows", "(J)Z"⟩ : MethodName)) (z := (⟨"com/example/sumbit/sumbit/protocol/TransitMemory", "allows", "(J)Z"⟩ : MethodName)) hown (mvT hZ (hw _ (List.mem_of_getElem? (i := 19) rfl))) (mvT hZ (hw _ (List.mem_of_getElem? (i := 20) rfl))) (notFace_of_selects (args := #[]) (mvT hZ (hw _ (List.mem_of_getElem? (i := 22) rfl)))) (mvT hZ (hw _ (List.mem_of_getElem? (i := 22) rfl))) (mvT hZ (hw _ (List.mem_of_getElem? (i := 21) rfl))) (by decide) (backOf (W := 0) (rm4 l Z a0 hw [] b15 (q2 &&& (4611686018427387903 : Int64)) ((0 : Int64) + (q1 &&& (4611686018427387903 : Int64))) q0 T17.heap n0 Zz17 F_held_b15 F_limit_b15) hZ (hw _ (List.mem_of_getElem? (i := 23) rfl)) (hw _ (List.mem_of_getElem? (i := 3) rfl)) (by decide) (by decide)) q18a q18c (g := (mkF m 77 #[.val (.long q0), .second, .val (.long q1), .second, .val (.long q2), .second, .val (.int p3), .val (.long (q1 &&& (4611686018427387903 : Int64))), .second, .val (.long (q2 &&& (4611686018427387903 : Int64))), .second, .val (.ref b15), .unset, .unset] [(.long (q2 &&& (4611686018427387903 : Int64))), (.ref b15)])) rfl (by rw [hml]; rfl) (Steps.refl _) (argsL := [(.long (q2 &&& (4611686018427387903 : Int64)))]) (rest := []) (lenOf pd_1 rfl) rfl (by show 2 * 0 + _ ≤ _; exact Nat.le_of_eq rfl) (hb hby at_77) (fun _ _ => ⟨rfl, rfl, (by decide : 1 + 0 ≤ _), (by decide : 2 + 0 ≤ _)⟩)
      dsimp only [Pt.U, Pt.locs, Pt.cells, Pt.slots] at X18 l18 y18 z18 st18 hQ18
      subst l18 y18 z18
      obtain ⟨rfl, Nq18, e18⟩ := hQ18
      have N18 := Fr.app N17 Nq18
      refine go (fun t kt => st18.trans kt) ?_
      show Goes p.tables e below _ (T18.setTop (mkF m 80 #[.val (.long q0), .second, .val (.long q1), .second, .val (.long q2), .second, .val (.int p3), .val (.long (q1 &&& (4611686018427387903 : Int64))), .second, .val (.long (q2 &&& (4611686018427387903 : Int64))), .second, .val (.ref b15), .unset, .unset] [(.int (own_allows (q2 &&& (4611686018427387903 : Int64)) ((0 : Int64) + (q1 &&& (4611686018427387903 : Int64))) q0))]))
      refine go (fun t kt => XS.istore X18.here hx rfl (hb hby at_80) rfl (l' := #[.val (.long q0), .second, .val (.long q1), .second, .val (.long q2), .second, .val (.int p3), .val (.long (q1 &&& (4611686018427387903 : Int64))), .second, .val (.long (q2 &&& (4611686018427387903 : Int64))), .second, .val (.ref b15), .val (.int (own_allows (q2 &&& (4611686018427387903 : Int64)) ((0 : Int64) + (q1 &&& (4611686018427387903 : Int64))) q0)), .unset]) rfl kt) ?_
      show Goes p.tables e below _ (T18.setTop (mkF m 82 #[.val (.long q0), .second, .val (.long q1), .second, .val (.long q2), .second, .val (.int p3), .val (.long (q1 &&& (4611686018427387903 : Int64))), .second, .val (.long (q2 &&& (4611686018427387903 : Int64))), .second, .val (.ref b15), .val (.int (own_allows (q2 &&& (4611686018427387903 : Int64)) ((0 : Int64) + (q1 &&& (4611686018427387903 : Int64))) q0)), .unset] []))
      refine go (fun t kt => XS.lloadN X18.here hx rfl (hb hby at_82) rfl kt) ?_
      show Goes p.tables e below _ (T18.setTop (mkF m 83 #[.val (.long q0), .second, .val (.long q1), .second, .val (.long q2), .second, .val (.int p3), .val (.long (q1 &&& (4611686018427387903 : Int64))), .second, .val (.long (q2 &&& (4611686018427387903 : Int64))), .second, .val (.ref b15), .val (.int (own_allows (q2 &&& (4611686018427387903 : Int64)) ((0 : Int64) + (q1 &&& (4611686018427387903 : Int64))) q0)), .unset] [(.long q0)]))
      refine go (fun t kt => XS.lconst X18.here hx rfl (hb hby at_83) kt) ?_
      show Goes p.tables e below _ (T18.setTop (mkF m 84 #[.val (.long q0), .second, .val (.long q1), .second, .val (.long q2), .second, .val (.int p3), .val (.long (q1 &&& (4611686018427387903 : Int64))), .second, .val (.long (q2 &&& (4611686018427387903 : Int64))), .second, .val (.ref b15), .val (.int (own_allows (q2 &&& (4611686018427387903 : Int64)) ((0 : Int64) + (q1 &&& (4611686018427387903 : Int64))) q0)), .unset] [(.long (0 : Int64)), (.long q0)]))
      refine go (fun t kt => XS.lcmp X18.here hx rfl (hb hby at_84) rfl kt) ?_
      show Goes p.tables e below _ (T18.setTop (mkF m 85 #[.val (.long q0), .second, .val (.long q1), .second, .val (.long q2), .second, .val (.int p3), .val (.long (q1 &&& (4611686018427387903 : Int64))), .second, .val (.long (q2 &&& (4611686018427387903 : Int64))), .second, .val (.ref b15), .val (.int (own_allows (q2 &&& (4611686018427387903 : Int64)) ((0 : Int64) + (q1 &&& (4611686018427387903 : Int64))) q0)), .unset] [(.int (lcmpW q0 (0 : Int64)))]))
      by_cases hc19 : q0 < (0 : Int64)
      ·
        refine go (fun t kt => XS.ifNo X18.here hx rfl (hb hby at_85) rfl ((if0 _ _).trans (tlt ((lw_lt q0 (0 : Int64)).mpr hc19)).2.1) kt) ?_
        show Goes p.tables e below _ (T18.setTop (mkF m 88 #[.val (.long q0), .second, .val (.long q1), .second, .val (.long q2), .second, .val (.int p3), .val (.long (q1 &&& (4611686018427387903 : Int64))), .second, .val (.long (q2 &&& (4611686018427387903 : Int64))), .second, .val (.ref b15), .val (.int (own_allows (q2 &&& (4611686018427387903 : Int64)) ((0 : Int64) + (q1 &&& (4611686018427387903 : Int64))) q0)), .unset] []))
        refine go (fun t kt => XS.iconst X18.here hx rfl (hb hby at_88) kt) ?_
        show Goes p.tables e below _ (T18.setTop (mkF m 89 #[.val (.long q0), .second, .val (.long q1), .second, .val (.long q2), .second, .val (.int p3), .val (.long (q1 &&& (4611686018427387903 : Int64))), .second, .val (.long (q2 &&& (4611686018427387903 : Int64))), .second, .val (.ref b15), .val (.int (own_allows (q2 &&& (4611686018427387903 : Int64)) ((0 : Int64) + (q1 &&& (4611686018427387903 : Int64))) q0)), .unset] [(.int (0 : Int32))]))
        refine go (fun t kt => XS.istore X18.here hx rfl (hb hby at_89) rfl (l' := #[.val (.long q0), .second, .val (.long q1), .second, .val (.long q2), .second, .val (.int p3), .val (.long (q1 &&& (4611686018427387903 : Int64))), .second, .val (.long (q2 &&& (4611686018427387903 : Int64))), .second, .val (.ref b15), .val (.int (own_allows (q2 &&& (4611686018427387903 : Int64)) ((0 : Int64) + (q1 &&& (4611686018427387903 : Int64))) q0)), .val (.int (0 : Int32))]) rfl kt) ?_
        show Goes p.tables e below _ (T18.setTop (mkF m 91 #[.val (.long q0), .second, .val (.long q1), .second, .val (.long q2), .second, .val (.int p3), .val (.long (q1 &&& (4611686018427387903 : Int64))), .second, .val (.long (q2 &&& (4611686018427387903 : Int64))), .second, .val (.ref b15), .val (.int (own_allows (q2 &&& (4611686018427387903 : Int64)) ((0 : Int64) + (q1 &&& (4611686018427387903 : Int64))) q0)), .val (.int (0 : Int32))] []))
        refine go (fun t kt => XS.goto X18.here hx rfl (pc0 := 91) (pc' := 111) rfl (hb hby at_91) (by decide) (by decide) kt) ?_
        show Goes p.tables e below _ (T18.setTop (mkF m 111 #[.val (.long q0), .second, .val (.long q1), .second, .val (.long q2), .second, .val (.int p3), .val (.long (q1 &&& (4611686018427387903 : Int64))), .second, .val (.long (q2 &&& (4611686018427387903 : Int64))), .second, .val (.ref b15), .val (.int (own_allows (q2 &&& (4611686018427387903 : Int64)) ((0 : Int64) + (q1 &&& (4611686018427387903 : Int64))) q0)), .val (.int (0 : Int32))] []))
        refine go (fun t kt => XS.iload X18.here hx rfl (hb hby at_111) rfl kt) ?_
        show Goes p.tables e below _ (T18.setTop (mkF m 113 #[.val (.long q0), .second, .val (.long q1), .second, .val (.long q2), .second, .val (.int p3), .val (.long (q1 &&& (4611686018427387903 : Int64))), .second, .val (.long (q2 &&& (4611686018427387903 : Int64))), .second, .val (.ref b15), .val (.int (own_allows (q2 &&& (4611686018427387903 : Int64)) ((0 : Int64) + (q1 &&& (4611686018427387903 : Int64))) q0)), .val (.int (0 : Int32))] [(.int (own_allows (q2 &&& (4611686018427387903 : Int64)) ((0 : Int64) + (q1 &&& (4611686018427387903 : Int64))) q0))]))
        refine go (fun t kt => XS.iload X18.here hx rfl (hb hby at_113) rfl kt) ?_
        show Goes p.tables e below _ (T18.setTop (mkF m 115 #[.val (.long q0), .second, .val (.long q1), .second, .val (.long q2), .second, .val (.int p3), .val (.long (q1 &&& (4611686018427387903 : Int64))), .second, .val (.long (q2 &&& (4611686018427387903 : Int64))), .second, .val (.ref b15), .val (.int (own_allows (q2 &&& (4611686018427387903 : Int64)) ((0 : Int64) + (q1 &&& (4611686018427387903 : Int64))) q0)), .val (.int (0 : Int32))] [(.int (0 : Int32)), (.int (own_allows (q2 &&& (4611686018427387903 : Int64)) ((0 : Int64) + (q1 &&& (4611686018427387903 : Int64))) q0))]))
        refine go (fun t kt => XS.icmpNo X18.here hx rfl (hb hby at_115) rfl (teq (own_neg _ _ _ (own_m q1) (own_m q2) hc19)).2 kt) ?_
        show Goes p.tables e below _ (T18.setTop (mkF m 118 #[.val (.long q0), .second, .val (.long q1), .second, .val (.long q2), .second, .val (.int p3), .val (.long (q1 &&& (4611686018427387903 : Int64))), .second, .val (.long (q2 &&& (4611686018427387903 : Int64))), .second, .val (.ref b15), .val (.int (own_allows (q2 &&& (4611686018427387903 : Int64)) ((0 : Int64) + (q1 &&& (4611686018427387903 : Int64))) q0)), .val (.int (0 : Int32))] []))
        refine go (fun t kt => XS.aload X18.here hx rfl (hb hby at_118) rfl rfl kt) ?_
        show Goes p.tables e below _ (T18.setTop (mkF m 120 #[.val (.long q0), .second, .val (.long q1), .second, .val (.long q2), .second, .val (.int p3), .val (.long (q1 &&& (4611686018427387903 : Int64))), .second, .val (.long (q2 &&& (4611686018427387903 : Int64))), .second, .val (.ref b15), .val (.int (own_allows (q2 &&& (4611686018427387903 : Int64)) ((0 : Int64) + (q1 &&& (4611686018427387903 : Int64))) q0)), .val (.int (0 : Int32))] [(.ref b15)]))
        obtain ⟨cq20, kq20, q20a, q20b, q20c⟩ := isOf hZ e18 E_b15
        obtain ⟨_, _, ⟨T20, L20, k20, n20⟩, -, X20, ⟨Lc20, hQ20, l20, y20, z20⟩, st20⟩ := X18.virtualBack hx (y := (⟨"com/example/sumbit/sumbit/protocol/TransitMemory", "held", "()J"⟩ : MethodName)) (z := (⟨"com/example/sumbit/sumbit/protocol/TransitMemory", "held", "()J"⟩ : MethodName)) hown (mvT hZ (hw _ (List.mem_of_getElem? (i := 24) rfl))) (mvT hZ (hw _ (List.mem_of_getElem? (i := 25) rfl))) (notFace_of_selects (args := #[]) (mvT hZ (hw _ (List.mem_of_getElem? (i := 27) rfl)))) (mvT hZ (hw _ (List.mem_of_getElem? (i := 27) rfl))) (mvT hZ (hw _ (List.mem_of_getElem? (i := 26) rfl))) (by decide) (backOf (W := 0) (rm5 l Z a0 hw [] b15 ((0 : Int64) + (q1 &&& (4611686018427387903 : Int64))) T17.heap n0 Zz17 F_held_b15) hZ (hw _ (List.mem_of_getElem? (i := 28) rfl)) (hw _ (List.mem_of_getElem? (i := 3) rfl)) (by decide) (by decide)) q20a q20c (g := (mkF m 120 #[.val (.long q0), .second, .val (.long q1), .second, .val (.long q2), .second, .val (.int p3), .val (.long (q1 &&& (4611686018427387903 : Int64))), .second, .val (.long (q2 &&& (4611686018427387903 : Int64))), .second, .val (.ref b15), .val (.int (own_allows (q2 &&& (4611686018427387903 : Int64)) ((0 : Int64) + (q1 &&& (4611686018427387903 : Int64))) q0)), .val (.int (0 : Int32))] [(.ref b15)])) rfl (by rw [hml]; rfl) (Steps.refl _) (argsL := []) (rest := []) (lenOf pd_2 rfl) rfl (by show 2 * 0 + _ ≤ _; exact Nat.le_of_eq rfl) (hb hby at_120) (fun _ _ => ⟨rfl, e18, (by decide : 1 + 0 ≤ _), (by decide : 2 + 0 ≤ _)⟩)
        dsimp only [Pt.U, Pt.locs, Pt.cells, Pt.slots] at X20 l20 y20 z20 st20 hQ20
        subst l20 y20 z20
        obtain ⟨rfl, Nq20, e20⟩ := hQ20
        have N20 := Fr.app N18 Nq20
        refine go (fun t kt => st20.trans kt) ?_
        show Goes p.tables e below _ (T20.setTop (mkF m 123 #[.val (.long q0), .second, .val (.long q1), .second, .val (.long q2), .second, .val (.int p3), .val (.long (q1 &&& (4611686018427387903 : Int64))), .second, .val (.long (q2 &&& (4611686018427387903 : Int64))), .second, .val (.ref b15), .val (.int (own_allows (q2 &&& (4611686018427387903 : Int64)) ((0 : Int64) + (q1 &&& (4611686018427387903 : Int64))) q0)), .val (.int (0 : Int32))] [(.long (own_held ((0 : Int64) + (q1 &&& (4611686018427387903 : Int64)))))]))
        refine go (fun t kt => XS.lload X20.here hx rfl (hb hby at_123) rfl kt) ?_
        show Goes p.tables e below _ (T20.setTop (mkF m 125 #[.val (.long q0), .second, .val (.long q1), .second, .val (.long q2), .second, .val (.int p3), .val (.long (q1 &&& (4611686018427387903 : Int64))), .second, .val (.long (q2 &&& (4611686018427387903 : Int64))), .second, .val (.ref b15), .val (.int (own_allows (q2 &&& (4611686018427387903 : Int64)) ((0 : Int64) + (q1 &&& (4611686018427387903 : Int64))) q0)), .val (.int (0 : Int32))] [(.long (q1 &&& (4611686018427387903 : Int64))), (.long (own_held ((0 : Int64) + (q1 &&& (4611686018427387903 : Int64)))))]))
        refine go (fun t kt => XS.lcmp X20.here hx rfl (hb hby at_125) rfl kt) ?_
        show Goes p.tables e below _ (T20.setTop (mkF m 126 #[.val (.long q0), .second, .val (.long q1), .second, .val (.long q2), .second, .val (.int p3), .val (.long (q1 &&& (4611686018427387903 : Int64))), .second, .val (.long (q2 &&& (4611686018427387903 : Int64))), .second, .val (.ref b15), .val (.int (own_allows (q2 &&& (4611686018427387903 : Int64)) ((0 : Int64) + (q1 &&& (4611686018427387903 : Int64))) q0)), .val (.int (0 : Int32))] [(.int (lcmpW (own_held ((0 : Int64) + (q1 &&& (4611686018427387903 : Int64)))) (q1 &&& (4611686018427387903 : Int64))))]))
        refine go (fun t kt => XS.ifNo X20.here hx rfl (hb hby at_126) rfl ((if0 _ _).trans (teq ((lw_eq (own_held ((0 : Int64) + (q1 &&& (4611686018427387903 : Int64)))) (q1 &&& (4611686018427387903 : Int64))).mpr (own_z _))).2) kt) ?_
        show Goes p.tables e below _ (T20.setTop (mkF m 129 #[.val (.long q0), .second, .val (.long q1), .second, .val (.long q2), .second, .val (.int p3), .val (.long (q1 &&& (4611686018427387903 : Int64))), .second, .val (.long (q2 &&& (4611686018427387903 : Int64))), .second, .val (.ref b15), .val (.int (own_allows (q2 &&& (4611686018427387903 : Int64)) ((0 : Int64) + (q1 &&& (4611686018427387903 : Int64))) q0)), .val (.int (0 : Int32))] []))
        refine go (fun t kt => XS.iconst X20.here hx rfl (hb hby at_129) kt) ?_
        show Goes p.tables e below _ (T20.setTop (mkF m 130 #[.val (.long q0), .second, .val (.long q1), .second, .val (.long q2), .second, .val (.int p3), .val (.long (q1 &&& (4611686018427387903 : Int64))), .second, .val (.long (q2 &&& (4611686018427387903 : Int64))), .second, .val (.ref b15), .val (.int (own_allows (q2 &&& (4611686018427387903 : Int64)) ((0 : Int64) + (q1 &&& (4611686018427387903 : Int64))) q0)), .val (.int (0 : Int32))] [(.int (1 : Int32))]))
        refine go (fun t kt => XS.goto X20.here hx rfl (pc0 := 130) (pc' := 134) rfl (hb hby at_130) (by decide) (by decide) kt) ?_
        show Goes p.tables e below _ (T20.setTop (mkF m 134 #[.val (.long q0), .second, .val (.long q1), .second, .val (.long q2), .second, .val (.int p3), .val (.long (q1 &&& (4611686018427387903 : Int64))), .second, .val (.long (q2 &&& (4611686018427387903 : Int64))), .second, .val (.ref b15), .val (.int (own_allows (q2 &&& (4611686018427387903 : Int64)) ((0 : Int64) + (q1 &&& (4611686018427387903 : Int64))) q0)), .val (.int (0 : Int32))] [(.int (1 : Int32))]))
        obtain ⟨fs, hr, hrun, hended, hW, hsame⟩ := X20.leave (v := some (.int (1 : Int32))) (fun h => by rw [Bd.returns] at h; cases h)
        refine ⟨_, _, retN X20 hx (t := .boolean) Bd.returns (by simp) (hb hby at_134) hr, hrun, hended, _, _, rfl, ?_, ⟨_, rfl⟩, hW, hsame.mono (by decide) (by decide)⟩
        show Q0 Z q0 q1 q2 p3 h0 n0 _ T20.heap _
        rw [e20]
        exact ⟨rfl, N20⟩
      ·
        refine go (fun t kt => XS.ifYes X18.here hx rfl (pc0 := 85) (pc' := 94) rfl (hb hby at_85) rfl ((if0 _ _).trans (flt (fun q => hc19 ((lw_lt q0 (0 : Int64)).mp q))).2.1) (by decide) (by decide) kt) ?_
        show Goes p.tables e below _ (T18.setTop (mkF m 94 #[.val (.long q0), .second, .val (.long q1), .second, .val (.long q2), .second, .val (.int p3), .val (.long (q1 &&& (4611686018427387903 : Int64))), .second, .val (.long (q2 &&& (4611686018427387903 : Int64))), .second, .val (.ref b15), .val (.int (own_allows (q2 &&& (4611686018427387903 : Int64)) ((0 : Int64) + (q1 &&& (4611686018427387903 : Int64))) q0)), .unset] []))
        refine go (fun t kt => XS.lload X18.here hx rfl (hb hby at_94) rfl kt) ?_
        show Goes p.tables e below _ (T18.setTop (mkF m 96 #[.val (.long q0), .second, .val (.long q1), .second, .val (.long q2), .second, .val (.int p3), .val (.long (q1 &&& (4611686018427387903 : Int64))), .second, .val (.long (q2 &&& (4611686018427387903 : Int64))), .second, .val (.ref b15), .val (.int (own_allows (q2 &&& (4611686018427387903 : Int64)) ((0 : Int64) + (q1 &&& (4611686018427387903 : Int64))) q0)), .unset] [(.long (q2 &&& (4611686018427387903 : Int64)))]))
        refine go (fun t kt => XS.lloadN X18.here hx rfl (hb hby at_96) rfl kt) ?_
        show Goes p.tables e below _ (T18.setTop (mkF m 97 #[.val (.long q0), .second, .val (.long q1), .second, .val (.long q2), .second, .val (.int p3), .val (.long (q1 &&& (4611686018427387903 : Int64))), .second, .val (.long (q2 &&& (4611686018427387903 : Int64))), .second, .val (.ref b15), .val (.int (own_allows (q2 &&& (4611686018427387903 : Int64)) ((0 : Int64) + (q1 &&& (4611686018427387903 : Int64))) q0)), .unset] [(.long q0), (.long (q2 &&& (4611686018427387903 : Int64)))]))
        refine go (fun t kt => XS.lload X18.here hx rfl (hb hby at_97) rfl kt) ?_
        show Goes p.tables e below _ (T18.setTop (mkF m 99 #[.val (.long q0), .second, .val (.long q1), .second, .val (.long q2), .second, .val (.int p3), .val (.long (q1 &&& (4611686018427387903 : Int64))), .second, .val (.long (q2 &&& (4611686018427387903 : Int64))), .second, .val (.ref b15), .val (.int (own_allows (q2 &&& (4611686018427387903 : Int64)) ((0 : Int64) + (q1 &&& (4611686018427387903 : Int64))) q0)), .unset] [(.long (q1 &&& (4611686018427387903 : Int64))), (.long q0), (.long (q2 &&& (4611686018427387903 : Int64)))]))
        refine go (fun t kt => XS.lsub X18.here hx rfl (hb hby at_99) rfl kt) ?_
        show Goes p.tables e below _ (T18.setTop (mkF m 100 #[.val (.long q0), .second, .val (.long q1), .second, .val (.long q2), .second, .val (.int p3), .val (.long (q1 &&& (4611686018427387903 : Int64))), .second, .val (.long (q2 &&& (4611686018427387903 : Int64))), .second, .val (.ref b15), .val (.int (own_allows (q2 &&& (4611686018427387903 : Int64)) ((0 : Int64) + (q1 &&& (4611686018427387903 : Int64))) q0)), .unset] [(.long (q0 - (q1 &&& (4611686018427387903 : Int64)))), (.long (q2 &&& (4611686018427387903 : Int64)))]))
        refine go (fun t kt => XS.lcmp X18.here hx rfl (hb hby at_100) rfl kt) ?_
        show Goes p.tables e below _ (T18.setTop (mkF m 101 #[.val (.long q0), .second, .val (.long q1), .second, .val (.long q2), .second, .val (.int p3), .val (.long (q1 &&& (4611686018427387903 : Int64))), .second, .val (.long (q2 &&& (4611686018427387903 : Int64))), .second, .val (.ref b15), .val (.int (own_allows (q2 &&& (4611686018427387903 : Int64)) ((0 : Int64) + (q1 &&& (4611686018427387903 : Int64))) q0)), .unset] [(.int (lcmpW (q2 &&& (4611686018427387903 : Int64)) (q0 - (q1 &&& (4611686018427387903 : Int64)))))]))
        by_cases hc22 : (q0 - (q1 &&& (4611686018427387903 : Int64))) < (q2 &&& (4611686018427387903 : Int64))
        ·
          refine go (fun t kt => XS.ifYes X18.here hx rfl (pc0 := 101) (pc' := 108) rfl (hb hby at_101) rfl ((if0 _ _).trans (tlt ((lw_gt (q2 &&& (4611686018427387903 : Int64)) (q0 - (q1 &&& (4611686018427387903 : Int64)))).mpr hc22)).2.2.1) (by decide) (by decide) kt) ?_
          show Goes p.tables e below _ (T18.setTop (mkF m 108 #[.val (.long q0), .second, .val (.long q1), .second, .val (.long q2), .second, .val (.int p3), .val (.long (q1 &&& (4611686018427387903 : Int64))), .second, .val (.long (q2 &&& (4611686018427387903 : Int64))), .second, .val (.ref b15), .val (.int (own_allows (q2 &&& (4611686018427387903 : Int64)) ((0 : Int64) + (q1 &&& (4611686018427387903 : Int64))) q0)), .unset] []))
          refine go (fun t kt => XS.iconst X18.here hx rfl (hb hby at_108) kt) ?_
          show Goes p.tables e below _ (T18.setTop (mkF m 109 #[.val (.long q0), .second, .val (.long q1), .second, .val (.long q2), .second, .val (.int p3), .val (.long (q1 &&& (4611686018427387903 : Int64))), .second, .val (.long (q2 &&& (4611686018427387903 : Int64))), .second, .val (.ref b15), .val (.int (own_allows (q2 &&& (4611686018427387903 : Int64)) ((0 : Int64) + (q1 &&& (4611686018427387903 : Int64))) q0)), .unset] [(.int (0 : Int32))]))
          refine go (fun t kt => XS.istore X18.here hx rfl (hb hby at_109) rfl (l' := #[.val (.long q0), .second, .val (.long q1), .second, .val (.long q2), .second, .val (.int p3), .val (.long (q1 &&& (4611686018427387903 : Int64))), .second, .val (.long (q2 &&& (4611686018427387903 : Int64))), .second, .val (.ref b15), .val (.int (own_allows (q2 &&& (4611686018427387903 : Int64)) ((0 : Int64) + (q1 &&& (4611686018427387903 : Int64))) q0)), .val (.int (0 : Int32))]) rfl kt) ?_
          show Goes p.tables e below _ (T18.setTop (mkF m 111 #[.val (.long q0), .second, .val (.long q1), .second, .val (.long q2), .second, .val (.int p3), .val (.long (q1 &&& (4611686018427387903 : Int64))), .second, .val (.long (q2 &&& (4611686018427387903 : Int64))), .second, .val (.ref b15), .val (.int (own_allows (q2 &&& (4611686018427387903 : Int64)) ((0 : Int64) + (q1 &&& (4611686018427387903 : Int64))) q0)), .val (.int (0 : Int32))] []))
          refine go (fun t kt => XS.iload X18.here hx rfl (hb hby at_111) rfl kt) ?_
          show Goes p.tables e below _ (T18.setTop (mkF m 113 #[.val (.long q0), .second, .val (.long q1), .second, .val (.long q2), .second, .val (.int p3), .val (.long (q1 &&& (4611686018427387903 : Int64))), .second, .val (.long (q2 &&& (4611686018427387903 : Int64))), .second, .val (.ref b15), .val (.int (own_allows (q2 &&& (4611686018427387903 : Int64)) ((0 : Int64) + (q1 &&& (4611686018427387903 : Int64))) q0)), .val (.int (0 : Int32))] [(.int (own_allows (q2 &&& (4611686018427387903 : Int64)) ((0 : Int64) + (q1 &&& (4611686018427387903 : Int64))) q0))]))
          refine go (fun t kt => XS.iload X18.here hx rfl (hb hby at_113) rfl kt) ?_
          show Goes p.tables e below _ (T18.setTop (mkF m 115 #[.val (.long q0), .second, .val (.long q1), .second, .val (.long q2), .second, .val (.int p3), .val (.long (q1 &&& (4611686018427387903 : Int64))), .second, .val (.long (q2 &&& (4611686018427387903 : Int64))), .second, .val (.ref b15), .val (.int (own_allows (q2 &&& (4611686018427387903 : Int64)) ((0 : Int64) + (q1 &&& (4611686018427387903 : Int64))) q0)), .val (.int (0 : Int32))] [(.int (0 : Int32)), (.int (own_allows (q2 &&& (4611686018427387903 : Int64)) ((0 : Int64) + (q1 &&& (4611686018427387903 : Int64))) q0))]))
          refine go (fun t kt => XS.icmpNo X18.here hx rfl (hb hby at_115) rfl (teq (own_out _ _ _ (own_m q1) (own_m q2) hc19 hc22)).2 kt) ?_
          show Goes p.tables e below _ (T18.setTop (mkF m 118 #[.val (.long q0), .second, .val (.long q1), .second, .val (.long q2), .second, .val (.int p3), .val (.long (q1 &&& (4611686018427387903 : Int64))), .second, .val (.long (q2 &&& (4611686018427387903 : Int64))), .second, .val (.ref b15), .val (.int (own_allows (q2 &&& (4611686018427387903 : Int64)) ((0 : Int64) + (q1 &&& (4611686018427387903 : Int64))) q0)), .val (.int (0 : Int32))] []))
          refine go (fun t kt => XS.aload X18.here hx rfl (hb hby at_118) rfl rfl kt) ?_
          show Goes p.tables e below _ (T18.setTop (mkF m 120 #[.val (.long q0), .second, .val (.long q1), .second, .val (.long q2), .second, .val (.int p3), .val (.long (q1 &&& (4611686018427387903 : Int64))), .second, .val (.long (q2 &&& (4611686018427387903 : Int64))), .second, .val (.ref b15), .val (.int (own_allows (q2 &&& (4611686018427387903 : Int64)) ((0 : Int64) + (q1 &&& (4611686018427387903 : Int64))) q0)), .val (.int (0 : Int32))] [(.ref b15)]))
          obtain ⟨cq23, kq23, q23a, q23b, q23c⟩ := isOf hZ e18 E_b15
          obtain ⟨_, _, ⟨T23, L23, k23, n23⟩, -, X23, ⟨Lc23, hQ23, l23, y23, z23⟩, st23⟩ := X18.virtualBack hx (y := (⟨"com/example/sumbit/sumbit/protocol/TransitMemory", "held", "()J"⟩ : MethodName)) (z := (⟨"com/example/sumbit/sumbit/protocol/TransitMemory", "held", "()J"⟩ : MethodName)) hown (mvT hZ (hw _ (List.mem_of_getElem? (i := 24) rfl))) (mvT hZ (hw _ (List.mem_of_getElem? (i := 25) rfl))) (notFace_of_selects (args := #[]) (mvT hZ (hw _ (List.mem_of_getElem? (i := 27) rfl)))) (mvT hZ (hw _ (List.mem_of_getElem? (i := 27) rfl))) (mvT hZ (hw _ (List.mem_of_getElem? (i := 26) rfl))) (by decide) (backOf (W := 0) (rm5 l Z a0 hw [] b15 ((0 : Int64) + (q1 &&& (4611686018427387903 : Int64))) T17.heap n0 Zz17 F_held_b15) hZ (hw _ (List.mem_of_getElem? (i := 28) rfl)) (hw _ (List.mem_of_getElem? (i := 3) rfl)) (by decide) (by decide)) q23a q23c (g := (mkF m 120 #[.val (.long q0), .second, .val (.long q1), .second, .val (.long q2), .second, .val (.int p3), .val (.long (q1 &&& (4611686018427387903 : Int64))), .second, .val (.long (q2 &&& (4611686018427387903 : Int64))), .second, .val (.ref b15), .val (.int (own_allows (q2 &&& (4611686018427387903 : Int64)) ((0 : Int64) + (q1 &&& (4611686018427387903 : Int64))) q0)), .val (.int (0 : Int32))] [(.ref b15)])) rfl (by rw [hml]; rfl) (Steps.refl _) (argsL := []) (rest := []) (lenOf pd_2 rfl) rfl (by show 2 * 0 + _ ≤ _; exact Nat.le_of_eq rfl) (hb hby at_120) (fun _ _ => ⟨rfl, e18, (by decide : 1 + 0 ≤ _), (by decide : 2 + 0 ≤ _)⟩)
          dsimp only [Pt.U, Pt.locs, Pt.cells, Pt.slots] at X23 l23 y23 z23 st23 hQ23
          subst l23 y23 z23
          obtain ⟨rfl, Nq23, e23⟩ := hQ23
          have N23 := Fr.app N18 Nq23
          refine go (fun t kt => st23.trans kt) ?_
          show Goes p.tables e below _ (T23.setTop (mkF m 123 #[.val (.long q0), .second, .val (.long q1), .second, .val (.long q2), .second, .val (.int p3), .val (.long (q1 &&& (4611686018427387903 : Int64))), .second, .val (.long (q2 &&& (4611686018427387903 : Int64))), .second, .val (.ref b15), .val (.int (own_allows (q2 &&& (4611686018427387903 : Int64)) ((0 : Int64) + (q1 &&& (4611686018427387903 : Int64))) q0)), .val (.int (0 : Int32))] [(.long (own_held ((0 : Int64) + (q1 &&& (4611686018427387903 : Int64)))))]))
          refine go (fun t kt => XS.lload X23.here hx rfl (hb hby at_123) rfl kt) ?_
          show Goes p.tables e below _ (T23.setTop (mkF m 125 #[.val (.long q0), .second, .val (.long q1), .second, .val (.long q2), .second, .val (.int p3), .val (.long (q1 &&& (4611686018427387903 : Int64))), .second, .val (.long (q2 &&& (4611686018427387903 : Int64))), .second, .val (.ref b15), .val (.int (own_allows (q2 &&& (4611686018427387903 : Int64)) ((0 : Int64) + (q1 &&& (4611686018427387903 : Int64))) q0)), .val (.int (0 : Int32))] [(.long (q1 &&& (4611686018427387903 : Int64))), (.long (own_held ((0 : Int64) + (q1 &&& (4611686018427387903 : Int64)))))]))
          refine go (fun t kt => XS.lcmp X23.here hx rfl (hb hby at_125) rfl kt) ?_
          show Goes p.tables e below _ (T23.setTop (mkF m 126 #[.val (.long q0), .second, .val (.long q1), .second, .val (.long q2), .second, .val (.int p3), .val (.long (q1 &&& (4611686018427387903 : Int64))), .second, .val (.long (q2 &&& (4611686018427387903 : Int64))), .second, .val (.ref b15), .val (.int (own_allows (q2 &&& (4611686018427387903 : Int64)) ((0 : Int64) + (q1 &&& (4611686018427387903 : Int64))) q0)), .val (.int (0 : Int32))] [(.int (lcmpW (own_held ((0 : Int64) + (q1 &&& (4611686018427387903 : Int64)))) (q1 &&& (4611686018427387903 : Int64))))]))
          refine go (fun t kt => XS.ifNo X23.here hx rfl (hb hby at_126) rfl ((if0 _ _).trans (teq ((lw_eq (own_held ((0 : Int64) + (q1 &&& (4611686018427387903 : Int64)))) (q1 &&& (4611686018427387903 : Int64))).mpr (own_z _))).2) kt) ?_
          show Goes p.tables e below _ (T23.setTop (mkF m 129 #[.val (.long q0), .second, .val (.long q1), .second, .val (.long q2), .second, .val (.int p3), .val (.long (q1 &&& (4611686018427387903 : Int64))), .second, .val (.long (q2 &&& (4611686018427387903 : Int64))), .second, .val (.ref b15), .val (.int (own_allows (q2 &&& (4611686018427387903 : Int64)) ((0 : Int64) + (q1 &&& (4611686018427387903 : Int64))) q0)), .val (.int (0 : Int32))] []))
          refine go (fun t kt => XS.iconst X23.here hx rfl (hb hby at_129) kt) ?_
          show Goes p.tables e below _ (T23.setTop (mkF m 130 #[.val (.long q0), .second, .val (.long q1), .second, .val (.long q2), .second, .val (.int p3), .val (.long (q1 &&& (4611686018427387903 : Int64))), .second, .val (.long (q2 &&& (4611686018427387903 : Int64))), .second, .val (.ref b15), .val (.int (own_allows (q2 &&& (4611686018427387903 : Int64)) ((0 : Int64) + (q1 &&& (4611686018427387903 : Int64))) q0)), .val (.int (0 : Int32))] [(.int (1 : Int32))]))
          refine go (fun t kt => XS.goto X23.here hx rfl (pc0 := 130) (pc' := 134) rfl (hb hby at_130) (by decide) (by decide) kt) ?_
          show Goes p.tables e below _ (T23.setTop (mkF m 134 #[.val (.long q0), .second, .val (.long q1), .second, .val (.long q2), .second, .val (.int p3), .val (.long (q1 &&& (4611686018427387903 : Int64))), .second, .val (.long (q2 &&& (4611686018427387903 : Int64))), .second, .val (.ref b15), .val (.int (own_allows (q2 &&& (4611686018427387903 : Int64)) ((0 : Int64) + (q1 &&& (4611686018427387903 : Int64))) q0)), .val (.int (0 : Int32))] [(.int (1 : Int32))]))
          obtain ⟨fs, hr, hrun, hended, hW, hsame⟩ := X23.leave (v := some (.int (1 : Int32))) (fun h => by rw [Bd.returns] at h; cases h)
          refine ⟨_, _, retN X23 hx (t := .boolean) Bd.returns (by simp) (hb hby at_134) hr, hrun, hended, _, _, rfl, ?_, ⟨_, rfl⟩, hW, hsame.mono (by decide) (by decide)⟩
          show Q0 Z q0 q1 q2 p3 h0 n0 _ T23.heap _
          rw [e23]
          exact ⟨rfl, N23⟩
        ·
          refine go (fun t kt => XS.ifNo X18.here hx rfl (hb hby at_101) rfl ((if0 _ _).trans (flt (fun q => hc22 ((lw_gt (q2 &&& (4611686018427387903 : Int64)) (q0 - (q1 &&& (4611686018427387903 : Int64)))).mp q))).2.2.1) kt) ?_
          show Goes p.tables e below _ (T18.setTop (mkF m 104 #[.val (.long q0), .second, .val (.long q1), .second, .val (.long q2), .second, .val (.int p3), .val (.long (q1 &&& (4611686018427387903 : Int64))), .second, .val (.long (q2 &&& (4611686018427387903 : Int64))), .second, .val (.ref b15), .val (.int (own_allows (q2 &&& (4611686018427387903 : Int64)) ((0 : Int64) + (q1 &&& (4611686018427387903 : Int64))) q0)), .unset] []))
          refine go (fun t kt => XS.iconst X18.here hx rfl (hb hby at_104) kt) ?_
          show Goes p.tables e below _ (T18.setTop (mkF m 105 #[.val (.long q0), .second, .val (.long q1), .second, .val (.long q2), .second, .val (.int p3), .val (.long (q1 &&& (4611686018427387903 : Int64))), .second, .val (.long (q2 &&& (4611686018427387903 : Int64))), .second, .val (.ref b15), .val (.int (own_allows (q2 &&& (4611686018427387903 : Int64)) ((0 : Int64) + (q1 &&& (4611686018427387903 : Int64))) q0)), .unset] [(.int (1 : Int32))]))
          refine go (fun t kt => XS.goto X18.here hx rfl (pc0 := 105) (pc' := 109) rfl (hb hby at_105) (by decide) (by decide) kt) ?_
          show Goes p.tables e below _ (T18.setTop (mkF m 109 #[.val (.long q0), .second, .val (.long q1), .second, .val (.long q2), .second, .val (.int p3), .val (.long (q1 &&& (4611686018427387903 : Int64))), .second, .val (.long (q2 &&& (4611686018427387903 : Int64))), .second, .val (.ref b15), .val (.int (own_allows (q2 &&& (4611686018427387903 : Int64)) ((0 : Int64) + (q1 &&& (4611686018427387903 : Int64))) q0)), .unset] [(.int (1 : Int32))]))
          refine go (fun t kt => XS.istore X18.here hx rfl (hb hby at_109) rfl (l' := #[.val (.long q0), .second, .val (.long q1), .second, .val (.long q2), .second, .val (.int p3), .val (.long (q1 &&& (4611686018427387903 : Int64))), .second, .val (.long (q2 &&& (4611686018427387903 : Int64))), .second, .val (.ref b15), .val (.int (own_allows (q2 &&& (4611686018427387903 : Int64)) ((0 : Int64) + (q1 &&& (4611686018427387903 : Int64))) q0)), .val (.int (1 : Int32))]) rfl kt) ?_
          show Goes p.tables e below _ (T18.setTop (mkF m 111 #[.val (.long q0), .second, .val (.long q1), .second, .val (.long q2), .second, .val (.int p3), .val (.long (q1 &&& (4611686018427387903 : Int64))), .second, .val (.long (q2 &&& (4611686018427387903 : Int64))), .second, .val (.ref b15), .val (.int (own_allows (q2 &&& (4611686018427387903 : Int64)) ((0 : Int64) + (q1 &&& (4611686018427387903 : Int64))) q0)), .val (.int (1 : Int32))] []))
          refine go (fun t kt => XS.iload X18.here hx rfl (hb hby at_111) rfl kt) ?_
          show Goes p.tables e below _ (T18.setTop (mkF m 113 #[.val (.long q0), .second, .val (.long q1), .second, .val (.long q2), .second, .val (.int p3), .val (.long (q1 &&& (4611686018427387903 : Int64))), .second, .val (.long (q2 &&& (4611686018427387903 : Int64))), .second, .val (.ref b15), .val (.int (own_allows (q2 &&& (4611686018427387903 : Int64)) ((0 : Int64) + (q1 &&& (4611686018427387903 : Int64))) q0)), .val (.int (1 : Int32))] [(.int (own_allows (q2 &&& (4611686018427387903 : Int64)) ((0 : Int64) + (q1 &&& (4611686018427387903 : Int64))) q0))]))
          refine go (fun t kt => XS.iload X18.here hx rfl (hb hby at_113) rfl kt) ?_
          show Goes p.tables e below _ (T18.setTop (mkF m 115 #[.val (.long q0), .second, .val (.long q1), .second, .val (.long q2), .second, .val (.int p3), .val (.long (q1 &&& (4611686018427387903 : Int64))), .second, .val (.long (q2 &&& (4611686018427387903 : Int64))), .second, .val (.ref b15), .val (.int (own_allows (q2 &&& (4611686018427387903 : Int64)) ((0 : Int64) + (q1 &&& (4611686018427387903 : Int64))) q0)), .val (.int (1 : Int32))] [(.int (1 : Int32)), (.int (own_allows (q2 &&& (4611686018427387903 : Int64)) ((0 : Int64) + (q1 &&& (4611686018427387903 : Int64))) q0))]))
          refine go (fun t kt => XS.icmpNo X18.here hx rfl (hb hby at_115) rfl (teq (own_in _ _ _ (own_m q1) (own_m q2) hc19 hc22)).2 kt) ?_
          show Goes p.tables e below _ (T18.setTop (mkF m 118 #[.val (.long q0), .second, .val (.long q1), .second, .val (.long q2), .second, .val (.int p3), .val (.long (q1 &&& (4611686018427387903 : Int64))), .second, .val (.long (q2 &&& (4611686018427387903 : Int64))), .second, .val (.ref b15), .val (.int (own_allows (q2 &&& (4611686018427387903 : Int64)) ((0 : Int64) + (q1 &&& (4611686018427387903 : Int64))) q0)), .val (.int (1 : Int32))] []))
          refine go (fun t kt => XS.aload X18.here hx rfl (hb hby at_118) rfl rfl kt) ?_
          show Goes p.tables e below _ (T18.setTop (mkF m 120 #[.val (.long q0), .second, .val (.long q1), .second, .val (.long q2), .second, .val (.int p3), .val (.long (q1 &&& (4611686018427387903 : Int64))), .second, .val (.long (q2 &&& (4611686018427387903 : Int64))), .second, .val (.ref b15), .val (.int (own_allows (q2 &&& (4611686018427387903 : Int64)) ((0 : Int64) + (q1 &&& (4611686018427387903 : Int64))) q0)), .val (.int (1 : Int32))] [(.ref b15)]))
          obtain ⟨cq25, kq25, q25a, q25b, q25c⟩ := isOf hZ e18 E_b15
          obtain ⟨_, _, ⟨T25, L25, k25, n25⟩, -, X25, ⟨Lc25, hQ25, l25, y25, z25⟩, st25⟩ := X18.virtualBack hx (y := (⟨"com/example/sumbit/sumbit/protocol/TransitMemory", "held", "()J"⟩ : MethodName)) (z := (⟨"com/example/sumbit/sumbit/protocol/TransitMemory", "held", "()J"⟩ : MethodName)) hown (mvT hZ (hw _ (List.mem_of_getElem? (i := 24) rfl))) (mvT hZ (hw _ (List.mem_of_getElem? (i := 25) rfl))) (notFace_of_selects (args := #[]) (mvT hZ (hw _ (List.mem_of_getElem? (i := 27) rfl)))) (mvT hZ (hw _ (List.mem_of_getElem? (i := 27) rfl))) (mvT hZ (hw _ (List.mem_of_getElem? (i := 26) rfl))) (by decide) (backOf (W := 0) (rm5 l Z a0 hw [] b15 ((0 : Int64) + (q1 &&& (4611686018427387903 : Int64))) T17.heap n0 Zz17 F_held_b15) hZ (hw _ (List.mem_of_getElem? (i := 28) rfl)) (hw _ (List.mem_of_getElem? (i := 3) rfl)) (by decide) (by decide)) q25a q25c (g := (mkF m 120 #[.val (.long q0), .second, .val (.long q1), .second, .val (.long q2), .second, .val (.int p3), .val (.long (q1 &&& (4611686018427387903 : Int64))), .second, .val (.long (q2 &&& (4611686018427387903 : Int64))), .second, .val (.ref b15), .val (.int (own_allows (q2 &&& (4611686018427387903 : Int64)) ((0 : Int64) + (q1 &&& (4611686018427387903 : Int64))) q0)), .val (.int (1 : Int32))] [(.ref b15)])) rfl (by rw [hml]; rfl) (Steps.refl _) (argsL := []) (rest := []) (lenOf pd_2 rfl) rfl (by show 2 * 0 + _ ≤ _; exact Nat.le_of_eq rfl) (hb hby at_120) (fun _ _ => ⟨rfl, e18, (by decide : 1 + 0 ≤ _), (by decide : 2 + 0 ≤ _)⟩)
          dsimp only [Pt.U, Pt.locs, Pt.cells, Pt.slots] at X25 l25 y25 z25 st25 hQ25
          subst l25 y25 z25
          obtain ⟨rfl, Nq25, e25⟩ := hQ25
          have N25 := Fr.app N18 Nq25
          refine go (fun t kt => st25.trans kt) ?_
          show Goes p.tables e below _ (T25.setTop (mkF m 123 #[.val (.long q0), .second, .val (.long q1), .second, .val (.long q2), .second, .val (.int p3), .val (.long (q1 &&& (4611686018427387903 : Int64))), .second, .val (.long (q2 &&& (4611686018427387903 : Int64))), .second, .val (.ref b15), .val (.int (own_allows (q2 &&& (4611686018427387903 : Int64)) ((0 : Int64) + (q1 &&& (4611686018427387903 : Int64))) q0)), .val (.int (1 : Int32))] [(.long (own_held ((0 : Int64) + (q1 &&& (4611686018427387903 : Int64)))))]))
          refine go (fun t kt => XS.lload X25.here hx rfl (hb hby at_123) rfl kt) ?_
          show Goes p.tables e below _ (T25.setTop (mkF m 125 #[.val (.long q0), .second, .val (.long q1), .second, .val (.long q2), .second, .val (.int p3), .val (.long (q1 &&& (4611686018427387903 : Int64))), .second, .val (.long (q2 &&& (4611686018427387903 : Int64))), .second, .val (.ref b15), .val (.int (own_allows (q2 &&& (4611686018427387903 : Int64)) ((0 : Int64) + (q1 &&& (4611686018427387903 : Int64))) q0)), .val (.int (1 : Int32))] [(.long (q1 &&& (4611686018427387903 : Int64))), (.long (own_held ((0 : Int64) + (q1 &&& (4611686018427387903 : Int64)))))]))
          refine go (fun t kt => XS.lcmp X25.here hx rfl (hb hby at_125) rfl kt) ?_
          show Goes p.tables e below _ (T25.setTop (mkF m 126 #[.val (.long q0), .second, .val (.long q1), .second, .val (.long q2), .second, .val (.int p3), .val (.long (q1 &&& (4611686018427387903 : Int64))), .second, .val (.long (q2 &&& (4611686018427387903 : Int64))), .second, .val (.ref b15), .val (.int (own_allows (q2 &&& (4611686018427387903 : Int64)) ((0 : Int64) + (q1 &&& (4611686018427387903 : Int64))) q0)), .val (.int (1 : Int32))] [(.int (lcmpW (own_held ((0 : Int64) + (q1 &&& (4611686018427387903 : Int64)))) (q1 &&& (4611686018427387903 : Int64))))]))
          refine go (fun t kt => XS.ifNo X25.here hx rfl (hb hby at_126) rfl ((if0 _ _).trans (teq ((lw_eq (own_held ((0 : Int64) + (q1 &&& (4611686018427387903 : Int64)))) (q1 &&& (4611686018427387903 : Int64))).mpr (own_z _))).2) kt) ?_
          show Goes p.tables e below _ (T25.setTop (mkF m 129 #[.val (.long q0), .second, .val (.long q1), .second, .val (.long q2), .second, .val (.int p3), .val (.long (q1 &&& (4611686018427387903 : Int64))), .second, .val (.long (q2 &&& (4611686018427387903 : Int64))), .second, .val (.ref b15), .val (.int (own_allows (q2 &&& (4611686018427387903 : Int64)) ((0 : Int64) + (q1 &&& (4611686018427387903 : Int64))) q0)), .val (.int (1 : Int32))] []))
          refine go (fun t kt => XS.iconst X25.here hx rfl (hb hby at_129) kt) ?_
          show Goes p.tables e below _ (T25.setTop (mkF m 130 #[.val (.long q0), .second, .val (.long q1), .second, .val (.long q2), .second, .val (.int p3), .val (.long (q1 &&& (4611686018427387903 : Int64))), .second, .val (.long (q2 &&& (4611686018427387903 : Int64))), .second, .val (.ref b15), .val (.int (own_allows (q2 &&& (4611686018427387903 : Int64)) ((0 : Int64) + (q1 &&& (4611686018427387903 : Int64))) q0)), .val (.int (1 : Int32))] [(.int (1 : Int32))]))
          refine go (fun t kt => XS.goto X25.here hx rfl (pc0 := 130) (pc' := 134) rfl (hb hby at_130) (by decide) (by decide) kt) ?_
          show Goes p.tables e below _ (T25.setTop (mkF m 134 #[.val (.long q0), .second, .val (.long q1), .second, .val (.long q2), .second, .val (.int p3), .val (.long (q1 &&& (4611686018427387903 : Int64))), .second, .val (.long (q2 &&& (4611686018427387903 : Int64))), .second, .val (.ref b15), .val (.int (own_allows (q2 &&& (4611686018427387903 : Int64)) ((0 : Int64) + (q1 &&& (4611686018427387903 : Int64))) q0)), .val (.int (1 : Int32))] [(.int (1 : Int32))]))
          obtain ⟨fs, hr, hrun, hended, hW, hsame⟩ := X25.leave (v := some (.int (1 : Int32))) (fun h => by rw [Bd.returns] at h; cases h)
          refine ⟨_, _, retN X25 hx (t := .boolean) Bd.returns (by simp) (hb hby at_134) hr, hrun, hended, _, _, rfl, ?_, ⟨_, rfl⟩, hW, hsame.mono (by decide) (by decide)⟩
          show Q0 Z q0 q1 q2 p3 h0 n0 _ T25.heap _
          rw [e25]
          exact ⟨rfl, N25⟩
    ·
      refine go (fun t kt => XS.ifNo X0.here hx rfl (hb hby at_40) rfl ((if0 _ _).trans (flt (fun q => hc14 ((lw_lt ((q0 - (q1 &&& (4611686018427387903 : Int64))) + (((p3 &&& (3 : Int32)) - (1 : Int32)).toInt64)) (0 : Int64)).mp q))).1) kt) ?_
      show Goes p.tables e below _ (s₁.setTop (mkF m 43 #[.val (.long q0), .second, .val (.long q1), .second, .val (.long q2), .second, .val (.int p3), .val (.long (q1 &&& (4611686018427387903 : Int64))), .second, .val (.long (q2 &&& (4611686018427387903 : Int64))), .second, .val (.long ((q0 - (q1 &&& (4611686018427387903 : Int64))) + (((p3 &&& (3 : Int32)) - (1 : Int32)).toInt64))), .second, .unset] []))
      refine go (fun t kt => XS.lload X0.here hx rfl (hb hby at_43) rfl kt) ?_
      show Goes p.tables e below _ (s₁.setTop (mkF m 45 #[.val (.long q0), .second, .val (.long q1), .second, .val (.long q2), .second, .val (.int p3), .val (.long (q1 &&& (4611686018427387903 : Int64))), .second, .val (.long (q2 &&& (4611686018427387903 : Int64))), .second, .val (.long ((q0 - (q1 &&& (4611686018427387903 : Int64))) + (((p3 &&& (3 : Int32)) - (1 : Int32)).toInt64))), .second, .unset] [(.long ((q0 - (q1 &&& (4611686018427387903 : Int64))) + (((p3 &&& (3 : Int32)) - (1 : Int32)).toInt64)))]))
      refine go (X0.ldc2Long hx hown (mvT hZ (hw _ (List.mem_of_getElem? (i := 0) rfl))) (g := (mkF m 45 #[.val (.long q0), .second, .val (.long q1), .second, .val (.long q2), .second, .val (.int p3), .val (.long (q1 &&& (4611686018427387903 : Int64))), .second, .val (.long (q2 &&& (4611686018427387903 : Int64))), .second, .val (.long ((q0 - (q1 &&& (4611686018427387903 : Int64))) + (((p3 &&& (3 : Int32)) - (1 : Int32)).toInt64))), .second, .unset] [(.long ((q0 - (q1 &&& (4611686018427387903 : Int64))) + (((p3 &&& (3 : Int32)) - (1 : Int32)).toInt64)))])) rfl (hb hby at_45)) ?_
      show Goes p.tables e below _ (s₁.setTop (mkF m 48 #[.val (.long q0), .second, .val (.long q1), .second, .val (.long q2), .second, .val (.int p3), .val (.long (q1 &&& (4611686018427387903 : Int64))), .second, .val (.long (q2 &&& (4611686018427387903 : Int64))), .second, .val (.long ((q0 - (q1 &&& (4611686018427387903 : Int64))) + (((p3 &&& (3 : Int32)) - (1 : Int32)).toInt64))), .second, .unset] [(.long (4611686018427387903 : Int64)), (.long ((q0 - (q1 &&& (4611686018427387903 : Int64))) + (((p3 &&& (3 : Int32)) - (1 : Int32)).toInt64)))]))
      refine go (fun t kt => XS.lcmp X0.here hx rfl (hb hby at_48) rfl kt) ?_
      show Goes p.tables e below _ (s₁.setTop (mkF m 49 #[.val (.long q0), .second, .val (.long q1), .second, .val (.long q2), .second, .val (.int p3), .val (.long (q1 &&& (4611686018427387903 : Int64))), .second, .val (.long (q2 &&& (4611686018427387903 : Int64))), .second, .val (.long ((q0 - (q1 &&& (4611686018427387903 : Int64))) + (((p3 &&& (3 : Int32)) - (1 : Int32)).toInt64))), .second, .unset] [(.int (lcmpW ((q0 - (q1 &&& (4611686018427387903 : Int64))) + (((p3 &&& (3 : Int32)) - (1 : Int32)).toInt64)) (4611686018427387903 : Int64)))]))
      by_cases hc27 : (4611686018427387903 : Int64) < ((q0 - (q1 &&& (4611686018427387903 : Int64))) + (((p3 &&& (3 : Int32)) - (1 : Int32)).toInt64))
      ·
        refine go (fun t kt => XS.ifYes X0.here hx rfl (pc0 := 49) (pc' := 56) rfl (hb hby at_49) rfl ((if0 _ _).trans (tlt ((lw_gt ((q0 - (q1 &&& (4611686018427387903 : Int64))) + (((p3 &&& (3 : Int32)) - (1 : Int32)).toInt64)) (4611686018427387903 : Int64)).mpr hc27)).2.2.1) (by decide) (by decide) kt) ?_
        show Goes p.tables e below _ (s₁.setTop (mkF m 56 #[.val (.long q0), .second, .val (.long q1), .second, .val (.long q2), .second, .val (.int p3), .val (.long (q1 &&& (4611686018427387903 : Int64))), .second, .val (.long (q2 &&& (4611686018427387903 : Int64))), .second, .val (.long ((q0 - (q1 &&& (4611686018427387903 : Int64))) + (((p3 &&& (3 : Int32)) - (1 : Int32)).toInt64))), .second, .unset] []))
        obtain ⟨T28, h28, X28, e28, E28, A28, D28, -, st28⟩ := newO X0 hx hZ hown (hw _ (List.mem_of_getElem? (i := 1) rfl)) (hw _ (List.mem_of_getElem? (i := 2) rfl)) (hw _ (List.mem_of_getElem? (i := 3) rfl)) e0 (g := (mkF m 56 #[.val (.long q0), .second, .val (.long q1), .second, .val (.long q2), .second, .val (.int p3), .val (.long (q1 &&& (4611686018427387903 : Int64))), .second, .val (.long (q2 &&& (4611686018427387903 : Int64))), .second, .val (.long ((q0 - (q1 &&& (4611686018427387903 : Int64))) + (((p3 &&& (3 : Int32)) - (1 : Int32)).toInt64))), .second, .unset] [])) rfl (hb hby at_56) (by decide) (by decide)
        obtain ⟨b28, g28⟩ : ∃ z, z = h0.size := ⟨_, rfl⟩
        rw [← g28] at A28 D28 st28
        have g_b28 : n0 ≤ b28 := Nat.le_trans Z0 (Nat.le_of_eq g28.symm)
        have sz_b28 : h0.size ≤ b28 := Nat.le_trans K0.1 (Nat.le_of_eq g28.symm)
        have Zz28 := Nat.le_trans Z0 E28.1
        have Kk28 := K0.ext E28
        have E_b28 := A28
        have F_limit_b28 : Fld Z h28 b28 "com/example/sumbit/sumbit/protocol/TransitMemory" "limit" "J" (.long (0 : Int64)) := D28 (Or.inr (hw _ (List.mem_of_getElem? (i := 11) rfl))) (ty := .long) (by decide)
        have F_held_b28 : Fld Z h28 b28 "com/example/sumbit/sumbit/protocol/TransitMemory" "held" "J" (.long (0 : Int64)) := D28 (Or.inl (hw _ (List.mem_of_getElem? (i := 18) rfl))) (ty := .long) (by decide)
        refine go st28 ?_
        show Goes p.tables e below _ (T28.setTop (mkF m 59 #[.val (.long q0), .second, .val (.long q1), .second, .val (.long q2), .second, .val (.int p3), .val (.long (q1 &&& (4611686018427387903 : Int64))), .second, .val (.long (q2 &&& (4611686018427387903 : Int64))), .second, .val (.long ((q0 - (q1 &&& (4611686018427387903 : Int64))) + (((p3 &&& (3 : Int32)) - (1 : Int32)).toInt64))), .second, .unset] [(.ref b28)]))
        refine go (fun t kt => XS.dup X28.here hx rfl (hb hby at_59) rfl rfl kt) ?_
        show Goes p.tables e below _ (T28.setTop (mkF m 60 #[.val (.long q0), .second, .val (.long q1), .second, .val (.long q2), .second, .val (.int p3), .val (.long (q1 &&& (4611686018427387903 : Int64))), .second, .val (.long (q2 &&& (4611686018427387903 : Int64))), .second, .val (.long ((q0 - (q1 &&& (4611686018427387903 : Int64))) + (((p3 &&& (3 : Int32)) - (1 : Int32)).toInt64))), .second, .unset] [(.ref b28), (.ref b28)]))
        refine go (fun t kt => XS.lloadN X28.here hx rfl (hb hby at_60) rfl kt) ?_
        show Goes p.tables e below _ (T28.setTop (mkF m 61 #[.val (.long q0), .second, .val (.long q1), .second, .val (.long q2), .second, .val (.int p3), .val (.long (q1 &&& (4611686018427387903 : Int64))), .second, .val (.long (q2 &&& (4611686018427387903 : Int64))), .second, .val (.long ((q0 - (q1 &&& (4611686018427387903 : Int64))) + (((p3 &&& (3 : Int32)) - (1 : Int32)).toInt64))), .second, .unset] [(.long q0), (.ref b28), (.ref b28)]))
        obtain ⟨_, _, ⟨T29, L29, k29, n29⟩, -, X29, ⟨Lc29, hQ29, l29, y29, z29⟩, st29⟩ := X28.specialBack hx (y := (⟨"com/example/sumbit/sumbit/protocol/TransitMemory", "<init>", "(J)V"⟩ : MethodName)) rfl hown (mvT hZ (hw _ (List.mem_of_getElem? (i := 4) rfl))) (mvT hZ (hw _ (List.mem_of_getElem? (i := 5) rfl))) (mvT hZ (hw _ (List.mem_of_getElem? (i := 6) rfl))) (by decide) (backOf (W := 1) (rm1 l Z a0 hw [] b28 q0 (.long (0 : Int64)) (.long (0 : Int64)) h28 n0 Zz28 E_b28 F_limit_b28 F_held_b28 g_b28) hZ (hw _ (List.mem_of_getElem? (i := 6) rfl)) (hw _ (List.mem_of_getElem? (i := 3) rfl)) (by decide) (by decide)) (g := (mkF m 61 #[.val (.long q0), .second, .val (.long q1), .second, .val (.long q2), .second, .val (.int p3), .val (.long (q1 &&& (4611686018427387903 : Int64))), .second, .val (.long (q2 &&& (4611686018427387903 : Int64))), .second, .val (.long ((q0 - (q1 &&& (4611686018427387903 : Int64))) + (((p3 &&& (3 : Int32)) - (1 : Int32)).toInt64))), .second, .unset] [(.long q0), (.ref b28), (.ref b28)])) rfl (by rw [hml]; rfl) (Steps.refl _) (a := b28) (argsL := [(.long q0)]) (rest := [(.ref b28)]) (lenOf pd_0 rfl) rfl (by show 2 * 0 + _ ≤ _; exact Nat.le_of_eq rfl) (hb hby at_61) (fun _ _ => ⟨rfl, e28, (by decide : 1 + 0 ≤ _), (by decide : 2 + 0 ≤ _)⟩)
        dsimp only [Pt.U, Pt.locs, Pt.cells, Pt.slots] at X29 l29 y29 z29 st29 hQ29
        subst l29 y29 z29
        obtain ⟨rfl, Nq29, Kq29, Eq29_o0, Fq29_limit_o0, Fq29_held_o0⟩ := hQ29
        replace E_b28 := E_b28.keep Kq29
        clear F_limit_b28
        clear F_held_b28
        have Zz29 := Nat.le_trans Zz28 Kq29.1
        have Kk29 := Kk28.trans Kq29 (allS (Or.inr sz_b28) all0)
        have E_b28 := Eq29_o0
        have F_limit_b28 := Fq29_limit_o0
        have F_held_b28 := Fq29_held_o0
        have N29 := Fr.app N0 Nq29
        refine go (fun t kt => st29.trans kt) ?_
        show Goes p.tables e below _ (T29.setTop (mkF m 64 #[.val (.long q0), .second, .val (.long q1), .second, .val (.long q2), .second, .val (.int p3), .val (.long (q1 &&& (4611686018427387903 : Int64))), .second, .val (.long (q2 &&& (4611686018427387903 : Int64))), .second, .val (.long ((q0 - (q1 &&& (4611686018427387903 : Int64))) + (((p3 &&& (3 : Int32)) - (1 : Int32)).toInt64))), .second, .unset] [(.ref b28)]))
        refine go (fun t kt => XS.astore X29.here hx rfl (hb hby at_64) rfl rfl (l' := #[.val (.long q0), .second, .val (.long q1), .second, .val (.long q2), .second, .val (.int p3), .val (.long (q1 &&& (4611686018427387903 : Int64))), .second, .val (.long (q2 &&& (4611686018427387903 : Int64))), .second, .val (.ref b28), .unset, .unset]) rfl kt) ?_
        show Goes p.tables e below _ (T29.setTop (mkF m 66 #[.val (.long q0), .second, .val (.long q1), .second, .val (.long q2), .second, .val (.int p3), .val (.long (q1 &&& (4611686018427387903 : Int64))), .second, .val (.long (q2 &&& (4611686018427387903 : Int64))), .second, .val (.ref b28), .unset, .unset] []))
        refine go (fun t kt => XS.aload X29.here hx rfl (hb hby at_66) rfl rfl kt) ?_
        show Goes p.tables e below _ (T29.setTop (mkF m 68 #[.val (.long q0), .second, .val (.long q1), .second, .val (.long q2), .second, .val (.int p3), .val (.long (q1 &&& (4611686018427387903 : Int64))), .second, .val (.long (q2 &&& (4611686018427387903 : Int64))), .second, .val (.ref b28), .unset, .unset] [(.ref b28)]))
        refine go (fun t kt => XS.lload X29.here hx rfl (hb hby at_68) rfl kt) ?_
        show Goes p.tables e below _ (T29.setTop (mkF m 70 #[.val (.long q0), .second, .val (.long q1), .second, .val (.long q2), .second, .val (.int p3), .val (.long (q1 &&& (4611686018427387903 : Int64))), .second, .val (.long (q2 &&& (4611686018427387903 : Int64))), .second, .val (.ref b28), .unset, .unset] [(.long (q1 &&& (4611686018427387903 : Int64))), (.ref b28)]))
        obtain ⟨cq30, kq30, q30a, q30b, q30c⟩ := isOf hZ rfl E_b28
        obtain ⟨_, _, ⟨T30, L30, k30, n30⟩, -, X30, ⟨Lc30, hQ30, l30, y30, z30⟩, st30⟩ := X29.virtualBack hx (y := (⟨"com/example/sumbit/sumbit/protocol/TransitMemory", "take", "(J)V"⟩ : MethodName)) (z := (⟨"com/example/sumbit/sumbit/protocol/TransitMemory", "take", "(J)V"⟩ : MethodName)) hown (mvT hZ (hw _ (List.mem_of_getElem? (i := 12) rfl))) (mvT hZ (hw _ (List.mem_of_getElem? (i := 13) rfl))) (notFace_of_selects (args := #[]) (mvT hZ (hw _ (List.mem_of_getElem? (i := 15) rfl)))) (mvT hZ (hw _ (List.mem_of_getElem? (i := 15) rfl))) (mvT hZ (hw _ (List.mem_of_getElem? (i := 14) rfl))) (by decide) (backOf (W := 0) (rm3 l Z a0 hw [] b28 (q1 &&& (4611686018427387903 : Int64)) q0 (0 : Int64) T29.heap n0 Zz29 E_b28 F_limit_b28 F_held_b28 g_b28) hZ (hw _ (List.mem_of_getElem? (i := 16) rfl)) (hw _ (List.mem_of_getElem? (i := 3) rfl)) (by decide) (by decide)) q30a q30c (g := (mkF m 70 #[.val (.long q0), .second, .val (.long q1), .second, .val (.long q2), .second, .val (.int p3), .val (.long (q1 &&& (4611686018427387903 : Int64))), .second, .val (.long (q2 &&& (4611686018427387903 : Int64))), .second, .val (.ref b28), .unset, .unset] [(.long (q1 &&& (4611686018427387903 : Int64))), (.ref b28)])) rfl (by rw [hml]; rfl) (Steps.refl _) (argsL := [(.long (q1 &&& (4611686018427387903 : Int64)))]) (rest := []) (lenOf pd_0 rfl) rfl (by show 2 * 0 + _ ≤ _; exact Nat.le_of_eq rfl) (hb hby at_70) (fun _ _ => ⟨rfl, rfl, (by decide : 1 + 0 ≤ _), (by decide : 2 + 0 ≤ _)⟩)
        dsimp only [Pt.U, Pt.locs, Pt.cells, Pt.slots] at X30 l30 y30 z30 st30 hQ30
        subst l30 y30 z30
        obtain ⟨rfl, Nq30, Kq30, Eq30_o0, Fq30_limit_o0, Fq30_held_o0⟩ := hQ30
        replace E_b28 := E_b28.keep Kq30
        clear F_limit_b28
        clear F_held_b28
        have Zz30 := Nat.le_trans Zz29 Kq30.1
        have Kk30 := Kk29.trans Kq30 (allS (Or.inr sz_b28) all0)
        have E_b28 := Eq30_o0
        have F_limit_b28 := Fq30_limit_o0
        have F_held_b28 := Fq30_held_o0
        have N30 := Fr.app N29 Nq30
        refine go (fun t kt => st30.trans kt) ?_
        show Goes p.tables e below _ (T30.setTop (mkF m 73 #[.val (.long q0), .second, .val (.long q1), .second, .val (.long q2), .second, .val (.int p3), .val (.long (q1 &&& (4611686018427387903 : Int64))), .second, .val (.long (q2 &&& (4611686018427387903 : Int64))), .second, .val (.ref b28), .unset, .unset] []))
        refine go (fun t kt => XS.aload X30.here hx rfl (hb hby at_73) rfl rfl kt) ?_
        show Goes p.tables e below _ (T30.setTop (mkF m 75 #[.val (.long q0), .second, .val (.long q1), .second, .val (.long q2), .second, .val (.int p3), .val (.long (q1 &&& (4611686018427387903 : Int64))), .second, .val (.long (q2 &&& (4611686018427387903 : Int64))), .second, .val (.ref b28), .unset, .unset] [(.ref b28)]))
        refine go (fun t kt => XS.lload X30.here hx rfl (hb hby at_75) rfl kt) ?_
        show Goes p.tables e below _ (T30.setTop (mkF m 77 #[.val (.long q0), .second, .val (.long q1), .second, .val (.long q2), .second, .val (.int p3), .val (.long (q1 &&& (4611686018427387903 : Int64))), .second, .val (.long (q2 &&& (4611686018427387903 : Int64))), .second, .val (.ref b28), .unset, .unset] [(.long (q2 &&& (4611686018427387903 : Int64))), (.ref b28)]))
        obtain ⟨cq31, kq31, q31a, q31b, q31c⟩ := isOf hZ rfl E_b28
        obtain ⟨_, _, ⟨T31, L31, k31, n31⟩, -, X31, ⟨Lc31, hQ31, l31, y31, z31⟩, st31⟩ := X30.virtualBack hx (y := (⟨"com/example/sumbit/sumbit/protocol/TransitMemory", "allows", "(J)Z"⟩ : MethodName)) (z := (⟨"com/example/sumbit/sumbit/protocol/TransitMemory", "allows", "(J)Z"⟩ : MethodName)) hown (mvT hZ (hw _ (List.mem_of_getElem? (i := 19) rfl))) (mvT hZ (hw _ (List.mem_of_getElem? (i := 20) rfl))) (notFace_of_selects (args := #[]) (mvT hZ (hw _ (List.mem_of_getElem? (i := 22) rfl)))) (mvT hZ (hw _ (List.mem_of_getElem? (i := 22) rfl))) (mvT hZ (hw _ (List.mem_of_getElem? (i := 21) rfl))) (by decide) (backOf (W := 0) (rm4 l Z a0 hw [] b28 (q2 &&& (4611686018427387903 : Int64)) ((0 : Int64) + (q1 &&& (4611686018427387903 : Int64))) q0 T30.heap n0 Zz30 F_held_b28 F_limit_b28) hZ (hw _ (List.mem_of_getElem? (i := 23) rfl)) (hw _ (List.mem_of_getElem? (i := 3) rfl)) (by decide) (by decide)) q31a q31c (g := (mkF m 77 #[.val (.long q0), .second, .val (.long q1), .second, .val (.long q2), .second, .val (.int p3), .val (.long (q1 &&& (4611686018427387903 : Int64))), .second, .val (.long (q2 &&& (4611686018427387903 : Int64))), .second, .val (.ref b28), .unset, .unset] [(.long (q2 &&& (4611686018427387903 : Int64))), (.ref b28)])) rfl (by rw [hml]; rfl) (Steps.refl _) (argsL := [(.long (q2 &&& (4611686018427387903 : Int64)))]) (rest := []) (lenOf pd_1 rfl) rfl (by show 2 * 0 + _ ≤ _; exact Nat.le_of_eq rfl) (hb hby at_77) (fun _ _ => ⟨rfl, rfl, (by decide : 1 + 0 ≤ _), (by decide : 2 + 0 ≤ _)⟩)
        dsimp only [Pt.U, Pt.locs, Pt.cells, Pt.slots] at X31 l31 y31 z31 st31 hQ31
        subst l31 y31 z31
        obtain ⟨rfl, Nq31, e31⟩ := hQ31
        have N31 := Fr.app N30 Nq31
        refine go (fun t kt => st31.trans kt) ?_
        show Goes p.tables e below _ (T31.setTop (mkF m 80 #[.val (.long q0), .second, .val (.long q1), .second, .val (.long q2), .second, .val (.int p3), .val (.long (q1 &&& (4611686018427387903 : Int64))), .second, .val (.long (q2 &&& (4611686018427387903 : Int64))), .second, .val (.ref b28), .unset, .unset] [(.int (own_allows (q2 &&& (4611686018427387903 : Int64)) ((0 : Int64) + (q1 &&& (4611686018427387903 : Int64))) q0))]))
        refine go (fun t kt => XS.istore X31.here hx rfl (hb hby at_80) rfl (l' := #[.val (.long q0), .second, .val (.long q1), .second, .val (.long q2), .second, .val (.int p3), .val (.long (q1 &&& (4611686018427387903 : Int64))), .second, .val (.long (q2 &&& (4611686018427387903 : Int64))), .second, .val (.ref b28), .val (.int (own_allows (q2 &&& (4611686018427387903 : Int64)) ((0 : Int64) + (q1 &&& (4611686018427387903 : Int64))) q0)), .unset]) rfl kt) ?_
        show Goes p.tables e below _ (T31.setTop (mkF m 82 #[.val (.long q0), .second, .val (.long q1), .second, .val (.long q2), .second, .val (.int p3), .val (.long (q1 &&& (4611686018427387903 : Int64))), .second, .val (.long (q2 &&& (4611686018427387903 : Int64))), .second, .val (.ref b28), .val (.int (own_allows (q2 &&& (4611686018427387903 : Int64)) ((0 : Int64) + (q1 &&& (4611686018427387903 : Int64))) q0)), .unset] []))
        refine go (fun t kt => XS.lloadN X31.here hx rfl (hb hby at_82) rfl kt) ?_
        show Goes p.tables e below _ (T31.setTop (mkF m 83 #[.val (.long q0), .second, .val (.long q1), .second, .val (.long q2), .second, .val (.int p3), .val (.long (q1 &&& (4611686018427387903 : Int64))), .second, .val (.long (q2 &&& (4611686018427387903 : Int64))), .second, .val (.ref b28), .val (.int (own_allows (q2 &&& (4611686018427387903 : Int64)) ((0 : Int64) + (q1 &&& (4611686018427387903 : Int64))) q0)), .unset] [(.long q0)]))
        refine go (fun t kt => XS.lconst X31.here hx rfl (hb hby at_83) kt) ?_
        show Goes p.tables e below _ (T31.setTop (mkF m 84 #[.val (.long q0), .second, .val (.long q1), .second, .val (.long q2), .second, .val (.int p3), .val (.long (q1 &&& (4611686018427387903 : Int64))), .second, .val (.long (q2 &&& (4611686018427387903 : Int64))), .second, .val (.ref b28), .val (.int (own_allows (q2 &&& (4611686018427387903 : Int64)) ((0 : Int64) + (q1 &&& (4611686018427387903 : Int64))) q0)), .unset] [(.long (0 : Int64)), (.long q0)]))
        refine go (fun t kt => XS.lcmp X31.here hx rfl (hb hby at_84) rfl kt) ?_
        show Goes p.tables e below _ (T31.setTop (mkF m 85 #[.val (.long q0), .second, .val (.long q1), .second, .val (.long q2), .second, .val (.int p3), .val (.long (q1 &&& (4611686018427387903 : Int64))), .second, .val (.long (q2 &&& (4611686018427387903 : Int64))), .second, .val (.ref b28), .val (.int (own_allows (q2 &&& (4611686018427387903 : Int64)) ((0 : Int64) + (q1 &&& (4611686018427387903 : Int64))) q0)), .unset] [(.int (lcmpW q0 (0 : Int64)))]))
        by_cases hc32 : q0 < (0 : Int64)
        ·
          refine go (fun t kt => XS.ifNo X31.here hx rfl (hb hby at_85) rfl ((if0 _ _).trans (tlt ((lw_lt q0 (0 : Int64)).mpr hc32)).2.1) kt) ?_
          show Goes p.tables e below _ (T31.setTop (mkF m 88 #[.val (.long q0), .second, .val (.long q1), .second, .val (.long q2), .second, .val (.int p3), .val (.long (q1 &&& (4611686018427387903 : Int64))), .second, .val (.long (q2 &&& (4611686018427387903 : Int64))), .second, .val (.ref b28), .val (.int (own_allows (q2 &&& (4611686018427387903 : Int64)) ((0 : Int64) + (q1 &&& (4611686018427387903 : Int64))) q0)), .unset] []))
          refine go (fun t kt => XS.iconst X31.here hx rfl (hb hby at_88) kt) ?_
          show Goes p.tables e below _ (T31.setTop (mkF m 89 #[.val (.long q0), .second, .val (.long q1), .second, .val (.long q2), .second, .val (.int p3), .val (.long (q1 &&& (4611686018427387903 : Int64))), .second, .val (.long (q2 &&& (4611686018427387903 : Int64))), .second, .val (.ref b28), .val (.int (own_allows (q2 &&& (4611686018427387903 : Int64)) ((0 : Int64) + (q1 &&& (4611686018427387903 : Int64))) q0)), .unset] [(.int (0 : Int32))]))
          refine go (fun t kt => XS.istore X31.here hx rfl (hb hby at_89) rfl (l' := #[.val (.long q0), .second, .val (.long q1), .second, .val (.long q2), .second, .val (.int p3), .val (.long (q1 &&& (4611686018427387903 : Int64))), .second, .val (.long (q2 &&& (4611686018427387903 : Int64))), .second, .val (.ref b28), .val (.int (own_allows (q2 &&& (4611686018427387903 : Int64)) ((0 : Int64) + (q1 &&& (4611686018427387903 : Int64))) q0)), .val (.int (0 : Int32))]) rfl kt) ?_
          show Goes p.tables e below _ (T31.setTop (mkF m 91 #[.val (.long q0), .second, .val (.long q1), .second, .val (.long q2), .second, .val (.int p3), .val (.long (q1 &&& (4611686018427387903 : Int64))), .second, .val (.long (q2 &&& (4611686018427387903 : Int64))), .second, .val (.ref b28), .val (.int (own_allows (q2 &&& (4611686018427387903 : Int64)) ((0 : Int64) + (q1 &&& (4611686018427387903 : Int64))) q0)), .val (.int (0 : Int32))] []))
          refine go (fun t kt => XS.goto X31.here hx rfl (pc0 := 91) (pc' := 111) rfl (hb hby at_91) (by decide) (by decide) kt) ?_
          show Goes p.tables e below _ (T31.setTop (mkF m 111 #[.val (.long q0), .second, .val (.long q1), .second, .val (.long q2), .second, .val (.int p3), .val (.long (q1 &&& (4611686018427387903 : Int64))), .second, .val (.long (q2 &&& (4611686018427387903 : Int64))), .second, .val (.ref b28), .val (.int (own_allows (q2 &&& (4611686018427387903 : Int64)) ((0 : Int64) + (q1 &&& (4611686018427387903 : Int64))) q0)), .val (.int (0 : Int32))] []))
          refine go (fun t kt => XS.iload X31.here hx rfl (hb hby at_111) rfl kt) ?_
          show Goes p.tables e below _ (T31.setTop (mkF m 113 #[.val (.long q0), .second, .val (.long q1), .second, .val (.long q2), .second, .val (.int p3), .val (.long (q1 &&& (4611686018427387903 : Int64))), .second, .val (.long (q2 &&& (4611686018427387903 : Int64))), .second, .val (.ref b28), .val (.int (own_allows (q2 &&& (4611686018427387903 : Int64)) ((0 : Int64) + (q1 &&& (4611686018427387903 : Int64))) q0)), .val (.int (0 : Int32))] [(.int (own_allows (q2 &&& (4611686018427387903 : Int64)) ((0 : Int64) + (q1 &&& (4611686018427387903 : Int64))) q0))]))
          refine go (fun t kt => XS.iload X31.here hx rfl (hb hby at_113) rfl kt) ?_
          show Goes p.tables e below _ (T31.setTop (mkF m 115 #[.val (.long q0), .second, .val (.long q1), .second, .val (.long q2), .second, .val (.int p3), .val (.long (q1 &&& (4611686018427387903 : Int64))), .second, .val (.long (q2 &&& (4611686018427387903 : Int64))), .second, .val (.ref b28), .val (.int (own_allows (q2 &&& (4611686018427387903 : Int64)) ((0 : Int64) + (q1 &&& (4611686018427387903 : Int64))) q0)), .val (.int (0 : Int32))] [(.int (0 : Int32)), (.int (own_allows (q2 &&& (4611686018427387903 : Int64)) ((0 : Int64) + (q1 &&& (4611686018427387903 : Int64))) q0))]))
          refine go (fun t kt => XS.icmpNo X31.here hx rfl (hb hby at_115) rfl (teq (own_neg _ _ _ (own_m q1) (own_m q2) hc32)).2 kt) ?_
          show Goes p.tables e below _ (T31.setTop (mkF m 118 #[.val (.long q0), .second, .val (.long q1), .second, .val (.long q2), .second, .val (.int p3), .val (.long (q1 &&& (4611686018427387903 : Int64))), .second, .val (.long (q2 &&& (4611686018427387903 : Int64))), .second, .val (.ref b28), .val (.int (own_allows (q2 &&& (4611686018427387903 : Int64)) ((0 : Int64) + (q1 &&& (4611686018427387903 : Int64))) q0)), .val (.int (0 : Int32))] []))
          refine go (fun t kt => XS.aload X31.here hx rfl (hb hby at_118) rfl rfl kt) ?_
          show Goes p.tables e below _ (T31.setTop (mkF m 120 #[.val (.long q0), .second, .val (.long q1), .second, .val (.long q2), .second, .val (.int p3), .val (.long (q1 &&& (4611686018427387903 : Int64))), .second, .val (.long (q2 &&& (4611686018427387903 : Int64))), .second, .val (.ref b28), .val (.int (own_allows (q2 &&& (4611686018427387903 : Int64)) ((0 : Int64) + (q1 &&& (4611686018427387903 : Int64))) q0)), .val (.int (0 : Int32))] [(.ref b28)]))
          obtain ⟨cq33, kq33, q33a, q33b, q33c⟩ := isOf hZ e31 E_b28
          obtain ⟨_, _, ⟨T33, L33, k33, n33⟩, -, X33, ⟨Lc33, hQ33, l33, y33, z33⟩, st33⟩ := X31.virtualBack hx (y := (⟨"com/example/sumbit/sumbit/protocol/TransitMemory", "held", "()J"⟩ : MethodName)) (z := (⟨"com/example/sumbit/sumbit/protocol/TransitMemory", "held", "()J"⟩ : MethodName)) hown (mvT hZ (hw _ (List.mem_of_getElem? (i := 24) rfl))) (mvT hZ (hw _ (List.mem_of_getElem? (i := 25) rfl))) (notFace_of_selects (args := #[]) (mvT hZ (hw _ (List.mem_of_getElem? (i := 27) rfl)))) (mvT hZ (hw _ (List.mem_of_getElem? (i := 27) rfl))) (mvT hZ (hw _ (List.mem_of_getElem? (i := 26) rfl))) (by decide) (backOf (W := 0) (rm5 l Z a0 hw [] b28 ((0 : Int64) + (q1 &&& (4611686018427387903 : Int64))) T30.heap n0 Zz30 F_held_b28) hZ (hw _ (List.mem_of_getElem? (i := 28) rfl)) (hw _ (List.mem_of_getElem? (i := 3) rfl)) (by decide) (by decide)) q33a q33c (g := (mkF m 120 #[.val (.long q0), .second, .val (.long q1), .second, .val (.long q2), .second, .val (.int p3), .val (.long (q1 &&& (4611686018427387903 : Int64))), .second, .val (.long (q2 &&& (4611686018427387903 : Int64))), .second, .val (.ref b28), .val (.int (own_allows (q2 &&& (4611686018427387903 : Int64)) ((0 : Int64) + (q1 &&& (4611686018427387903 : Int64))) q0)), .val (.int (0 : Int32))] [(.ref b28)])) rfl (by rw [hml]; rfl) (Steps.refl _) (argsL := []) (rest := []) (lenOf pd_2 rfl) rfl (by show 2 * 0 + _ ≤ _; exact Nat.le_of_eq rfl) (hb hby at_120) (fun _ _ => ⟨rfl, e31, (by decide : 1 + 0 ≤ _), (by decide : 2 + 0 ≤ _)⟩)
          dsimp only [Pt.U, Pt.locs, Pt.cells, Pt.slots] at X33 l33 y33 z33 st33 hQ33
          subst l33 y33 z33
          obtain ⟨rfl, Nq33, e33⟩ := hQ33
          have N33 := Fr.app N31 Nq33
          refine go (fun t kt => st33.trans kt) ?_
          show Goes p.tables e below _ (T33.setTop (mkF m 123 #[.val (.long q0), .second, .val (.long q1), .second, .val (.long q2), .second, .val (.int p3), .val (.long (q1 &&& (4611686018427387903 : Int64))), .second, .val (.long (q2 &&& (4611686018427387903 : Int64))), .second, .val (.ref b28), .val (.int (own_allows (q2 &&& (4611686018427387903 : Int64)) ((0 : Int64) + (q1 &&& (4611686018427387903 : Int64))) q0)), .val (.int (0 : Int32))] [(.long (own_held ((0 : Int64) + (q1 &&& (4611686018427387903 : Int64)))))]))
          refine go (fun t kt => XS.lload X33.here hx rfl (hb hby at_123) rfl kt) ?_
          show Goes p.tables e below _ (T33.setTop (mkF m 125 #[.val (.long q0), .second, .val (.long q1), .second, .val (.long q2), .second, .val (.int p3), .val (.long (q1 &&& (4611686018427387903 : Int64))), .second, .val (.long (q2 &&& (4611686018427387903 : Int64))), .second, .val (.ref b28), .val (.int (own_allows (q2 &&& (4611686018427387903 : Int64)) ((0 : Int64) + (q1 &&& (4611686018427387903 : Int64))) q0)), .val (.int (0 : Int32))] [(.long (q1 &&& (4611686018427387903 : Int64))), (.long (own_held ((0 : Int64) + (q1 &&& (4611686018427387903 : Int64)))))]))
          refine go (fun t kt => XS.lcmp X33.here hx rfl (hb hby at_125) rfl kt) ?_
          show Goes p.tables e below _ (T33.setTop (mkF m 126 #[.val (.long q0), .second, .val (.long q1), .second, .val (.long q2), .second, .val (.int p3), .val (.long (q1 &&& (4611686018427387903 : Int64))), .second, .val (.long (q2 &&& (4611686018427387903 : Int64))), .second, .val (.ref b28), .val (.int (own_allows (q2 &&& (4611686018427387903 : Int64)) ((0 : Int64) + (q1 &&& (4611686018427387903 : Int64))) q0)), .val (.int (0 : Int32))] [(.int (lcmpW (own_held ((0 : Int64) + (q1 &&& (4611686018427387903 : Int64)))) (q1 &&& (4611686018427387903 : Int64))))]))
          refine go (fun t kt => XS.ifNo X33.here hx rfl (hb hby at_126) rfl ((if0 _ _).trans (teq ((lw_eq (own_held ((0 : Int64) + (q1 &&& (4611686018427387903 : Int64)))) (q1 &&& (4611686018427387903 : Int64))).mpr (own_z _))).2) kt) ?_
          show Goes p.tables e below _ (T33.setTop (mkF m 129 #[.val (.long q0), .second, .val (.long q1), .second, .val (.long q2), .second, .val (.int p3), .val (.long (q1 &&& (4611686018427387903 : Int64))), .second, .val (.long (q2 &&& (4611686018427387903 : Int64))), .second, .val (.ref b28), .val (.int (own_allows (q2 &&& (4611686018427387903 : Int64)) ((0 : Int64) + (q1 &&& (4611686018427387903 : Int64))) q0)), .val (.int (0 : Int32))] []))
          refine go (fun t kt => XS.iconst X33.here hx rfl (hb hby at_129) kt) ?_
          show Goes p.tables e below _ (T33.setTop (mkF m 130 #[.val (.long q0), .second, .val (.long q1), .second, .val (.long q2), .second, .val (.int p3), .val (.long (q1 &&& (4611686018427387903 : Int64))), .second, .val (.long (q2 &&& (4611686018427387903 : Int64))), .second, .val (.ref b28), .val (.int (own_allows (q2 &&& (4611686018427387903 : Int64)) ((0 : Int64) + (q1 &&& (4611686018427387903 : Int64))) q0)), .val (.int (0 : Int32))] [(.int (1 : Int32))]))
          refine go (fun t kt => XS.goto X33.here hx rfl (pc0 := 130) (pc' := 134) rfl (hb hby at_130) (by decide) (by decide) kt) ?_
          show Goes p.tables e below _ (T33.setTop (mkF m 134 #[.val (.long q0), .second, .val (.long q1), .second, .val (.long q2), .second, .val (.int p3), .val (.long (q1 &&& (4611686018427387903 : Int64))), .second, .val (.long (q2 &&& (4611686018427387903 : Int64))), .second, .val (.ref b28), .val (.int (own_allows (q2 &&& (4611686018427387903 : Int64)) ((0 : Int64) + (q1 &&& (4611686018427387903 : Int64))) q0)), .val (.int (0 : Int32))] [(.int (1 : Int32))]))
          obtain ⟨fs, hr, hrun, hended, hW, hsame⟩ := X33.leave (v := some (.int (1 : Int32))) (fun h => by rw [Bd.returns] at h; cases h)
          refine ⟨_, _, retN X33 hx (t := .boolean) Bd.returns (by simp) (hb hby at_134) hr, hrun, hended, _, _, rfl, ?_, ⟨_, rfl⟩, hW, hsame.mono (by decide) (by decide)⟩
          show Q0 Z q0 q1 q2 p3 h0 n0 _ T33.heap _
          rw [e33]
          exact ⟨rfl, N33⟩
        ·
          refine go (fun t kt => XS.ifYes X31.here hx rfl (pc0 := 85) (pc' := 94) rfl (hb hby at_85) rfl ((if0 _ _).trans (flt (fun q => hc32 ((lw_lt q0 (0 : Int64)).mp q))).2.1) (by decide) (by decide) kt) ?_
          show Goes p.tables e below _ (T31.setTop (mkF m 94 #[.val (.long q0), .second, .val (.long q1), .second, .val (.long q2), .second, .val (.int p3), .val (.long (q1 &&& (4611686018427387903 : Int64))), .second, .val (.long (q2 &&& (4611686018427387903 : Int64))), .second, .val (.ref b28), .val (.int (own_allows (q2 &&& (4611686018427387903 : Int64)) ((0 : Int64) + (q1 &&& (4611686018427387903 : Int64))) q0)), .unset] []))
          refine go (fun t kt => XS.lload X31.here hx rfl (hb hby at_94) rfl kt) ?_
          show Goes p.tables e below _ (T31.setTop (mkF m 96 #[.val (.long q0), .second, .val (.long q1), .second, .val (.long q2), .second, .val (.int p3), .val (.long (q1 &&& (4611686018427387903 : Int64))), .second, .val (.long (q2 &&& (4611686018427387903 : Int64))), .second, .val (.ref b28), .val (.int (own_allows (q2 &&& (4611686018427387903 : Int64)) ((0 : Int64) + (q1 &&& (4611686018427387903 : Int64))) q0)), .unset] [(.long (q2 &&& (4611686018427387903 : Int64)))]))
          refine go (fun t kt => XS.lloadN X31.here hx rfl (hb hby at_96) rfl kt) ?_
          show Goes p.tables e below _ (T31.setTop (mkF m 97 #[.val (.long q0), .second, .val (.long q1), .second, .val (.long q2), .second, .val (.int p3), .val (.long (q1 &&& (4611686018427387903 : Int64))), .second, .val (.long (q2 &&& (4611686018427387903 : Int64))), .second, .val (.ref b28), .val (.int (own_allows (q2 &&& (4611686018427387903 : Int64)) ((0 : Int64) + (q1 &&& (4611686018427387903 : Int64))) q0)), .unset] [(.long q0), (.long (q2 &&& (4611686018427387903 : Int64)))]))
          refine go (fun t kt => XS.lload X31.here hx rfl (hb hby at_97) rfl kt) ?_
          show Goes p.tables e below _ (T31.setTop (mkF m 99 #[.val (.long q0), .second, .val (.long q1), .second, .val (.long q2), .second, .val (.int p3), .val (.long (q1 &&& (4611686018427387903 : Int64))), .second, .val (.long (q2 &&& (4611686018427387903 : Int64))), .second, .val (.ref b28), .val (.int (own_allows (q2 &&& (4611686018427387903 : Int64)) ((0 : Int64) + (q1 &&& (4611686018427387903 : Int64))) q0)), .unset] [(.long (q1 &&& (4611686018427387903 : Int64))), (.long q0), (.long (q2 &&& (4611686018427387903 : Int64)))]))
          refine go (fun t kt => XS.lsub X31.here hx rfl (hb hby at_99) rfl kt) ?_
          show Goes p.tables e below _ (T31.setTop (mkF m 100 #[.val (.long q0), .second, .val (.long q1), .second, .val (.long q2), .second, .val (.int p3), .val (.long (q1 &&& (4611686018427387903 : Int64))), .second, .val (.long (q2 &&& (4611686018427387903 : Int64))), .second, .val (.ref b28), .val (.int (own_allows (q2 &&& (4611686018427387903 : Int64)) ((0 : Int64) + (q1 &&& (4611686018427387903 : Int64))) q0)), .unset] [(.long (q0 - (q1 &&& (4611686018427387903 : Int64)))), (.long (q2 &&& (4611686018427387903 : Int64)))]))
          refine go (fun t kt => XS.lcmp X31.here hx rfl (hb hby at_100) rfl kt) ?_
          show Goes p.tables e below _ (T31.setTop (mkF m 101 #[.val (.long q0), .second, .val (.long q1), .second, .val (.long q2), .second, .val (.int p3), .val (.long (q1 &&& (4611686018427387903 : Int64))), .second, .val (.long (q2 &&& (4611686018427387903 : Int64))), .second, .val (.ref b28), .val (.int (own_allows (q2 &&& (4611686018427387903 : Int64)) ((0 : Int64) + (q1 &&& (4611686018427387903 : Int64))) q0)), .unset] [(.int (lcmpW (q2 &&& (4611686018427387903 : Int64)) (q0 - (q1 &&& (4611686018427387903 : Int64)))))]))
          by_cases hc35 : (q0 - (q1 &&& (4611686018427387903 : Int64))) < (q2 &&& (4611686018427387903 : Int64))
          ·
            refine go (fun t kt => XS.ifYes X31.here hx rfl (pc0 := 101) (pc' := 108) rfl (hb hby at_101) rfl ((if0 _ _).trans (tlt ((lw_gt (q2 &&& (4611686018427387903 : Int64)) (q0 - (q1 &&& (4611686018427387903 : Int64)))).mpr hc35)).2.2.1) (by decide) (by decide) kt) ?_
            show Goes p.tables e below _ (T31.setTop (mkF m 108 #[.val (.long q0), .second, .val (.long q1), .second, .val (.long q2), .second, .val (.int p3), .val (.long (q1 &&& (4611686018427387903 : Int64))), .second, .val (.long (q2 &&& (4611686018427387903 : Int64))), .second, .val (.ref b28), .val (.int (own_allows (q2 &&& (4611686018427387903 : Int64)) ((0 : Int64) + (q1 &&& (4611686018427387903 : Int64))) q0)), .unset] []))
            refine go (fun t kt => XS.iconst X31.here hx rfl (hb hby at_108) kt) ?_
            show Goes p.tables e below _ (T31.setTop (mkF m 109 #[.val (.long q0), .second, .val (.long q1), .second, .val (.long q2), .second, .val (.int p3), .val (.long (q1 &&& (4611686018427387903 : Int64))), .second, .val (.long (q2 &&& (4611686018427387903 : Int64))), .second, .val (.ref b28), .val (.int (own_allows (q2 &&& (4611686018427387903 : Int64)) ((0 : Int64) + (q1 &&& (4611686018427387903 : Int64))) q0)), .unset] [(.int (0 : Int32))]))
            refine go (fun t kt => XS.istore X31.here hx rfl (hb hby at_109) rfl (l' := #[.val (.long q0), .second, .val (.long q1), .second, .val (.long q2), .second, .val (.int p3), .val (.long (q1 &&& (4611686018427387903 : Int64))), .second, .val (.long (q2 &&& (4611686018427387903 : Int64))), .second, .val (.ref b28), .val (.int (own_allows (q2 &&& (4611686018427387903 : Int64)) ((0 : Int64) + (q1 &&& (4611686018427387903 : Int64))) q0)), .val (.int (0 : Int32))]) rfl kt) ?_
            show Goes p.tables e below _ (T31.setTop (mkF m 111 #[.val (.long q0), .second, .val (.long q1), .second, .val (.long q2), .second, .val (.int p3), .val (.long (q1 &&& (4611686018427387903 : Int64))), .second, .val (.long (q2 &&& (4611686018427387903 : Int64))), .second, .val (.ref b28), .val (.int (own_allows (q2 &&& (4611686018427387903 : Int64)) ((0 : Int64) + (q1 &&& (4611686018427387903 : Int64))) q0)), .val (.int (0 : Int32))] []))
            refine go (fun t kt => XS.iload X31.here hx rfl (hb hby at_111) rfl kt) ?_
            show Goes p.tables e below _ (T31.setTop (mkF m 113 #[.val (.long q0), .second, .val (.long q1), .second, .val (.long q2), .second, .val (.int p3), .val (.long (q1 &&& (4611686018427387903 : Int64))), .second, .val (.long (q2 &&& (4611686018427387903 : Int64))), .second, .val (.ref b28), .val (.int (own_allows (q2 &&& (4611686018427387903 : Int64)) ((0 : Int64) + (q1 &&& (4611686018427387903 : Int64))) q0)), .val (.int (0 : Int32))] [(.int (own_allows (q2 &&& (4611686018427387903 : Int64)) ((0 : Int64) + (q1 &&& (4611686018427387903 : Int64))) q0))]))
            refine go (fun t kt => XS.iload X31.here hx rfl (hb hby at_113) rfl kt) ?_
            show Goes p.tables e below _ (T31.setTop (mkF m 115 #[.val (.long q0), .second, .val (.long q1), .second, .val (.long q2), .second, .val (.int p3), .val (.long (q1 &&& (4611686018427387903 : Int64))), .second, .val (.long (q2 &&& (4611686018427387903 : Int64))), .second, .val (.ref b28), .val (.int (own_allows (q2 &&& (4611686018427387903 : Int64)) ((0 : Int64) + (q1 &&& (4611686018427387903 : Int64))) q0)), .val (.int (0 : Int32))] [(.int (0 : Int32)), (.int (own_allows (q2 &&& (4611686018427387903 : Int64)) ((0 : Int64) + (q1 &&& (4611686018427387903 : Int64))) q0))]))
            refine go (fun t kt => XS.icmpNo X31.here hx rfl (hb hby at_115) rfl (teq (own_out _ _ _ (own_m q1) (own_m q2) hc32 hc35)).2 kt) ?_
            show Goes p.tables e below _ (T31.setTop (mkF m 118 #[.val (.long q0), .second, .val (.long q1), .second, .val (.long q2), .second, .val (.int p3), .val (.long (q1 &&& (4611686018427387903 : Int64))), .second, .val (.long (q2 &&& (4611686018427387903 : Int64))), .second, .val (.ref b28), .val (.int (own_allows (q2 &&& (4611686018427387903 : Int64)) ((0 : Int64) + (q1 &&& (4611686018427387903 : Int64))) q0)), .val (.int (0 : Int32))] []))
            refine go (fun t kt => XS.aload X31.here hx rfl (hb hby at_118) rfl rfl kt) ?_
            show Goes p.tables e below _ (T31.setTop (mkF m 120 #[.val (.long q0), .second, .val (.long q1), .second, .val (.long q2), .second, .val (.int p3), .val (.long (q1 &&& (4611686018427387903 : Int64))), .second, .val (.long (q2 &&& (4611686018427387903 : Int64))), .second, .val (.ref b28), .val (.int (own_allows (q2 &&& (4611686018427387903 : Int64)) ((0 : Int64) + (q1 &&& (4611686018427387903 : Int64))) q0)), .val (.int (0 : Int32))] [(.ref b28)]))
            obtain ⟨cq36, kq36, q36a, q36b, q36c⟩ := isOf hZ e31 E_b28
            obtain ⟨_, _, ⟨T36, L36, k36, n36⟩, -, X36, ⟨Lc36, hQ36, l36, y36, z36⟩, st36⟩ := X31.virtualBack hx (y := (⟨"com/example/sumbit/sumbit/protocol/TransitMemory", "held", "()J"⟩ : MethodName)) (z := (⟨"com/example/sumbit/sumbit/protocol/TransitMemory", "held", "()J"⟩ : MethodName)) hown (mvT hZ (hw _ (List.mem_of_getElem? (i := 24) rfl))) (mvT hZ (hw _ (List.mem_of_getElem? (i := 25) rfl))) (notFace_of_selects (args := #[]) (mvT hZ (hw _ (List.mem_of_getElem? (i := 27) rfl)))) (mvT hZ (hw _ (List.mem_of_getElem? (i := 27) rfl))) (mvT hZ (hw _ (List.mem_of_getElem? (i := 26) rfl))) (by decide) (backOf (W := 0) (rm5 l Z a0 hw [] b28 ((0 : Int64) + (q1 &&& (4611686018427387903 : Int64))) T30.heap n0 Zz30 F_held_b28) hZ (hw _ (List.mem_of_getElem? (i := 28) rfl)) (hw _ (List.mem_of_getElem? (i := 3) rfl)) (by decide) (by decide)) q36a q36c (g := (mkF m 120 #[.val (.long q0), .second, .val (.long q1), .second, .val (.long q2), .second, .val (.int p3), .val (.long (q1 &&& (4611686018427387903 : Int64))), .second, .val (.long (q2 &&& (4611686018427387903 : Int64))), .second, .val (.ref b28), .val (.int (own_allows (q2 &&& (4611686018427387903 : Int64)) ((0 : Int64) + (q1 &&& (4611686018427387903 : Int64))) q0)), .val (.int (0 : Int32))] [(.ref b28)])) rfl (by rw [hml]; rfl) (Steps.refl _) (argsL := []) (rest := []) (lenOf pd_2 rfl) rfl (by show 2 * 0 + _ ≤ _; exact Nat.le_of_eq rfl) (hb hby at_120) (fun _ _ => ⟨rfl, e31, (by decide : 1 + 0 ≤ _), (by decide : 2 + 0 ≤ _)⟩)
            dsimp only [Pt.U, Pt.locs, Pt.cells, Pt.slots] at X36 l36 y36 z36 st36 hQ36
            subst l36 y36 z36
            obtain ⟨rfl, Nq36, e36⟩ := hQ36
            have N36 := Fr.app N31 Nq36
            refine go (fun t kt => st36.trans kt) ?_
            show Goes p.tables e below _ (T36.setTop (mkF m 123 #[.val (.long q0), .second, .val (.long q1), .second, .val (.long q2), .second, .val (.int p3), .val (.long (q1 &&& (4611686018427387903 : Int64))), .second, .val (.long (q2 &&& (4611686018427387903 : Int64))), .second, .val (.ref b28), .val (.int (own_allows (q2 &&& (4611686018427387903 : Int64)) ((0 : Int64) + (q1 &&& (4611686018427387903 : Int64))) q0)), .val (.int (0 : Int32))] [(.long (own_held ((0 : Int64) + (q1 &&& (4611686018427387903 : Int64)))))]))
            refine go (fun t kt => XS.lload X36.here hx rfl (hb hby at_123) rfl kt) ?_
            show Goes p.tables e below _ (T36.setTop (mkF m 125 #[.val (.long q0), .second, .val (.long q1), .second, .val (.long q2), .second, .val (.int p3), .val (.long (q1 &&& (4611686018427387903 : Int64))), .second, .val (.long (q2 &&& (4611686018427387903 : Int64))), .second, .val (.ref b28), .val (.int (own_allows (q2 &&& (4611686018427387903 : Int64)) ((0 : Int64) + (q1 &&& (4611686018427387903 : Int64))) q0)), .val (.int (0 : Int32))] [(.long (q1 &&& (4611686018427387903 : Int64))), (.long (own_held ((0 : Int64) + (q1 &&& (4611686018427387903 : Int64)))))]))
            refine go (fun t kt => XS.lcmp X36.here hx rfl (hb hby at_125) rfl kt) ?_
            show Goes p.tables e below _ (T36.setTop (mkF m 126 #[.val (.long q0), .second, .val (.long q1), .second, .val (.long q2), .second, .val (.int p3), .val (.long (q1 &&& (4611686018427387903 : Int64))), .second, .val (.long (q2 &&& (4611686018427387903 : Int64))), .second, .val (.ref b28), .val (.int (own_allows (q2 &&& (4611686018427387903 : Int64)) ((0 : Int64) + (q1 &&& (4611686018427387903 : Int64))) q0)), .val (.int (0 : Int32))] [(.int (lcmpW (own_held ((0 : Int64) + (q1 &&& (4611686018427387903 : Int64)))) (q1 &&& (4611686018427387903 : Int64))))]))
            refine go (fun t kt => XS.ifNo X36.here hx rfl (hb hby at_126) rfl ((if0 _ _).trans (teq ((lw_eq (own_held ((0 : Int64) + (q1 &&& (4611686018427387903 : Int64)))) (q1 &&& (4611686018427387903 : Int64))).mpr (own_z _))).2) kt) ?_
            show Goes p.tables e below _ (T36.setTop (mkF m 129 #[.val (.long q0), .second, .val (.long q1), .second, .val (.long q2), .second, .val (.int p3), .val (.long (q1 &&& (4611686018427387903 : Int64))), .second, .val (.long (q2 &&& (4611686018427387903 : Int64))), .second, .val (.ref b28), .val (.int (own_allows (q2 &&& (4611686018427387903 : Int64)) ((0 : Int64) + (q1 &&& (4611686018427387903 : Int64))) q0)), .val (.int (0 : Int32))] []))
            refine go (fun t kt => XS.iconst X36.here hx rfl (hb hby at_129) kt) ?_
            show Goes p.tables e below _ (T36.setTop (mkF m 130 #[.val (.long q0), .second, .val (.long q1), .second, .val (.long q2), .second, .val (.int p3), .val (.long (q1 &&& (4611686018427387903 : Int64))), .second, .val (.long (q2 &&& (4611686018427387903 : Int64))), .second, .val (.ref b28), .val (.int (own_allows (q2 &&& (4611686018427387903 : Int64)) ((0 : Int64) + (q1 &&& (4611686018427387903 : Int64))) q0)), .val (.int (0 : Int32))] [(.int (1 : Int32))]))
            refine go (fun t kt => XS.goto X36.here hx rfl (pc0 := 130) (pc' := 134) rfl (hb hby at_130) (by decide) (by decide) kt) ?_
            show Goes p.tables e below _ (T36.setTop (mkF m 134 #[.val (.long q0), .second, .val (.long q1), .second, .val (.long q2), .second, .val (.int p3), .val (.long (q1 &&& (4611686018427387903 : Int64))), .second, .val (.long (q2 &&& (4611686018427387903 : Int64))), .second, .val (.ref b28), .val (.int (own_allows (q2 &&& (4611686018427387903 : Int64)) ((0 : Int64) + (q1 &&& (4611686018427387903 : Int64))) q0)), .val (.int (0 : Int32))] [(.int (1 : Int32))]))
            obtain ⟨fs, hr, hrun, hended, hW, hsame⟩ := X36.leave (v := some (.int (1 : Int32))) (fun h => by rw [Bd.returns] at h; cases h)
            refine ⟨_, _, retN X36 hx (t := .boolean) Bd.returns (by simp) (hb hby at_134) hr, hrun, hended, _, _, rfl, ?_, ⟨_, rfl⟩, hW, hsame.mono (by decide) (by decide)⟩
            show Q0 Z q0 q1 q2 p3 h0 n0 _ T36.heap _
            rw [e36]
            exact ⟨rfl, N36⟩
          ·
            refine go (fun t kt => XS.ifNo X31.here hx rfl (hb hby at_101) rfl ((if0 _ _).trans (flt (fun q => hc35 ((lw_gt (q2 &&& (4611686018427387903 : Int64)) (q0 - (q1 &&& (4611686018427387903 : Int64)))).mp q))).2.2.1) kt) ?_
            show Goes p.tables e below _ (T31.setTop (mkF m 104 #[.val (.long q0), .second, .val (.long q1), .second, .val (.long q2), .second, .val (.int p3), .val (.long (q1 &&& (4611686018427387903 : Int64))), .second, .val (.long (q2 &&& (4611686018427387903 : Int64))), .second, .val (.ref b28), .val (.int (own_allows (q2 &&& (4611686018427387903 : Int64)) ((0 : Int64) + (q1 &&& (4611686018427387903 : Int64))) q0)), .unset] []))
            refine go (fun t kt => XS.iconst X31.here hx rfl (hb hby at_104) kt) ?_
            show Goes p.tables e below _ (T31.setTop (mkF m 105 #[.val (.long q0), .second, .val (.long q1), .second, .val (.long q2), .second, .val (.int p3), .val (.long (q1 &&& (4611686018427387903 : Int64))), .second, .val (.long (q2 &&& (4611686018427387903 : Int64))), .second, .val (.ref b28), .val (.int (own_allows (q2 &&& (4611686018427387903 : Int64)) ((0 : Int64) + (q1 &&& (4611686018427387903 : Int64))) q0)), .unset] [(.int (1 : Int32))]))
            refine go (fun t kt => XS.goto X31.here hx rfl (pc0 := 105) (pc' := 109) rfl (hb hby at_105) (by decide) (by decide) kt) ?_
            show Goes p.tables e below _ (T31.setTop (mkF m 109 #[.val (.long q0), .second, .val (.long q1), .second, .val (.long q2), .second, .val (.int p3), .val (.long (q1 &&& (4611686018427387903 : Int64))), .second, .val (.long (q2 &&& (4611686018427387903 : Int64))), .second, .val (.ref b28), .val (.int (own_allows (q2 &&& (4611686018427387903 : Int64)) ((0 : Int64) + (q1 &&& (4611686018427387903 : Int64))) q0)), .unset] [(.int (1 : Int32))]))
            refine go (fun t kt => XS.istore X31.here hx rfl (hb hby at_109) rfl (l' := #[.val (.long q0), .second, .val (.long q1), .second, .val (.long q2), .second, .val (.int p3), .val (.long (q1 &&& (4611686018427387903 : Int64))), .second, .val (.long (q2 &&& (4611686018427387903 : Int64))), .second, .val (.ref b28), .val (.int (own_allows (q2 &&& (4611686018427387903 : Int64)) ((0 : Int64) + (q1 &&& (4611686018427387903 : Int64))) q0)), .val (.int (1 : Int32))]) rfl kt) ?_
            show Goes p.tables e below _ (T31.setTop (mkF m 111 #[.val (.long q0), .second, .val (.long q1), .second, .val (.long q2), .second, .val (.int p3), .val (.long (q1 &&& (4611686018427387903 : Int64))), .second, .val (.long (q2 &&& (4611686018427387903 : Int64))), .second, .val (.ref b28), .val (.int (own_allows (q2 &&& (4611686018427387903 : Int64)) ((0 : Int64) + (q1 &&& (4611686018427387903 : Int64))) q0)), .val (.int (1 : Int32))] []))
            refine go (fun t kt => XS.iload X31.here hx rfl (hb hby at_111) rfl kt) ?_
            show Goes p.tables e below _ (T31.setTop (mkF m 113 #[.val (.long q0), .second, .val (.long q1), .second, .val (.long q2), .second, .val (.int p3), .val (.long (q1 &&& (4611686018427387903 : Int64))), .second, .val (.long (q2 &&& (4611686018427387903 : Int64))), .second, .val (.ref b28), .val (.int (own_allows (q2 &&& (4611686018427387903 : Int64)) ((0 : Int64) + (q1 &&& (4611686018427387903 : Int64))) q0)), .val (.int (1 : Int32))] [(.int (own_allows (q2 &&& (4611686018427387903 : Int64)) ((0 : Int64) + (q1 &&& (4611686018427387903 : Int64))) q0))]))
            refine go (fun t kt => XS.iload X31.here hx rfl (hb hby at_113) rfl kt) ?_
            show Goes p.tables e below _ (T31.setTop (mkF m 115 #[.val (.long q0), .second, .val (.long q1), .second, .val (.long q2), .second, .val (.int p3), .val (.long (q1 &&& (4611686018427387903 : Int64))), .second, .val (.long (q2 &&& (4611686018427387903 : Int64))), .second, .val (.ref b28), .val (.int (own_allows (q2 &&& (4611686018427387903 : Int64)) ((0 : Int64) + (q1 &&& (4611686018427387903 : Int64))) q0)), .val (.int (1 : Int32))] [(.int (1 : Int32)), (.int (own_allows (q2 &&& (4611686018427387903 : Int64)) ((0 : Int64) + (q1 &&& (4611686018427387903 : Int64))) q0))]))
            refine go (fun t kt => XS.icmpNo X31.here hx rfl (hb hby at_115) rfl (teq (own_in _ _ _ (own_m q1) (own_m q2) hc32 hc35)).2 kt) ?_
            show Goes p.tables e below _ (T31.setTop (mkF m 118 #[.val (.long q0), .second, .val (.long q1), .second, .val (.long q2), .second, .val (.int p3), .val (.long (q1 &&& (4611686018427387903 : Int64))), .second, .val (.long (q2 &&& (4611686018427387903 : Int64))), .second, .val (.ref b28), .val (.int (own_allows (q2 &&& (4611686018427387903 : Int64)) ((0 : Int64) + (q1 &&& (4611686018427387903 : Int64))) q0)), .val (.int (1 : Int32))] []))
            refine go (fun t kt => XS.aload X31.here hx rfl (hb hby at_118) rfl rfl kt) ?_
            show Goes p.tables e below _ (T31.setTop (mkF m 120 #[.val (.long q0), .second, .val (.long q1), .second, .val (.long q2), .second, .val (.int p3), .val (.long (q1 &&& (4611686018427387903 : Int64))), .second, .val (.long (q2 &&& (4611686018427387903 : Int64))), .second, .val (.ref b28), .val (.int (own_allows (q2 &&& (4611686018427387903 : Int64)) ((0 : Int64) + (q1 &&& (4611686018427387903 : Int64))) q0)), .val (.int (1 : Int32))] [(.ref b28)]))
            obtain ⟨cq38, kq38, q38a, q38b, q38c⟩ := isOf hZ e31 E_b28
            obtain ⟨_, _, ⟨T38, L38, k38, n38⟩, -, X38, ⟨Lc38, hQ38, l38, y38, z38⟩, st38⟩ := X31.virtualBack hx (y := (⟨"com/example/sumbit/sumbit/protocol/TransitMemory", "held", "()J"⟩ : MethodName)) (z := (⟨"com/example/sumbit/sumbit/protocol/TransitMemory", "held", "()J"⟩ : MethodName)) hown (mvT hZ (hw _ (List.mem_of_getElem? (i := 24) rfl))) (mvT hZ (hw _ (List.mem_of_getElem? (i := 25) rfl))) (notFace_of_selects (args := #[]) (mvT hZ (hw _ (List.mem_of_getElem? (i := 27) rfl)))) (mvT hZ (hw _ (List.mem_of_getElem? (i := 27) rfl))) (mvT hZ (hw _ (List.mem_of_getElem? (i := 26) rfl))) (by decide) (backOf (W := 0) (rm5 l Z a0 hw [] b28 ((0 : Int64) + (q1 &&& (4611686018427387903 : Int64))) T30.heap n0 Zz30 F_held_b28) hZ (hw _ (List.mem_of_getElem? (i := 28) rfl)) (hw _ (List.mem_of_getElem? (i := 3) rfl)) (by decide) (by decide)) q38a q38c (g := (mkF m 120 #[.val (.long q0), .second, .val (.long q1), .second, .val (.long q2), .second, .val (.int p3), .val (.long (q1 &&& (4611686018427387903 : Int64))), .second, .val (.long (q2 &&& (4611686018427387903 : Int64))), .second, .val (.ref b28), .val (.int (own_allows (q2 &&& (4611686018427387903 : Int64)) ((0 : Int64) + (q1 &&& (4611686018427387903 : Int64))) q0)), .val (.int (1 : Int32))] [(.ref b28)])) rfl (by rw [hml]; rfl) (Steps.refl _) (argsL := []) (rest := []) (lenOf pd_2 rfl) rfl (by show 2 * 0 + _ ≤ _; exact Nat.le_of_eq rfl) (hb hby at_120) (fun _ _ => ⟨rfl, e31, (by decide : 1 + 0 ≤ _), (by decide : 2 + 0 ≤ _)⟩)
            dsimp only [Pt.U, Pt.locs, Pt.cells, Pt.slots] at X38 l38 y38 z38 st38 hQ38
            subst l38 y38 z38
            obtain ⟨rfl, Nq38, e38⟩ := hQ38
            have N38 := Fr.app N31 Nq38
            refine go (fun t kt => st38.trans kt) ?_
            show Goes p.tables e below _ (T38.setTop (mkF m 123 #[.val (.long q0), .second, .val (.long q1), .second, .val (.long q2), .second, .val (.int p3), .val (.long (q1 &&& (4611686018427387903 : Int64))), .second, .val (.long (q2 &&& (4611686018427387903 : Int64))), .second, .val (.ref b28), .val (.int (own_allows (q2 &&& (4611686018427387903 : Int64)) ((0 : Int64) + (q1 &&& (4611686018427387903 : Int64))) q0)), .val (.int (1 : Int32))] [(.long (own_held ((0 : Int64) + (q1 &&& (4611686018427387903 : Int64)))))]))
            refine go (fun t kt => XS.lload X38.here hx rfl (hb hby at_123) rfl kt) ?_
            show Goes p.tables e below _ (T38.setTop (mkF m 125 #[.val (.long q0), .second, .val (.long q1), .second, .val (.long q2), .second, .val (.int p3), .val (.long (q1 &&& (4611686018427387903 : Int64))), .second, .val (.long (q2 &&& (4611686018427387903 : Int64))), .second, .val (.ref b28), .val (.int (own_allows (q2 &&& (4611686018427387903 : Int64)) ((0 : Int64) + (q1 &&& (4611686018427387903 : Int64))) q0)), .val (.int (1 : Int32))] [(.long (q1 &&& (4611686018427387903 : Int64))), (.long (own_held ((0 : Int64) + (q1 &&& (4611686018427387903 : Int64)))))]))
            refine go (fun t kt => XS.lcmp X38.here hx rfl (hb hby at_125) rfl kt) ?_
            show Goes p.tables e below _ (T38.setTop (mkF m 126 #[.val (.long q0), .second, .val (.long q1), .second, .val (.long q2), .second, .val (.int p3), .val (.long (q1 &&& (4611686018427387903 : Int64))), .second, .val (.long (q2 &&& (4611686018427387903 : Int64))), .second, .val (.ref b28), .val (.int (own_allows (q2 &&& (4611686018427387903 : Int64)) ((0 : Int64) + (q1 &&& (4611686018427387903 : Int64))) q0)), .val (.int (1 : Int32))] [(.int (lcmpW (own_held ((0 : Int64) + (q1 &&& (4611686018427387903 : Int64)))) (q1 &&& (4611686018427387903 : Int64))))]))
            refine go (fun t kt => XS.ifNo X38.here hx rfl (hb hby at_126) rfl ((if0 _ _).trans (teq ((lw_eq (own_held ((0 : Int64) + (q1 &&& (4611686018427387903 : Int64)))) (q1 &&& (4611686018427387903 : Int64))).mpr (own_z _))).2) kt) ?_
            show Goes p.tables e below _ (T38.setTop (mkF m 129 #[.val (.long q0), .second, .val (.long q1), .second, .val (.long q2), .second, .val (.int p3), .val (.long (q1 &&& (4611686018427387903 : Int64))), .second, .val (.long (q2 &&& (4611686018427387903 : Int64))), .second, .val (.ref b28), .val (.int (own_allows (q2 &&& (4611686018427387903 : Int64)) ((0 : Int64) + (q1 &&& (4611686018427387903 : Int64))) q0)), .val (.int (1 : Int32))] []))
            refine go (fun t kt => XS.iconst X38.here hx rfl (hb hby at_129) kt) ?_
            show Goes p.tables e below _ (T38.setTop (mkF m 130 #[.val (.long q0), .second, .val (.long q1), .second, .val (.long q2), .second, .val (.int p3), .val (.long (q1 &&& (4611686018427387903 : Int64))), .second, .val (.long (q2 &&& (4611686018427387903 : Int64))), .second, .val (.ref b28), .val (.int (own_allows (q2 &&& (4611686018427387903 : Int64)) ((0 : Int64) + (q1 &&& (4611686018427387903 : Int64))) q0)), .val (.int (1 : Int32))] [(.int (1 : Int32))]))
            refine go (fun t kt => XS.goto X38.here hx rfl (pc0 := 130) (pc' := 134) rfl (hb hby at_130) (by decide) (by decide) kt) ?_
            show Goes p.tables e below _ (T38.setTop (mkF m 134 #[.val (.long q0), .second, .val (.long q1), .second, .val (.long q2), .second, .val (.int p3), .val (.long (q1 &&& (4611686018427387903 : Int64))), .second, .val (.long (q2 &&& (4611686018427387903 : Int64))), .second, .val (.ref b28), .val (.int (own_allows (q2 &&& (4611686018427387903 : Int64)) ((0 : Int64) + (q1 &&& (4611686018427387903 : Int64))) q0)), .val (.int (1 : Int32))] [(.int (1 : Int32))]))
            obtain ⟨fs, hr, hrun, hended, hW, hsame⟩ := X38.leave (v := some (.int (1 : Int32))) (fun h => by rw [Bd.returns] at h; cases h)
            refine ⟨_, _, retN X38 hx (t := .boolean) Bd.returns (by simp) (hb hby at_134) hr, hrun, hended, _, _, rfl, ?_, ⟨_, rfl⟩, hW, hsame.mono (by decide) (by decide)⟩
            show Q0 Z q0 q1 q2 p3 h0 n0 _ T38.heap _
            rw [e38]
            exact ⟨rfl, N38⟩
      ·
        refine go (fun t kt => XS.ifNo X0.here hx rfl (hb hby at_49) rfl ((if0 _ _).trans (flt (fun q => hc27 ((lw_gt ((q0 - (q1 &&& (4611686018427387903 : Int64))) + (((p3 &&& (3 : Int32)) - (1 : Int32)).toInt64)) (4611686018427387903 : Int64)).mp q))).2.2.1) kt) ?_
        show Goes p.tables e below _ (s₁.setTop (mkF m 52 #[.val (.long q0), .second, .val (.long q1), .second, .val (.long q2), .second, .val (.int p3), .val (.long (q1 &&& (4611686018427387903 : Int64))), .second, .val (.long (q2 &&& (4611686018427387903 : Int64))), .second, .val (.long ((q0 - (q1 &&& (4611686018427387903 : Int64))) + (((p3 &&& (3 : Int32)) - (1 : Int32)).toInt64))), .second, .unset] []))
        refine go (fun t kt => XS.lload X0.here hx rfl (hb hby at_52) rfl kt) ?_
        show Goes p.tables e below _ (s₁.setTop (mkF m 54 #[.val (.long q0), .second, .val (.long q1), .second, .val (.long q2), .second, .val (.int p3), .val (.long (q1 &&& (4611686018427387903 : Int64))), .second, .val (.long (q2 &&& (4611686018427387903 : Int64))), .second, .val (.long ((q0 - (q1 &&& (4611686018427387903 : Int64))) + (((p3 &&& (3 : Int32)) - (1 : Int32)).toInt64))), .second, .unset] [(.long ((q0 - (q1 &&& (4611686018427387903 : Int64))) + (((p3 &&& (3 : Int32)) - (1 : Int32)).toInt64)))]))
        refine go (fun t kt => XS.lstore X0.here hx rfl (hb hby at_54) rfl (l' := #[.val (.long q0), .second, .val (.long q1), .second, .val (.long q2), .second, .val (.int p3), .val (.long (q1 &&& (4611686018427387903 : Int64))), .second, .val (.long ((q0 - (q1 &&& (4611686018427387903 : Int64))) + (((p3 &&& (3 : Int32)) - (1 : Int32)).toInt64))), .second, .val (.long ((q0 - (q1 &&& (4611686018427387903 : Int64))) + (((p3 &&& (3 : Int32)) - (1 : Int32)).toInt64))), .second, .unset]) rfl kt) ?_
        show Goes p.tables e below _ (s₁.setTop (mkF m 56 #[.val (.long q0), .second, .val (.long q1), .second, .val (.long q2), .second, .val (.int p3), .val (.long (q1 &&& (4611686018427387903 : Int64))), .second, .val (.long ((q0 - (q1 &&& (4611686018427387903 : Int64))) + (((p3 &&& (3 : Int32)) - (1 : Int32)).toInt64))), .second, .val (.long ((q0 - (q1 &&& (4611686018427387903 : Int64))) + (((p3 &&& (3 : Int32)) - (1 : Int32)).toInt64))), .second, .unset] []))
        obtain ⟨T40, h40, X40, e40, E40, A40, D40, -, st40⟩ := newO X0 hx hZ hown (hw _ (List.mem_of_getElem? (i := 1) rfl)) (hw _ (List.mem_of_getElem? (i := 2) rfl)) (hw _ (List.mem_of_getElem? (i := 3) rfl)) e0 (g := (mkF m 56 #[.val (.long q0), .second, .val (.long q1), .second, .val (.long q2), .second, .val (.int p3), .val (.long (q1 &&& (4611686018427387903 : Int64))), .second, .val (.long ((q0 - (q1 &&& (4611686018427387903 : Int64))) + (((p3 &&& (3 : Int32)) - (1 : Int32)).toInt64))), .second, .val (.long ((q0 - (q1 &&& (4611686018427387903 : Int64))) + (((p3 &&& (3 : Int32)) - (1 : Int32)).toInt64))), .second, .unset] [])) rfl (hb hby at_56) (by decide) (by decide)
        obtain ⟨b40, g40⟩ : ∃ z, z = h0.size := ⟨_, rfl⟩
        rw [← g40] at A40 D40 st40
        have g_b40 : n0 ≤ b40 := Nat.le_trans Z0 (Nat.le_of_eq g40.symm)
        have sz_b40 : h0.size ≤ b40 := Nat.le_trans K0.1 (Nat.le_of_eq g40.symm)
        have Zz40 := Nat.le_trans Z0 E40.1
        have Kk40 := K0.ext E40
        have E_b40 := A40
        have F_limit_b40 : Fld Z h40 b40 "com/example/sumbit/sumbit/protocol/TransitMemory" "limit" "J" (.long (0 : Int64)) := D40 (Or.inr (hw _ (List.mem_of_getElem? (i := 11) rfl))) (ty := .long) (by decide)
        have F_held_b40 : Fld Z h40 b40 "com/example/sumbit/sumbit/protocol/TransitMemory" "held" "J" (.long (0 : Int64)) := D40 (Or.inl (hw _ (List.mem_of_getElem? (i := 18) rfl))) (ty := .long) (by decide)
        refine go st40 ?_
        show Goes p.tables e below _ (T40.setTop (mkF m 59 #[.val (.long q0), .second, .val (.long q1), .second, .val (.long q2), .second, .val (.int p3), .val (.long (q1 &&& (4611686018427387903 : Int64))), .second, .val (.long ((q0 - (q1 &&& (4611686018427387903 : Int64))) + (((p3 &&& (3 : Int32)) - (1 : Int32)).toInt64))), .second, .val (.long ((q0 - (q1 &&& (4611686018427387903 : Int64))) + (((p3 &&& (3 : Int32)) - (1 : Int32)).toInt64))), .second, .unset] [(.ref b40)]))
        refine go (fun t kt => XS.dup X40.here hx rfl (hb hby at_59) rfl rfl kt) ?_
        show Goes p.tables e below _ (T40.setTop (mkF m 60 #[.val (.long q0), .second, .val (.long q1), .second, .val (.long q2), .second, .val (.int p3), .val (.long (q1 &&& (4611686018427387903 : Int64))), .second, .val (.long ((q0 - (q1 &&& (4611686018427387903 : Int64))) + (((p3 &&& (3 : Int32)) - (1 : Int32)).toInt64))), .second, .val (.long ((q0 - (q1 &&& (4611686018427387903 : Int64))) + (((p3 &&& (3 : Int32)) - (1 : Int32)).toInt64))), .second, .unset] [(.ref b40), (.ref b40)]))
        refine go (fun t kt => XS.lloadN X40.here hx rfl (hb hby at_60) rfl kt) ?_
        show Goes p.tables e below _ (T40.setTop (mkF m 61 #[.val (.long q0), .second, .val (.long q1), .second, .val (.long q2), .second, .val (.int p3), .val (.long (q1 &&& (4611686018427387903 : Int64))), .second, .val (.long ((q0 - (q1 &&& (4611686018427387903 : Int64))) + (((p3 &&& (3 : Int32)) - (1 : Int32)).toInt64))), .second, .val (.long ((q0 - (q1 &&& (4611686018427387903 : Int64))) + (((p3 &&& (3 : Int32)) - (1 : Int32)).toInt64))), .second, .unset] [(.long q0), (.ref b40), (.ref b40)]))
        obtain ⟨_, _, ⟨T41, L41, k41, n41⟩, -, X41, ⟨Lc41, hQ41, l41, y41, z41⟩, st41⟩ := X40.specialBack hx (y := (⟨"com/example/sumbit/sumbit/protocol/TransitMemory", "<init>", "(J)V"⟩ : MethodName)) rfl hown (mvT hZ (hw _ (List.mem_of_getElem? (i := 4) rfl))) (mvT hZ (hw _ (List.mem_of_getElem? (i := 5) rfl))) (mvT hZ (hw _ (List.mem_of_getElem? (i := 6) rfl))) (by decide) (backOf (W := 1) (rm1 l Z a0 hw [] b40 q0 (.long (0 : Int64)) (.long (0 : Int64)) h40 n0 Zz40 E_b40 F_limit_b40 F_held_b40 g_b40) hZ (hw _ (List.mem_of_getElem? (i := 6) rfl)) (hw _ (List.mem_of_getElem? (i := 3) rfl)) (by decide) (by decide)) (g := (mkF m 61 #[.val (.long q0), .second, .val (.long q1), .second, .val (.long q2), .second, .val (.int p3), .val (.long (q1 &&& (4611686018427387903 : Int64))), .second, .val (.long ((q0 - (q1 &&& (4611686018427387903 : Int64))) + (((p3 &&& (3 : Int32)) - (1 : Int32)).toInt64))), .second, .val (.long ((q0 - (q1 &&& (4611686018427387903 : Int64))) + (((p3 &&& (3 : Int32)) - (1 : Int32)).toInt64))), .second, .unset] [(.long q0), (.ref b40), (.ref b40)])) rfl (by rw [hml]; rfl) (Steps.refl _) (a := b40) (argsL := [(.long q0)]) (rest := [(.ref b40)]) (lenOf pd_0 rfl) rfl (by show 2 * 0 + _ ≤ _; exact Nat.le_of_eq rfl) (hb hby at_61) (fun _ _ => ⟨rfl, e40, (by decide : 1 + 0 ≤ _), (by decide : 2 + 0 ≤ _)⟩)
        dsimp only [Pt.U, Pt.locs, Pt.cells, Pt.slots] at X41 l41 y41 z41 st41 hQ41
        subst l41 y41 z41
        obtain ⟨rfl, Nq41, Kq41, Eq41_o0, Fq41_limit_o0, Fq41_held_o0⟩ := hQ41
        replace E_b40 := E_b40.keep Kq41
        clear F_limit_b40
        clear F_held_b40
        have Zz41 := Nat.le_trans Zz40 Kq41.1
        have Kk41 := Kk40.trans Kq41 (allS (Or.inr sz_b40) all0)
        have E_b40 := Eq41_o0
        have F_limit_b40 := Fq41_limit_o0
        have F_held_b40 := Fq41_held_o0
        have N41 := Fr.app N0 Nq41
        refine go (fun t kt => st41.trans kt) ?_
        show Goes p.tables e below _ (T41.setTop (mkF m 64 #[.val (.long q0), .second, .val (.long q1), .second, .val (.long q2), .second, .val (.int p3), .val (.long (q1 &&& (4611686018427387903 : Int64))), .second, .val (.long ((q0 - (q1 &&& (4611686018427387903 : Int64))) + (((p3 &&& (3 : Int32)) - (1 : Int32)).toInt64))), .second, .val (.long ((q0 - (q1 &&& (4611686018427387903 : Int64))) + (((p3 &&& (3 : Int32)) - (1 : Int32)).toInt64))), .second, .unset] [(.ref b40)]))
        refine go (fun t kt => XS.astore X41.here hx rfl (hb hby at_64) rfl rfl (l' := #[.val (.long q0), .second, .val (.long q1), .second, .val (.long q2), .second, .val (.int p3), .val (.long (q1 &&& (4611686018427387903 : Int64))), .second, .val (.long ((q0 - (q1 &&& (4611686018427387903 : Int64))) + (((p3 &&& (3 : Int32)) - (1 : Int32)).toInt64))), .second, .val (.ref b40), .unset, .unset]) rfl kt) ?_
        show Goes p.tables e below _ (T41.setTop (mkF m 66 #[.val (.long q0), .second, .val (.long q1), .second, .val (.long q2), .second, .val (.int p3), .val (.long (q1 &&& (4611686018427387903 : Int64))), .second, .val (.long ((q0 - (q1 &&& (4611686018427387903 : Int64))) + (((p3 &&& (3 : Int32)) - (1 : Int32)).toInt64))), .second, .val (.ref b40), .unset, .unset] []))
        refine go (fun t kt => XS.aload X41.here hx rfl (hb hby at_66) rfl rfl kt) ?_
        show Goes p.tables e below _ (T41.setTop (mkF m 68 #[.val (.long q0), .second, .val (.long q1), .second, .val (.long q2), .second, .val (.int p3), .val (.long (q1 &&& (4611686018427387903 : Int64))), .second, .val (.long ((q0 - (q1 &&& (4611686018427387903 : Int64))) + (((p3 &&& (3 : Int32)) - (1 : Int32)).toInt64))), .second, .val (.ref b40), .unset, .unset] [(.ref b40)]))
        refine go (fun t kt => XS.lload X41.here hx rfl (hb hby at_68) rfl kt) ?_
        show Goes p.tables e below _ (T41.setTop (mkF m 70 #[.val (.long q0), .second, .val (.long q1), .second, .val (.long q2), .second, .val (.int p3), .val (.long (q1 &&& (4611686018427387903 : Int64))), .second, .val (.long ((q0 - (q1 &&& (4611686018427387903 : Int64))) + (((p3 &&& (3 : Int32)) - (1 : Int32)).toInt64))), .second, .val (.ref b40), .unset, .unset] [(.long (q1 &&& (4611686018427387903 : Int64))), (.ref b40)]))
        obtain ⟨cq42, kq42, q42a, q42b, q42c⟩ := isOf hZ rfl E_b40
        obtain ⟨_, _, ⟨T42, L42, k42, n42⟩, -, X42, ⟨Lc42, hQ42, l42, y42, z42⟩, st42⟩ := X41.virtualBack hx (y := (⟨"com/example/sumbit/sumbit/protocol/TransitMemory", "take", "(J)V"⟩ : MethodName)) (z := (⟨"com/example/sumbit/sumbit/protocol/TransitMemory", "take", "(J)V"⟩ : MethodName)) hown (mvT hZ (hw _ (List.mem_of_getElem? (i := 12) rfl))) (mvT hZ (hw _ (List.mem_of_getElem? (i := 13) rfl))) (notFace_of_selects (args := #[]) (mvT hZ (hw _ (List.mem_of_getElem? (i := 15) rfl)))) (mvT hZ (hw _ (List.mem_of_getElem? (i := 15) rfl))) (mvT hZ (hw _ (List.mem_of_getElem? (i := 14) rfl))) (by decide) (backOf (W := 0) (rm3 l Z a0 hw [] b40 (q1 &&& (4611686018427387903 : Int64)) q0 (0 : Int64) T41.heap n0 Zz41 E_b40 F_limit_b40 F_held_b40 g_b40) hZ (hw _ (List.mem_of_getElem? (i := 16) rfl)) (hw _ (List.mem_of_getElem? (i := 3) rfl)) (by decide) (by decide)) q42a q42c (g := (mkF m 70 #[.val (.long q0), .second, .val (.long q1), .second, .val (.long q2), .second, .val (.int p3), .val (.long (q1 &&& (4611686018427387903 : Int64))), .second, .val (.long ((q0 - (q1 &&& (4611686018427387903 : Int64))) + (((p3 &&& (3 : Int32)) - (1 : Int32)).toInt64))), .second, .val (.ref b40), .unset, .unset] [(.long (q1 &&& (4611686018427387903 : Int64))), (.ref b40)])) rfl (by rw [hml]; rfl) (Steps.refl _) (argsL := [(.long (q1 &&& (4611686018427387903 : Int64)))]) (rest := []) (lenOf pd_0 rfl) rfl (by show 2 * 0 + _ ≤ _; exact Nat.le_of_eq rfl) (hb hby at_70) (fun _ _ => ⟨rfl, rfl, (by decide : 1 + 0 ≤ _), (by decide : 2 + 0 ≤ _)⟩)
        dsimp only [Pt.U, Pt.locs, Pt.cells, Pt.slots] at X42 l42 y42 z42 st42 hQ42
        subst l42 y42 z42
        obtain ⟨rfl, Nq42, Kq42, Eq42_o0, Fq42_limit_o0, Fq42_held_o0⟩ := hQ42
        replace E_b40 := E_b40.keep Kq42
        clear F_limit_b40
        clear F_held_b40
        have Zz42 := Nat.le_trans Zz41 Kq42.1
        have Kk42 := Kk41.trans Kq42 (allS (Or.inr sz_b40) all0)
        have E_b40 := Eq42_o0
        have F_limit_b40 := Fq42_limit_o0
        have F_held_b40 := Fq42_held_o0
        have N42 := Fr.app N41 Nq42
        refine go (fun t kt => st42.trans kt) ?_
        show Goes p.tables e below _ (T42.setTop (mkF m 73 #[.val (.long q0), .second, .val (.long q1), .second, .val (.long q2), .second, .val (.int p3), .val (.long (q1 &&& (4611686018427387903 : Int64))), .second, .val (.long ((q0 - (q1 &&& (4611686018427387903 : Int64))) + (((p3 &&& (3 : Int32)) - (1 : Int32)).toInt64))), .second, .val (.ref b40), .unset, .unset] []))
        refine go (fun t kt => XS.aload X42.here hx rfl (hb hby at_73) rfl rfl kt) ?_
        show Goes p.tables e below _ (T42.setTop (mkF m 75 #[.val (.long q0), .second, .val (.long q1), .second, .val (.long q2), .second, .val (.int p3), .val (.long (q1 &&& (4611686018427387903 : Int64))), .second, .val (.long ((q0 - (q1 &&& (4611686018427387903 : Int64))) + (((p3 &&& (3 : Int32)) - (1 : Int32)).toInt64))), .second, .val (.ref b40), .unset, .unset] [(.ref b40)]))
        refine go (fun t kt => XS.lload X42.here hx rfl (hb hby at_75) rfl kt) ?_
        show Goes p.tables e below _ (T42.setTop (mkF m 77 #[.val (.long q0), .second, .val (.long q1), .second, .val (.long q2), .second, .val (.int p3), .val (.long (q1 &&& (4611686018427387903 : Int64))), .second, .val (.long ((q0 - (q1 &&& (4611686018427387903 : Int64))) + (((p3 &&& (3 : Int32)) - (1 : Int32)).toInt64))), .second, .val (.ref b40), .unset, .unset] [(.long ((q0 - (q1 &&& (4611686018427387903 : Int64))) + (((p3 &&& (3 : Int32)) - (1 : Int32)).toInt64))), (.ref b40)]))
        obtain ⟨cq43, kq43, q43a, q43b, q43c⟩ := isOf hZ rfl E_b40
        obtain ⟨_, _, ⟨T43, L43, k43, n43⟩, -, X43, ⟨Lc43, hQ43, l43, y43, z43⟩, st43⟩ := X42.virtualBack hx (y := (⟨"com/example/sumbit/sumbit/protocol/TransitMemory", "allows", "(J)Z"⟩ : MethodName)) (z := (⟨"com/example/sumbit/sumbit/protocol/TransitMemory", "allows", "(J)Z"⟩ : MethodName)) hown (mvT hZ (hw _ (List.mem_of_getElem? (i := 19) rfl))) (mvT hZ (hw _ (List.mem_of_getElem? (i := 20) rfl))) (notFace_of_selects (args := #[]) (mvT hZ (hw _ (List.mem_of_getElem? (i := 22) rfl)))) (mvT hZ (hw _ (List.mem_of_getElem? (i := 22) rfl))) (mvT hZ (hw _ (List.mem_of_getElem? (i := 21) rfl))) (by decide) (backOf (W := 0) (rm4 l Z a0 hw [] b40 ((q0 - (q1 &&& (4611686018427387903 : Int64))) + (((p3 &&& (3 : Int32)) - (1 : Int32)).toInt64)) ((0 : Int64) + (q1 &&& (4611686018427387903 : Int64))) q0 T42.heap n0 Zz42 F_held_b40 F_limit_b40) hZ (hw _ (List.mem_of_getElem? (i := 23) rfl)) (hw _ (List.mem_of_getElem? (i := 3) rfl)) (by decide) (by decide)) q43a q43c (g := (mkF m 77 #[.val (.long q0), .second, .val (.long q1), .second, .val (.long q2), .second, .val (.int p3), .val (.long (q1 &&& (4611686018427387903 : Int64))), .second, .val (.long ((q0 - (q1 &&& (4611686018427387903 : Int64))) + (((p3 &&& (3 : Int32)) - (1 : Int32)).toInt64))), .second, .val (.ref b40), .unset, .unset] [(.long ((q0 - (q1 &&& (4611686018427387903 : Int64))) + (((p3 &&& (3 : Int32)) - (1 : Int32)).toInt64))), (.ref b40)])) rfl (by rw [hml]; rfl) (Steps.refl _) (argsL := [(.long ((q0 - (q1 &&& (4611686018427387903 : Int64))) + (((p3 &&& (3 : Int32)) - (1 : Int32)).toInt64)))]) (rest := []) (lenOf pd_1 rfl) rfl (by show 2 * 0 + _ ≤ _; exact Nat.le_of_eq rfl) (hb hby at_77) (fun _ _ => ⟨rfl, rfl, (by decide : 1 + 0 ≤ _), (by decide : 2 + 0 ≤ _)⟩)
        dsimp only [Pt.U, Pt.locs, Pt.cells, Pt.slots] at X43 l43 y43 z43 st43 hQ43
        subst l43 y43 z43
        obtain ⟨rfl, Nq43, e43⟩ := hQ43
        have N43 := Fr.app N42 Nq43
        refine go (fun t kt => st43.trans kt) ?_
        show Goes p.tables e below _ (T43.setTop (mkF m 80 #[.val (.long q0), .second, .val (.long q1), .second, .val (.long q2), .second, .val (.int p3), .val (.long (q1 &&& (4611686018427387903 : Int64))), .second, .val (.long ((q0 - (q1 &&& (4611686018427387903 : Int64))) + (((p3 &&& (3 : Int32)) - (1 : Int32)).toInt64))), .second, .val (.ref b40), .unset, .unset] [(.int (own_allows ((q0 - (q1 &&& (4611686018427387903 : Int64))) + (((p3 &&& (3 : Int32)) - (1 : Int32)).toInt64)) ((0 : Int64) + (q1 &&& (4611686018427387903 : Int64))) q0))]))
        refine go (fun t kt => XS.istore X43.here hx rfl (hb hby at_80) rfl (l' := #[.val (.long q0), .second, .val (.long q1), .second, .val (.long q2), .second, .val (.int p3), .val (.long (q1 &&& (4611686018427387903 : Int64))), .second, .val (.long ((q0 - (q1 &&& (4611686018427387903 : Int64))) + (((p3 &&& (3 : Int32)) - (1 : Int32)).toInt64))), .second, .val (.ref b40), .val (.int (own_allows ((q0 - (q1 &&& (4611686018427387903 : Int64))) + (((p3 &&& (3 : Int32)) - (1 : Int32)).toInt64)) ((0 : Int64) + (q1 &&& (4611686018427387903 : Int64))) q0)), .unset]) rfl kt) ?_
        show Goes p.tables e below _ (T43.setTop (mkF m 82 #[.val (.long q0), .second, .val (.long q1), .second, .val (.long q2), .second, .val (.int p3), .val (.long (q1 &&& (4611686018427387903 : Int64))), .second, .val (.long ((q0 - (q1 &&& (4611686018427387903 : Int64))) + (((p3 &&& (3 : Int32)) - (1 : Int32)).toInt64))), .second, .val (.ref b40), .val (.int (own_allows ((q0 - (q1 &&& (4611686018427387903 : Int64))) + (((p3 &&& (3 : Int32)) - (1 : Int32)).toInt64)) ((0 : Int64) + (q1 &&& (4611686018427387903 : Int64))) q0)), .unset] []))
        refine go (fun t kt => XS.lloadN X43.here hx rfl (hb hby at_82) rfl kt) ?_
        show Goes p.tables e below _ (T43.setTop (mkF m 83 #[.val (.long q0), .second, .val (.long q1), .second, .val (.long q2), .second, .val (.int p3), .val (.long (q1 &&& (4611686018427387903 : Int64))), .second, .val (.long ((q0 - (q1 &&& (4611686018427387903 : Int64))) + (((p3 &&& (3 : Int32)) - (1 : Int32)).toInt64))), .second, .val (.ref b40), .val (.int (own_allows ((q0 - (q1 &&& (4611686018427387903 : Int64))) + (((p3 &&& (3 : Int32)) - (1 : Int32)).toInt64)) ((0 : Int64) + (q1 &&& (4611686018427387903 : Int64))) q0)), .unset] [(.long q0)]))
        refine go (fun t kt => XS.lconst X43.here hx rfl (hb hby at_83) kt) ?_
        show Goes p.tables e below _ (T43.setTop (mkF m 84 #[.val (.long q0), .second, .val (.long q1), .second, .val (.long q2), .second, .val (.int p3), .val (.long (q1 &&& (4611686018427387903 : Int64))), .second, .val (.long ((q0 - (q1 &&& (4611686018427387903 : Int64))) + (((p3 &&& (3 : Int32)) - (1 : Int32)).toInt64))), .second, .val (.ref b40), .val (.int (own_allows ((q0 - (q1 &&& (4611686018427387903 : Int64))) + (((p3 &&& (3 : Int32)) - (1 : Int32)).toInt64)) ((0 : Int64) + (q1 &&& (4611686018427387903 : Int64))) q0)), .unset] [(.long (0 : Int64)), (.long q0)]))
        refine go (fun t kt => XS.lcmp X43.here hx rfl (hb hby at_84) rfl kt) ?_
        show Goes p.tables e below _ (T43.setTop (mkF m 85 #[.val (.long q0), .second, .val (.long q1), .second, .val (.long q2), .second, .val (.int p3), .val (.long (q1 &&& (4611686018427387903 : Int64))), .second, .val (.long ((q0 - (q1 &&& (4611686018427387903 : Int64))) + (((p3 &&& (3 : Int32)) - (1 : Int32)).toInt64))), .second, .val (.ref b40), .val (.int (own_allows ((q0 - (q1 &&& (4611686018427387903 : Int64))) + (((p3 &&& (3 : Int32)) - (1 : Int32)).toInt64)) ((0 : Int64) + (q1 &&& (4611686018427387903 : Int64))) q0)), .unset] [(.int (lcmpW q0 (0 : Int64)))]))
        by_cases hc44 : q0 < (0 : Int64)
        ·
          refine go (fun t kt => XS.ifNo X43.here hx rfl (hb hby at_85) rfl ((if0 _ _).trans (tlt ((lw_lt q0 (0 : Int64)).mpr hc44)).2.1) kt) ?_
          show Goes p.tables e below _ (T43.setTop (mkF m 88 #[.val (.long q0), .second, .val (.long q1), .second, .val (.long q2), .second, .val (.int p3), .val (.long (q1 &&& (4611686018427387903 : Int64))), .second, .val (.long ((q0 - (q1 &&& (4611686018427387903 : Int64))) + (((p3 &&& (3 : Int32)) - (1 : Int32)).toInt64))), .second, .val (.ref b40), .val (.int (own_allows ((q0 - (q1 &&& (4611686018427387903 : Int64))) + (((p3 &&& (3 : Int32)) - (1 : Int32)).toInt64)) ((0 : Int64) + (q1 &&& (4611686018427387903 : Int64))) q0)), .unset] []))
          refine go (fun t kt => XS.iconst X43.here hx rfl (hb hby at_88) kt) ?_
          show Goes p.tables e below _ (T43.setTop (mkF m 89 #[.val (.long q0), .second, .val (.long q1), .second, .val (.long q2), .second, .val (.int p3), .val (.long (q1 &&& (4611686018427387903 : Int64))), .second, .val (.long ((q0 - (q1 &&& (4611686018427387903 : Int64))) + (((p3 &&& (3 : Int32)) - (1 : Int32)).toInt64))), .second, .val (.ref b40), .val (.int (own_allows ((q0 - (q1 &&& (4611686018427387903 : Int64))) + (((p3 &&& (3 : Int32)) - (1 : Int32)).toInt64)) ((0 : Int64) + (q1 &&& (4611686018427387903 : Int64))) q0)), .unset] [(.int (0 : Int32))]))
          refine go (fun t kt => XS.istore X43.here hx rfl (hb hby at_89) rfl (l' := #[.val (.long q0), .second, .val (.long q1), .second, .val (.long q2), .second, .val (.int p3), .val (.long (q1 &&& (4611686018427387903 : Int64))), .second, .val (.long ((q0 - (q1 &&& (4611686018427387903 : Int64))) + (((p3 &&& (3 : Int32)) - (1 : Int32)).toInt64))), .second, .val (.ref b40), .val (.int (own_allows ((q0 - (q1 &&& (4611686018427387903 : Int64))) + (((p3 &&& (3 : Int32)) - (1 : Int32)).toInt64)) ((0 : Int64) + (q1 &&& (4611686018427387903 : Int64))) q0)), .val (.int (0 : Int32))]) rfl kt) ?_
          show Goes p.tables e below _ (T43.setTop (mkF m 91 #[.val (.long q0), .second, .val (.long q1), .second, .val (.long q2), .second, .val (.int p3), .val (.long (q1 &&& (4611686018427387903 : Int64))), .second, .val (.long ((q0 - (q1 &&& (4611686018427387903 : Int64))) + (((p3 &&& (3 : Int32)) - (1 : Int32)).toInt64))), .second, .val (.ref b40), .val (.int (own_allows ((q0 - (q1 &&& (4611686018427387903 : Int64))) + (((p3 &&& (3 : Int32)) - (1 : Int32)).toInt64)) ((0 : Int64) + (q1 &&& (4611686018427387903 : Int64))) q0)), .val (.int (0 : Int32))] []))
          refine go (fun t kt => XS.goto X43.here hx rfl (pc0 := 91) (pc' := 111) rfl (hb hby at_91) (by decide) (by decide) kt) ?_
          show Goes p.tables e below _ (T43.setTop (mkF m 111 #[.val (.long q0), .second, .val (.long q1), .second, .val (.long q2), .second, .val (.int p3), .val (.long (q1 &&& (4611686018427387903 : Int64))), .second, .val (.long ((q0 - (q1 &&& (4611686018427387903 : Int64))) + (((p3 &&& (3 : Int32)) - (1 : Int32)).toInt64))), .second, .val (.ref b40), .val (.int (own_allows ((q0 - (q1 &&& (4611686018427387903 : Int64))) + (((p3 &&& (3 : Int32)) - (1 : Int32)).toInt64)) ((0 : Int64) + (q1 &&& (4611686018427387903 : Int64))) q0)), .val (.int (0 : Int32))] []))
          refine go (fun t kt => XS.iload X43.here hx rfl (hb hby at_111) rfl kt) ?_
          show Goes p.tables e below _ (T43.setTop (mkF m 113 #[.val (.long q0), .second, .val (.long q1), .second, .val (.long q2), .second, .val (.int p3), .val (.long (q1 &&& (4611686018427387903 : Int64))), .second, .val (.long ((q0 - (q1 &&& (4611686018427387903 : Int64))) + (((p3 &&& (3 : Int32)) - (1 : Int32)).toInt64))), .second, .val (.ref b40), .val (.int (own_allows ((q0 - (q1 &&& (4611686018427387903 : Int64))) + (((p3 &&& (3 : Int32)) - (1 : Int32)).toInt64)) ((0 : Int64) + (q1 &&& (4611686018427387903 : Int64))) q0)), .val (.int (0 : Int32))] [(.int (own_allows ((q0 - (q1 &&& (4611686018427387903 : Int64))) + (((p3 &&& (3 : Int32)) - (1 : Int32)).toInt64)) ((0 : Int64) + (q1 &&& (4611686018427387903 : Int64))) q0))]))
          refine go (fun t kt => XS.iload X43.here hx rfl (hb hby at_113) rfl kt) ?_
          show Goes p.tables e below _ (T43.setTop (mkF m 115 #[.val (.long q0), .second, .val (.long q1), .second, .val (.long q2), .second, .val (.int p3), .val (.long (q1 &&& (4611686018427387903 : Int64))), .second, .val (.long ((q0 - (q1 &&& (4611686018427387903 : Int64))) + (((p3 &&& (3 : Int32)) - (1 : Int32)).toInt64))), .second, .val (.ref b40), .val (.int (own_allows ((q0 - (q1 &&& (4611686018427387903 : Int64))) + (((p3 &&& (3 : Int32)) - (1 : Int32)).toInt64)) ((0 : Int64) + (q1 &&& (4611686018427387903 : Int64))) q0)), .val (.int (0 : Int32))] [(.int (0 : Int32)), (.int (own_allows ((q0 - (q1 &&& (4611686018427387903 : Int64))) + (((p3 &&& (3 : Int32)) - (1 : Int32)).toInt64)) ((0 : Int64) + (q1 &&& (4611686018427387903 : Int64))) q0))]))
          refine go (fun t kt => XS.icmpNo X43.here hx rfl (hb hby at_115) rfl (teq (own_neg _ _ _ (own_m q1) (own_near _ hc14 hc27) hc44)).2 kt) ?_
          show Goes p.tables e below _ (T43.setTop (mkF m 118 #[.val (.long q0), .second, .val (.long q1), .second, .val (.long q2), .second, .val (.int p3), .val (.long (q1 &&& (4611686018427387903 : Int64))), .second, .val (.long ((q0 - (q1 &&& (4611686018427387903 : Int64))) + (((p3 &&& (3 : Int32)) - (1 : Int32)).toInt64))), .second, .val (.ref b40), .val (.int (own_allows ((q0 - (q1 &&& (4611686018427387903 : Int64))) + (((p3 &&& (3 : Int32)) - (1 : Int32)).toInt64)) ((0 : Int64) + (q1 &&& (4611686018427387903 : Int64))) q0)), .val (.int (0 : Int32))] []))
          refine go (fun t kt => XS.aload X43.here hx rfl (hb hby at_118) rfl rfl kt) ?_
          show Goes p.tables e below _ (T43.setTop (mkF m 120 #[.val (.long q0), .second, .val (.long q1), .second, .val (.long q2), .second, .val (.int p3), .val (.long (q1 &&& (4611686018427387903 : Int64))), .second, .val (.long ((q0 - (q1 &&& (4611686018427387903 : Int64))) + (((p3 &&& (3 : Int32)) - (1 : Int32)).toInt64))), .second, .val (.ref b40), .val (.int (own_allows ((q0 - (q1 &&& (4611686018427387903 : Int64))) + (((p3 &&& (3 : Int32)) - (1 : Int32)).toInt64)) ((0 : Int64) + (q1 &&& (4611686018427387903 : Int64))) q0)), .val (.int (0 : Int32))] [(.ref b40)]))
          obtain ⟨cq45, kq45, q45a, q45b, q45c⟩ := isOf hZ e43 E_b40
          obtain ⟨_, _, ⟨T45, L45, k45, n45⟩, -, X45, ⟨Lc45, hQ45, l45, y45, z45⟩, st45⟩ := X43.virtualBack hx (y := (⟨"com/example/sumbit/sumbit/protocol/TransitMemory", "held", "()J"⟩ : MethodName)) (z := (⟨"com/example/sumbit/sumbit/protocol/TransitMemory", "held", "()J"⟩ : MethodName)) hown (mvT hZ (hw _ (List.mem_of_getElem? (i := 24) rfl))) (mvT hZ (hw _ (List.mem_of_getElem? (i := 25) rfl))) (notFace_of_selects (args := #[]) (mvT hZ (hw _ (List.mem_of_getElem? (i := 27) rfl)))) (mvT hZ (hw _ (List.mem_of_getElem? (i := 27) rfl))) (mvT hZ (hw _ (List.mem_of_getElem? (i := 26) rfl))) (by decide) (backOf (W := 0) (rm5 l Z a0 hw [] b40 ((0 : Int64) + (q1 &&& (4611686018427387903 : Int64))) T42.heap n0 Zz42 F_held_b40) hZ (hw _ (List.mem_of_getElem? (i := 28) rfl)) (hw _ (List.mem_of_getElem? (i := 3) rfl)) (by decide) (by decide)) q45a q45c (g := (mkF m 120 #[.val (.long q0), .second, .val (.long q1), .second, .val (.long q2), .second, .val (.int p3), .val (.long (q1 &&& (4611686018427387903 : Int64))), .second, .val (.long ((q0 - (q1 &&& (4611686018427387903 : Int64))) + (((p3 &&& (3 : Int32)) - (1 : Int32)).toInt64))), .second, .val (.ref b40), .val (.int (own_allows ((q0 - (q1 &&& (4611686018427387903 : Int64))) + (((p3 &&& (3 : Int32)) - (1 : Int32)).toInt64)) ((0 : Int64) + (q1 &&& (4611686018427387903 : Int64))) q0)), .val (.int (0 : Int32))] [(.ref b40)])) rfl (by rw [hml]; rfl) (Steps.refl _) (argsL := []) (rest := []) (lenOf pd_2 rfl) rfl (by show 2 * 0 + _ ≤ _; exact Nat.le_of_eq rfl) (hb hby at_120) (fun _ _ => ⟨rfl, e43, (by decide : 1 + 0 ≤ _), (by decide : 2 + 0 ≤ _)⟩)
          dsimp only [Pt.U, Pt.locs, Pt.cells, Pt.slots] at X45 l45 y45 z45 st45 hQ45
          subst l45 y45 z45
          obtain ⟨rfl, Nq45, e45⟩ := hQ45
          have N45 := Fr.app N43 Nq45
          refine go (fun t kt => st45.trans kt) ?_
          show Goes p.tables e below _ (T45.setTop (mkF m 123 #[.val (.long q0), .second, .val (.long q1), .second, .val (.long q2), .second, .val (.int p3), .val (.long (q1 &&& (4611686018427387903 : Int64))), .second, .val (.long ((q0 - (q1 &&& (4611686018427387903 : Int64))) + (((p3 &&& (3 : Int32)) - (1 : Int32)).toInt64))), .second, .val (.ref b40), .val (.int (own_allows ((q0 - (q1 &&& (4611686018427387903 : Int64))) + (((p3 &&& (3 : Int32)) - (1 : Int32)).toInt64)) ((0 : Int64) + (q1 &&& (4611686018427387903 : Int64))) q0)), .val (.int (0 : Int32))] [(.long (own_held ((0 : Int64) + (q1 &&& (4611686018427387903 : Int64)))))]))
          refine go (fun t kt => XS.lload X45.here hx rfl (hb hby at_123) rfl kt) ?_
          show Goes p.tables e below _ (T45.setTop (mkF m 125 #[.val (.long q0), .second, .val (.long q1), .second, .val (.long q2), .second, .val (.int p3), .val (.long (q1 &&& (4611686018427387903 : Int64))), .second, .val (.long ((q0 - (q1 &&& (4611686018427387903 : Int64))) + (((p3 &&& (3 : Int32)) - (1 : Int32)).toInt64))), .second, .val (.ref b40), .val (.int (own_allows ((q0 - (q1 &&& (4611686018427387903 : Int64))) + (((p3 &&& (3 : Int32)) - (1 : Int32)).toInt64)) ((0 : Int64) + (q1 &&& (4611686018427387903 : Int64))) q0)), .val (.int (0 : Int32))] [(.long (q1 &&& (4611686018427387903 : Int64))), (.long (own_held ((0 : Int64) + (q1 &&& (4611686018427387903 : Int64)))))]))
          refine go (fun t kt => XS.lcmp X45.here hx rfl (hb hby at_125) rfl kt) ?_
          show Goes p.tables e below _ (T45.setTop (mkF m 126 #[.val (.long q0), .second, .val (.long q1), .second, .val (.long q2), .second, .val (.int p3), .val (.long (q1 &&& (4611686018427387903 : Int64))), .second, .val (.long ((q0 - (q1 &&& (4611686018427387903 : Int64))) + (((p3 &&& (3 : Int32)) - (1 : Int32)).toInt64))), .second, .val (.ref b40), .val (.int (own_allows ((q0 - (q1 &&& (4611686018427387903 : Int64))) + (((p3 &&& (3 : Int32)) - (1 : Int32)).toInt64)) ((0 : Int64) + (q1 &&& (4611686018427387903 : Int64))) q0)), .val (.int (0 : Int32))] [(.int (lcmpW (own_held ((0 : Int64) + (q1 &&& (4611686018427387903 : Int64)))) (q1 &&& (4611686018427387903 : Int64))))]))
          refine go (fun t kt => XS.ifNo X45.here hx rfl (hb hby at_126) rfl ((if0 _ _).trans (teq ((lw_eq (own_held ((0 : Int64) + (q1 &&& (4611686018427387903 : Int64)))) (q1 &&& (4611686018427387903 : Int64))).mpr (own_z _))).2) kt) ?_
          show Goes p.tables e below _ (T45.setTop (mkF m 129 #[.val (.long q0), .second, .val (.long q1), .second, .val (.long q2), .second, .val (.int p3), .val (.long (q1 &&& (4611686018427387903 : Int64))), .second, .val (.long ((q0 - (q1 &&& (4611686018427387903 : Int64))) + (((p3 &&& (3 : Int32)) - (1 : Int32)).toInt64))), .second, .val (.ref b40), .val (.int (own_allows ((q0 - (q1 &&& (4611686018427387903 : Int64))) + (((p3 &&& (3 : Int32)) - (1 : Int32)).toInt64)) ((0 : Int64) + (q1 &&& (4611686018427387903 : Int64))) q0)), .val (.int (0 : Int32))] []))
          refine go (fun t kt => XS.iconst X45.here hx rfl (hb hby at_129) kt) ?_
          show Goes p.tables e below _ (T45.setTop (mkF m 130 #[.val (.long q0), .second, .val (.long q1), .second, .val (.long q2), .second, .val (.int p3), .val (.long (q1 &&& (4611686018427387903 : Int64))), .second, .val (.long ((q0 - (q1 &&& (4611686018427387903 : Int64))) + (((p3 &&& (3 : Int32)) - (1 : Int32)).toInt64))), .second, .val (.ref b40), .val (.int (own_allows ((q0 - (q1 &&& (4611686018427387903 : Int64))) + (((p3 &&& (3 : Int32)) - (1 : Int32)).toInt64)) ((0 : Int64) + (q1 &&& (4611686018427387903 : Int64))) q0)), .val (.int (0 : Int32))] [(.int (1 : Int32))]))
          refine go (fun t kt => XS.goto X45.here hx rfl (pc0 := 130) (pc' := 134) rfl (hb hby at_130) (by decide) (by decide) kt) ?_
          show Goes p.tables e below _ (T45.setTop (mkF m 134 #[.val (.long q0), .second, .val (.long q1), .second, .val (.long q2), .second, .val (.int p3), .val (.long (q1 &&& (4611686018427387903 : Int64))), .second, .val (.long ((q0 - (q1 &&& (4611686018427387903 : Int64))) + (((p3 &&& (3 : Int32)) - (1 : Int32)).toInt64))), .second, .val (.ref b40), .val (.int (own_allows ((q0 - (q1 &&& (4611686018427387903 : Int64))) + (((p3 &&& (3 : Int32)) - (1 : Int32)).toInt64)) ((0 : Int64) + (q1 &&& (4611686018427387903 : Int64))) q0)), .val (.int (0 : Int32))] [(.int (1 : Int32))]))
          obtain ⟨fs, hr, hrun, hended, hW, hsame⟩ := X45.leave (v := some (.int (1 : Int32))) (fun h => by rw [Bd.returns] at h; cases h)
          refine ⟨_, _, retN X45 hx (t := .boolean) Bd.returns (by simp) (hb hby at_134) hr, hrun, hended, _, _, rfl, ?_, ⟨_, rfl⟩, hW, hsame.mono (by decide) (by decide)⟩
          show Q0 Z q0 q1 q2 p3 h0 n0 _ T45.heap _
          rw [e45]
          exact ⟨rfl, N45⟩
        ·
          refine go (fun t kt => XS.ifYes X43.here hx rfl (pc0 := 85) (pc' := 94) rfl (hb hby at_85) rfl ((if0 _ _).trans (flt (fun q => hc44 ((lw_lt q0 (0 : Int64)).mp q))).2.1) (by decide) (by decide) kt) ?_
          show Goes p.tables e below _ (T43.setTop (mkF m 94 #[.val (.long q0), .second, .val (.long q1), .second, .val (.long q2), .second, .val (.int p3), .val (.long (q1 &&& (4611686018427387903 : Int64))), .second, .val (.long ((q0 - (q1 &&& (4611686018427387903 : Int64))) + (((p3 &&& (3 : Int32)) - (1 : Int32)).toInt64))), .second, .val (.ref b40), .val (.int (own_allows ((q0 - (q1 &&& (4611686018427387903 : Int64))) + (((p3 &&& (3 : Int32)) - (1 : Int32)).toInt64)) ((0 : Int64) + (q1 &&& (4611686018427387903 : Int64))) q0)), .unset] []))
          refine go (fun t kt => XS.lload X43.here hx rfl (hb hby at_94) rfl kt) ?_
          show Goes p.tables e below _ (T43.setTop (mkF m 96 #[.val (.long q0), .second, .val (.long q1), .second, .val (.long q2), .second, .val (.int p3), .val (.long (q1 &&& (4611686018427387903 : Int64))), .second, .val (.long ((q0 - (q1 &&& (4611686018427387903 : Int64))) + (((p3 &&& (3 : Int32)) - (1 : Int32)).toInt64))), .second, .val (.ref b40), .val (.int (own_allows ((q0 - (q1 &&& (4611686018427387903 : Int64))) + (((p3 &&& (3 : Int32)) - (1 : Int32)).toInt64)) ((0 : Int64) + (q1 &&& (4611686018427387903 : Int64))) q0)), .unset] [(.long ((q0 - (q1 &&& (4611686018427387903 : Int64))) + (((p3 &&& (3 : Int32)) - (1 : Int32)).toInt64)))]))
          refine go (fun t kt => XS.lloadN X43.here hx rfl (hb hby at_96) rfl kt) ?_
          show Goes p.tables e below _ (T43.setTop (mkF m 97 #[.val (.long q0), .second, .val (.long q1), .second, .val (.long q2), .second, .val (.int p3), .val (.long (q1 &&& (4611686018427387903 : Int64))), .second, .val (.long ((q0 - (q1 &&& (4611686018427387903 : Int64))) + (((p3 &&& (3 : Int32)) - (1 : Int32)).toInt64))), .second, .val (.ref b40), .val (.int (own_allows ((q0 - (q1 &&& (4611686018427387903 : Int64))) + (((p3 &&& (3 : Int32)) - (1 : Int32)).toInt64)) ((0 : Int64) + (q1 &&& (4611686018427387903 : Int64))) q0)), .unset] [(.long q0), (.long ((q0 - (q1 &&& (4611686018427387903 : Int64))) + (((p3 &&& (3 : Int32)) - (1 : Int32)).toInt64)))]))
          refine go (fun t kt => XS.lload X43.here hx rfl (hb hby at_97) rfl kt) ?_
          show Goes p.tables e below _ (T43.setTop (mkF m 99 #[.val (.long q0), .second, .val (.long q1), .second, .val (.long q2), .second, .val (.int p3), .val (.long (q1 &&& (4611686018427387903 : Int64))), .second, .val (.long ((q0 - (q1 &&& (4611686018427387903 : Int64))) + (((p3 &&& (3 : Int32)) - (1 : Int32)).toInt64))), .second, .val (.ref b40), .val (.int (own_allows ((q0 - (q1 &&& (4611686018427387903 : Int64))) + (((p3 &&& (3 : Int32)) - (1 : Int32)).toInt64)) ((0 : Int64) + (q1 &&& (4611686018427387903 : Int64))) q0)), .unset] [(.long (q1 &&& (4611686018427387903 : Int64))), (.long q0), (.long ((q0 - (q1 &&& (4611686018427387903 : Int64))) + (((p3 &&& (3 : Int32)) - (1 : Int32)).toInt64)))]))
          refine go (fun t kt => XS.lsub X43.here hx rfl (hb hby at_99) rfl kt) ?_
          show Goes p.tables e below _ (T43.setTop (mkF m 100 #[.val (.long q0), .second, .val (.long q1), .second, .val (.long q2), .second, .val (.int p3), .val (.long (q1 &&& (4611686018427387903 : Int64))), .second, .val (.long ((q0 - (q1 &&& (4611686018427387903 : Int64))) + (((p3 &&& (3 : Int32)) - (1 : Int32)).toInt64))), .second, .val (.ref b40), .val (.int (own_allows ((q0 - (q1 &&& (4611686018427387903 : Int64))) + (((p3 &&& (3 : Int32)) - (1 : Int32)).toInt64)) ((0 : Int64) + (q1 &&& (4611686018427387903 : Int64))) q0)), .unset] [(.long (q0 - (q1 &&& (4611686018427387903 : Int64)))), (.long ((q0 - (q1 &&& (4611686018427387903 : Int64))) + (((p3 &&& (3 : Int32)) - (1 : Int32)).toInt64)))]))
          refine go (fun t kt => XS.lcmp X43.here hx rfl (hb hby at_100) rfl kt) ?_
          show Goes p.tables e below _ (T43.setTop (mkF m 101 #[.val (.long q0), .second, .val (.long q1), .second, .val (.long q2), .second, .val (.int p3), .val (.long (q1 &&& (4611686018427387903 : Int64))), .second, .val (.long ((q0 - (q1 &&& (4611686018427387903 : Int64))) + (((p3 &&& (3 : Int32)) - (1 : Int32)).toInt64))), .second, .val (.ref b40), .val (.int (own_allows ((q0 - (q1 &&& (4611686018427387903 : Int64))) + (((p3 &&& (3 : Int32)) - (1 : Int32)).toInt64)) ((0 : Int64) + (q1 &&& (4611686018427387903 : Int64))) q0)), .unset] [(.int (lcmpW ((q0 - (q1 &&& (4611686018427387903 : Int64))) + (((p3 &&& (3 : Int32)) - (1 : Int32)).toInt64)) (q0 - (q1 &&& (4611686018427387903 : Int64)))))]))
          by_cases hc47 : (q0 - (q1 &&& (4611686018427387903 : Int64))) < ((q0 - (q1 &&& (4611686018427387903 : Int64))) + (((p3 &&& (3 : Int32)) - (1 : Int32)).toInt64))
          ·
            refine go (fun t kt => XS.ifYes X43.here hx rfl (pc0 := 101) (pc' := 108) rfl (hb hby at_101) rfl ((if0 _ _).trans (tlt ((lw_gt ((q0 - (q1 &&& (4611686018427387903 : Int64))) + (((p3 &&& (3 : Int32)) - (1 : Int32)).toInt64)) (q0 - (q1 &&& (4611686018427387903 : Int64)))).mpr hc47)).2.2.1) (by decide) (by decide) kt) ?_
            show Goes p.tables e below _ (T43.setTop (mkF m 108 #[.val (.long q0), .second, .val (.long q1), .second, .val (.long q2), .second, .val (.int p3), .val (.long (q1 &&& (4611686018427387903 : Int64))), .second, .val (.long ((q0 - (q1 &&& (4611686018427387903 : Int64))) + (((p3 &&& (3 : Int32)) - (1 : Int32)).toInt64))), .second, .val (.ref b40), .val (.int (own_allows ((q0 - (q1 &&& (4611686018427387903 : Int64))) + (((p3 &&& (3 : Int32)) - (1 : Int32)).toInt64)) ((0 : Int64) + (q1 &&& (4611686018427387903 : Int64))) q0)), .unset] []))
            refine go (fun t kt => XS.iconst X43.here hx rfl (hb hby at_108) kt) ?_
            show Goes p.tables e below _ (T43.setTop (mkF m 109 #[.val (.long q0), .second, .val (.long q1), .second, .val (.long q2), .second, .val (.int p3), .val (.long (q1 &&& (4611686018427387903 : Int64))), .second, .val (.long ((q0 - (q1 &&& (4611686018427387903 : Int64))) + (((p3 &&& (3 : Int32)) - (1 : Int32)).toInt64))), .second, .val (.ref b40), .val (.int (own_allows ((q0 - (q1 &&& (4611686018427387903 : Int64))) + (((p3 &&& (3 : Int32)) - (1 : Int32)).toInt64)) ((0 : Int64) + (q1 &&& (4611686018427387903 : Int64))) q0)), .unset] [(.int (0 : Int32))]))
            refine go (fun t kt => XS.istore X43.here hx rfl (hb hby at_109) rfl (l' := #[.val (.long q0), .second, .val (.long q1), .second, .val (.long q2), .second, .val (.int p3), .val (.long (q1 &&& (4611686018427387903 : Int64))), .second, .val (.long ((q0 - (q1 &&& (4611686018427387903 : Int64))) + (((p3 &&& (3 : Int32)) - (1 : Int32)).toInt64))), .second, .val (.ref b40), .val (.int (own_allows ((q0 - (q1 &&& (4611686018427387903 : Int64))) + (((p3 &&& (3 : Int32)) - (1 : Int32)).toInt64)) ((0 : Int64) + (q1 &&& (4611686018427387903 : Int64))) q0)), .val (.int (0 : Int32))]) rfl kt) ?_
            show Goes p.tables e below _ (T43.setTop (mkF m 111 #[.val (.long q0), .second, .val (.long q1), .second, .val (.long q2), .second, .val (.int p3), .val (.long (q1 &&& (4611686018427387903 : Int64))), .second, .val (.long ((q0 - (q1 &&& (4611686018427387903 : Int64))) + (((p3 &&& (3 : Int32)) - (1 : Int32)).toInt64))), .second, .val (.ref b40), .val (.int (own_allows ((q0 - (q1 &&& (4611686018427387903 : Int64))) + (((p3 &&& (3 : Int32)) - (1 : Int32)).toInt64)) ((0 : Int64) + (q1 &&& (4611686018427387903 : Int64))) q0)), .val (.int (0 : Int32))] []))
            refine go (fun t kt => XS.iload X43.here hx rfl (hb hby at_111) rfl kt) ?_
            show Goes p.tables e below _ (T43.setTop (mkF m 113 #[.val (.long q0), .second, .val (.long q1), .second, .val (.long q2), .second, .val (.int p3), .val (.long (q1 &&& (4611686018427387903 : Int64))), .second, .val (.long ((q0 - (q1 &&& (4611686018427387903 : Int64))) + (((p3 &&& (3 : Int32)) - (1 : Int32)).toInt64))), .second, .val (.ref b40), .val (.int (own_allows ((q0 - (q1 &&& (4611686018427387903 : Int64))) + (((p3 &&& (3 : Int32)) - (1 : Int32)).toInt64)) ((0 : Int64) + (q1 &&& (4611686018427387903 : Int64))) q0)), .val (.int (0 : Int32))] [(.int (own_allows ((q0 - (q1 &&& (4611686018427387903 : Int64))) + (((p3 &&& (3 : Int32)) - (1 : Int32)).toInt64)) ((0 : Int64) + (q1 &&& (4611686018427387903 : Int64))) q0))]))
            refine go (fun t kt => XS.iload X43.here hx rfl (hb hby at_113) rfl kt) ?_
            show Goes p.tables e below _ (T43.setTop (mkF m 115 #[.val (.long q0), .second, .val (.long q1), .second, .val (.long q2), .second, .val (.int p3), .val (.long (q1 &&& (4611686018427387903 : Int64))), .second, .val (.long ((q0 - (q1 &&& (4611686018427387903 : Int64))) + (((p3 &&& (3 : Int32)) - (1 : Int32)).toInt64))), .second, .val (.ref b40), .val (.int (own_allows ((q0 - (q1 &&& (4611686018427387903 : Int64))) + (((p3 &&& (3 : Int32)) - (1 : Int32)).toInt64)) ((0 : Int64) + (q1 &&& (4611686018427387903 : Int64))) q0)), .val (.int (0 : Int32))] [(.int (0 : Int32)), (.int (own_allows ((q0 - (q1 &&& (4611686018427387903 : Int64))) + (((p3 &&& (3 : Int32)) - (1 : Int32)).toInt64)) ((0 : Int64) + (q1 &&& (4611686018427387903 : Int64))) q0))]))
            refine go (fun t kt => XS.icmpNo X43.here hx rfl (hb hby at_115) rfl (teq (own_out _ _ _ (own_m q1) (own_near _ hc14 hc27) hc44 hc47)).2 kt) ?_
            show Goes p.tables e below _ (T43.setTop (mkF m 118 #[.val (.long q0), .second, .val (.long q1), .second, .val (.long q2), .second, .val (.int p3), .val (.long (q1 &&& (4611686018427387903 : Int64))), .second, .val (.long ((q0 - (q1 &&& (4611686018427387903 : Int64))) + (((p3 &&& (3 : Int32)) - (1 : Int32)).toInt64))), .second, .val (.ref b40), .val (.int (own_allows ((q0 - (q1 &&& (4611686018427387903 : Int64))) + (((p3 &&& (3 : Int32)) - (1 : Int32)).toInt64)) ((0 : Int64) + (q1 &&& (4611686018427387903 : Int64))) q0)), .val (.int (0 : Int32))] []))
            refine go (fun t kt => XS.aload X43.here hx rfl (hb hby at_118) rfl rfl kt) ?_
            show Goes p.tables e below _ (T43.setTop (mkF m 120 #[.val (.long q0), .second, .val (.long q1), .second, .val (.long q2), .second, .val (.int p3), .val (.long (q1 &&& (4611686018427387903 : Int64))), .second, .val (.long ((q0 - (q1 &&& (4611686018427387903 : Int64))) + (((p3 &&& (3 : Int32)) - (1 : Int32)).toInt64))), .second, .val (.ref b40), .val (.int (own_allows ((q0 - (q1 &&& (4611686018427387903 : Int64))) + (((p3 &&& (3 : Int32)) - (1 : Int32)).toInt64)) ((0 : Int64) + (q1 &&& (4611686018427387903 : Int64))) q0)), .val (.int (0 : Int32))] [(.ref b40)]))
            obtain ⟨cq48, kq48, q48a, q48b, q48c⟩ := isOf hZ e43 E_b40
            obtain ⟨_, _, ⟨T48, L48, k48, n48⟩, -, X48, ⟨Lc48, hQ48, l48, y48, z48⟩, st48⟩ := X43.virtualBack hx (y := (⟨"com/example/sumbit/sumbit/protocol/TransitMemory", "held", "()J"⟩ : MethodName)) (z := (⟨"com/example/sumbit/sumbit/protocol/TransitMemory", "held", "()J"⟩ : MethodName)) hown (mvT hZ (hw _ (List.mem_of_getElem? (i := 24) rfl))) (mvT hZ (hw _ (List.mem_of_getElem? (i := 25) rfl))) (notFace_of_selects (args := #[]) (mvT hZ (hw _ (List.mem_of_getElem? (i := 27) rfl)))) (mvT hZ (hw _ (List.mem_of_getElem? (i := 27) rfl))) (mvT hZ (hw _ (List.mem_of_getElem? (i := 26) rfl))) (by decide) (backOf (W := 0) (rm5 l Z a0 hw [] b40 ((0 : Int64) + (q1 &&& (4611686018427387903 : Int64))) T42.heap n0 Zz42 F_held_b40) hZ (hw _ (List.mem_of_getElem? (i := 28) rfl)) (hw _ (List.mem_of_getElem? (i := 3) rfl)) (by decide) (by decide)) q48a q48c (g := (mkF m 120 #[.val (.long q0), .second, .val (.long q1), .second, .val (.long q2), .second, .val (.int p3), .val (.long (q1 &&& (4611686018427387903 : Int64))), .second, .val (.long ((q0 - (q1 &&& (4611686018427387903 : Int64))) + (((p3 &&& (3 : Int32)) - (1 : Int32)).toInt64))), .second, .val (.ref b40), .val (.int (own_allows ((q0 - (q1 &&& (4611686018427387903 : Int64))) + (((p3 &&& (3 : Int32)) - (1 : Int32)).toInt64)) ((0 : Int64) + (q1 &&& (4611686018427387903 : Int64))) q0)), .val (.int (0 : Int32))] [(.ref b40)])) rfl (by rw [hml]; rfl) (Steps.refl _) (argsL := []) (rest := []) (lenOf pd_2 rfl) rfl (by show 2 * 0 + _ ≤ _; exact Nat.le_of_eq rfl) (hb hby at_120) (fun _ _ => ⟨rfl, e43, (by decide : 1 + 0 ≤ _), (by decide : 2 + 0 ≤ _)⟩)
            dsimp only [Pt.U, Pt.locs, Pt.cells, Pt.slots] at X48 l48 y48 z48 st48 hQ48
            subst l48 y48 z48
            obtain ⟨rfl, Nq48, e48⟩ := hQ48
            have N48 := Fr.app N43 Nq48
            refine go (fun t kt => st48.trans kt) ?_
            show Goes p.tables e below _ (T48.setTop (mkF m 123 #[.val (.long q0), .second, .val (.long q1), .second, .val (.long q2), .second, .val (.int p3), .val (.long (q1 &&& (4611686018427387903 : Int64))), .second, .val (.long ((q0 - (q1 &&& (4611686018427387903 : Int64))) + (((p3 &&& (3 : Int32)) - (1 : Int32)).toInt64))), .second, .val (.ref b40), .val (.int (own_allows ((q0 - (q1 &&& (4611686018427387903 : Int64))) + (((p3 &&& (3 : Int32)) - (1 : Int32)).toInt64)) ((0 : Int64) + (q1 &&& (4611686018427387903 : Int64))) q0)), .val (.int (0 : Int32))] [(.long (own_held ((0 : Int64) + (q1 &&& (4611686018427387903 : Int64)))))]))
            refine go (fun t kt => XS.lload X48.here hx rfl (hb hby at_123) rfl kt) ?_
            show Goes p.tables e below _ (T48.setTop (mkF m 125 #[.val (.long q0), .second, .val (.long q1), .second, .val (.long q2), .second, .val (.int p3), .val (.long (q1 &&& (4611686018427387903 : Int64))), .second, .val (.long ((q0 - (q1 &&& (4611686018427387903 : Int64))) + (((p3 &&& (3 : Int32)) - (1 : Int32)).toInt64))), .second, .val (.ref b40), .val (.int (own_allows ((q0 - (q1 &&& (4611686018427387903 : Int64))) + (((p3 &&& (3 : Int32)) - (1 : Int32)).toInt64)) ((0 : Int64) + (q1 &&& (4611686018427387903 : Int64))) q0)), .val (.int (0 : Int32))] [(.long (q1 &&& (4611686018427387903 : Int64))), (.long (own_held ((0 : Int64) + (q1 &&& (4611686018427387903 : Int64)))))]))
            refine go (fun t kt => XS.lcmp X48.here hx rfl (hb hby at_125) rfl kt) ?_
            show Goes p.tables e below _ (T48.setTop (mkF m 126 #[.val (.long q0), .second, .val (.long q1), .second, .val (.long q2), .second, .val (.int p3), .val (.long (q1 &&& (4611686018427387903 : Int64))), .second, .val (.long ((q0 - (q1 &&& (4611686018427387903 : Int64))) + (((p3 &&& (3 : Int32)) - (1 : Int32)).toInt64))), .second, .val (.ref b40), .val (.int (own_allows ((q0 - (q1 &&& (4611686018427387903 : Int64))) + (((p3 &&& (3 : Int32)) - (1 : Int32)).toInt64)) ((0 : Int64) + (q1 &&& (4611686018427387903 : Int64))) q0)), .val (.int (0 : Int32))] [(.int (lcmpW (own_held ((0 : Int64) + (q1 &&& (4611686018427387903 : Int64)))) (q1 &&& (4611686018427387903 : Int64))))]))
            refine go (fun t kt => XS.ifNo X48.here hx rfl (hb hby at_126) rfl ((if0 _ _).trans (teq ((lw_eq (own_held ((0 : Int64) + (q1 &&& (4611686018427387903 : Int64)))) (q1 &&& (4611686018427387903 : Int64))).mpr (own_z _))).2) kt) ?_
            show Goes p.tables e below _ (T48.setTop (mkF m 129 #[.val (.long q0), .second, .val (.long q1), .second, .val (.long q2), .second, .val (.int p3), .val (.long (q1 &&& (4611686018427387903 : Int64))), .second, .val (.long ((q0 - (q1 &&& (4611686018427387903 : Int64))) + (((p3 &&& (3 : Int32)) - (1 : Int32)).toInt64))), .second, .val (.ref b40), .val (.int (own_allows ((q0 - (q1 &&& (4611686018427387903 : Int64))) + (((p3 &&& (3 : Int32)) - (1 : Int32)).toInt64)) ((0 : Int64) + (q1 &&& (4611686018427387903 : Int64))) q0)), .val (.int (0 : Int32))] []))
            refine go (fun t kt => XS.iconst X48.here hx rfl (hb hby at_129) kt) ?_
            show Goes p.tables e below _ (T48.setTop (mkF m 130 #[.val (.long q0), .second, .val (.long q1), .second, .val (.long q2), .second, .val (.int p3), .val (.long (q1 &&& (4611686018427387903 : Int64))), .second, .val (.long ((q0 - (q1 &&& (4611686018427387903 : Int64))) + (((p3 &&& (3 : Int32)) - (1 : Int32)).toInt64))), .second, .val (.ref b40), .val (.int (own_allows ((q0 - (q1 &&& (4611686018427387903 : Int64))) + (((p3 &&& (3 : Int32)) - (1 : Int32)).toInt64)) ((0 : Int64) + (q1 &&& (4611686018427387903 : Int64))) q0)), .val (.int (0 : Int32))] [(.int (1 : Int32))]))
            refine go (fun t kt => XS.goto X48.here hx rfl (pc0 := 130) (pc' := 134) rfl (hb hby at_130) (by decide) (by decide) kt) ?_
            show Goes p.tables e below _ (T48.setTop (mkF m 134 #[.val (.long q0), .second, .val (.long q1), .second, .val (.long q2), .second, .val (.int p3), .val (.long (q1 &&& (4611686018427387903 : Int64))), .second, .val (.long ((q0 - (q1 &&& (4611686018427387903 : Int64))) + (((p3 &&& (3 : Int32)) - (1 : Int32)).toInt64))), .second, .val (.ref b40), .val (.int (own_allows ((q0 - (q1 &&& (4611686018427387903 : Int64))) + (((p3 &&& (3 : Int32)) - (1 : Int32)).toInt64)) ((0 : Int64) + (q1 &&& (4611686018427387903 : Int64))) q0)), .val (.int (0 : Int32))] [(.int (1 : Int32))]))
            obtain ⟨fs, hr, hrun, hended, hW, hsame⟩ := X48.leave (v := some (.int (1 : Int32))) (fun h => by rw [Bd.returns] at h; cases h)
            refine ⟨_, _, retN X48 hx (t := .boolean) Bd.returns (by simp) (hb hby at_134) hr, hrun, hended, _, _, rfl, ?_, ⟨_, rfl⟩, hW, hsame.mono (by decide) (by decide)⟩
            show Q0 Z q0 q1 q2 p3 h0 n0 _ T48.heap _
            rw [e48]
            exact ⟨rfl, N48⟩
          ·
            refine go (fun t kt => XS.ifNo X43.here hx rfl (hb hby at_101) rfl ((if0 _ _).trans (flt (fun q => hc47 ((lw_gt ((q0 - (q1 &&& (4611686018427387903 : Int64))) + (((p3 &&& (3 : Int32)) - (1 : Int32)).toInt64)) (q0 - (q1 &&& (4611686018427387903 : Int64)))).mp q))).2.2.1) kt) ?_
            show Goes p.tables e below _ (T43.setTop (mkF m 104 #[.val (.long q0), .second, .val (.long q1), .second, .val (.long q2), .second, .val (.int p3), .val (.long (q1 &&& (4611686018427387903 : Int64))), .second, .val (.long ((q0 - (q1 &&& (4611686018427387903 : Int64))) + (((p3 &&& (3 : Int32)) - (1 : Int32)).toInt64))), .second, .val (.ref b40), .val (.int (own_allows ((q0 - (q1 &&& (4611686018427387903 : Int64))) + (((p3 &&& (3 : Int32)) - (1 : Int32)).toInt64)) ((0 : Int64) + (q1 &&& (4611686018427387903 : Int64))) q0)), .unset] []))
            refine go (fun t kt => XS.iconst X43.here hx rfl (hb hby at_104) kt) ?_
            show Goes p.tables e below _ (T43.setTop (mkF m 105 #[.val (.long q0), .second, .val (.long q1), .second, .val (.long q2), .second, .val (.int p3), .val (.long (q1 &&& (4611686018427387903 : Int64))), .second, .val (.long ((q0 - (q1 &&& (4611686018427387903 : Int64))) + (((p3 &&& (3 : Int32)) - (1 : Int32)).toInt64))), .second, .val (.ref b40), .val (.int (own_allows ((q0 - (q1 &&& (4611686018427387903 : Int64))) + (((p3 &&& (3 : Int32)) - (1 : Int32)).toInt64)) ((0 : Int64) + (q1 &&& (4611686018427387903 : Int64))) q0)), .unset] [(.int (1 : Int32))]))
            refine go (fun t kt => XS.goto X43.here hx rfl (pc0 := 105) (pc' := 109) rfl (hb hby at_105) (by decide) (by decide) kt) ?_
            show Goes p.tables e below _ (T43.setTop (mkF m 109 #[.val (.long q0), .second, .val (.long q1), .second, .val (.long q2), .second, .val (.int p3), .val (.long (q1 &&& (4611686018427387903 : Int64))), .second, .val (.long ((q0 - (q1 &&& (4611686018427387903 : Int64))) + (((p3 &&& (3 : Int32)) - (1 : Int32)).toInt64))), .second, .val (.ref b40), .val (.int (own_allows ((q0 - (q1 &&& (4611686018427387903 : Int64))) + (((p3 &&& (3 : Int32)) - (1 : Int32)).toInt64)) ((0 : Int64) + (q1 &&& (4611686018427387903 : Int64))) q0)), .unset] [(.int (1 : Int32))]))
            refine go (fun t kt => XS.istore X43.here hx rfl (hb hby at_109) rfl (l' := #[.val (.long q0), .second, .val (.long q1), .second, .val (.long q2), .second, .val (.int p3), .val (.long (q1 &&& (4611686018427387903 : Int64))), .second, .val (.long ((q0 - (q1 &&& (4611686018427387903 : Int64))) + (((p3 &&& (3 : Int32)) - (1 : Int32)).toInt64))), .second, .val (.ref b40), .val (.int (own_allows ((q0 - (q1 &&& (4611686018427387903 : Int64))) + (((p3 &&& (3 : Int32)) - (1 : Int32)).toInt64)) ((0 : Int64) + (q1 &&& (4611686018427387903 : Int64))) q0)), .val (.int (1 : Int32))]) rfl kt) ?_
            show Goes p.tables e below _ (T43.setTop (mkF m 111 #[.val (.long q0), .second, .val (.long q1), .second, .val (.long q2), .second, .val (.int p3), .val (.long (q1 &&& (4611686018427387903 : Int64))), .second, .val (.long ((q0 - (q1 &&& (4611686018427387903 : Int64))) + (((p3 &&& (3 : Int32)) - (1 : Int32)).toInt64))), .second, .val (.ref b40), .val (.int (own_allows ((q0 - (q1 &&& (4611686018427387903 : Int64))) + (((p3 &&& (3 : Int32)) - (1 : Int32)).toInt64)) ((0 : Int64) + (q1 &&& (4611686018427387903 : Int64))) q0)), .val (.int (1 : Int32))] []))
            refine go (fun t kt => XS.iload X43.here hx rfl (hb hby at_111) rfl kt) ?_
            show Goes p.tables e below _ (T43.setTop (mkF m 113 #[.val (.long q0), .second, .val (.long q1), .second, .val (.long q2), .second, .val (.int p3), .val (.long (q1 &&& (4611686018427387903 : Int64))), .second, .val (.long ((q0 - (q1 &&& (4611686018427387903 : Int64))) + (((p3 &&& (3 : Int32)) - (1 : Int32)).toInt64))), .second, .val (.ref b40), .val (.int (own_allows ((q0 - (q1 &&& (4611686018427387903 : Int64))) + (((p3 &&& (3 : Int32)) - (1 : Int32)).toInt64)) ((0 : Int64) + (q1 &&& (4611686018427387903 : Int64))) q0)), .val (.int (1 : Int32))] [(.int (own_allows ((q0 - (q1 &&& (4611686018427387903 : Int64))) + (((p3 &&& (3 : Int32)) - (1 : Int32)).toInt64)) ((0 : Int64) + (q1 &&& (4611686018427387903 : Int64))) q0))]))
            refine go (fun t kt => XS.iload X43.here hx rfl (hb hby at_113) rfl kt) ?_
            show Goes p.tables e below _ (T43.setTop (mkF m 115 #[.val (.long q0), .second, .val (.long q1), .second, .val (.long q2), .second, .val (.int p3), .val (.long (q1 &&& (4611686018427387903 : Int64))), .second, .val (.long ((q0 - (q1 &&& (4611686018427387903 : Int64))) + (((p3 &&& (3 : Int32)) - (1 : Int32)).toInt64))), .second, .val (.ref b40), .val (.int (own_allows ((q0 - (q1 &&& (4611686018427387903 : Int64))) + (((p3 &&& (3 : Int32)) - (1 : Int32)).toInt64)) ((0 : Int64) + (q1 &&& (4611686018427387903 : Int64))) q0)), .val (.int (1 : Int32))] [(.int (1 : Int32)), (.int (own_allows ((q0 - (q1 &&& (4611686018427387903 : Int64))) + (((p3 &&& (3 : Int32)) - (1 : Int32)).toInt64)) ((0 : Int64) + (q1 &&& (4611686018427387903 : Int64))) q0))]))
            refine go (fun t kt => XS.icmpNo X43.here hx rfl (hb hby at_115) rfl (teq (own_in _ _ _ (own_m q1) (own_near _ hc14 hc27) hc44 hc47)).2 kt) ?_
            show Goes p.tables e below _ (T43.setTop (mkF m 118 #[.val (.long q0), .second, .val (.long q1), .second, .val (.long q2), .second, .val (.int p3), .val (.long (q1 &&& (4611686018427387903 : Int64))), .second, .val (.long ((q0 - (q1 &&& (4611686018427387903 : Int64))) + (((p3 &&& (3 : Int32)) - (1 : Int32)).toInt64))), .second, .val (.ref b40), .val (.int (own_allows ((q0 - (q1 &&& (4611686018427387903 : Int64))) + (((p3 &&& (3 : Int32)) - (1 : Int32)).toInt64)) ((0 : Int64) + (q1 &&& (4611686018427387903 : Int64))) q0)), .val (.int (1 : Int32))] []))
            refine go (fun t kt => XS.aload X43.here hx rfl (hb hby at_118) rfl rfl kt) ?_
            show Goes p.tables e below _ (T43.setTop (mkF m 120 #[.val (.long q0), .second, .val (.long q1), .second, .val (.long q2), .second, .val (.int p3), .val (.long (q1 &&& (4611686018427387903 : Int64))), .second, .val (.long ((q0 - (q1 &&& (4611686018427387903 : Int64))) + (((p3 &&& (3 : Int32)) - (1 : Int32)).toInt64))), .second, .val (.ref b40), .val (.int (own_allows ((q0 - (q1 &&& (4611686018427387903 : Int64))) + (((p3 &&& (3 : Int32)) - (1 : Int32)).toInt64)) ((0 : Int64) + (q1 &&& (4611686018427387903 : Int64))) q0)), .val (.int (1 : Int32))] [(.ref b40)]))
            obtain ⟨cq50, kq50, q50a, q50b, q50c⟩ := isOf hZ e43 E_b40
            obtain ⟨_, _, ⟨T50, L50, k50, n50⟩, -, X50, ⟨Lc50, hQ50, l50, y50, z50⟩, st50⟩ := X43.virtualBack hx (y := (⟨"com/example/sumbit/sumbit/protocol/TransitMemory", "held", "()J"⟩ : MethodName)) (z := (⟨"com/example/sumbit/sumbit/protocol/TransitMemory", "held", "()J"⟩ : MethodName)) hown (mvT hZ (hw _ (List.mem_of_getElem? (i := 24) rfl))) (mvT hZ (hw _ (List.mem_of_getElem? (i := 25) rfl))) (notFace_of_selects (args := #[]) (mvT hZ (hw _ (List.mem_of_getElem? (i := 27) rfl)))) (mvT hZ (hw _ (List.mem_of_getElem? (i := 27) rfl))) (mvT hZ (hw _ (List.mem_of_getElem? (i := 26) rfl))) (by decide) (backOf (W := 0) (rm5 l Z a0 hw [] b40 ((0 : Int64) + (q1 &&& (4611686018427387903 : Int64))) T42.heap n0 Zz42 F_held_b40) hZ (hw _ (List.mem_of_getElem? (i := 28) rfl)) (hw _ (List.mem_of_getElem? (i := 3) rfl)) (by decide) (by decide)) q50a q50c (g := (mkF m 120 #[.val (.long q0), .second, .val (.long q1), .second, .val (.long q2), .second, .val (.int p3), .val (.long (q1 &&& (4611686018427387903 : Int64))), .second, .val (.long ((q0 - (q1 &&& (4611686018427387903 : Int64))) + (((p3 &&& (3 : Int32)) - (1 : Int32)).toInt64))), .second, .val (.ref b40), .val (.int (own_allows ((q0 - (q1 &&& (4611686018427387903 : Int64))) + (((p3 &&& (3 : Int32)) - (1 : Int32)).toInt64)) ((0 : Int64) + (q1 &&& (4611686018427387903 : Int64))) q0)), .val (.int (1 : Int32))] [(.ref b40)])) rfl (by rw [hml]; rfl) (Steps.refl _) (argsL := []) (rest := []) (lenOf pd_2 rfl) rfl (by show 2 * 0 + _ ≤ _; exact Nat.le_of_eq rfl) (hb hby at_120) (fun _ _ => ⟨rfl, e43, (by decide : 1 + 0 ≤ _), (by decide : 2 + 0 ≤ _)⟩)
            dsimp only [Pt.U, Pt.locs, Pt.cells, Pt.slots] at X50 l50 y50 z50 st50 hQ50
            subst l50 y50 z50
            obtain ⟨rfl, Nq50, e50⟩ := hQ50
            have N50 := Fr.app N43 Nq50
            refine go (fun t kt => st50.trans kt) ?_
            show Goes p.tables e below _ (T50.setTop (mkF m 123 #[.val (.long q0), .second, .val (.long q1), .second, .val (.long q2), .second, .val (.int p3), .val (.long (q1 &&& (4611686018427387903 : Int64))), .second, .val (.long ((q0 - (q1 &&& (4611686018427387903 : Int64))) + (((p3 &&& (3 : Int32)) - (1 : Int32)).toInt64))), .second, .val (.ref b40), .val (.int (own_allows ((q0 - (q1 &&& (4611686018427387903 : Int64))) + (((p3 &&& (3 : Int32)) - (1 : Int32)).toInt64)) ((0 : Int64) + (q1 &&& (4611686018427387903 : Int64))) q0)), .val (.int (1 : Int32))] [(.long (own_held ((0 : Int64) + (q1 &&& (4611686018427387903 : Int64)))))]))
            refine go (fun t kt => XS.lload X50.here hx rfl (hb hby at_123) rfl kt) ?_
            show Goes p.tables e below _ (T50.setTop (mkF m 125 #[.val (.long q0), .second, .val (.long q1), .second, .val (.long q2), .second, .val (.int p3), .val (.long (q1 &&& (4611686018427387903 : Int64))), .second, .val (.long ((q0 - (q1 &&& (4611686018427387903 : Int64))) + (((p3 &&& (3 : Int32)) - (1 : Int32)).toInt64))), .second, .val (.ref b40), .val (.int (own_allows ((q0 - (q1 &&& (4611686018427387903 : Int64))) + (((p3 &&& (3 : Int32)) - (1 : Int32)).toInt64)) ((0 : Int64) + (q1 &&& (4611686018427387903 : Int64))) q0)), .val (.int (1 : Int32))] [(.long (q1 &&& (4611686018427387903 : Int64))), (.long (own_held ((0 : Int64) + (q1 &&& (4611686018427387903 : Int64)))))]))
            refine go (fun t kt => XS.lcmp X50.here hx rfl (hb hby at_125) rfl kt) ?_
            show Goes p.tables e below _ (T50.setTop (mkF m 126 #[.val (.long q0), .second, .val (.long q1), .second, .val (.long q2), .second, .val (.int p3), .val (.long (q1 &&& (4611686018427387903 : Int64))), .second, .val (.long ((q0 - (q1 &&& (4611686018427387903 : Int64))) + (((p3 &&& (3 : Int32)) - (1 : Int32)).toInt64))), .second, .val (.ref b40), .val (.int (own_allows ((q0 - (q1 &&& (4611686018427387903 : Int64))) + (((p3 &&& (3 : Int32)) - (1 : Int32)).toInt64)) ((0 : Int64) + (q1 &&& (4611686018427387903 : Int64))) q0)), .val (.int (1 : Int32))] [(.int (lcmpW (own_held ((0 : Int64) + (q1 &&& (4611686018427387903 : Int64)))) (q1 &&& (4611686018427387903 : Int64))))]))
            refine go (fun t kt => XS.ifNo X50.here hx rfl (hb hby at_126) rfl ((if0 _ _).trans (teq ((lw_eq (own_held ((0 : Int64) + (q1 &&& (4611686018427387903 : Int64)))) (q1 &&& (4611686018427387903 : Int64))).mpr (own_z _))).2) kt) ?_
            show Goes p.tables e below _ (T50.setTop (mkF m 129 #[.val (.long q0), .second, .val (.long q1), .second, .val (.long q2), .second, .val (.int p3), .val (.long (q1 &&& (4611686018427387903 : Int64))), .second, .val (.long ((q0 - (q1 &&& (4611686018427387903 : Int64))) + (((p3 &&& (3 : Int32)) - (1 : Int32)).toInt64))), .second, .val (.ref b40), .val (.int (own_allows ((q0 - (q1 &&& (4611686018427387903 : Int64))) + (((p3 &&& (3 : Int32)) - (1 : Int32)).toInt64)) ((0 : Int64) + (q1 &&& (4611686018427387903 : Int64))) q0)), .val (.int (1 : Int32))] []))
            refine go (fun t kt => XS.iconst X50.here hx rfl (hb hby at_129) kt) ?_
            show Goes p.tables e below _ (T50.setTop (mkF m 130 #[.val (.long q0), .second, .val (.long q1), .second, .val (.long q2), .second, .val (.int p3), .val (.long (q1 &&& (4611686018427387903 : Int64))), .second, .val (.long ((q0 - (q1 &&& (4611686018427387903 : Int64))) + (((p3 &&& (3 : Int32)) - (1 : Int32)).toInt64))), .second, .val (.ref b40), .val (.int (own_allows ((q0 - (q1 &&& (4611686018427387903 : Int64))) + (((p3 &&& (3 : Int32)) - (1 : Int32)).toInt64)) ((0 : Int64) + (q1 &&& (4611686018427387903 : Int64))) q0)), .val (.int (1 : Int32))] [(.int (1 : Int32))]))
            refine go (fun t kt => XS.goto X50.here hx rfl (pc0 := 130) (pc' := 134) rfl (hb hby at_130) (by decide) (by decide) kt) ?_
            show Goes p.tables e below _ (T50.setTop (mkF m 134 #[.val (.long q0), .second, .val (.long q1), .second, .val (.long q2), .second, .val (.int p3), .val (.long (q1 &&& (4611686018427387903 : Int64))), .second, .val (.long ((q0 - (q1 &&& (4611686018427387903 : Int64))) + (((p3 &&& (3 : Int32)) - (1 : Int32)).toInt64))), .second, .val (.ref b40), .val (.int (own_allows ((q0 - (q1 &&& (4611686018427387903 : Int64))) + (((p3 &&& (3 : Int32)) - (1 : Int32)).toInt64)) ((0 : Int64) + (q1 &&& (4611686018427387903 : Int64))) q0)), .val (.int (1 : Int32))] [(.int (1 : Int32))]))
            obtain ⟨fs, hr, hrun, hended, hW, hsame⟩ := X50.leave (v := some (.int (1 : Int32))) (fun h => by rw [Bd.returns] at h; cases h)
            refine ⟨_, _, retN X50 hx (t := .boolean) Bd.returns (by simp) (hb hby at_134) hr, hrun, hended, _, _, rfl, ?_, ⟨_, rfl⟩, hW, hsame.mono (by decide) (by decide)⟩
            show Q0 Z q0 q1 q2 p3 h0 n0 _ T50.heap _
            rw [e50]
            exact ⟨rfl, N50⟩
set_option maxRecDepth 65536 in
set_option maxHeartbeats 40000000 in
theorem comes_1 {Post : Tables → Env → Array Value → State → Outcome → State → Prop} (hpost : ∀ tb e args s v u, (limb_1_1.after args s (.returned v) u = true ∧ limb_1_2.after args s (.returned v) u = true ∧ True) → FrameEnd s (.returned v) u (Jvm.fieldLocs frame_1_writes args s ++ Jvm.arrayLocs frame_1_arrays args s ++ Jvm.staticLocs frame_1_statics s) 16 128 → Post tb e args s (.returned v) u) :
    ArmFor flags0 classFile x code maxLocals ret World_1 tables_1 room_1 Calls_1 rest_1 Pre_1 Post := by
  intro l hfl _ _ p e ha hc hk s m args below hf hA hF happ hP
  obtain ⟨hcalls, hrest, hpre⟩ := hP
  obtain ⟨-, -, -, hnamed, -, -, -, hat⟩ := (Spec.applies_iff hf).mp happ
  obtain ⟨hg, hn⟩ := and_e (Cond.before_iff.mp (show (Jvm.Cond.and given_1 narrow_1).before args s = true from hpre))
  obtain ⟨u1, u2⟩ := and_e hg
  obtain ⟨u3, u4⟩ := and_e u2
  obtain ⟨u5, u6⟩ := and_e u4
  obtain ⟨u7, u8⟩ := and_e u6
  obtain ⟨w0, w1, w2, w3, rfl⟩ : ∃ w0 w1 w2 w3 : Value, args = #[w0, w1, w2, w3] := by
    have hs : args.size = 4 := by simpa [Cond.value, given_1] using u1
    obtain ⟨L⟩ := args
    match L, hs with
    | [w0, w1, w2, w3], _ => exact ⟨w0, w1, w2, w3, rfl⟩
  have hw := fun d (hd : d ∈ tables_1) => atoms_spec (ws := Jvm.Cond.code x code maxLocals ret :: tables_1) hat d (List.mem_cons_of_mem _ hd)
  obtain ⟨i0, ei0⟩ := isL_v u3
  obtain rfl : w0 = (.long i0) := Option.some.inj ei0
  obtain ⟨i1, ei1⟩ := isL_v u5
  obtain rfl : w1 = (.long i1) := Option.some.inj ei1
  obtain ⟨i2, ei2⟩ := isL_v u7
  obtain rfl : w2 = (.long i2) := Option.some.inj ei2
  obtain ⟨i3, ei3⟩ := is_v u8
  obtain rfl : w3 = (.int i3) := Option.some.inj ei3
  obtain ⟨n, o, h1, h2, h3, _, L, rfl, ⟨rfl, N⟩, hq⟩ := rm0 l s _ hw tables_1 i0 i1 i2 i3  s.heap s.heap.size (Nat.le_refl _)  p e ha hc hk s m _ below hf ((Spec.applies_iff_loose hf).mp happ).1 ⟨rfl, State.Warmed39.refl s, rfl⟩ trivial
  refine ⟨n, _, h1, h2, h3, hpost _ _ _ _ _ _ ⟨Cond.after_iff.mpr rfl, Cond.after_iff.mpr (eq_i res_at (Term.int_eval (1)) rfl), trivial⟩ ⟨hq.1, hq.2.1, (hq.2.2.sift fun y hy => Or.inr (N y hy)).mono (by decide) (by decide)⟩⟩
theorem main_1_1 : Claimed_1_1 := comes_1 fun _ _ _ _ _ _ h hF => ⟨h.1, hF⟩
theorem main_1_2 : Claimed_1_2 := comes_1 fun _ _ _ _ _ _ h hF => ⟨h.2.1, hF⟩
end Jvm.Pilot.@@N@@
namespace Jvm.Pilot.@@N@@
open Jvm Jvm.ClassFile Sem Op Lib Jvm.Free Jvm.Stand Jvm.Pilot.@@N@@.Jvm.D
/-! MADE BY PROGRAM (witnessworld.py) out of the Statement's table words and the real class files: 9 classes; the members and pool entries that the words name. The judged class is class 1, her method 1. -/
namespace start1
open Jvm.ClassFile
def u (s : String) : CpInfo := .utf8 (stringToUtf16 s)
/-- a pool by its gaps: so many unusable entries, then the entry; so many at the end -/
def gap : Nat → List CpInfo → List CpInfo
  | 0, r => r
  | n + 1, r => .unusable :: gap n r
def poolList (es : List (Nat × CpInfo)) (last : Nat) : List CpInfo := es.foldr (fun e r => gap e.1 (e.2 :: r)) (gap last [])
def pool (es : List (Nat × CpInfo)) (last : Nat) : Array CpInfo := ⟨poolList es last⟩
def fileOf (pool : Array CpInfo) (this : Nat) (attrs : Array Attribute := #[]) (ms : Array MethodInfo := #[]) (fl : Nat := 33) (sup : Nat := 0) (ifs : Array Nat := #[]) (fds : Array FieldInfo := #[]) : ClassFile where
  minorVersion := 0
  majorVersion := 65
  constantPool := pool
  accessFlags := fl
  thisClass := this
  superClass := sup
  interfaces := ifs
  fields := fds
  methods := ms
  attributes := attrs
def plain (name : String) (sup : Option ClassId) : Class where
  name := name
  kind := .ordinary
  loader := none
  accessFlags := 33
  super := sup
  interfaces := #[]
  cf := none
  fields := #[]
  methods := #[]
  instanceTypes := #[]
  staticTypes := #[]
  resolved := #[]
  callSites := []
  init := .initialized
  statics := none
  mirror := none

def pool0 : Array CpInfo := pool [(5, u "<init>"), (0, u "()V"), (1, .class_ 10), (1, u "java/lang/Object")] 113

def k0c0 : Code := { maxStack := 0, maxLocals := 1, code := object_method_1_code, exceptionTable := #[], attributes := #[] }
def k0m0 : Method := { name := "<init>", desc := "()V", sig := { parameters := [], returnType := none }, accessFlags := 1, code := some k0c0 }
/-- java/lang/Object -/
def k0 : Class := { plain "java/lang/Object" none with
  accessFlags := 33
  interfaces := #[]
  cf := some (fileOf pool0 8 #[] #[{ accessFlags := 1, nameIndex := 5, descriptorIndex := 6, attributes := #[] }] 33 0 #[] #[])
  fields := #[]
  methods := #[k0m0]
  instanceTypes := #[]
  staticTypes := #[]
  resolved := Array.replicate 124 none
  statics := none }

def pool1 : Array CpInfo := pool [(2, .class_ 4), (1, u "java/lang/Object"), (0, u "<init>"), (0, u "()V"), (0, .long 4611686018427387903), (1, .class_ 10), (0, u "com/example/sumbit/sumbit/protocol/TransitMemory"), (0, .methodref 9 12), (0, .nameAndType 5 13), (0, u "(J)V"), (0, .methodref 9 15), (0, .nameAndType 16 13), (0, u "take"), (0, .methodref 9 18), (0, .nameAndType 19 20), (0, u "allows"), (0, u "(J)Z"), (0, .methodref 9 22), (0, .nameAndType 23 24), (0, u "held"), (0, u "()J"), (0, .class_ 26), (0, u "com/example/sumbit/sumbit/protocol/TransitMemoryAllowsPinLaw"), (2, u "law"), (0, u "(JJJI)Z")] 3

def k1m0 : Method := { name := "<init>", desc := "()V", sig := { parameters := [], returnType := none }, accessFlags := 1, code := none }
def k1c1 : Code := { maxStack := 6, maxLocals := 14, code := code, exceptionTable := #[], attributes := #[] }
def k1m1 : Method := { name := "law", desc := "(JJJI)Z", sig := { parameters := [.long, .long, .long, .int], returnType := some .boolean }, accessFlags := 9, code := some k1c1 }
/-- com/example/sumbit/sumbit/protocol/TransitMemoryAllowsPinLaw -/
def k1 : Class := { plain "com/example/sumbit/sumbit/protocol/TransitMemoryAllowsPinLaw" (some 0) with
  accessFlags := 49
  interfaces := #[]
  cf := some (fileOf pool1 25 #[] #[{ accessFlags := 1, nameIndex := 5, descriptorIndex := 6, attributes := #[] }, { accessFlags := 9, nameIndex := 29, descriptorIndex := 30, attributes := #[] }] 49 2 #[] #[])
  fields := #[]
  methods := #[k1m0, k1m1]
  instanceTypes := #[]
  staticTypes := #[]
  resolved := Array.replicate 34 none
  statics := none }

def pool2 : Array CpInfo := pool [(1, .methodref 2 3), (0, .class_ 4), (0, .nameAndType 5 6), (0, u "java/lang/Object"), (0, u "<init>"), (0, u "()V"), (0, .fieldref 8 9), (0, .class_ 10), (0, .nameAndType 11 12), (0, u "com/example/sumbit/sumbit/protocol/TransitMemory"), (0, u "limit"), (0, u "J"), (2, u "allows"), (0, u "(J)Z"), (0, .fieldref 8 18), (0, .nameAndType 19 12), (0, u "held"), (0, u "(J)V"), (4, u "take"), (1, u "()J")] 2

def k2c0 : Code := { maxStack := 3, maxLocals := 3, code := prog_16_method_1_code, exceptionTable := #[], attributes := #[] }
def k2m0 : Method := { name := "<init>", desc := "(J)V", sig := { parameters := [.long], returnType := none }, accessFlags := 0, code := some k2c0 }
def k2c1 : Code := { maxStack := 4, maxLocals := 3, code := prog_16_method_3_code, exceptionTable := #[], attributes := #[] }
def k2m1 : Method := { name := "allows", desc := "(J)Z", sig := { parameters := [.long], returnType := some .boolean }, accessFlags := 0, code := some k2c1 }
def k2c2 : Code := { maxStack := 5, maxLocals := 3, code := prog_16_method_4_code, exceptionTable := #[], attributes := #[] }
def k2m2 : Method := { name := "take", desc := "(J)V", sig := { parameters := [.long], returnType := none }, accessFlags := 0, code := some k2c2 }
def k2c3 : Code := { maxStack := 2, maxLocals := 1, code := prog_16_method_6_code, exceptionTable := #[], attributes := #[] }
def k2m3 : Method := { name := "held", desc := "()J", sig := { parameters := [], returnType := some .long }, accessFlags := 0, code := some k2c3 }
/-- com/example/sumbit/sumbit/protocol/TransitMemory -/
def k2 : Class := { plain "com/example/sumbit/sumbit/protocol/TransitMemory" (some 0) with
  accessFlags := 48
  interfaces := #[]
  cf := some (fileOf pool2 8 #[] #[{ accessFlags := 0, nameIndex := 5, descriptorIndex := 20, attributes := #[] }, { accessFlags := 0, nameIndex := 15, descriptorIndex := 16, attributes := #[] }, { accessFlags := 0, nameIndex := 25, descriptorIndex := 20, attributes := #[] }, { accessFlags := 0, nameIndex := 19, descriptorIndex := 27, attributes := #[] }] 48 2 #[] #[{ accessFlags := 18, nameIndex := 11, descriptorIndex := 12, attributes := #[] }, { accessFlags := 2, nameIndex := 19, descriptorIndex := 12, attributes := #[] }])
  fields := #[{ name := "limit", type := .long, accessFlags := 18, slot := 0, constantValue := 0 }, { name := "held", type := .long, accessFlags := 2, slot := 1, constantValue := 0 }]
  methods := #[k2m0, k2m1, k2m2, k2m3]
  instanceTypes := #[.long, .long]
  staticTypes := #[]
  resolved := Array.replicate 30 none
  statics := none }

def pool3 : Array CpInfo := pool [(1, u "java/lang/Cloneable"), (0, .class_ 1), (0, u "java/lang/Object"), (0, .class_ 3)] 3

/-- java/lang/Cloneable -/
def k3 : Class := { plain "java/lang/Cloneable" (some 0) with
  accessFlags := 1537
  interfaces := #[]
  cf := some (fileOf pool3 2 #[] #[] 1537 4 #[] #[])
  fields := #[]
  methods := #[]
  instanceTypes := #[]
  staticTypes := #[]
  resolved := Array.replicate 8 none
  statics := none }

def pool4 : Array CpInfo := pool [(1, u "java/io/Serializable"), (0, .class_ 1), (0, u "java/lang/Object"), (0, .class_ 3)] 3

/-- java/io/Serializable -/
def k4 : Class := { plain "java/io/Serializable" (some 0) with
  accessFlags := 1537
  interfaces := #[]
  cf := some (fileOf pool4 2 #[] #[] 1537 4 #[] #[])
  fields := #[]
  methods := #[]
  instanceTypes := #[]
  staticTypes := #[]
  resolved := Array.replicate 8 none
  statics := none }

/-- the primitive byte -/
def k5 : Class := { plain "byte" none with kind := .primitive 'B', accessFlags := 0x411 }
/-- [B -/
def k6 : Class := { plain "[B" (some 0) with kind := .array 5 .byte, interfaces := #[3, 4], accessFlags := 1041 }

/-- the primitive int -/
def k7 : Class := { plain "int" none with kind := .primitive 'I', accessFlags := 0x411 }
/-- [I -/
def k8 : Class := { plain "[I" (some 0) with kind := .array 7 .int, interfaces := #[3, 4], accessFlags := 1041 }

def heap : Heap := #[]
def classes : Array Class := #[k0, k1, k2, k3, k4, k5, k6, k7, k8]
def interned : List (Array UInt16 × Addr) := []
def slotsUsed : Nat := 0
def theMethod : MethodId := ⟨1, 1⟩
def args0 : Array Value := #[.long 5, .long 7, .long 6, .int 1]
def aboutOver (below : List Frame) : State where
  vm := { classes := classes, interned := interned.toArray }
  heap := heap
  slotsUsed := slotsUsed
  threads := #[{ frames := .invoking theMethod args0 :: below }]
def below0 : List Frame := [.native { method := ⟨0, 0⟩, args := #[] }]
def about1 : State := aboutOver below0
def p0 : Program := .bare "" "" ""
def e0 : Env := launch0.env 0 0 0
theorem w_frames : about1.frames = Frame.invoking theMethod args0 :: below0 := rfl
set_option maxRecDepth 65536 in
theorem w_args : argsFit about1.vm theMethod args0 = true := by decide +kernel
set_option maxRecDepth 65536 in
theorem w_heap : heapFits about1 = true := by decide +kernel
set_option maxRecDepth 65536 in
theorem w_runnable : about1.curStatus? = some .runnable := by decide +kernel
set_option maxRecDepth 65536 in
theorem w_alone : about1.alone = true := by decide +kernel
set_option maxRecDepth 65536 in
theorem w_named : about1.methodNamed? x = some theMethod := by decide +kernel
set_option maxRecDepth 65536 in
theorem w_hears : about1.hears theMethod below0 = true := by decide +kernel
set_option maxRecDepth 65536 in
theorem w_ripe : about1.ripe theMethod args0 below0 = true := by decide +kernel
theorem w_running : about1.status = .running := rfl
set_option maxRecDepth 65536 in
theorem w_room : about1.hasRoom e0.platform room_1 = true :=
  launch0.hasRoom_least _ room_1 (by decide +kernel) (by decide +kernel) (by decide +kernel) (by decide +kernel) (by decide +kernel) (by decide +kernel)
theorem allAtoms_all (ts : List Jvm.Cond) (a : Array Jvm.Value) (st : Jvm.State) : (allAtoms ts).before a st = ts.all (fun c => c.before a st) := by
  induction ts with
  | nil => rfl
  | cons c t ih =>
    show (Jvm.Cond.and c (allAtoms t)).before a st = _
    rw [Jvm.Cond.before_and, ih, List.all_cons]
def words1 : List Jvm.Cond := Jvm.Cond.code x code maxLocals ret :: tables_1
/-- a 'code' word, met by the world's own term for the bytes: nothing is compared byte by byte -/
theorem code_word {y : MethodName} {bytes : ByteArray} {mx : Nat} {rt : Option FieldType} {a : Array Value} {s : State} {m : MethodId} {meth : Method} {c : Code} (h1 : s.methodNamed? y = some m) (h2 : s.vm.method? m = some meth) (h3 : meth.code = some c) (h4 : c.code = bytes)
    (h5 : (c.maxLocals == mx && c.exceptionTable.isEmpty && decide (c.maxStack ≤ mostOperands) && decide (meth.sig.returnType = rt) && !meth.locks && decide (parseMethodDescriptor y.desc = some meth.sig)) = true) : (Jvm.Cond.code y bytes mx rt).before a s = true := by
  simp only [Bool.and_eq_true, beq_iff_eq, Bool.not_eq_true', decide_eq_true_eq] at h5
  obtain ⟨⟨⟨⟨⟨g1, g2⟩, g3⟩, g4⟩, g5⟩, g6⟩ := h5
  simp [Cond.before, Cond.holds, Cond.value, h1, h2, h3, h4, g1, g2, g3, g4, g5, g6]
def isCode : Jvm.Cond → Bool
  | .code _ _ _ _ => true
  | _ => false
theorem all_split {L : List Jvm.Cond} {P : Jvm.Cond → Bool} (h1 : L.all (fun c => isCode c || P c) = true) (h2 : ∀ c ∈ L.filter isCode, P c = true) : L.all P = true := by
  refine List.all_eq_true.mpr fun c hc => ?_
  have h := List.all_eq_true.mp h1 c hc
  rcases Bool.eq_false_or_eq_true (isCode c) with hi | hi
  · exact h2 c (List.mem_filter.mpr ⟨hc, hi⟩)
  · simpa [hi] using h
set_option maxRecDepth 65536 in
theorem w_c0 : (Jvm.Cond.code x code maxLocals ret).before args0 about1 = true := code_word (m := ⟨1, 1⟩) (meth := k1m1) (c := k1c1) (by decide +kernel) rfl rfl rfl (by decide +kernel)
set_option maxRecDepth 65536 in
theorem w_c1 : (Jvm.Cond.code ({ cls := "com/example/sumbit/sumbit/protocol/TransitMemory", name := "<init>", desc := "(J)V" } : Jvm.MethodName) prog_16_method_1_code (3 : Nat) (Option.none : Option Jvm.ClassFile.FieldType)).before args0 about1 = true := code_word (m := ⟨2, 0⟩) (meth := k2m0) (c := k2c0) (by decide +kernel) rfl rfl rfl (by decide +kernel)
set_option maxRecDepth 65536 in
theorem w_c2 : (Jvm.Cond.code ({ cls := "java/lang/Object", name := "<init>", desc := "()V" } : Jvm.MethodName) object_method_1_code (1 : Nat) (Option.none : Option Jvm.ClassFile.FieldType)).before args0 about1 = true := code_word (m := ⟨0, 0⟩) (meth := k0m0) (c := k0c0) (by decide +kernel) rfl rfl rfl (by decide +kernel)
set_option maxRecDepth 65536 in
theorem w_c3 : (Jvm.Cond.code ({ cls := "com/example/sumbit/sumbit/protocol/TransitMemory", name := "take", desc := "(J)V" } : Jvm.MethodName) prog_16_method_4_code (3 : Nat) (Option.none : Option Jvm.ClassFile.FieldType)).before args0 about1 = true := code_word (m := ⟨2, 2⟩) (meth := k2m2) (c := k2c2) (by decide +kernel) rfl rfl rfl (by decide +kernel)
set_option maxRecDepth 65536 in
theorem w_c4 : (Jvm.Cond.code ({ cls := "com/example/sumbit/sumbit/protocol/TransitMemory", name := "allows", desc := "(J)Z" } : Jvm.MethodName) prog_16_method_3_code (3 : Nat) (Option.some Jvm.ClassFile.FieldType.boolean)).before args0 about1 = true := code_word (m := ⟨2, 1⟩) (meth := k2m1) (c := k2c1) (by decide +kernel) rfl rfl rfl (by decide +kernel)
set_option maxRecDepth 65536 in
theorem w_c5 : (Jvm.Cond.code ({ cls := "com/example/sumbit/sumbit/protocol/TransitMemory", name := "held", desc := "()J" } : Jvm.MethodName) prog_16_method_6_code (1 : Nat) (Option.some Jvm.ClassFile.FieldType.long)).before args0 about1 = true := code_word (m := ⟨2, 3⟩) (meth := k2m3) (c := k2c3) (by decide +kernel) rfl rfl rfl (by decide +kernel)
def codes1 : List Jvm.Cond := [Jvm.Cond.code x code maxLocals ret, Jvm.Cond.code ({ cls := "com/example/sumbit/sumbit/protocol/TransitMemory", name := "<init>", desc := "(J)V" } : Jvm.MethodName) prog_16_method_1_code (3 : Nat) (Option.none : Option Jvm.ClassFile.FieldType), Jvm.Cond.code ({ cls := "java/lang/Object", name := "<init>", desc := "()V" } : Jvm.MethodName) object_method_1_code (1 : Nat) (Option.none : Option Jvm.ClassFile.FieldType), Jvm.Cond.code ({ cls := "com/example/sumbit/sumbit/protocol/TransitMemory", name := "take", desc := "(J)V" } : Jvm.MethodName) prog_16_method_4_code (3 : Nat) (Option.none : Option Jvm.ClassFile.FieldType), Jvm.Cond.code ({ cls := "com/example/sumbit/sumbit/protocol/TransitMemory", name := "allows", desc := "(J)Z" } : Jvm.MethodName) prog_16_method_3_code (3 : Nat) (Option.some Jvm.ClassFile.FieldType.boolean), Jvm.Cond.code ({ cls := "com/example/sumbit/sumbit/protocol/TransitMemory", name := "held", desc := "()J" } : Jvm.MethodName) prog_16_method_6_code (1 : Nat) (Option.some Jvm.ClassFile.FieldType.long)]
set_option maxRecDepth 65536 in
theorem codes_eq : words1.filter isCode = codes1 := rfl
theorem w_codes : ∀ c ∈ words1.filter isCode, c.before args0 about1 = true := by
  rw [codes_eq]
  intro c hc
  simp only [codes1, List.mem_cons, List.not_mem_nil, or_false] at hc
  rcases hc with rfl | rfl | rfl | rfl | rfl | rfl
  · exact w_c0
  · exact w_c1
  · exact w_c2
  · exact w_c3
  · exact w_c4
  · exact w_c5
set_option maxRecDepth 65536 in
theorem w_t1 : (words1.take 24).all (fun c => isCode c || c.before args0 about1) = true := by decide +kernel
set_option maxRecDepth 65536 in
theorem w_t2 : (words1.drop 24).all (fun c => isCode c || c.before args0 about1) = true := by decide +kernel
theorem w_tables : (allAtoms (Jvm.Cond.code x code maxLocals ret :: tables_1)).before args0 about1 = true := by
  rw [allAtoms_all]
  show words1.all (fun c => c.before args0 about1) = true
  refine all_split ?_ w_codes
  rw [← List.take_append_drop 24 words1, List.all_append, w_t1, w_t2]
  rfl
set_option maxRecDepth 65536 in
theorem w_case : (Jvm.Cond.and given_1 narrow_1).before args0 about1 = true := by decide +kernel
theorem w_applies : (headSpec (Jvm.Cond.code x code maxLocals ret :: tables_1) room_1).applies x e0.platform about1 = true :=
  (Spec.applies_iff w_frames).mpr ⟨w_running, w_runnable, w_alone, w_named, w_hears, w_ripe, w_room, w_tables⟩
theorem atStart : AtStart classFile x code maxLocals ret World_1 tables_1 room_1 Calls_1 rest_1 Pre_1 launch0 p0 e0 about1 theMethod args0 below0 :=
  ⟨lists_1, trivial, launch0.admits_env _ _ _, launch0.least_env, fairChoices_fair.cas, fairChoices_fair.clock, w_frames, w_args, w_heap, w_applies, trivial, trivial, w_case⟩
end start1
theorem witness_1 : WitnessClaimed_1 := ⟨start1.p0, start1.e0, start1.about1, start1.theMethod, start1.args0, start1.below0, start1.atStart⟩
end Jvm.Pilot.@@N@@
