import JvmDerived
import JvmDerived.Pilot.@@N@@Statement
import JvmDerived.Pilot.@@N@@Code
set_option linter.unusedVariables false
set_option linter.unusedSimpArgs false
@@BLOCK:NumsL.lean.txt@@
namespace Jvm.Pilot.@@N@@
open Jvm Jvm.ClassFile Sem Op Lib Jvm.Free Jvm.Stand Jvm.LawKit Jvm.RoadKit Bundle Jvm.Pilot.@@N@@.Jvm.D
def Goes (tb : Tables) (e : Env) (below : List Frame) (G : State → Outcome → Prop) (A : State) : Prop := ∃ s₂ o, Steps tb e below A s₂ ∧ s₂.status = .running ∧ Ended s₂ below o ∧ G s₂ o
theorem go {tb : Tables} {e : Env} {below : List Frame} {G : State → Outcome → Prop} {A B : State} (h : ∀ t, Steps tb e below B t → Steps tb e below A t) (k : Goes tb e below G B) : Goes tb e below G A := by
  obtain ⟨s₂, o, h1, h2⟩ := k; exact ⟨s₂, o, h _ h1, h2⟩
theorem goEnd {tb : Tables} {e : Env} {below : List Frame} {G : State → Outcome → Prop} {A B : State} (h : ∀ t, Steps tb e below B t → Steps tb e below A t) (k : Goes tb e below G B) : ∃ s₂ o, Steps tb e below A s₂ ∧ s₂.status = .running ∧ Ended s₂ below o ∧ G s₂ o := go h k
theorem own_sta_keep {Z : State} {h h' : Heap} {C n d K : String} {v : Value} {a : Addr} (S : Sta Z h C n d v) (E : Exa Z h a K) (Kp : Keep h h' [a]) : Sta Z h' C n d v := by
  obtain ⟨cf, i, k, f, st, cell, h1, h2, h3, h4, h5, h6, h7⟩ := S
  obtain ⟨c', k', e1, -, -, e4, -⟩ := E
  refine ⟨cf, i, k, f, st, cell, h1, h2, h3, h4, Kp.2.1 st cell h5 (fun q => ?_), h6, h7⟩
  have q' : st = a := by simpa using q
  subst q'
  cases h5.symm.trans e1
  rw [e4] at h6; cases h6
abbrev iv (x : Int32) : Slot := .val (.int x)
abbrev jv (x : Int64) : Slot := .val (.long x)
abbrev rv (x : Addr) : Slot := .val (.ref x)
abbrev Go (p : Program) (e : Env) (below : List Frame) (G : State → Outcome → Prop) (m : MethodId) (T : State) (pc : Nat) (L : Array Slot) (S : List Value) : Prop := Goes p.tables e below G (T.setTop (mkF m pc L S))
theorem d4_0 : decode prog_35_method_8_code 0 = .ok (.lload_n 0, 1) := by decide +kernel
theorem d4_1 : decode prog_35_method_8_code 1 = .ok (.ldc2_w 38, 3) := by decide +kernel
theorem d4_4 : decode prog_35_method_8_code 4 = .ok (.lmul, 1) := by decide +kernel
theorem d4_5 : decode prog_35_method_8_code 5 = .ok (.lstore_n 3, 1) := by decide +kernel
theorem d4_6 : decode prog_35_method_8_code 6 = .ok (.lload_n 3, 1) := by decide +kernel
theorem d4_7 : decode prog_35_method_8_code 7 = .ok (.lload_n 3, 1) := by decide +kernel
theorem d4_8 : decode prog_35_method_8_code 8 = .ok (.bipush 32, 2) := by decide +kernel
theorem d4_10 : decode prog_35_method_8_code 10 = .ok (.lushr, 1) := by decide +kernel
theorem d4_11 : decode prog_35_method_8_code 11 = .ok (.lxor, 1) := by decide +kernel
theorem d4_12 : decode prog_35_method_8_code 12 = .ok (.l2i, 1) := by decide +kernel
theorem d4_13 : decode prog_35_method_8_code 13 = .ok (.iload_n 2, 1) := by decide +kernel
theorem d4_14 : decode prog_35_method_8_code 14 = .ok (.iand, 1) := by decide +kernel
theorem d4_15 : decode prog_35_method_8_code 15 = .ok (.ireturn, 1) := by decide +kernel
def own_slot (q0 : Int64) (p1 : Int32) : Int32 := ((((q0 * (-7046029254386353131 : Int64)) ^^^ (((q0 * (-7046029254386353131 : Int64)).toUInt64 >>> ((32 : Int32) &&& 0x3f).toInt64.toUInt64).toInt64)).toInt32) &&& p1)
theorem pn_1 : plainName "com/example/modest_tree_automata/modesttreeautomata/LongIntMap" = true := by first | (simp [plainName, overriddenIn]; done) | decide +kernel
theorem ef_4 (m : MethodId) (q0 : Int64) (p1 : Int32) : entryFrame m #[(.long q0), (.int p1)] 5 = mkF m 0 #[jv q0, .second, iv p1, .unset, .unset] [] := by first | (simp [entryFrame, mkF, argsToLocals, Value.category]; done) | rfl
def Q4 (Z : State) (q0 : Int64) (p1 : Int32) (h0 : Heap) (n0 : Nat) (v : Option Value) (h : Heap) (L : List Loc) : Prop := v = some (.int (own_slot q0 p1)) ∧ Fr n0 L ∧ h = h0
set_option maxRecDepth 65536 in
set_option maxHeartbeats 40000000 in
theorem rm4 (l : Launch) (Z : State) (a0 : Array Value) (hw : ∀ d ∈ tables_1, d.before a0 Z = true) (ws : List Jvm.Cond) (q0 : Int64) (p1 : Int32) (h0 : Heap) (n0 : Nat) (Z0 : n0 ≤ h0.size)  :
    MetFree l (⟨"com/example/modest_tree_automata/modesttreeautomata/LongIntMap", "slot", "(JI)I"⟩ : MethodName) (head1 (Jvm.Cond.code (⟨"com/example/modest_tree_automata/modesttreeautomata/LongIntMap", "slot", "(JI)I"⟩ : MethodName) prog_35_method_8_code 5 (some .int) :: ws) ({ frames := 0, cells := 0, slots := 0, locals := 0 } : Room)) (fun a U => a = #[(.long q0), (.int p1)] ∧ Z.Warmed39 U.vm ∧ U.heap = h0) (fun _ _ _ _ _ => True) (fun _ U o U' => ∃ v L, o = .returned v ∧ Q4 Z q0 p1 h0 n0 v U'.heap L ∧ FrameEnd U o U' L ({ frames := 0, cells := 0, slots := 0, locals := 0 } : Room).cells ({ frames := 0, cells := 0, slots := 0, locals := 0 } : Room).slots) := by
  refine MetFree.of_bodySF (plainFor_of_name pn_1) hisR ?_
  intro p e s m args below meth c s₁ Bd hml0 hP hK
  obtain ⟨rfl, hZ, hh⟩ := hP
  have hx := Bd.exec
  have hby := Bd.bytes
  have hml : c.maxLocals = 5 := hml0
  have hown : s.vm.findClass "com/example/modest_tree_automata/modesttreeautomata/LongIntMap" = some m.cls := findClass_of_methodNamed Bd.named
  have hnm := (name_of_methodNamed Bd.named Bd.method).1
  have X0 : Stand p l e ({ frames := 0, cells := 0, slots := 0, locals := 0 } : Room) s m #[(.long q0), (.int p1)] below meth c s₁ [] 0 0 := Stand.of_body Bd
  have e0 : s₁.heap = h0 := by rw [← hh, Bd.state]; rfl
  have N0 := Fr.nil n0
  have K0 := Keep.refl h0 []
  suffices hgo : Goes p.tables e below (fun s₂ o => ∃ v L, o = .returned v ∧ Q4 Z q0 p1 h0 n0 v s₂.heap L ∧ FrameEnd s o s₂ L ({ frames := 0, cells := 0, slots := 0, locals := 0 } : Room).cells ({ frames := 0, cells := 0, slots := 0, locals := 0 } : Room).slots) (s₁.setTop (mkF m 0 #[jv q0, .second, iv p1, .unset, .unset] [])) from goEnd (fun t k => castTop (ef_4 m q0 p1) k) hgo
  refine go (fun t kt => XS.lloadN X0.here hx rfl (hb hby d4_0) rfl kt) ?_
  show Go p e below _ m s₁ 1 #[jv q0, .second, iv p1, .unset, .unset] [(.long q0)]
  refine go (X0.ldc2Long hx hown (mvT hZ (hw _ (List.mem_of_getElem? (i := 28) rfl))) (g := (mkF m 1 #[jv q0, .second, iv p1, .unset, .unset] [(.long q0)])) rfl (hb hby d4_1)) ?_
  show Go p e below _ m s₁ 4 #[jv q0, .second, iv p1, .unset, .unset] [(.long (-7046029254386353131 : Int64)), (.long q0)]
  refine go (fun t kt => XS.lmul X0.here hx rfl (hb hby d4_4) rfl kt) ?_
  show Go p e below _ m s₁ 5 #[jv q0, .second, iv p1, .unset, .unset] [(.long (q0 * (-7046029254386353131 : Int64)))]
  refine go (fun t kt => XS.lstoreN X0.here hx rfl (hb hby d4_5) rfl (l' := #[jv q0, .second, iv p1, jv (q0 * (-7046029254386353131 : Int64)), .second]) rfl kt) ?_
  show Go p e below _ m s₁ 6 #[jv q0, .second, iv p1, jv (q0 * (-7046029254386353131 : Int64)), .second] []
  refine go (fun t kt => XS.lloadN X0.here hx rfl (hb hby d4_6) rfl kt) ?_
  show Go p e below _ m s₁ 7 #[jv q0, .second, iv p1, jv (q0 * (-7046029254386353131 : Int64)), .second] [(.long (q0 * (-7046029254386353131 : Int64)))]
  refine go (fun t kt => XS.lloadN X0.here hx rfl (hb hby d4_7) rfl kt) ?_
  show Go p e below _ m s₁ 8 #[jv q0, .second, iv p1, jv (q0 * (-7046029254386353131 : Int64)), .second] [(.long (q0 * (-7046029254386353131 : Int64))), (.long (q0 * (-7046029254386353131 : Int64)))]
  refine go (fun t kt => XS.bipush X0.here hx rfl (hb hby d4_8) kt) ?_
  show Go p e below _ m s₁ 10 #[jv q0, .second, iv p1, jv (q0 * (-7046029254386353131 : Int64)), .second] [(.int (32 : Int32)), (.long (q0 * (-7046029254386353131 : Int64))), (.long (q0 * (-7046029254386353131 : Int64)))]
  refine go (fun t kt => XS.lushr X0.here hx rfl (hb hby d4_10) rfl kt) ?_
  show Go p e below _ m s₁ 11 #[jv q0, .second, iv p1, jv (q0 * (-7046029254386353131 : Int64)), .second] [(.long (((q0 * (-7046029254386353131 : Int64)).toUInt64 >>> ((32 : Int32) &&& 0x3f).toInt64.toUInt64).toInt64)), (.long (q0 * (-7046029254386353131 : Int64)))]
  refine go (fun t kt => XS.lxor X0.here hx rfl (hb hby d4_11) rfl kt) ?_
  show Go p e below _ m s₁ 12 #[jv q0, .second, iv p1, jv (q0 * (-7046029254386353131 : Int64)), .second] [(.long ((q0 * (-7046029254386353131 : Int64)) ^^^ (((q0 * (-7046029254386353131 : Int64)).toUInt64 >>> ((32 : Int32) &&& 0x3f).toInt64.toUInt64).toInt64)))]
  refine go (fun t kt => XS.l2i X0.here hx rfl (hb hby d4_12) rfl kt) ?_
  show Go p e below _ m s₁ 13 #[jv q0, .second, iv p1, jv (q0 * (-7046029254386353131 : Int64)), .second] [(.int (((q0 * (-7046029254386353131 : Int64)) ^^^ (((q0 * (-7046029254386353131 : Int64)).toUInt64 >>> ((32 : Int32) &&& 0x3f).toInt64.toUInt64).toInt64)).toInt32))]
  refine go (fun t kt => XS.iloadN X0.here hx rfl (hb hby d4_13) rfl kt) ?_
  show Go p e below _ m s₁ 14 #[jv q0, .second, iv p1, jv (q0 * (-7046029254386353131 : Int64)), .second] [(.int p1), (.int (((q0 * (-7046029254386353131 : Int64)) ^^^ (((q0 * (-7046029254386353131 : Int64)).toUInt64 >>> ((32 : Int32) &&& 0x3f).toInt64.toUInt64).toInt64)).toInt32))]
  refine go (fun t kt => XS.iand X0.here hx rfl (hb hby d4_14) rfl kt) ?_
  show Go p e below _ m s₁ 15 #[jv q0, .second, iv p1, jv (q0 * (-7046029254386353131 : Int64)), .second] [(.int ((((q0 * (-7046029254386353131 : Int64)) ^^^ (((q0 * (-7046029254386353131 : Int64)).toUInt64 >>> ((32 : Int32) &&& 0x3f).toInt64.toUInt64).toInt64)).toInt32) &&& p1))]
  obtain ⟨fs, hr, hrun, hended, hW, hsame⟩ := X0.leave (v := some (.int ((((q0 * (-7046029254386353131 : Int64)) ^^^ (((q0 * (-7046029254386353131 : Int64)).toUInt64 >>> ((32 : Int32) &&& 0x3f).toInt64.toUInt64).toInt64)).toInt32) &&& p1))) (fun h => by rw [Bd.returns] at h; cases h)
  refine ⟨_, _, retOut X0 hx (i := .ireturn) Bd.returns rfl (Or.inl ⟨rfl, Or.inl rfl, _, rfl⟩) (hb hby d4_15) hr, hrun, hended, _, _, rfl, ?_, ⟨_, rfl⟩, hW, hsame.mono (by decide) (by decide)⟩
  show Q4 Z q0 p1 h0 n0 _ s₁.heap _
  rw [e0]
  exact ⟨rfl, N0, rfl⟩
def own_start (q : Int64) : Nat := (own_slot q 15).toNatClampNeg
def own_find (us : List Int32) (ks : List Int64) (q : Int64) : Nat → Nat → Nat
  | 0, s => s
  | f + 1, s => if us.getD s 0 = 0 then s else if ks.getD s 0 = q then s else own_find us ks q f ((s + 1) % 16)
def own_at (us : List Int32) (ks : List Int64) (q : Int64) : Nat := own_find us ks q 16 (own_start q)
def own_stop (us : List Int32) (ks : List Int64) (q : Int64) (r : Nat) : Prop := us.getD r 0 = 0 ∨ ks.getD r 0 = q
def own_us (us : List Int32) (ks : List Int64) (q : Int64) : List Int32 := if us.getD (own_at us ks q) 0 = 0 then us.set (own_at us ks q) 1 else us
def own_ks (us : List Int32) (ks : List Int64) (q : Int64) : List Int64 := if us.getD (own_at us ks q) 0 = 0 then ks.set (own_at us ks q) q else ks
def own_sz (us : List Int32) (ks : List Int64) (q : Int64) (w : Int32) : Int32 := if us.getD (own_at us ks q) 0 = 0 then w + 1 else w
def own_Lp (us : List Int32) (ks : List Int64) : Nat → List Int64
  | 0 => []
  | n + 1 => if us.getD n 0 = 0 then own_Lp us ks n else own_Lp us ks n ++ [ks.getD n 0]
theorem own_slot_lt (q : Int64) : own_start q < 16 ∧ own_slot q 15 = Int32.ofNat (own_start q) := by
  have h : ∀ x : Int32, (x &&& 15).toNatClampNeg < 16 ∧ (x &&& 15) = Int32.ofNat (x &&& 15).toNatClampNeg := by
    intro x
    have e := Jvm.Kit.i32_mask x 15 (k := 4) (by decide) (by decide)
    have e0 : (0 : Int32).toInt = 0 := rfl
    have n0 : ¬ (x &&& 15) < 0 := by rw [Int32.lt_iff_toInt_lt, e]; omega
    refine ⟨by simp only [Int32.toNatClampNeg, e]; omega, ?_⟩
    exact (back32 n0).1.symm
  unfold own_start own_slot
  exact h _
theorem own_ofn (n : Nat) (h : n < 16) : (Int32.ofNat n).toNatClampNeg = n ∧ ¬ Int32.ofNat n < 0 ∧ Int32.ofNat n < 16 := by
  have e : (Int32.ofNat n).toInt = n := Int32.toInt_ofNat_small (by omega)
  have e0 : (0 : Int32).toInt = 0 := rfl
  have e1 : (16 : Int32).toInt = 16 := rfl
  refine ⟨by simp only [Int32.toNatClampNeg, e]; omega, ?_, ?_⟩
  · rw [Int32.lt_iff_toInt_lt, e, e0]; omega
  · rw [Int32.lt_iff_toInt_lt, e, e1]; omega
theorem own_next (n : Nat) (h : n < 16) : ((Int32.ofNat n + 1) &&& 15) = Int32.ofNat ((n + 1) % 16) := by
  have : ∀ i : Fin 16, ((Int32.ofNat i.1 + 1) &&& 15) = Int32.ofNat ((i.1 + 1) % 16) := by decide
  exact this ⟨n, h⟩
theorem own_inc (n : Nat) : Int32.ofNat n + 1 = Int32.ofNat (n + 1) := (Int32.ofNat_add n 1).symm
theorem own_hatI (us : List Int32) (n : Nat) (h : n < 16) : (us.map Value.int).getD (Int32.ofNat n).toNatClampNeg (.int (0 : Int32)) = .int (us.getD n 0) := by
  rw [(own_ofn n h).1]; simp only [List.getD_eq_getElem?_getD, List.getElem?_map]
  cases us[n]? <;> rfl
theorem own_hatJ (ks : List Int64) (n : Nat) (h : n < 16) : (ks.map Value.long).getD (Int32.ofNat n).toNatClampNeg (.long (0 : Int64)) = .long (ks.getD n 0) := by
  rw [(own_ofn n h).1]; simp only [List.getD_eq_getElem?_getD, List.getElem?_map]
  cases ks[n]? <;> rfl
theorem own_find_lt (us : List Int32) (ks : List Int64) (q : Int64) : ∀ f s, s < 16 → own_find us ks q f s < 16 := by
  intro f; induction f with
  | zero => intro s h; exact h
  | succ f ih =>
    intro s h; unfold own_find
    split
    · exact h
    · split
      · exact h
      · exact ih _ (Nat.mod_lt _ (by decide))
theorem own_at_lt (us : List Int32) (ks : List Int64) (q : Int64) : own_at us ks q < 16 := own_find_lt us ks q 16 _ (own_slot_lt q).1
theorem own_stops (us : List Int32) (ks : List Int64) (q : Int64) : ∀ f s, s < 16 → (∃ d, d ≤ f ∧ us.getD ((s + d) % 16) 0 = 0) → own_stop us ks q (own_find us ks q f s) := by
  intro f; induction f with
  | zero =>
    intro s h ⟨d, hd, he⟩
    have : d = 0 := by omega
    subst this
    rw [Nat.add_zero, Nat.mod_eq_of_lt h] at he
    exact Or.inl he
  | succ f ih =>
    intro s h ⟨d, hd, he⟩
    unfold own_find
    split
    · rename_i q1; exact Or.inl q1
    · rename_i q1
      split
      · rename_i q2; exact Or.inr q2
      · refine ih _ (Nat.mod_lt _ (by decide)) ?_
        cases d with
        | zero => rw [Nat.add_zero, Nat.mod_eq_of_lt h] at he; exact absurd he q1
        | succ d => exact ⟨d, by omega, by rw [← he]; congr 1; omega⟩
theorem own_getD_ne {α : Type} (l : List α) (r s : Nat) (x d : α) (h : s ≠ r) : (l.set r x).getD s d = l.getD s d := by
  simp only [List.getD_eq_getElem?_getD]; rw [List.getElem?_set_ne (Ne.symm h)]
theorem own_getD_eq {α : Type} (l : List α) (r : Nat) (x d : α) (h : r < l.length) : (l.set r x).getD r d = x := by
  simp only [List.getD_eq_getElem?_getD]; rw [List.getElem?_set_self h]; rfl
theorem own_find_old (us : List Int32) (ks : List Int64) (r : Nat) (y k : Int64) (hr : us.getD r 0 = 0) : ∀ f s i, own_find us ks k f s = i → ¬ us.getD i 0 = 0 → own_find (us.set r 1) (ks.set r y) k f s = i := by
  intro f; induction f with
  | zero => intro s i h _; exact h
  | succ f ih =>
    intro s i h hi
    unfold own_find at h ⊢
    by_cases q1 : us.getD s 0 = 0
    · rw [if_pos q1] at h; subst h; exact absurd q1 hi
    · have ne : s ≠ r := fun e => q1 (e ▸ hr)
      rw [if_neg q1] at h
      rw [own_getD_ne us r s 1 0 ne, own_getD_ne ks r s y 0 ne, if_neg q1]
      by_cases q2 : ks.getD s 0 = k
      · rw [if_pos q2] at h ⊢; exact h
      · rw [if_neg q2] at h ⊢; exact ih _ _ h hi
theorem own_find_new (us : List Int32) (ks : List Int64) (r : Nat) (y : Int64) (hr : us.getD r 0 = 0) (h1 : r < us.length) (h2 : r < ks.length) : ∀ f s, own_find us ks y f s = r → own_find (us.set r 1) (ks.set r y) y f s = r := by
  intro f; induction f with
  | zero => intro s h; exact h
  | succ f ih =>
    intro s h
    unfold own_find at h ⊢
    by_cases q1 : us.getD s 0 = 0
    · rw [if_pos q1] at h; subst h
      rw [own_getD_eq us _ 1 0 h1, own_getD_eq ks _ y 0 h2, if_neg (by decide), if_pos rfl]
    · have ne : s ≠ r := fun e => q1 (e ▸ hr)
      rw [if_neg q1] at h
      rw [own_getD_ne us r s 1 0 ne, own_getD_ne ks r s y 0 ne, if_neg q1]
      by_cases q2 : ks.getD s 0 = y
      · rw [if_pos q2] at h; exact absurd h ne
      · rw [if_neg q2] at h ⊢; exact ih _ h
theorem own_Lp_mem (us : List Int32) (ks : List Int64) (x : Int64) : ∀ n, x ∈ own_Lp us ks n ↔ ∃ i, i < n ∧ ¬ us.getD i 0 = 0 ∧ ks.getD i 0 = x := by
  intro n; induction n with
  | zero => exact ⟨(fun h => nomatch h), fun ⟨i, h, _⟩ => absurd h (Nat.not_lt_zero i)⟩
  | succ n ih =>
    unfold own_Lp
    by_cases q : us.getD n 0 = 0
    · rw [if_pos q, ih]
      constructor
      · rintro ⟨i, h1, h2⟩; exact ⟨i, by omega, h2⟩
      · rintro ⟨i, h1, h2, h3⟩
        have : i ≠ n := fun e => h2 (e ▸ q)
        exact ⟨i, by omega, h2, h3⟩
    · rw [if_neg q, List.mem_append, ih, List.mem_singleton]
      constructor
      · rintro (⟨i, h1, h2⟩ | rfl)
        · exact ⟨i, by omega, h2⟩
        · exact ⟨n, by omega, q, rfl⟩
      · rintro ⟨i, h1, h2, h3⟩
        by_cases e : i = n
        · subst e; exact Or.inr h3.symm
        · exact Or.inl ⟨i, by omega, h2, h3⟩
theorem own_Lp_len (us : List Int32) (ks : List Int64) (r : Nat) (y : Int64) (hr : us.getD r 0 = 0) (h1 : r < us.length) : ∀ n, (own_Lp (us.set r 1) (ks.set r y) n).length = (own_Lp us ks n).length + (if r < n then 1 else 0) := by
  intro n; induction n with
  | zero => rfl
  | succ n ih =>
    unfold own_Lp
    by_cases e : n = r
    · subst e
      rw [own_getD_eq us n 1 0 h1, if_neg (by decide), if_pos hr, List.length_append, ih, if_neg (Nat.lt_irrefl n), if_pos (Nat.lt_succ_self n)]; rfl
    · rw [own_getD_ne us r n 1 0 e]
      by_cases q : us.getD n 0 = 0
      · rw [if_pos q, if_pos q, ih]; congr 1
        by_cases z : r < n
        · rw [if_pos z, if_pos (by omega)]
        · rw [if_neg z, if_neg (by omega)]
      · rw [if_neg q, if_neg q, List.length_append, List.length_append, ih]
        by_cases z : r < n
        · rw [if_pos z, if_pos (by omega)]; simp only [List.length_singleton] <;> omega
        · rw [if_neg z, if_neg (by omega)]; simp only [List.length_singleton] <;> omega
theorem own_Lp_full (us : List Int32) (ks : List Int64) : ∀ n, (∀ i, i < n → ¬ us.getD i 0 = 0) → (own_Lp us ks n).length = n := by
  intro n; induction n with
  | zero => intro _; rfl
  | succ n ih => intro h; unfold own_Lp; rw [if_neg (h n (by omega)), List.length_append, ih fun i hi => h i (by omega)]; rfl
/-- the table holds just the keys of S, each where its probe finds it -/
def own_Inv (us : List Int32) (ks : List Int64) (w : Int32) (S : List Int64) : Prop :=
  us.length = 16 ∧ ks.length = 16 ∧ w = Int32.ofNat (own_Lp us ks 16).length ∧ (own_Lp us ks 16).length ≤ S.length ∧ (∀ i, i < 16 → ¬ us.getD i 0 = 0 → own_at us ks (ks.getD i 0) = i) ∧ ∀ x, x ∈ own_Lp us ks 16 ↔ x ∈ S
theorem own_inv_stop {us : List Int32} {ks : List Int64} {w : Int32} {S : List Int64} (I : own_Inv us ks w S) (hS : S.length < 16) (q : Int64) : own_stop us ks q (own_at us ks q) := by
  obtain ⟨-, -, -, h4, -⟩ := I
  have : ∃ u, u < 16 ∧ us.getD u 0 = 0 := by
    refine Classical.byContradiction fun hn => ?_
    have := own_Lp_full us ks 16 fun i hi he => hn ⟨i, hi, he⟩
    omega
  obtain ⟨u, hu, he⟩ := this
  have hs := (own_slot_lt q).1
  refine own_stops us ks q 16 _ hs ⟨(u + 16 - own_start q) % 16, by omega, ?_⟩
  rw [← he]; congr 1; omega
theorem own_inv_put {us : List Int32} {ks : List Int64} {w : Int32} {S : List Int64} (I : own_Inv us ks w S) (hS : S.length < 16) (q : Int64) : own_Inv (own_us us ks q) (own_ks us ks q) (own_sz us ks q w) (q :: S) := by
  have hst := own_inv_stop I hS q
  obtain ⟨h1, h2, h3, h4, h5, h6⟩ := I
  have hlt := own_at_lt us ks q
  unfold own_us own_ks own_sz
  by_cases c : us.getD (own_at us ks q) 0 = 0
  · rw [if_pos c, if_pos c, if_pos c]
    generalize hr : own_at us ks q = r at *
    have hl := own_Lp_len us ks r q c (by omega) 16
    rw [if_pos hlt] at hl
    have hnew : own_at (us.set r 1) (ks.set r q) q = r := own_find_new us ks r q c (by omega) (by omega) 16 _ hr
    refine ⟨by rw [List.length_set]; exact h1, by rw [List.length_set]; exact h2, ?_, by rw [hl, List.length_cons]; omega, ?_, ?_⟩
    · rw [hl, h3]; exact own_inc _
    · intro i hi hu
      by_cases e : i = r
      · subst e; rw [own_getD_eq ks i q 0 (by omega)]; exact hnew
      · rw [own_getD_ne us r i 1 0 e] at hu
        rw [own_getD_ne ks r i q 0 e]
        exact own_find_old us ks r q _ c 16 _ _ (h5 i hi hu) hu
    · intro x
      rw [own_Lp_mem, List.mem_cons, ← h6, own_Lp_mem]
      constructor
      · rintro ⟨i, hi, hu, hk⟩
        by_cases e : i = r
        · subst e; rw [own_getD_eq ks i q 0 (by omega)] at hk; exact Or.inl hk.symm
        · rw [own_getD_ne us r i 1 0 e] at hu; rw [own_getD_ne ks r i q 0 e] at hk; exact Or.inr ⟨i, hi, hu, hk⟩
      · rintro (rfl | ⟨i, hi, hu, hk⟩)
        · exact ⟨r, hlt, by rw [own_getD_eq us r 1 0 (by omega)]; decide, own_getD_eq ks r _ 0 (by omega)⟩
        · have e : i ≠ r := fun e => hu (e ▸ c)
          exact ⟨i, hi, by rw [own_getD_ne us r i 1 0 e]; exact hu, by rw [own_getD_ne ks r i q 0 e]; exact hk⟩
  · rw [if_neg c, if_neg c, if_neg c]
    refine ⟨h1, h2, h3, by rw [List.length_cons]; omega, h5, fun x => ?_⟩
    rw [List.mem_cons, ← h6]
    constructor
    · exact Or.inr
    · rintro (rfl | h)
      · rcases hst with h | h
        · exact absurd h c
        · exact (own_Lp_mem us ks x 16).mpr ⟨_, hlt, c, h⟩
      · exact h
theorem own_inv_nodup {us : List Int32} {ks : List Int64} {w : Int32} {S : List Int64} (I : own_Inv us ks w S) : (own_Lp us ks 16).Nodup := by
  obtain ⟨h1, h2, h3, h4, h5, h6⟩ := I
  have : ∀ n, n ≤ 16 → (own_Lp us ks n).Nodup := by
    intro n; induction n with
    | zero => intro _; exact List.nodup_nil
    | succ n ih =>
      intro hn; unfold own_Lp
      by_cases q : us.getD n 0 = 0
      · rw [if_pos q]; exact ih (by omega)
      · rw [if_neg q, List.nodup_append]
        refine ⟨ih (by omega), by simp, fun x hx y hy e => ?_⟩
        rw [List.mem_singleton] at hy
        subst e hy
        obtain ⟨i, hi, hu, hk⟩ := (own_Lp_mem us ks _ n).mp hx
        have a := h5 i (by omega) hu
        have b := h5 n (by omega) q
        rw [hk] at a; omega
  exact this 16 (Nat.le_refl _)
theorem own_inv0 : own_Inv (List.replicate 16 0) (List.replicate 16 0) 0 [] := by
  have z : ∀ i, (List.replicate 16 (0 : Int32)).getD i 0 = 0 := fun i => by
    simp only [List.getD_eq_getElem?_getD, List.getElem?_replicate]; split <;> rfl
  have e : ∀ n, own_Lp (List.replicate 16 0) (List.replicate 16 0) n = [] := by
    intro n; induction n with
    | zero => rfl
    | succ n ih => unfold own_Lp; rw [if_pos (z n)]; exact ih
  refine ⟨by simp, by simp, by rw [e]; rfl, by rw [e]; exact Nat.le_refl _, fun i _ h => absurd (z i) h, fun x => by rw [e]⟩

theorem d1_0 : decode prog_35_method_1_code 0 = .ok (.aload_n 0, 1) := by decide +kernel
theorem d1_1 : decode prog_35_method_1_code 1 = .ok (.invokespecial 1, 3) := by decide +kernel
theorem d1_4 : decode prog_35_method_1_code 4 = .ok (.aload_n 0, 1) := by decide +kernel
theorem d1_5 : decode prog_35_method_1_code 5 = .ok (.bipush 16, 2) := by decide +kernel
theorem d1_7 : decode prog_35_method_1_code 7 = .ok (.newarray .long, 2) := by decide +kernel
theorem d1_9 : decode prog_35_method_1_code 9 = .ok (.putfield 7, 3) := by decide +kernel
theorem d1_12 : decode prog_35_method_1_code 12 = .ok (.aload_n 0, 1) := by decide +kernel
theorem d1_13 : decode prog_35_method_1_code 13 = .ok (.bipush 16, 2) := by decide +kernel
theorem d1_15 : decode prog_35_method_1_code 15 = .ok (.newarray .int, 2) := by decide +kernel
theorem d1_17 : decode prog_35_method_1_code 17 = .ok (.putfield 13, 3) := by decide +kernel
theorem d1_20 : decode prog_35_method_1_code 20 = .ok (.aload_n 0, 1) := by decide +kernel
theorem d1_21 : decode prog_35_method_1_code 21 = .ok (.bipush 16, 2) := by decide +kernel
theorem d1_23 : decode prog_35_method_1_code 23 = .ok (.newarray .boolean, 2) := by decide +kernel
theorem d1_25 : decode prog_35_method_1_code 25 = .ok (.putfield 17, 3) := by decide +kernel
theorem d1_28 : decode prog_35_method_1_code 28 = .ok (.return_, 1) := by decide +kernel
theorem ef_1 (m : MethodId) (o0 : Addr) : entryFrame m #[(.ref o0)] 1 = mkF m 0 #[rv o0] [] := by first | (simp [entryFrame, mkF, argsToLocals, Value.category]; done) | rfl
def Q1 (Z : State) (o0 : Addr) (u0 : Value) (u1 : Value) (u2 : Value) (w1 : Int32) (h0 : Heap) (n0 : Nat) (v : Option Value) (h : Heap) (L : List Loc) : Prop := v = none ∧ Fr n0 L ∧ Keep h0 h [o0] ∧ Exa Z h o0 "com/example/modest_tree_automata/modesttreeautomata/LongIntMap" ∧ ∃ (ok ov ou : Addr) (kk kv ku : ClassId), h0.size ≤ ok ∧ h0.size ≤ ov ∧ h0.size ≤ ou ∧ ok ≠ ov ∧ ok ≠ ou ∧ ov ≠ ou ∧ Fld Z h o0 "com/example/modest_tree_automata/modesttreeautomata/LongIntMap" "keys" "[J" (.ref ok) ∧ Fld Z h o0 "com/example/modest_tree_automata/modesttreeautomata/LongIntMap" "values" "[I" (.ref ov) ∧ Fld Z h o0 "com/example/modest_tree_automata/modesttreeautomata/LongIntMap" "used" "[Z" (.ref ou) ∧ Fld Z h o0 "com/example/modest_tree_automata/modesttreeautomata/LongIntMap" "size" "I" (.int w1) ∧ Arv Z h ok kk .long 16 ((List.replicate 16 (0 : Int64)).map Value.long) (.long (0 : Int64)) ∧ Arv Z h ov kv .int 16 (List.replicate 16 (.int (0 : Int32))) (.int (0 : Int32)) ∧ Arv Z h ou ku .boolean 16 ((List.replicate 16 (0 : Int32)).map Value.int) (.int (0 : Int32))
set_option maxRecDepth 65536 in
set_option maxHeartbeats 40000000 in
theorem rm1 (l : Launch) (Z : State) (a0 : Array Value) (hw : ∀ d ∈ tables_1, d.before a0 Z = true) (ws : List Jvm.Cond) (o0 : Addr) (u0 : Value) (u1 : Value) (u2 : Value) (w1 : Int32) (h0 : Heap) (n0 : Nat) (Z0 : n0 ≤ h0.size) (E_o0 : Exa Z h0 o0 "com/example/modest_tree_automata/modesttreeautomata/LongIntMap") (F_keys_o0 : Fld Z h0 o0 "com/example/modest_tree_automata/modesttreeautomata/LongIntMap" "keys" "[J" u0) (F_values_o0 : Fld Z h0 o0 "com/example/modest_tree_automata/modesttreeautomata/LongIntMap" "values" "[I" u1) (F_used_o0 : Fld Z h0 o0 "com/example/modest_tree_automata/modesttreeautomata/LongIntMap" "used" "[Z" u2) (F_size_o0 : Fld Z h0 o0 "com/example/modest_tree_automata/modesttreeautomata/LongIntMap" "size" "I" (.int w1)) (g_o0 : n0 ≤ o0) :
    MetFree l (⟨"com/example/modest_tree_automata/modesttreeautomata/LongIntMap", "<init>", "()V"⟩ : MethodName) (head1 (Jvm.Cond.code (⟨"com/example/modest_tree_automata/modesttreeautomata/LongIntMap", "<init>", "()V"⟩ : MethodName) prog_35_method_1_code 1 none :: ws) ({ frames := 1, cells := 3, slots := 48, locals := 12 } : Room)) (fun a U => a = #[(.ref o0)] ∧ Z.Warmed39 U.vm ∧ U.heap = h0) (fun _ _ _ _ _ => True) (fun _ U o U' => ∃ v L, o = .returned v ∧ Q1 Z o0 u0 u1 u2 w1 h0 n0 v U'.heap L ∧ FrameEnd U o U' L ({ frames := 1, cells := 3, slots := 48, locals := 12 } : Room).cells ({ frames := 1, cells := 3, slots := 48, locals := 12 } : Room).slots) := by
  refine MetFree.of_bodySF (plainFor_of_name pn_1) hisR ?_
  intro p e s m args below meth c s₁ Bd hml0 hP hK
  obtain ⟨rfl, hZ, hh⟩ := hP
  have hx := Bd.exec
  have hby := Bd.bytes
  have hml : c.maxLocals = 1 := hml0
  have hown : s.vm.findClass "com/example/modest_tree_automata/modesttreeautomata/LongIntMap" = some m.cls := findClass_of_methodNamed Bd.named
  have hnm := (name_of_methodNamed Bd.named Bd.method).1
  have X0 : Stand p l e ({ frames := 1, cells := 3, slots := 48, locals := 12 } : Room) s m #[(.ref o0)] below meth c s₁ [] 0 0 := Stand.of_body Bd
  have e0 : s₁.heap = h0 := by rw [← hh, Bd.state]; rfl
  have N0 := Fr.nil n0
  have K0 := Keep.refl h0 [o0]
  suffices hgo : Goes p.tables e below (fun s₂ o => ∃ v L, o = .returned v ∧ Q1 Z o0 u0 u1 u2 w1 h0 n0 v s₂.heap L ∧ FrameEnd s o s₂ L ({ frames := 1, cells := 3, slots := 48, locals := 12 } : Room).cells ({ frames := 1, cells := 3, slots := 48, locals := 12 } : Room).slots) (s₁.setTop (mkF m 0 #[rv o0] [])) from goEnd (fun t k => castTop (ef_1 m o0) k) hgo
  refine go (fun t kt => XS.aloadN X0.here hx rfl (hb hby d1_0) rfl rfl kt) ?_
  show Go p e below _ m s₁ 1 #[rv o0] [(.ref o0)]
  obtain ⟨T1, X1, e1, st1⟩ := initO X0 hx hZ hown (hw _ (List.mem_of_getElem? (i := 6) rfl)) (hw _ (List.mem_of_getElem? (i := 7) rfl)) (hw _ (List.mem_of_getElem? (i := 8) rfl)) e0 (g := (mkF m 1 #[rv o0] [(.ref o0)])) rfl (by rw [hml]; rfl) rfl (hb hby d1_1) (by decide) (W := 0) (by show 2 * 0 + _ ≤ _; exact Nat.le_of_eq rfl) (by decide)
  refine go st1 ?_
  show Go p e below _ m T1 4 #[rv o0] []
  refine go (fun t kt => XS.aloadN X1.here hx rfl (hb hby d1_4) rfl rfl kt) ?_
  show Go p e below _ m T1 5 #[rv o0] [(.ref o0)]
  refine go (fun t kt => XS.bipush X1.here hx rfl (hb hby d1_5) kt) ?_
  show Go p e below _ m T1 7 #[rv o0] [(.int (16 : Int32)), (.ref o0)]
  obtain ⟨T2, h2, k2, X2, e2, E2, A2, st2⟩ := newP X1 hx hZ (hw _ (List.mem_of_getElem? (i := 9) rfl)) e1 (g := (mkF m 7 #[rv o0] [(.int (16 : Int32)), (.ref o0)])) rfl (hb hby d1_7) rfl (by decide) (cap := 16) (by decide) (by decide) (by decide) (by decide)
  obtain ⟨b2, g2⟩ : ∃ z, z = h0.size := ⟨_, rfl⟩
  rw [← g2] at A2 st2
  have ne_o0_b2 : o0 ≠ b2 := Nat.ne_of_lt (Nat.lt_of_lt_of_le E_o0.lt (Nat.le_of_eq g2.symm))
  have g_b2 : n0 ≤ b2 := Nat.le_trans Z0 (Nat.le_of_eq g2.symm)
  have sz_b2 : h0.size ≤ b2 := Nat.le_trans K0.1 (Nat.le_of_eq g2.symm)
  replace E_o0 := E_o0.ext E2
  replace F_keys_o0 := F_keys_o0.ext E2
  replace F_values_o0 := F_values_o0.ext E2
  replace F_used_o0 := F_used_o0.ext E2
  replace F_size_o0 := F_size_o0.ext E2
  have Zz2 := Nat.le_trans Z0 E2.1
  have Kk2 := K0.ext E2
  have V_b2 : Arv Z h2 b2 k2 .long (16 : Int32) [(.long (0 : Int64)), (.long (0 : Int64)), (.long (0 : Int64)), (.long (0 : Int64)), (.long (0 : Int64)), (.long (0 : Int64)), (.long (0 : Int64)), (.long (0 : Int64)), (.long (0 : Int64)), (.long (0 : Int64)), (.long (0 : Int64)), (.long (0 : Int64)), (.long (0 : Int64)), (.long (0 : Int64)), (.long (0 : Int64)), (.long (0 : Int64))] (.long (0 : Int64)) := (Arv.new A2 (by decide)).pad (pad_rep [] (.long (0 : Int64)) 16)
  refine go st2 ?_
  show Go p e below _ m T2 9 #[rv o0] [(.ref b2), (.ref o0)]
  obtain ⟨T3, h3, X3, e3, W3, st3⟩ := putF X2 hx hZ hown (host := "") (Or.inl (hw _ (List.mem_of_getElem? (i := 10) rfl))) Via.refl e2 F_keys_o0 E_o0 (Or.inl (hw _ (List.mem_of_getElem? (i := 11) rfl))) (hw _ (List.mem_of_getElem? (i := 1) rfl)) (ty := (.array .long)) (by decide) rfl rfl (g := (mkF m 9 #[rv o0] [(.ref b2), (.ref o0)])) rfl rfl (hb hby d1_9)
  replace F_keys_o0 := F_keys_o0.same W3
  replace E_o0 := E_o0.wr W3
  replace F_values_o0 := F_values_o0.other W3 (Or.inr (slot_ne (Or.inl (hw _ (List.mem_of_getElem? (i := 14) rfl))) (Or.inl (hw _ (List.mem_of_getElem? (i := 11) rfl))) (by decide) (t := (.array .int)) (t' := (.array .long)) (by decide) (by decide)))
  replace F_used_o0 := F_used_o0.other W3 (Or.inr (slot_ne (Or.inl (hw _ (List.mem_of_getElem? (i := 17) rfl))) (Or.inl (hw _ (List.mem_of_getElem? (i := 11) rfl))) (by decide) (t := (.array .boolean)) (t' := (.array .long)) (by decide) (by decide)))
  replace F_size_o0 := F_size_o0.other W3 (Or.inr (slot_ne (Or.inl (hw _ (List.mem_of_getElem? (i := 24) rfl))) (Or.inl (hw _ (List.mem_of_getElem? (i := 11) rfl))) (by decide) (t := .int) (t' := (.array .long)) (by decide) (by decide)))
  replace V_b2 := V_b2.other W3 (Ne.symm ne_o0_b2)
  have Zz3 := Nat.le_trans Zz2 (Keep.of_wr W3).1
  have Kk3 := Kk2.wr W3 (Or.inl (List.mem_of_getElem? (i := 0) rfl))
  have N3 := Fr.snoc X3 N0 g_o0
  refine go st3 ?_
  show Go p e below _ m T3 12 #[rv o0] []
  refine go (fun t kt => XS.aloadN X3.here hx rfl (hb hby d1_12) rfl rfl kt) ?_
  show Go p e below _ m T3 13 #[rv o0] [(.ref o0)]
  refine go (fun t kt => XS.bipush X3.here hx rfl (hb hby d1_13) kt) ?_
  show Go p e below _ m T3 15 #[rv o0] [(.int (16 : Int32)), (.ref o0)]
  obtain ⟨T4, h4, k4, X4, e4, E4, A4, st4⟩ := newP X3 hx hZ (hw _ (List.mem_of_getElem? (i := 12) rfl)) e3 (g := (mkF m 15 #[rv o0] [(.int (16 : Int32)), (.ref o0)])) rfl (hb hby d1_15) rfl (by decide) (cap := 16) (by decide) (by decide) (by decide) (by decide)
  obtain ⟨b4, g4⟩ : ∃ z, z = h3.size := ⟨_, rfl⟩
  rw [← g4] at A4 st4
  have ne_o0_b4 : o0 ≠ b4 := Nat.ne_of_lt (Nat.lt_of_lt_of_le E_o0.lt (Nat.le_of_eq g4.symm))
  have ne_b2_b4 : b2 ≠ b4 := Nat.ne_of_lt (Nat.lt_of_lt_of_le V_b2.lt (Nat.le_of_eq g4.symm))
  have g_b4 : n0 ≤ b4 := Nat.le_trans Zz3 (Nat.le_of_eq g4.symm)
  have sz_b4 : h0.size ≤ b4 := Nat.le_trans Kk3.1 (Nat.le_of_eq g4.symm)
  replace E_o0 := E_o0.ext E4
  replace F_keys_o0 := F_keys_o0.ext E4
  replace F_values_o0 := F_values_o0.ext E4
  replace F_used_o0 := F_used_o0.ext E4
  replace F_size_o0 := F_size_o0.ext E4
  replace V_b2 := V_b2.ext E4
  have Zz4 := Nat.le_trans Zz3 E4.1
  have Kk4 := Kk3.ext E4
  have V_b4 : Arv Z h4 b4 k4 .int (16 : Int32) [(.int (0 : Int32)), (.int (0 : Int32)), (.int (0 : Int32)), (.int (0 : Int32)), (.int (0 : Int32)), (.int (0 : Int32)), (.int (0 : Int32)), (.int (0 : Int32)), (.int (0 : Int32)), (.int (0 : Int32)), (.int (0 : Int32)), (.int (0 : Int32)), (.int (0 : Int32)), (.int (0 : Int32)), (.int (0 : Int32)), (.int (0 : Int32))] (.int (0 : Int32)) := (Arv.new A4 (by decide)).pad (pad_rep [] (.int (0 : Int32)) 16)
  refine go st4 ?_
  show Go p e below _ m T4 17 #[rv o0] [(.ref b4), (.ref o0)]
  obtain ⟨T5, h5, X5, e5, W5, st5⟩ := putF X4 hx hZ hown (host := "") (Or.inl (hw _ (List.mem_of_getElem? (i := 13) rfl))) Via.refl e4 F_values_o0 E_o0 (Or.inl (hw _ (List.mem_of_getElem? (i := 14) rfl))) (hw _ (List.mem_of_getElem? (i := 1) rfl)) (ty := (.array .int)) (by decide) rfl rfl (g := (mkF m 17 #[rv o0] [(.ref b4), (.ref o0)])) rfl rfl (hb hby d1_17)
  replace F_values_o0 := F_values_o0.same W5
  replace E_o0 := E_o0.wr W5
  replace F_keys_o0 := F_keys_o0.other W5 (Or.inr (slot_ne (Or.inl (hw _ (List.mem_of_getElem? (i := 11) rfl))) (Or.inl (hw _ (List.mem_of_getElem? (i := 14) rfl))) (by decide) (t := (.array .long)) (t' := (.array .int)) (by decide) (by decide)))
  replace F_used_o0 := F_used_o0.other W5 (Or.inr (slot_ne (Or.inl (hw _ (List.mem_of_getElem? (i := 17) rfl))) (Or.inl (hw _ (List.mem_of_getElem? (i := 14) rfl))) (by decide) (t := (.array .boolean)) (t' := (.array .int)) (by decide) (by decide)))
  replace F_size_o0 := F_size_o0.other W5 (Or.inr (slot_ne (Or.inl (hw _ (List.mem_of_getElem? (i := 24) rfl))) (Or.inl (hw _ (List.mem_of_getElem? (i := 14) rfl))) (by decide) (t := .int) (t' := (.array .int)) (by decide) (by decide)))
  replace V_b2 := V_b2.other W5 (Ne.symm ne_o0_b2)
  replace V_b4 := V_b4.other W5 (Ne.symm ne_o0_b4)
  have Zz5 := Nat.le_trans Zz4 (Keep.of_wr W5).1
  have Kk5 := Kk4.wr W5 (Or.inl (List.mem_of_getElem? (i := 0) rfl))
  have N5 := Fr.snoc X5 N3 g_o0
  refine go st5 ?_
  show Go p e below _ m T5 20 #[rv o0] []
  refine go (fun t kt => XS.aloadN X5.here hx rfl (hb hby d1_20) rfl rfl kt) ?_
  show Go p e below _ m T5 21 #[rv o0] [(.ref o0)]
  refine go (fun t kt => XS.bipush X5.here hx rfl (hb hby d1_21) kt) ?_
  show Go p e below _ m T5 23 #[rv o0] [(.int (16 : Int32)), (.ref o0)]
  obtain ⟨T6, h6, k6, X6, e6, E6, A6, st6⟩ := newP X5 hx hZ (hw _ (List.mem_of_getElem? (i := 15) rfl)) e5 (g := (mkF m 23 #[rv o0] [(.int (16 : Int32)), (.ref o0)])) rfl (hb hby d1_23) rfl (by decide) (cap := 16) (by decide) (by decide) (by decide) (by decide)
  obtain ⟨b6, g6⟩ : ∃ z, z = h5.size := ⟨_, rfl⟩
  rw [← g6] at A6 st6
  have ne_o0_b6 : o0 ≠ b6 := Nat.ne_of_lt (Nat.lt_of_lt_of_le E_o0.lt (Nat.le_of_eq g6.symm))
  have ne_b2_b6 : b2 ≠ b6 := Nat.ne_of_lt (Nat.lt_of_lt_of_le V_b2.lt (Nat.le_of_eq g6.symm))
  have ne_b4_b6 : b4 ≠ b6 := Nat.ne_of_lt (Nat.lt_of_lt_of_le V_b4.lt (Nat.le_of_eq g6.symm))
  have g_b6 : n0 ≤ b6 := Nat.le_trans Zz5 (Nat.le_of_eq g6.symm)
  have sz_b6 : h0.size ≤ b6 := Nat.le_trans Kk5.1 (Nat.le_of_eq g6.symm)
  replace E_o0 := E_o0.ext E6
  replace F_keys_o0 := F_keys_o0.ext E6
  replace F_values_o0 := F_values_o0.ext E6
  replace F_used_o0 := F_used_o0.ext E6
  replace F_size_o0 := F_size_o0.ext E6
  replace V_b2 := V_b2.ext E6
  replace V_b4 := V_b4.ext E6
  have Zz6 := Nat.le_trans Zz5 E6.1
  have Kk6 := Kk5.ext E6
  have V_b6 : Arv Z h6 b6 k6 .boolean (16 : Int32) [(.int (0 : Int32)), (.int (0 : Int32)), (.int (0 : Int32)), (.int (0 : Int32)), (.int (0 : Int32)), (.int (0 : Int32)), (.int (0 : Int32)), (.int (0 : Int32)), (.int (0 : Int32)), (.int (0 : Int32)), (.int (0 : Int32)), (.int (0 : Int32)), (.int (0 : Int32)), (.int (0 : Int32)), (.int (0 : Int32)), (.int (0 : Int32))] (.int (0 : Int32)) := (Arv.new A6 (by decide)).pad (pad_rep [] (.int (0 : Int32)) 16)
  refine go st6 ?_
  show Go p e below _ m T6 25 #[rv o0] [(.ref b6), (.ref o0)]
  obtain ⟨T7, h7, X7, e7, W7, st7⟩ := putF X6 hx hZ hown (host := "") (Or.inl (hw _ (List.mem_of_getElem? (i := 16) rfl))) Via.refl e6 F_used_o0 E_o0 (Or.inl (hw _ (List.mem_of_getElem? (i := 17) rfl))) (hw _ (List.mem_of_getElem? (i := 1) rfl)) (ty := (.array .boolean)) (by decide) rfl rfl (g := (mkF m 25 #[rv o0] [(.ref b6), (.ref o0)])) rfl rfl (hb hby d1_25)
  replace F_used_o0 := F_used_o0.same W7
  replace E_o0 := E_o0.wr W7
  replace F_keys_o0 := F_keys_o0.other W7 (Or.inr (slot_ne (Or.inl (hw _ (List.mem_of_getElem? (i := 11) rfl))) (Or.inl (hw _ (List.mem_of_getElem? (i := 17) rfl))) (by decide) (t := (.array .long)) (t' := (.array .boolean)) (by decide) (by decide)))
  replace F_values_o0 := F_values_o0.other W7 (Or.inr (slot_ne (Or.inl (hw _ (List.mem_of_getElem? (i := 14) rfl))) (Or.inl (hw _ (List.mem_of_getElem? (i := 17) rfl))) (by decide) (t := (.array .int)) (t' := (.array .boolean)) (by decide) (by decide)))
  replace F_size_o0 := F_size_o0.other W7 (Or.inr (slot_ne (Or.inl (hw _ (List.mem_of_getElem? (i := 24) rfl))) (Or.inl (hw _ (List.mem_of_getElem? (i := 17) rfl))) (by decide) (t := .int) (t' := (.array .boolean)) (by decide) (by decide)))
  replace V_b2 := V_b2.other W7 (Ne.symm ne_o0_b2)
  replace V_b4 := V_b4.other W7 (Ne.symm ne_o0_b4)
  replace V_b6 := V_b6.other W7 (Ne.symm ne_o0_b6)
  have Zz7 := Nat.le_trans Zz6 (Keep.of_wr W7).1
  have Kk7 := Kk6.wr W7 (Or.inl (List.mem_of_getElem? (i := 0) rfl))
  have N7 := Fr.snoc X7 N5 g_o0
  refine go st7 ?_
  show Go p e below _ m T7 28 #[rv o0] []
  obtain ⟨fs, hr, hrun, hended, hW, hsame⟩ := X7.leave (v := none) (fun _ => rfl)
  refine ⟨_, _, X7.returnOut hx Bd.returns (hb hby d1_28) hr, hrun, hended, _, _, rfl, ?_, ⟨_, rfl⟩, hW, hsame.mono (by decide) (by decide)⟩
  show Q1 Z o0 u0 u1 u2 w1 h0 n0 _ T7.heap _
  rw [e7]
  exact ⟨rfl, N7, Kk7, E_o0, b2, b4, b6, _, _, _, sz_b2, sz_b4, sz_b6, ne_b2_b4, ne_b2_b6, ne_b4_b6, F_keys_o0, F_values_o0, F_used_o0, F_size_o0, V_b2, V_b4, V_b6⟩
theorem d3_0 : decode prog_35_method_6_code 0 = .ok (.iconst 2, 1) := by decide +kernel
theorem d3_1 : decode prog_35_method_6_code 1 = .ok (.aload_n 0, 1) := by decide +kernel
theorem d3_2 : decode prog_35_method_6_code 2 = .ok (.getfield 23, 3) := by decide +kernel
theorem d3_5 : decode prog_35_method_6_code 5 = .ok (.iconst 1, 1) := by decide +kernel
theorem d3_6 : decode prog_35_method_6_code 6 = .ok (.iadd, 1) := by decide +kernel
theorem d3_7 : decode prog_35_method_6_code 7 = .ok (.imul, 1) := by decide +kernel
theorem d3_8 : decode prog_35_method_6_code 8 = .ok (.aload_n 0, 1) := by decide +kernel
theorem d3_9 : decode prog_35_method_6_code 9 = .ok (.getfield 7, 3) := by decide +kernel
theorem d3_12 : decode prog_35_method_6_code 12 = .ok (.arraylength, 1) := by decide +kernel
theorem d3_13 : decode prog_35_method_6_code 13 = .ok (.if_icmp .le 7, 3) := by decide +kernel
theorem d3_20 : decode prog_35_method_6_code 20 = .ok (.aload_n 0, 1) := by decide +kernel
theorem d3_21 : decode prog_35_method_6_code 21 = .ok (.getfield 7, 3) := by decide +kernel
theorem d3_24 : decode prog_35_method_6_code 24 = .ok (.arraylength, 1) := by decide +kernel
theorem d3_25 : decode prog_35_method_6_code 25 = .ok (.iconst 1, 1) := by decide +kernel
theorem d3_26 : decode prog_35_method_6_code 26 = .ok (.isub, 1) := by decide +kernel
theorem d3_27 : decode prog_35_method_6_code 27 = .ok (.istore 4, 2) := by decide +kernel
theorem d3_29 : decode prog_35_method_6_code 29 = .ok (.lload_n 1, 1) := by decide +kernel
theorem d3_30 : decode prog_35_method_6_code 30 = .ok (.iload 4, 2) := by decide +kernel
theorem pd_0 : parseMethodDescriptor "(JI)I" = some ⟨[.long, .int], some .int⟩ := by decide +kernel
theorem d3_32 : decode prog_35_method_6_code 32 = .ok (.invokestatic 27, 3) := by decide +kernel
theorem d3_35 : decode prog_35_method_6_code 35 = .ok (.istore 5, 2) := by decide +kernel
theorem d3_37 : decode prog_35_method_6_code 37 = .ok (.aload_n 0, 1) := by decide +kernel
theorem d3_38 : decode prog_35_method_6_code 38 = .ok (.getfield 17, 3) := by decide +kernel
theorem d3_41 : decode prog_35_method_6_code 41 = .ok (.iload 5, 2) := by decide +kernel
theorem d3_43 : decode prog_35_method_6_code 43 = .ok (.baload, 1) := by decide +kernel
theorem d3_44 : decode prog_35_method_6_code 44 = .ok (.ifCond .eq 27, 3) := by decide +kernel
theorem d3_47 : decode prog_35_method_6_code 47 = .ok (.aload_n 0, 1) := by decide +kernel
theorem d3_48 : decode prog_35_method_6_code 48 = .ok (.getfield 7, 3) := by decide +kernel
theorem d3_51 : decode prog_35_method_6_code 51 = .ok (.iload 5, 2) := by decide +kernel
theorem d3_53 : decode prog_35_method_6_code 53 = .ok (.laload, 1) := by decide +kernel
theorem d3_54 : decode prog_35_method_6_code 54 = .ok (.lload_n 1, 1) := by decide +kernel
theorem d3_55 : decode prog_35_method_6_code 55 = .ok (.lcmp, 1) := by decide +kernel
theorem d3_56 : decode prog_35_method_6_code 56 = .ok (.ifCond .eq 15, 3) := by decide +kernel
theorem d3_59 : decode prog_35_method_6_code 59 = .ok (.iload 5, 2) := by decide +kernel
theorem d3_61 : decode prog_35_method_6_code 61 = .ok (.iconst 1, 1) := by decide +kernel
theorem d3_62 : decode prog_35_method_6_code 62 = .ok (.iadd, 1) := by decide +kernel
theorem d3_63 : decode prog_35_method_6_code 63 = .ok (.iload 4, 2) := by decide +kernel
theorem d3_65 : decode prog_35_method_6_code 65 = .ok (.iand, 1) := by decide +kernel
theorem d3_66 : decode prog_35_method_6_code 66 = .ok (.istore 5, 2) := by decide +kernel
theorem d3_68 : decode prog_35_method_6_code 68 = .ok (.goto (-31), 3) := by decide +kernel
theorem d3_71 : decode prog_35_method_6_code 71 = .ok (.aload_n 0, 1) := by decide +kernel
theorem d3_72 : decode prog_35_method_6_code 72 = .ok (.getfield 17, 3) := by decide +kernel
theorem d3_75 : decode prog_35_method_6_code 75 = .ok (.iload 5, 2) := by decide +kernel
theorem d3_77 : decode prog_35_method_6_code 77 = .ok (.baload, 1) := by decide +kernel
theorem d3_78 : decode prog_35_method_6_code 78 = .ok (.ifCond .ne 29, 3) := by decide +kernel
theorem d3_81 : decode prog_35_method_6_code 81 = .ok (.aload_n 0, 1) := by decide +kernel
theorem d3_82 : decode prog_35_method_6_code 82 = .ok (.getfield 17, 3) := by decide +kernel
theorem d3_85 : decode prog_35_method_6_code 85 = .ok (.iload 5, 2) := by decide +kernel
theorem d3_87 : decode prog_35_method_6_code 87 = .ok (.iconst 1, 1) := by decide +kernel
theorem d3_88 : decode prog_35_method_6_code 88 = .ok (.bastore, 1) := by decide +kernel
theorem d3_89 : decode prog_35_method_6_code 89 = .ok (.aload_n 0, 1) := by decide +kernel
theorem d3_90 : decode prog_35_method_6_code 90 = .ok (.getfield 7, 3) := by decide +kernel
theorem d3_93 : decode prog_35_method_6_code 93 = .ok (.iload 5, 2) := by decide +kernel
theorem d3_95 : decode prog_35_method_6_code 95 = .ok (.lload_n 1, 1) := by decide +kernel
theorem d3_96 : decode prog_35_method_6_code 96 = .ok (.lastore, 1) := by decide +kernel
theorem d3_97 : decode prog_35_method_6_code 97 = .ok (.aload_n 0, 1) := by decide +kernel
theorem d3_98 : decode prog_35_method_6_code 98 = .ok (.dup, 1) := by decide +kernel
theorem d3_99 : decode prog_35_method_6_code 99 = .ok (.getfield 23, 3) := by decide +kernel
theorem d3_102 : decode prog_35_method_6_code 102 = .ok (.iconst 1, 1) := by decide +kernel
theorem d3_103 : decode prog_35_method_6_code 103 = .ok (.iadd, 1) := by decide +kernel
theorem d3_104 : decode prog_35_method_6_code 104 = .ok (.putfield 23, 3) := by decide +kernel
theorem d3_107 : decode prog_35_method_6_code 107 = .ok (.aload_n 0, 1) := by decide +kernel
theorem d3_108 : decode prog_35_method_6_code 108 = .ok (.getfield 13, 3) := by decide +kernel
theorem d3_111 : decode prog_35_method_6_code 111 = .ok (.iload 5, 2) := by decide +kernel
theorem d3_113 : decode prog_35_method_6_code 113 = .ok (.iload_n 3, 1) := by decide +kernel
theorem d3_114 : decode prog_35_method_6_code 114 = .ok (.iastore, 1) := by decide +kernel
theorem d3_115 : decode prog_35_method_6_code 115 = .ok (.return_, 1) := by decide +kernel
theorem ef_3 (m : MethodId) (o0 : Addr) (q1 : Int64) (p2 : Int32) : entryFrame m #[(.ref o0), (.long q1), (.int p2)] 6 = mkF m 0 #[rv o0, jv q1, .second, iv p2, .unset, .unset] [] := by first | (simp [entryFrame, mkF, argsToLocals, Value.category]; done) | rfl
def Q3 (Z : State) (o0 : Addr) (q1 : Int64) (p2 : Int32) (ok : Addr) (ov : Addr) (ou : Addr) (kk : ClassId) (kv : ClassId) (ku : ClassId) (ks : List Int64) (us : List Int32) (vv : List Value) (w1 : Int32) (h0 : Heap) (n0 : Nat) (v : Option Value) (h : Heap) (L : List Loc) : Prop := v = none ∧ Fr n0 L ∧ Keep h0 h [o0, ok, ov, ou] ∧ Exa Z h o0 "com/example/modest_tree_automata/modesttreeautomata/LongIntMap" ∧ Fld Z h o0 "com/example/modest_tree_automata/modesttreeautomata/LongIntMap" "keys" "[J" (.ref ok) ∧ Fld Z h o0 "com/example/modest_tree_automata/modesttreeautomata/LongIntMap" "values" "[I" (.ref ov) ∧ Fld Z h o0 "com/example/modest_tree_automata/modesttreeautomata/LongIntMap" "used" "[Z" (.ref ou) ∧ Fld Z h o0 "com/example/modest_tree_automata/modesttreeautomata/LongIntMap" "size" "I" (.int (own_sz us ks q1 w1)) ∧ Arv Z h ok kk .long 16 ((own_ks us ks q1).map Value.long) (.long (0 : Int64)) ∧ Arv Z h ou ku .boolean 16 ((own_us us ks q1).map Value.int) (.int (0 : Int32)) ∧ ∃ vv' : List Value, vv'.length = 16 ∧ Arv Z h ov kv .int 16 vv' (.int (0 : Int32))
set_option maxRecDepth 65536 in
set_option maxHeartbeats 40000000 in
theorem rm3 (l : Launch) (Z : State) (a0 : Array Value) (hw : ∀ d ∈ tables_1, d.before a0 Z = true) (ws : List Jvm.Cond) (o0 : Addr) (q1 : Int64) (p2 : Int32) (ok : Addr) (ov : Addr) (ou : Addr) (kk : ClassId) (kv : ClassId) (ku : ClassId) (ks : List Int64) (us : List Int32) (vv : List Value) (w1 : Int32) (h0 : Heap) (n0 : Nat) (Z0 : n0 ≤ h0.size) (E_o0 : Exa Z h0 o0 "com/example/modest_tree_automata/modesttreeautomata/LongIntMap") (F_keys_o0 : Fld Z h0 o0 "com/example/modest_tree_automata/modesttreeautomata/LongIntMap" "keys" "[J" (.ref ok)) (F_values_o0 : Fld Z h0 o0 "com/example/modest_tree_automata/modesttreeautomata/LongIntMap" "values" "[I" (.ref ov)) (F_used_o0 : Fld Z h0 o0 "com/example/modest_tree_automata/modesttreeautomata/LongIntMap" "used" "[Z" (.ref ou)) (F_size_o0 : Fld Z h0 o0 "com/example/modest_tree_automata/modesttreeautomata/LongIntMap" "size" "I" (.int w1)) (V_ok : Arv Z h0 ok kk .long (16 : Int32) (ks.map Value.long) (.long (0 : Int64))) (V_ov : Arv Z h0 ov kv .int (16 : Int32) vv (.int (0 : Int32))) (V_ou : Arv Z h0 ou ku .boolean (16 : Int32) (us.map Value.int) (.int (0 : Int32))) (g_o0 : n0 ≤ o0) (g_ok : n0 ≤ ok) (g_ov : n0 ≤ ov) (g_ou : n0 ≤ ou) (ne_o0_ok : o0 ≠ ok) (ne_o0_ov : o0 ≠ ov) (ne_o0_ou : o0 ≠ ou) (ne_ok_ov : ok ≠ ov) (ne_ok_ou : ok ≠ ou) (ne_ov_ou : ov ≠ ou) (hks : ks.length = 16) (hus : us.length = 16) (hvv : vv.length = 16) (hsz : ¬ (16 : Int32) < ((2 : Int32) * (w1 + (1 : Int32)))) (hfin : own_stop us ks q1 (own_at us ks q1)) :
    MetFree l (⟨"com/example/modest_tree_automata/modesttreeautomata/LongIntMap", "put", "(JI)V"⟩ : MethodName) (head1 (Jvm.Cond.code (⟨"com/example/modest_tree_automata/modesttreeautomata/LongIntMap", "put", "(JI)V"⟩ : MethodName) prog_35_method_6_code 6 none :: ws) ({ frames := 1, cells := 0, slots := 0, locals := 16 } : Room)) (fun a U => a = #[(.ref o0), (.long q1), (.int p2)] ∧ Z.Warmed39 U.vm ∧ U.heap = h0) (fun _ _ _ _ _ => True) (fun _ U o U' => ∃ v L, o = .returned v ∧ Q3 Z o0 q1 p2 ok ov ou kk kv ku ks us vv w1 h0 n0 v U'.heap L ∧ FrameEnd U o U' L ({ frames := 1, cells := 0, slots := 0, locals := 16 } : Room).cells ({ frames := 1, cells := 0, slots := 0, locals := 16 } : Room).slots) := by
  refine MetFree.of_bodySF (plainFor_of_name pn_1) hisR ?_
  intro p e s m args below meth c s₁ Bd hml0 hP hK
  obtain ⟨rfl, hZ, hh⟩ := hP
  have hx := Bd.exec
  have hby := Bd.bytes
  have hml : c.maxLocals = 6 := hml0
  have hown : s.vm.findClass "com/example/modest_tree_automata/modesttreeautomata/LongIntMap" = some m.cls := findClass_of_methodNamed Bd.named
  have hnm := (name_of_methodNamed Bd.named Bd.method).1
  have X0 : Stand p l e ({ frames := 1, cells := 0, slots := 0, locals := 16 } : Room) s m #[(.ref o0), (.long q1), (.int p2)] below meth c s₁ [] 0 0 := Stand.of_body Bd
  have e0 : s₁.heap = h0 := by rw [← hh, Bd.state]; rfl
  have N0 := Fr.nil n0
  have K0 := Keep.refl h0 [o0, ok, ov, ou]
  suffices hgo : Goes p.tables e below (fun s₂ o => ∃ v L, o = .returned v ∧ Q3 Z o0 q1 p2 ok ov ou kk kv ku ks us vv w1 h0 n0 v s₂.heap L ∧ FrameEnd s o s₂ L ({ frames := 1, cells := 0, slots := 0, locals := 16 } : Room).cells ({ frames := 1, cells := 0, slots := 0, locals := 16 } : Room).slots) (s₁.setTop (mkF m 0 #[rv o0, jv q1, .second, iv p2, .unset, .unset] [])) from goEnd (fun t k => castTop (ef_3 m o0 q1 p2) k) hgo
  refine go (fun t kt => XS.iconst X0.here hx rfl (hb hby d3_0) kt) ?_
  show Go p e below _ m s₁ 1 #[rv o0, jv q1, .second, iv p2, .unset, .unset] [(.int (2 : Int32))]
  refine go (fun t kt => XS.aloadN X0.here hx rfl (hb hby d3_1) rfl rfl kt) ?_
  show Go p e below _ m s₁ 2 #[rv o0, jv q1, .second, iv p2, .unset, .unset] [(.ref o0), (.int (2 : Int32))]
  obtain ⟨T1, X1, e1, st1⟩ := getF X0 hx hZ hown (host := "") (Or.inl (hw _ (List.mem_of_getElem? (i := 23) rfl))) Via.refl e0 F_size_o0 (g := (mkF m 2 #[rv o0, jv q1, .second, iv p2, .unset, .unset] [(.ref o0), (.int (2 : Int32))])) rfl rfl (hb hby d3_2)
  refine go st1 ?_
  show Go p e below _ m T1 5 #[rv o0, jv q1, .second, iv p2, .unset, .unset] [(.int w1), (.int (2 : Int32))]
  refine go (fun t kt => XS.iconst X1.here hx rfl (hb hby d3_5) kt) ?_
  show Go p e below _ m T1 6 #[rv o0, jv q1, .second, iv p2, .unset, .unset] [(.int (1 : Int32)), (.int w1), (.int (2 : Int32))]
  refine go (fun t kt => XS.iadd X1.here hx rfl (hb hby d3_6) rfl kt) ?_
  show Go p e below _ m T1 7 #[rv o0, jv q1, .second, iv p2, .unset, .unset] [(.int (w1 + (1 : Int32))), (.int (2 : Int32))]
  refine go (fun t kt => XS.imul X1.here hx rfl (hb hby d3_7) rfl kt) ?_
  show Go p e below _ m T1 8 #[rv o0, jv q1, .second, iv p2, .unset, .unset] [(.int ((2 : Int32) * (w1 + (1 : Int32))))]
  refine go (fun t kt => XS.aloadN X1.here hx rfl (hb hby d3_8) rfl rfl kt) ?_
  show Go p e below _ m T1 9 #[rv o0, jv q1, .second, iv p2, .unset, .unset] [(.ref o0), (.int ((2 : Int32) * (w1 + (1 : Int32))))]
  obtain ⟨T2, X2, e2, st2⟩ := getF X1 hx hZ hown (host := "") (Or.inl (hw _ (List.mem_of_getElem? (i := 10) rfl))) Via.refl e1 F_keys_o0 (g := (mkF m 9 #[rv o0, jv q1, .second, iv p2, .unset, .unset] [(.ref o0), (.int ((2 : Int32) * (w1 + (1 : Int32))))])) rfl rfl (hb hby d3_9)
  refine go st2 ?_
  show Go p e below _ m T2 12 #[rv o0, jv q1, .second, iv p2, .unset, .unset] [(.ref ok), (.int ((2 : Int32) * (w1 + (1 : Int32))))]
  obtain ⟨cl3, Ar3, qc3, S3, M3, H3, G3⟩ := id V_ok
  refine go (X2.arraylength hx (by rw [e2]; exact Ar3.1) (State.isArrayOf_alike hZ.alike Ar3.2.1) (g := (mkF m 12 #[rv o0, jv q1, .second, iv p2, .unset, .unset] [(.ref ok), (.int ((2 : Int32) * (w1 + (1 : Int32))))])) rfl rfl (hb hby d3_12)) ?_
  rw [len_of S3 M3]
  show Go p e below _ m T2 13 #[rv o0, jv q1, .second, iv p2, .unset, .unset] [(.int (16 : Int32)), (.int ((2 : Int32) * (w1 + (1 : Int32))))]
  refine go (fun t kt => XS.icmpYes X2.here hx rfl (pc0 := 13) (pc' := 20) rfl (hb hby d3_13) rfl (flt hsz).2.2.2 (by decide) (by decide) kt) ?_
  show Go p e below _ m T2 20 #[rv o0, jv q1, .second, iv p2, .unset, .unset] []
  refine go (fun t kt => XS.aloadN X2.here hx rfl (hb hby d3_20) rfl rfl kt) ?_
  show Go p e below _ m T2 21 #[rv o0, jv q1, .second, iv p2, .unset, .unset] [(.ref o0)]
  obtain ⟨T4, X4, e4, st4⟩ := getF X2 hx hZ hown (host := "") (Or.inl (hw _ (List.mem_of_getElem? (i := 10) rfl))) Via.refl e2 F_keys_o0 (g := (mkF m 21 #[rv o0, jv q1, .second, iv p2, .unset, .unset] [(.ref o0)])) rfl rfl (hb hby d3_21)
  refine go st4 ?_
  show Go p e below _ m T4 24 #[rv o0, jv q1, .second, iv p2, .unset, .unset] [(.ref ok)]
  obtain ⟨cl5, Ar5, qc5, S5, M5, H5, G5⟩ := id V_ok
  refine go (X4.arraylength hx (by rw [e4]; exact Ar5.1) (State.isArrayOf_alike hZ.alike Ar5.2.1) (g := (mkF m 24 #[rv o0, jv q1, .second, iv p2, .unset, .unset] [(.ref ok)])) rfl rfl (hb hby d3_24)) ?_
  rw [len_of S5 M5]
  show Go p e below _ m T4 25 #[rv o0, jv q1, .second, iv p2, .unset, .unset] [(.int (16 : Int32))]
  refine go (fun t kt => XS.iconst X4.here hx rfl (hb hby d3_25) kt) ?_
  show Go p e below _ m T4 26 #[rv o0, jv q1, .second, iv p2, .unset, .unset] [(.int (1 : Int32)), (.int (16 : Int32))]
  refine go (fun t kt => XS.isub X4.here hx rfl (hb hby d3_26) rfl kt) ?_
  show Go p e below _ m T4 27 #[rv o0, jv q1, .second, iv p2, .unset, .unset] [(.int ((16 : Int32) - (1 : Int32)))]
  refine go (fun t kt => XS.istore X4.here hx rfl (hb hby d3_27) rfl (l' := #[rv o0, jv q1, .second, iv p2, iv ((16 : Int32) - (1 : Int32)), .unset]) rfl kt) ?_
  show Go p e below _ m T4 29 #[rv o0, jv q1, .second, iv p2, iv ((16 : Int32) - (1 : Int32)), .unset] []
  rw [show ((16 : Int32) - (1 : Int32)) = (15 : Int32) from by decide]
  show Go p e below _ m T4 29 #[rv o0, jv q1, .second, iv p2, iv (15 : Int32), .unset] []
  refine go (fun t kt => XS.lloadN X4.here hx rfl (hb hby d3_29) rfl kt) ?_
  show Go p e below _ m T4 30 #[rv o0, jv q1, .second, iv p2, iv (15 : Int32), .unset] [(.long q1)]
  refine go (fun t kt => XS.iload X4.here hx rfl (hb hby d3_30) rfl kt) ?_
  show Go p e below _ m T4 32 #[rv o0, jv q1, .second, iv p2, iv (15 : Int32), .unset] [(.int (15 : Int32)), (.long q1)]
  obtain ⟨_, _, ⟨T6, L6, k6, n6⟩, -, X6, ⟨Lc6, hQ6, l6, y6, z6⟩, st6⟩ := Jvm.LawKit.callS X4 hx (y := (⟨"com/example/modest_tree_automata/modesttreeautomata/LongIntMap", "slot", "(JI)I"⟩ : MethodName)) hown (mvT hZ (hw _ (List.mem_of_getElem? (i := 25) rfl))) (mvT hZ (hw _ (List.mem_of_getElem? (i := 26) rfl))) (mvT hZ (hw _ (List.mem_of_getElem? (i := 2) rfl))) (mvT hZ (hw _ (List.mem_of_getElem? (i := 27) rfl))) (by decide) (backOf (W := 0) (rm4 l Z a0 hw [] q1 (15 : Int32) h0 n0 Z0 ) hZ (hw _ (List.mem_of_getElem? (i := 27) rfl)) (hw _ (List.mem_of_getElem? (i := 2) rfl)) (by decide) (by decide)) (g := (mkF m 32 #[rv o0, jv q1, .second, iv p2, iv (15 : Int32), .unset] [(.int (15 : Int32)), (.long q1)])) rfl (by rw [hml]; rfl) (argsL := [(.long q1), (.int (15 : Int32))]) (rest := []) (lenOf pd_0 rfl) rfl (by show 2 * 0 + _ ≤ _; exact Nat.le_of_eq rfl) (hb hby d3_32) (fun _ _ => ⟨rfl, e4, (by decide : 0 + 0 ≤ _), (by decide : 0 + 0 ≤ _)⟩)
  dsimp only [Pt.U, Pt.locs, Pt.cells, Pt.slots] at X6 l6 y6 z6 st6 hQ6
  subst l6 y6 z6
  obtain ⟨rfl, Nq6, e6⟩ := hQ6
  have N6 := Fr.app N0 Nq6
  refine go st6 ?_
  show Go p e below _ m T6 35 #[rv o0, jv q1, .second, iv p2, iv (15 : Int32), .unset] [(.int (own_slot q1 (15 : Int32)))]
  refine go (fun t kt => XS.istore X6.here hx rfl (hb hby d3_35) rfl (l' := #[rv o0, jv q1, .second, iv p2, iv (15 : Int32), iv (own_slot q1 (15 : Int32))]) rfl kt) ?_
  show Go p e below _ m T6 37 #[rv o0, jv q1, .second, iv p2, iv (15 : Int32), iv (own_slot q1 (15 : Int32))] []
  rw [(own_slot_lt q1).2]
  obtain ⟨r, hrr⟩ : ∃ r, r = own_at us ks q1 := ⟨_, rfl⟩
  rw [← hrr] at hfin
  have hlt : r < 16 := by rw [hrr]; exact own_at_lt us ks q1
  obtain ⟨lo, Xl, Nl⟩ : ∃ lo, Stand p l e ({ frames := 1, cells := 0, slots := 0, locals := 16 } : Room) s m #[(.ref o0), (.long q1), (.int p2)] below meth c T6 lo 0 0 ∧ Fr n0 lo := ⟨_, X6, N6⟩
  suffices KK : ∀ (T : State), Stand p l e ({ frames := 1, cells := 0, slots := 0, locals := 16 } : Room) s m #[(.ref o0), (.long q1), (.int p2)] below meth c T lo 0 0 → T.heap = h0 → Goes p.tables e below (fun s₂ o => ∃ v L, o = .returned v ∧ Q3 Z o0 q1 p2 ok ov ou kk kv ku ks us vv w1 h0 n0 v s₂.heap L ∧ FrameEnd s o s₂ L ({ frames := 1, cells := 0, slots := 0, locals := 16 } : Room).cells ({ frames := 1, cells := 0, slots := 0, locals := 16 } : Room).slots) (T.setTop (mkF m 71 #[rv o0, jv q1, .second, iv p2, iv (15 : Int32), iv (Int32.ofNat r)] [])) by
    have LP : ∀ (f sN : Nat) (T : State), sN < 16 → own_find us ks q1 f sN = r → Stand p l e ({ frames := 1, cells := 0, slots := 0, locals := 16 } : Room) s m #[(.ref o0), (.long q1), (.int p2)] below meth c T lo 0 0 → T.heap = h0 → Goes p.tables e below (fun s₂ o => ∃ v L, o = .returned v ∧ Q3 Z o0 q1 p2 ok ov ou kk kv ku ks us vv w1 h0 n0 v s₂.heap L ∧ FrameEnd s o s₂ L ({ frames := 1, cells := 0, slots := 0, locals := 16 } : Room).cells ({ frames := 1, cells := 0, slots := 0, locals := 16 } : Room).slots) (T.setTop (mkF m 37 #[rv o0, jv q1, .second, iv p2, iv (15 : Int32), iv (Int32.ofNat sN)] [])) := by
      intro f
      induction f with
      | zero =>
        intro sN TL hs hf XL eL
        show Go p e below _ m TL 37 #[rv o0, jv q1, .second, iv p2, iv (15 : Int32), iv (Int32.ofNat sN)] []
        refine go (fun t kt => XS.aloadN XL.here hx rfl (hb hby d3_37) rfl rfl kt) ?_
        show Go p e below _ m TL 38 #[rv o0, jv q1, .second, iv p2, iv (15 : Int32), iv (Int32.ofNat sN)] [(.ref o0)]
        obtain ⟨T7, X7, e7, st7⟩ := getF XL hx hZ hown (host := "") (Or.inl (hw _ (List.mem_of_getElem? (i := 16) rfl))) Via.refl eL F_used_o0 (g := (mkF m 38 #[rv o0, jv q1, .second, iv p2, iv (15 : Int32), iv (Int32.ofNat sN)] [(.ref o0)])) rfl rfl (hb hby d3_38)
        refine go st7 ?_
        show Go p e below _ m T7 41 #[rv o0, jv q1, .second, iv p2, iv (15 : Int32), iv (Int32.ofNat sN)] [(.ref ou)]
        refine go (fun t kt => XS.iload X7.here hx rfl (hb hby d3_41) rfl kt) ?_
        show Go p e below _ m T7 43 #[rv o0, jv q1, .second, iv p2, iv (15 : Int32), iv (Int32.ofNat sN)] [(.int (Int32.ofNat sN)), (.ref ou)]
        obtain ⟨cl8, Ar8, qc8, S8, M8, H8, G8⟩ := id V_ou
        have hin8 : ¬ ((Int32.ofNat sN) < 0 ∨ cl8.slots.size ≤ ((Int32.ofNat sN)).toNatClampNeg) := inb_of S8 (own_ofn sN hs).2
        have hat8 : cl8.slots[((Int32.ofNat sN)).toNatClampNeg]? = some (.int (us.getD sN 0)) := H8.at hin8 (own_hatI us sN hs)
        refine go (X7.baloadBooleans hx (j := (Int32.ofNat sN)) (v := (.int (us.getD sN 0))) (by rw [e7]; exact Ar8.1) (State.isArrayOf_alike hZ.alike Ar8.2.1) Ar8.2.2 hin8 hat8 (g := (mkF m 43 #[rv o0, jv q1, .second, iv p2, iv (15 : Int32), iv (Int32.ofNat sN)] [(.int (Int32.ofNat sN)), (.ref ou)])) rfl rfl (hb hby d3_43)) ?_
        show Go p e below _ m T7 44 #[rv o0, jv q1, .second, iv p2, iv (15 : Int32), iv (Int32.ofNat sN)] [(.int (us.getD sN 0))]
        by_cases hc9 : (us.getD sN 0) = (0 : Int32)
        ·
          refine go (fun t kt => XS.ifYes X7.here hx rfl (pc0 := 44) (pc' := 71) rfl (hb hby d3_44) rfl ((if0 _ _).trans (teq hc9).1) (by decide) (by decide) kt) ?_
          show Go p e below _ m T7 71 #[rv o0, jv q1, .second, iv p2, iv (15 : Int32), iv (Int32.ofNat sN)] []
          have hz : sN = r := hf
          rw [hz]
          exact KK _ X7 e7
        ·
          refine go (fun t kt => XS.ifNo X7.here hx rfl (hb hby d3_44) rfl ((if0 _ _).trans (feq hc9).1) kt) ?_
          show Go p e below _ m T7 47 #[rv o0, jv q1, .second, iv p2, iv (15 : Int32), iv (Int32.ofNat sN)] []
          refine go (fun t kt => XS.aloadN X7.here hx rfl (hb hby d3_47) rfl rfl kt) ?_
          show Go p e below _ m T7 48 #[rv o0, jv q1, .second, iv p2, iv (15 : Int32), iv (Int32.ofNat sN)] [(.ref o0)]
          obtain ⟨T10, X10, e10, st10⟩ := getF X7 hx hZ hown (host := "") (Or.inl (hw _ (List.mem_of_getElem? (i := 10) rfl))) Via.refl e7 F_keys_o0 (g := (mkF m 48 #[rv o0, jv q1, .second, iv p2, iv (15 : Int32), iv (Int32.ofNat sN)] [(.ref o0)])) rfl rfl (hb hby d3_48)
          refine go st10 ?_
          show Go p e below _ m T10 51 #[rv o0, jv q1, .second, iv p2, iv (15 : Int32), iv (Int32.ofNat sN)] [(.ref ok)]
          refine go (fun t kt => XS.iload X10.here hx rfl (hb hby d3_51) rfl kt) ?_
          show Go p e below _ m T10 53 #[rv o0, jv q1, .second, iv p2, iv (15 : Int32), iv (Int32.ofNat sN)] [(.int (Int32.ofNat sN)), (.ref ok)]
          obtain ⟨cl11, Ar11, qc11, S11, M11, H11, G11⟩ := id V_ok
          have hin11 : ¬ ((Int32.ofNat sN) < 0 ∨ cl11.slots.size ≤ ((Int32.ofNat sN)).toNatClampNeg) := inb_of S11 (own_ofn sN hs).2
          have hat11 : cl11.slots[((Int32.ofNat sN)).toNatClampNeg]? = some (.long (ks.getD sN 0)) := H11.at hin11 (own_hatJ ks sN hs)
          refine go (X10.laload hx (j := (Int32.ofNat sN)) (v := (.long (ks.getD sN 0))) (by rw [e10]; exact Ar11.1) (State.isArrayOf_alike hZ.alike Ar11.2.1) Ar11.2.2 hin11 hat11 (g := (mkF m 53 #[rv o0, jv q1, .second, iv p2, iv (15 : Int32), iv (Int32.ofNat sN)] [(.int (Int32.ofNat sN)), (.ref ok)])) rfl rfl (hb hby d3_53)) ?_
          show Go p e below _ m T10 54 #[rv o0, jv q1, .second, iv p2, iv (15 : Int32), iv (Int32.ofNat sN)] [(.long (ks.getD sN 0))]
          refine go (fun t kt => XS.lloadN X10.here hx rfl (hb hby d3_54) rfl kt) ?_
          show Go p e below _ m T10 55 #[rv o0, jv q1, .second, iv p2, iv (15 : Int32), iv (Int32.ofNat sN)] [(.long q1), (.long (ks.getD sN 0))]
          refine go (fun t kt => XS.lcmp X10.here hx rfl (hb hby d3_55) rfl kt) ?_
          show Go p e below _ m T10 56 #[rv o0, jv q1, .second, iv p2, iv (15 : Int32), iv (Int32.ofNat sN)] [(.int (lcmpW (ks.getD sN 0) q1))]
          by_cases hc12 : (ks.getD sN 0) = q1
          ·
            refine go (fun t kt => XS.ifYes X10.here hx rfl (pc0 := 56) (pc' := 71) rfl (hb hby d3_56) rfl ((if0 _ _).trans (teq ((lw_eq (ks.getD sN 0) q1).mpr hc12)).1) (by decide) (by decide) kt) ?_
            show Go p e below _ m T10 71 #[rv o0, jv q1, .second, iv p2, iv (15 : Int32), iv (Int32.ofNat sN)] []
            have hz : sN = r := hf
            rw [hz]
            exact KK _ X10 e10
          ·
            refine go (fun t kt => XS.ifNo X10.here hx rfl (hb hby d3_56) rfl ((if0 _ _).trans (feq (fun q => hc12 ((lw_eq (ks.getD sN 0) q1).mp q))).1) kt) ?_
            show Go p e below _ m T10 59 #[rv o0, jv q1, .second, iv p2, iv (15 : Int32), iv (Int32.ofNat sN)] []
            refine go (fun t kt => XS.iload X10.here hx rfl (hb hby d3_59) rfl kt) ?_
            show Go p e below _ m T10 61 #[rv o0, jv q1, .second, iv p2, iv (15 : Int32), iv (Int32.ofNat sN)] [(.int (Int32.ofNat sN))]
            refine go (fun t kt => XS.iconst X10.here hx rfl (hb hby d3_61) kt) ?_
            show Go p e below _ m T10 62 #[rv o0, jv q1, .second, iv p2, iv (15 : Int32), iv (Int32.ofNat sN)] [(.int (1 : Int32)), (.int (Int32.ofNat sN))]
            refine go (fun t kt => XS.iadd X10.here hx rfl (hb hby d3_62) rfl kt) ?_
            show Go p e below _ m T10 63 #[rv o0, jv q1, .second, iv p2, iv (15 : Int32), iv (Int32.ofNat sN)] [(.int ((Int32.ofNat sN) + (1 : Int32)))]
            refine go (fun t kt => XS.iload X10.here hx rfl (hb hby d3_63) rfl kt) ?_
            show Go p e below _ m T10 65 #[rv o0, jv q1, .second, iv p2, iv (15 : Int32), iv (Int32.ofNat sN)] [(.int (15 : Int32)), (.int ((Int32.ofNat sN) + (1 : Int32)))]
            refine go (fun t kt => XS.iand X10.here hx rfl (hb hby d3_65) rfl kt) ?_
            show Go p e below _ m T10 66 #[rv o0, jv q1, .second, iv p2, iv (15 : Int32), iv (Int32.ofNat sN)] [(.int (((Int32.ofNat sN) + (1 : Int32)) &&& (15 : Int32)))]
            refine go (fun t kt => XS.istore X10.here hx rfl (hb hby d3_66) rfl (l' := #[rv o0, jv q1, .second, iv p2, iv (15 : Int32), iv (((Int32.ofNat sN) + (1 : Int32)) &&& (15 : Int32))]) rfl kt) ?_
            show Go p e below _ m T10 68 #[rv o0, jv q1, .second, iv p2, iv (15 : Int32), iv (((Int32.ofNat sN) + (1 : Int32)) &&& (15 : Int32))] []
            refine go (fun t kt => XS.goto X10.here hx rfl (pc0 := 68) (pc' := 37) rfl (hb hby d3_68) (by decide) (by decide) kt) ?_
            show Go p e below _ m T10 37 #[rv o0, jv q1, .second, iv p2, iv (15 : Int32), iv (((Int32.ofNat sN) + (1 : Int32)) &&& (15 : Int32))] []
            have hz : sN = r := hf
            rw [← hz] at hfin
            exact (hfin.elim hc9 hc12).elim
      | succ f ih =>
        intro sN TL hs hf XL eL
        show Go p e below _ m TL 37 #[rv o0, jv q1, .second, iv p2, iv (15 : Int32), iv (Int32.ofNat sN)] []
        refine go (fun t kt => XS.aloadN XL.here hx rfl (hb hby d3_37) rfl rfl kt) ?_
        show Go p e below _ m TL 38 #[rv o0, jv q1, .second, iv p2, iv (15 : Int32), iv (Int32.ofNat sN)] [(.ref o0)]
        obtain ⟨T13, X13, e13, st13⟩ := getF XL hx hZ hown (host := "") (Or.inl (hw _ (List.mem_of_getElem? (i := 16) rfl))) Via.refl eL F_used_o0 (g := (mkF m 38 #[rv o0, jv q1, .second, iv p2, iv (15 : Int32), iv (Int32.ofNat sN)] [(.ref o0)])) rfl rfl (hb hby d3_38)
        refine go st13 ?_
        show Go p e below _ m T13 41 #[rv o0, jv q1, .second, iv p2, iv (15 : Int32), iv (Int32.ofNat sN)] [(.ref ou)]
        refine go (fun t kt => XS.iload X13.here hx rfl (hb hby d3_41) rfl kt) ?_
        show Go p e below _ m T13 43 #[rv o0, jv q1, .second, iv p2, iv (15 : Int32), iv (Int32.ofNat sN)] [(.int (Int32.ofNat sN)), (.ref ou)]
        obtain ⟨cl14, Ar14, qc14, S14, M14, H14, G14⟩ := id V_ou
        have hin14 : ¬ ((Int32.ofNat sN) < 0 ∨ cl14.slots.size ≤ ((Int32.ofNat sN)).toNatClampNeg) := inb_of S14 (own_ofn sN hs).2
        have hat14 : cl14.slots[((Int32.ofNat sN)).toNatClampNeg]? = some (.int (us.getD sN 0)) := H14.at hin14 (own_hatI us sN hs)
        refine go (X13.baloadBooleans hx (j := (Int32.ofNat sN)) (v := (.int (us.getD sN 0))) (by rw [e13]; exact Ar14.1) (State.isArrayOf_alike hZ.alike Ar14.2.1) Ar14.2.2 hin14 hat14 (g := (mkF m 43 #[rv o0, jv q1, .second, iv p2, iv (15 : Int32), iv (Int32.ofNat sN)] [(.int (Int32.ofNat sN)), (.ref ou)])) rfl rfl (hb hby d3_43)) ?_
        show Go p e below _ m T13 44 #[rv o0, jv q1, .second, iv p2, iv (15 : Int32), iv (Int32.ofNat sN)] [(.int (us.getD sN 0))]
        by_cases hc15 : (us.getD sN 0) = (0 : Int32)
        ·
          refine go (fun t kt => XS.ifYes X13.here hx rfl (pc0 := 44) (pc' := 71) rfl (hb hby d3_44) rfl ((if0 _ _).trans (teq hc15).1) (by decide) (by decide) kt) ?_
          show Go p e below _ m T13 71 #[rv o0, jv q1, .second, iv p2, iv (15 : Int32), iv (Int32.ofNat sN)] []
          have hz : sN = r := by rw [own_find, if_pos hc15] at hf; exact hf
          rw [hz]
          exact KK _ X13 e13
        ·
          refine go (fun t kt => XS.ifNo X13.here hx rfl (hb hby d3_44) rfl ((if0 _ _).trans (feq hc15).1) kt) ?_
          show Go p e below _ m T13 47 #[rv o0, jv q1, .second, iv p2, iv (15 : Int32), iv (Int32.ofNat sN)] []
          refine go (fun t kt => XS.aloadN X13.here hx rfl (hb hby d3_47) rfl rfl kt) ?_
          show Go p e below _ m T13 48 #[rv o0, jv q1, .second, iv p2, iv (15 : Int32), iv (Int32.ofNat sN)] [(.ref o0)]
          obtain ⟨T16, X16, e16, st16⟩ := getF X13 hx hZ hown (host := "") (Or.inl (hw _ (List.mem_of_getElem? (i := 10) rfl))) Via.refl e13 F_keys_o0 (g := (mkF m 48 #[rv o0, jv q1, .second, iv p2, iv (15 : Int32), iv (Int32.ofNat sN)] [(.ref o0)])) rfl rfl (hb hby d3_48)
          refine go st16 ?_
          show Go p e below _ m T16 51 #[rv o0, jv q1, .second, iv p2, iv (15 : Int32), iv (Int32.ofNat sN)] [(.ref ok)]
          refine go (fun t kt => XS.iload X16.here hx rfl (hb hby d3_51) rfl kt) ?_
          show Go p e below _ m T16 53 #[rv o0, jv q1, .second, iv p2, iv (15 : Int32), iv (Int32.ofNat sN)] [(.int (Int32.ofNat sN)), (.ref ok)]
          obtain ⟨cl17, Ar17, qc17, S17, M17, H17, G17⟩ := id V_ok
          have hin17 : ¬ ((Int32.ofNat sN) < 0 ∨ cl17.slots.size ≤ ((Int32.ofNat sN)).toNatClampNeg) := inb_of S17 (own_ofn sN hs).2
          have hat17 : cl17.slots[((Int32.ofNat sN)).toNatClampNeg]? = some (.long (ks.getD sN 0)) := H17.at hin17 (own_hatJ ks sN hs)
          refine go (X16.laload hx (j := (Int32.ofNat sN)) (v := (.long (ks.getD sN 0))) (by rw [e16]; exact Ar17.1) (State.isArrayOf_alike hZ.alike Ar17.2.1) Ar17.2.2 hin17 hat17 (g := (mkF m 53 #[rv o0, jv q1, .second, iv p2, iv (15 : Int32), iv (Int32.ofNat sN)] [(.int (Int32.ofNat sN)), (.ref ok)])) rfl rfl (hb hby d3_53)) ?_
          show Go p e below _ m T16 54 #[rv o0, jv q1, .second, iv p2, iv (15 : Int32), iv (Int32.ofNat sN)] [(.long (ks.getD sN 0))]
          refine go (fun t kt => XS.lloadN X16.here hx rfl (hb hby d3_54) rfl kt) ?_
          show Go p e below _ m T16 55 #[rv o0, jv q1, .second, iv p2, iv (15 : Int32), iv (Int32.ofNat sN)] [(.long q1), (.long (ks.getD sN 0))]
          refine go (fun t kt => XS.lcmp X16.here hx rfl (hb hby d3_55) rfl kt) ?_
          show Go p e below _ m T16 56 #[rv o0, jv q1, .second, iv p2, iv (15 : Int32), iv (Int32.ofNat sN)] [(.int (lcmpW (ks.getD sN 0) q1))]
          by_cases hc18 : (ks.getD sN 0) = q1
          ·
            refine go (fun t kt => XS.ifYes X16.here hx rfl (pc0 := 56) (pc' := 71) rfl (hb hby d3_56) rfl ((if0 _ _).trans (teq ((lw_eq (ks.getD sN 0) q1).mpr hc18)).1) (by decide) (by decide) kt) ?_
            show Go p e below _ m T16 71 #[rv o0, jv q1, .second, iv p2, iv (15 : Int32), iv (Int32.ofNat sN)] []
            have hz : sN = r := by rw [own_find, if_neg hc15, if_pos hc18] at hf; exact hf
            rw [hz]
            exact KK _ X16 e16
          ·
            refine go (fun t kt => XS.ifNo X16.here hx rfl (hb hby d3_56) rfl ((if0 _ _).trans (feq (fun q => hc18 ((lw_eq (ks.getD sN 0) q1).mp q))).1) kt) ?_
            show Go p e below _ m T16 59 #[rv o0, jv q1, .second, iv p2, iv (15 : Int32), iv (Int32.ofNat sN)] []
            refine go (fun t kt => XS.iload X16.here hx rfl (hb hby d3_59) rfl kt) ?_
            show Go p e below _ m T16 61 #[rv o0, jv q1, .second, iv p2, iv (15 : Int32), iv (Int32.ofNat sN)] [(.int (Int32.ofNat sN))]
            refine go (fun t kt => XS.iconst X16.here hx rfl (hb hby d3_61) kt) ?_
            show Go p e below _ m T16 62 #[rv o0, jv q1, .second, iv p2, iv (15 : Int32), iv (Int32.ofNat sN)] [(.int (1 : Int32)), (.int (Int32.ofNat sN))]
            refine go (fun t kt => XS.iadd X16.here hx rfl (hb hby d3_62) rfl kt) ?_
            show Go p e below _ m T16 63 #[rv o0, jv q1, .second, iv p2, iv (15 : Int32), iv (Int32.ofNat sN)] [(.int ((Int32.ofNat sN) + (1 : Int32)))]
            refine go (fun t kt => XS.iload X16.here hx rfl (hb hby d3_63) rfl kt) ?_
            show Go p e below _ m T16 65 #[rv o0, jv q1, .second, iv p2, iv (15 : Int32), iv (Int32.ofNat sN)] [(.int (15 : Int32)), (.int ((Int32.ofNat sN) + (1 : Int32)))]
            refine go (fun t kt => XS.iand X16.here hx rfl (hb hby d3_65) rfl kt) ?_
            show Go p e below _ m T16 66 #[rv o0, jv q1, .second, iv p2, iv (15 : Int32), iv (Int32.ofNat sN)] [(.int (((Int32.ofNat sN) + (1 : Int32)) &&& (15 : Int32)))]
            refine go (fun t kt => XS.istore X16.here hx rfl (hb hby d3_66) rfl (l' := #[rv o0, jv q1, .second, iv p2, iv (15 : Int32), iv (((Int32.ofNat sN) + (1 : Int32)) &&& (15 : Int32))]) rfl kt) ?_
            show Go p e below _ m T16 68 #[rv o0, jv q1, .second, iv p2, iv (15 : Int32), iv (((Int32.ofNat sN) + (1 : Int32)) &&& (15 : Int32))] []
            refine go (fun t kt => XS.goto X16.here hx rfl (pc0 := 68) (pc' := 37) rfl (hb hby d3_68) (by decide) (by decide) kt) ?_
            show Go p e below _ m T16 37 #[rv o0, jv q1, .second, iv p2, iv (15 : Int32), iv (((Int32.ofNat sN) + (1 : Int32)) &&& (15 : Int32))] []
            rw [own_next sN hs]
            exact ih _ _ (Nat.mod_lt _ (by decide)) (by rw [own_find, if_neg hc15, if_neg hc18] at hf; exact hf) X16 e16
    exact LP 16 (own_start q1) T6 (own_slot_lt q1).1 hrr.symm Xl e6
  intro TK XK eK
  show Go p e below _ m TK 71 #[rv o0, jv q1, .second, iv p2, iv (15 : Int32), iv (Int32.ofNat r)] []
  refine go (fun t kt => XS.aloadN XK.here hx rfl (hb hby d3_71) rfl rfl kt) ?_
  show Go p e below _ m TK 72 #[rv o0, jv q1, .second, iv p2, iv (15 : Int32), iv (Int32.ofNat r)] [(.ref o0)]
  obtain ⟨T19, X19, e19, st19⟩ := getF XK hx hZ hown (host := "") (Or.inl (hw _ (List.mem_of_getElem? (i := 16) rfl))) Via.refl eK F_used_o0 (g := (mkF m 72 #[rv o0, jv q1, .second, iv p2, iv (15 : Int32), iv (Int32.ofNat r)] [(.ref o0)])) rfl rfl (hb hby d3_72)
  refine go st19 ?_
  show Go p e below _ m T19 75 #[rv o0, jv q1, .second, iv p2, iv (15 : Int32), iv (Int32.ofNat r)] [(.ref ou)]
  refine go (fun t kt => XS.iload X19.here hx rfl (hb hby d3_75) rfl kt) ?_
  show Go p e below _ m T19 77 #[rv o0, jv q1, .second, iv p2, iv (15 : Int32), iv (Int32.ofNat r)] [(.int (Int32.ofNat r)), (.ref ou)]
  obtain ⟨cl20, Ar20, qc20, S20, M20, H20, G20⟩ := id V_ou
  have hin20 : ¬ ((Int32.ofNat r) < 0 ∨ cl20.slots.size ≤ ((Int32.ofNat r)).toNatClampNeg) := inb_of S20 (own_ofn r hlt).2
  have hat20 : cl20.slots[((Int32.ofNat r)).toNatClampNeg]? = some (.int (us.getD r 0)) := H20.at hin20 (own_hatI us r hlt)
  refine go (X19.baloadBooleans hx (j := (Int32.ofNat r)) (v := (.int (us.getD r 0))) (by rw [e19]; exact Ar20.1) (State.isArrayOf_alike hZ.alike Ar20.2.1) Ar20.2.2 hin20 hat20 (g := (mkF m 77 #[rv o0, jv q1, .second, iv p2, iv (15 : Int32), iv (Int32.ofNat r)] [(.int (Int32.ofNat r)), (.ref ou)])) rfl rfl (hb hby d3_77)) ?_
  show Go p e below _ m T19 78 #[rv o0, jv q1, .second, iv p2, iv (15 : Int32), iv (Int32.ofNat r)] [(.int (us.getD r 0))]
  by_cases hc21 : (us.getD r 0) = (0 : Int32)
  ·
    refine go (fun t kt => XS.ifNo X19.here hx rfl (hb hby d3_78) rfl ((if0 _ _).trans (teq hc21).2) kt) ?_
    show Go p e below _ m T19 81 #[rv o0, jv q1, .second, iv p2, iv (15 : Int32), iv (Int32.ofNat r)] []
    refine go (fun t kt => XS.aloadN X19.here hx rfl (hb hby d3_81) rfl rfl kt) ?_
    show Go p e below _ m T19 82 #[rv o0, jv q1, .second, iv p2, iv (15 : Int32), iv (Int32.ofNat r)] [(.ref o0)]
    obtain ⟨T22, X22, e22, st22⟩ := getF X19 hx hZ hown (host := "") (Or.inl (hw _ (List.mem_of_getElem? (i := 16) rfl))) Via.refl e19 F_used_o0 (g := (mkF m 82 #[rv o0, jv q1, .second, iv p2, iv (15 : Int32), iv (Int32.ofNat r)] [(.ref o0)])) rfl rfl (hb hby d3_82)
    refine go st22 ?_
    show Go p e below _ m T22 85 #[rv o0, jv q1, .second, iv p2, iv (15 : Int32), iv (Int32.ofNat r)] [(.ref ou)]
    refine go (fun t kt => XS.iload X22.here hx rfl (hb hby d3_85) rfl kt) ?_
    show Go p e below _ m T22 87 #[rv o0, jv q1, .second, iv p2, iv (15 : Int32), iv (Int32.ofNat r)] [(.int (Int32.ofNat r)), (.ref ou)]
    refine go (fun t kt => XS.iconst X22.here hx rfl (hb hby d3_87) kt) ?_
    show Go p e below _ m T22 88 #[rv o0, jv q1, .second, iv p2, iv (15 : Int32), iv (Int32.ofNat r)] [(.int (1 : Int32)), (.int (Int32.ofNat r)), (.ref ou)]
    obtain ⟨cl23, Ar23, qc23, S23, M23, H23, G23⟩ := V_ou
    have hin23 : ¬ ((Int32.ofNat r) < 0 ∨ cl23.slots.size ≤ ((Int32.ofNat r)).toNatClampNeg) := inb_of S23 (own_ofn r hlt).2
    obtain ⟨T23, h23, X23, e23, W23, st23⟩ := stZ X22 hx hZ e22 Ar23 (j := (Int32.ofNat r)) hin23 (g := (mkF m 88 #[rv o0, jv q1, .second, iv p2, iv (15 : Int32), iv (Int32.ofNat r)] [(.int (1 : Int32)), (.int (Int32.ofNat r)), (.ref ou)])) rfl rfl (hb hby d3_88)
    have V_ou : Arv Z h23 ou ku .boolean (16 : Int32) ((us.set r 1).map Value.int) (.int (0 : Int32)) := by rw [List.map_set]; exact Arv.set Ar23 qc23 S23 M23 H23 G23 (fits_nar_bool _) W23 r (own_ofn r hlt).1 (by rw [List.length_map, hus]; exact hlt)
    replace E_o0 := E_o0.wr W23
    replace F_keys_o0 := F_keys_o0.other W23 (Or.inl ne_o0_ou)
    replace F_values_o0 := F_values_o0.other W23 (Or.inl ne_o0_ou)
    replace F_used_o0 := F_used_o0.other W23 (Or.inl ne_o0_ou)
    replace F_size_o0 := F_size_o0.other W23 (Or.inl ne_o0_ou)
    replace V_ok := V_ok.other W23 ne_ok_ou
    replace V_ov := V_ov.other W23 ne_ov_ou
    have Zz23 := Nat.le_trans Z0 (Keep.of_wr W23).1
    have Kk23 := K0.wr W23 (Or.inl (List.mem_of_getElem? (i := 3) rfl))
    have N23 := Fr.snoc X23 Nl g_ou
    refine go st23 ?_
    show Go p e below _ m T23 89 #[rv o0, jv q1, .second, iv p2, iv (15 : Int32), iv (Int32.ofNat r)] []
    refine go (fun t kt => XS.aloadN X23.here hx rfl (hb hby d3_89) rfl rfl kt) ?_
    show Go p e below _ m T23 90 #[rv o0, jv q1, .second, iv p2, iv (15 : Int32), iv (Int32.ofNat r)] [(.ref o0)]
    obtain ⟨T24, X24, e24, st24⟩ := getF X23 hx hZ hown (host := "") (Or.inl (hw _ (List.mem_of_getElem? (i := 10) rfl))) Via.refl e23 F_keys_o0 (g := (mkF m 90 #[rv o0, jv q1, .second, iv p2, iv (15 : Int32), iv (Int32.ofNat r)] [(.ref o0)])) rfl rfl (hb hby d3_90)
    refine go st24 ?_
    show Go p e below _ m T24 93 #[rv o0, jv q1, .second, iv p2, iv (15 : Int32), iv (Int32.ofNat r)] [(.ref ok)]
    refine go (fun t kt => XS.iload X24.here hx rfl (hb hby d3_93) rfl kt) ?_
    show Go p e below _ m T24 95 #[rv o0, jv q1, .second, iv p2, iv (15 : Int32), iv (Int32.ofNat r)] [(.int (Int32.ofNat r)), (.ref ok)]
    refine go (fun t kt => XS.lloadN X24.here hx rfl (hb hby d3_95) rfl kt) ?_
    show Go p e below _ m T24 96 #[rv o0, jv q1, .second, iv p2, iv (15 : Int32), iv (Int32.ofNat r)] [(.long q1), (.int (Int32.ofNat r)), (.ref ok)]
    obtain ⟨cl25, Ar25, qc25, S25, M25, H25, G25⟩ := V_ok
    have hin25 : ¬ ((Int32.ofNat r) < 0 ∨ cl25.slots.size ≤ ((Int32.ofNat r)).toNatClampNeg) := inb_of S25 (own_ofn r hlt).2
    obtain ⟨T25, h25, X25, e25, W25, st25⟩ := stJ X24 hx hZ e24 Ar25 (j := (Int32.ofNat r)) hin25 (g := (mkF m 96 #[rv o0, jv q1, .second, iv p2, iv (15 : Int32), iv (Int32.ofNat r)] [(.long q1), (.int (Int32.ofNat r)), (.ref ok)])) rfl rfl (hb hby d3_96)
    have V_ok : Arv Z h25 ok kk .long (16 : Int32) ((ks.set r q1).map Value.long) (.long (0 : Int64)) := by rw [List.map_set]; exact Arv.set Ar25 qc25 S25 M25 H25 G25 rfl W25 r (own_ofn r hlt).1 (by rw [List.length_map, hks]; exact hlt)
    replace E_o0 := E_o0.wr W25
    replace F_keys_o0 := F_keys_o0.other W25 (Or.inl ne_o0_ok)
    replace F_values_o0 := F_values_o0.other W25 (Or.inl ne_o0_ok)
    replace F_used_o0 := F_used_o0.other W25 (Or.inl ne_o0_ok)
    replace F_size_o0 := F_size_o0.other W25 (Or.inl ne_o0_ok)
    replace V_ov := V_ov.other W25 (Ne.symm ne_ok_ov)
    replace V_ou := V_ou.other W25 (Ne.symm ne_ok_ou)
    have Zz25 := Nat.le_trans Zz23 (Keep.of_wr W25).1
    have Kk25 := Kk23.wr W25 (Or.inl (List.mem_of_getElem? (i := 1) rfl))
    have N25 := Fr.snoc X25 N23 g_ok
    refine go st25 ?_
    show Go p e below _ m T25 97 #[rv o0, jv q1, .second, iv p2, iv (15 : Int32), iv (Int32.ofNat r)] []
    refine go (fun t kt => XS.aloadN X25.here hx rfl (hb hby d3_97) rfl rfl kt) ?_
    show Go p e below _ m T25 98 #[rv o0, jv q1, .second, iv p2, iv (15 : Int32), iv (Int32.ofNat r)] [(.ref o0)]
    refine go (fun t kt => XS.dup X25.here hx rfl (hb hby d3_98) rfl rfl kt) ?_
    show Go p e below _ m T25 99 #[rv o0, jv q1, .second, iv p2, iv (15 : Int32), iv (Int32.ofNat r)] [(.ref o0), (.ref o0)]
    obtain ⟨T26, X26, e26, st26⟩ := getF X25 hx hZ hown (host := "") (Or.inl (hw _ (List.mem_of_getElem? (i := 23) rfl))) Via.refl e25 F_size_o0 (g := (mkF m 99 #[rv o0, jv q1, .second, iv p2, iv (15 : Int32), iv (Int32.ofNat r)] [(.ref o0), (.ref o0)])) rfl rfl (hb hby d3_99)
    refine go st26 ?_
    show Go p e below _ m T26 102 #[rv o0, jv q1, .second, iv p2, iv (15 : Int32), iv (Int32.ofNat r)] [(.int w1), (.ref o0)]
    refine go (fun t kt => XS.iconst X26.here hx rfl (hb hby d3_102) kt) ?_
    show Go p e below _ m T26 103 #[rv o0, jv q1, .second, iv p2, iv (15 : Int32), iv (Int32.ofNat r)] [(.int (1 : Int32)), (.int w1), (.ref o0)]
    refine go (fun t kt => XS.iadd X26.here hx rfl (hb hby d3_103) rfl kt) ?_
    show Go p e below _ m T26 104 #[rv o0, jv q1, .second, iv p2, iv (15 : Int32), iv (Int32.ofNat r)] [(.int (w1 + (1 : Int32))), (.ref o0)]
    obtain ⟨T27, h27, X27, e27, W27, st27⟩ := putF X26 hx hZ hown (host := "") (Or.inl (hw _ (List.mem_of_getElem? (i := 23) rfl))) Via.refl e26 F_size_o0 E_o0 (Or.inl (hw _ (List.mem_of_getElem? (i := 24) rfl))) (hw _ (List.mem_of_getElem? (i := 1) rfl)) (ty := .int) (by decide) rfl rfl (g := (mkF m 104 #[rv o0, jv q1, .second, iv p2, iv (15 : Int32), iv (Int32.ofNat r)] [(.int (w1 + (1 : Int32))), (.ref o0)])) rfl rfl (hb hby d3_104)
    replace F_size_o0 := F_size_o0.same W27
    replace E_o0 := E_o0.wr W27
    replace F_keys_o0 := F_keys_o0.other W27 (Or.inr (slot_ne (Or.inl (hw _ (List.mem_of_getElem? (i := 11) rfl))) (Or.inl (hw _ (List.mem_of_getElem? (i := 24) rfl))) (by decide) (t := (.array .long)) (t' := .int) (by decide) (by decide)))
    replace F_values_o0 := F_values_o0.other W27 (Or.inr (slot_ne (Or.inl (hw _ (List.mem_of_getElem? (i := 14) rfl))) (Or.inl (hw _ (List.mem_of_getElem? (i := 24) rfl))) (by decide) (t := (.array .int)) (t' := .int) (by decide) (by decide)))
    replace F_used_o0 := F_used_o0.other W27 (Or.inr (slot_ne (Or.inl (hw _ (List.mem_of_getElem? (i := 17) rfl))) (Or.inl (hw _ (List.mem_of_getElem? (i := 24) rfl))) (by decide) (t := (.array .boolean)) (t' := .int) (by decide) (by decide)))
    replace V_ok := V_ok.other W27 (Ne.symm ne_o0_ok)
    replace V_ov := V_ov.other W27 (Ne.symm ne_o0_ov)
    replace V_ou := V_ou.other W27 (Ne.symm ne_o0_ou)
    have Zz27 := Nat.le_trans Zz25 (Keep.of_wr W27).1
    have Kk27 := Kk25.wr W27 (Or.inl (List.mem_of_getElem? (i := 0) rfl))
    have N27 := Fr.snoc X27 N25 g_o0
    refine go st27 ?_
    show Go p e below _ m T27 107 #[rv o0, jv q1, .second, iv p2, iv (15 : Int32), iv (Int32.ofNat r)] []
    refine go (fun t kt => XS.aloadN X27.here hx rfl (hb hby d3_107) rfl rfl kt) ?_
    show Go p e below _ m T27 108 #[rv o0, jv q1, .second, iv p2, iv (15 : Int32), iv (Int32.ofNat r)] [(.ref o0)]
    obtain ⟨T28, X28, e28, st28⟩ := getF X27 hx hZ hown (host := "") (Or.inl (hw _ (List.mem_of_getElem? (i := 13) rfl))) Via.refl e27 F_values_o0 (g := (mkF m 108 #[rv o0, jv q1, .second, iv p2, iv (15 : Int32), iv (Int32.ofNat r)] [(.ref o0)])) rfl rfl (hb hby d3_108)
    refine go st28 ?_
    show Go p e below _ m T28 111 #[rv o0, jv q1, .second, iv p2, iv (15 : Int32), iv (Int32.ofNat r)] [(.ref ov)]
    refine go (fun t kt => XS.iload X28.here hx rfl (hb hby d3_111) rfl kt) ?_
    show Go p e below _ m T28 113 #[rv o0, jv q1, .second, iv p2, iv (15 : Int32), iv (Int32.ofNat r)] [(.int (Int32.ofNat r)), (.ref ov)]
    refine go (fun t kt => XS.iloadN X28.here hx rfl (hb hby d3_113) rfl kt) ?_
    show Go p e below _ m T28 114 #[rv o0, jv q1, .second, iv p2, iv (15 : Int32), iv (Int32.ofNat r)] [(.int p2), (.int (Int32.ofNat r)), (.ref ov)]
    obtain ⟨cl29, Ar29, qc29, S29, M29, H29, G29⟩ := V_ov
    have hin29 : ¬ ((Int32.ofNat r) < 0 ∨ cl29.slots.size ≤ ((Int32.ofNat r)).toNatClampNeg) := inb_of S29 (own_ofn r hlt).2
    obtain ⟨T29, h29, X29, e29, W29, st29⟩ := stI X28 hx hZ e28 Ar29 (j := (Int32.ofNat r)) hin29 (g := (mkF m 114 #[rv o0, jv q1, .second, iv p2, iv (15 : Int32), iv (Int32.ofNat r)] [(.int p2), (.int (Int32.ofNat r)), (.ref ov)])) rfl rfl (hb hby d3_114)
    have V_ov : Arv Z h29 ov kv .int (16 : Int32) (vv.set r (.int p2)) (.int (0 : Int32)) := Arv.set Ar29 qc29 S29 M29 H29 G29 rfl W29 r (own_ofn r hlt).1 (by rw [hvv]; exact hlt)
    replace E_o0 := E_o0.wr W29
    replace F_keys_o0 := F_keys_o0.other W29 (Or.inl ne_o0_ov)
    replace F_values_o0 := F_values_o0.other W29 (Or.inl ne_o0_ov)
    replace F_used_o0 := F_used_o0.other W29 (Or.inl ne_o0_ov)
    replace F_size_o0 := F_size_o0.other W29 (Or.inl ne_o0_ov)
    replace V_ok := V_ok.other W29 ne_ok_ov
    replace V_ou := V_ou.other W29 (Ne.symm ne_ov_ou)
    have Zz29 := Nat.le_trans Zz27 (Keep.of_wr W29).1
    have Kk29 := Kk27.wr W29 (Or.inl (List.mem_of_getElem? (i := 2) rfl))
    have N29 := Fr.snoc X29 N27 g_ov
    refine go st29 ?_
    show Go p e below _ m T29 115 #[rv o0, jv q1, .second, iv p2, iv (15 : Int32), iv (Int32.ofNat r)] []
    obtain ⟨fs, hr, hrun, hended, hW, hsame⟩ := X29.leave (v := none) (fun _ => rfl)
    refine ⟨_, _, X29.returnOut hx Bd.returns (hb hby d3_115) hr, hrun, hended, _, _, rfl, ?_, ⟨_, rfl⟩, hW, hsame.mono (by decide) (by decide)⟩
    show Q3 Z o0 q1 p2 ok ov ou kk kv ku ks us vv w1 h0 n0 _ T29.heap _
    rw [e29]
    exact ⟨rfl, N29, Kk29, E_o0, F_keys_o0, F_values_o0, F_used_o0, (by unfold own_sz; rw [← hrr, if_pos hc21]; exact F_size_o0), (by unfold own_ks; rw [← hrr, if_pos hc21]; exact V_ok), (by unfold own_us; rw [← hrr, if_pos hc21]; exact V_ou), _, (by rw [List.length_set]; exact hvv), V_ov⟩
  ·
    refine go (fun t kt => XS.ifYes X19.here hx rfl (pc0 := 78) (pc' := 107) rfl (hb hby d3_78) rfl ((if0 _ _).trans (feq hc21).2) (by decide) (by decide) kt) ?_
    show Go p e below _ m T19 107 #[rv o0, jv q1, .second, iv p2, iv (15 : Int32), iv (Int32.ofNat r)] []
    refine go (fun t kt => XS.aloadN X19.here hx rfl (hb hby d3_107) rfl rfl kt) ?_
    show Go p e below _ m T19 108 #[rv o0, jv q1, .second, iv p2, iv (15 : Int32), iv (Int32.ofNat r)] [(.ref o0)]
    obtain ⟨T31, X31, e31, st31⟩ := getF X19 hx hZ hown (host := "") (Or.inl (hw _ (List.mem_of_getElem? (i := 13) rfl))) Via.refl e19 F_values_o0 (g := (mkF m 108 #[rv o0, jv q1, .second, iv p2, iv (15 : Int32), iv (Int32.ofNat r)] [(.ref o0)])) rfl rfl (hb hby d3_108)
    refine go st31 ?_
    show Go p e below _ m T31 111 #[rv o0, jv q1, .second, iv p2, iv (15 : Int32), iv (Int32.ofNat r)] [(.ref ov)]
    refine go (fun t kt => XS.iload X31.here hx rfl (hb hby d3_111) rfl kt) ?_
    show Go p e below _ m T31 113 #[rv o0, jv q1, .second, iv p2, iv (15 : Int32), iv (Int32.ofNat r)] [(.int (Int32.ofNat r)), (.ref ov)]
    refine go (fun t kt => XS.iloadN X31.here hx rfl (hb hby d3_113) rfl kt) ?_
    show Go p e below _ m T31 114 #[rv o0, jv q1, .second, iv p2, iv (15 : Int32), iv (Int32.ofNat r)] [(.int p2), (.int (Int32.ofNat r)), (.ref ov)]
    obtain ⟨cl32, Ar32, qc32, S32, M32, H32, G32⟩ := V_ov
    have hin32 : ¬ ((Int32.ofNat r) < 0 ∨ cl32.slots.size ≤ ((Int32.ofNat r)).toNatClampNeg) := inb_of S32 (own_ofn r hlt).2
    obtain ⟨T32, h32, X32, e32, W32, st32⟩ := stI X31 hx hZ e31 Ar32 (j := (Int32.ofNat r)) hin32 (g := (mkF m 114 #[rv o0, jv q1, .second, iv p2, iv (15 : Int32), iv (Int32.ofNat r)] [(.int p2), (.int (Int32.ofNat r)), (.ref ov)])) rfl rfl (hb hby d3_114)
    have V_ov : Arv Z h32 ov kv .int (16 : Int32) (vv.set r (.int p2)) (.int (0 : Int32)) := Arv.set Ar32 qc32 S32 M32 H32 G32 rfl W32 r (own_ofn r hlt).1 (by rw [hvv]; exact hlt)
    replace E_o0 := E_o0.wr W32
    replace F_keys_o0 := F_keys_o0.other W32 (Or.inl ne_o0_ov)
    replace F_values_o0 := F_values_o0.other W32 (Or.inl ne_o0_ov)
    replace F_used_o0 := F_used_o0.other W32 (Or.inl ne_o0_ov)
    replace F_size_o0 := F_size_o0.other W32 (Or.inl ne_o0_ov)
    replace V_ok := V_ok.other W32 ne_ok_ov
    replace V_ou := V_ou.other W32 (Ne.symm ne_ov_ou)
    have Zz32 := Nat.le_trans Z0 (Keep.of_wr W32).1
    have Kk32 := K0.wr W32 (Or.inl (List.mem_of_getElem? (i := 2) rfl))
    have N32 := Fr.snoc X32 Nl g_ov
    refine go st32 ?_
    show Go p e below _ m T32 115 #[rv o0, jv q1, .second, iv p2, iv (15 : Int32), iv (Int32.ofNat r)] []
    obtain ⟨fs, hr, hrun, hended, hW, hsame⟩ := X32.leave (v := none) (fun _ => rfl)
    refine ⟨_, _, X32.returnOut hx Bd.returns (hb hby d3_115) hr, hrun, hended, _, _, rfl, ?_, ⟨_, rfl⟩, hW, hsame.mono (by decide) (by decide)⟩
    show Q3 Z o0 q1 p2 ok ov ou kk kv ku ks us vv w1 h0 n0 _ T32.heap _
    rw [e32]
    exact ⟨rfl, N32, Kk32, E_o0, F_keys_o0, F_values_o0, F_used_o0, (by unfold own_sz; rw [← hrr, if_neg hc21]; exact F_size_o0), (by unfold own_ks; rw [← hrr, if_neg hc21]; exact V_ok), (by unfold own_us; rw [← hrr, if_neg hc21]; exact V_ou), _, (by rw [List.length_set]; exact hvv), V_ov⟩
theorem own_sm {w : Int32} {n : Nat} (h : w = Int32.ofNat n) (hc : n ≤ 4) : ¬ w < 0 ∧ w.toNatClampNeg ≤ 4 ∧ w.toNatClampNeg = n := by
  subst h; have e := own_ofn n (by omega); exact ⟨e.2.1, by rw [e.1]; exact hc, e.1⟩
theorem own_Lp_mono (us : List Int32) (ks : List Int64) : ∀ n k, (own_Lp us ks n).length ≤ (own_Lp us ks (n + k)).length := by
  intro n k; induction k with
  | zero => exact Nat.le_refl _
  | succ k ih =>
    refine Nat.le_trans ih ?_
    show _ ≤ (own_Lp us ks (n + k + 1)).length
    rw [own_Lp]; split
    · exact Nat.le_refl _
    · rw [List.length_append]; omega
theorem own_Lp_lt (us : List Int32) (ks : List Int64) (n : Nat) (hn : n < 16) (h : ¬ us.getD n 0 = 0) : (own_Lp us ks n).length < (own_Lp us ks 16).length := by
  have a : (own_Lp us ks (n + 1)).length = (own_Lp us ks n).length + 1 := by rw [own_Lp, if_neg h, List.length_append]; rfl
  have b := own_Lp_mono us ks (n + 1) (16 - (n + 1))
  rw [show n + 1 + (16 - (n + 1)) = 16 by omega] at b
  omega
theorem own_ix {w : Int32} {n a : Nat} (h : w = Int32.ofNat n) (hc : n ≤ 4) (ha : a < n) : ¬ Int32.ofNat a < 0 ∧ Int32.ofNat a < w := by
  subst h
  have e1 : (Int32.ofNat a).toInt = a := Int32.toInt_ofNat_small (by omega)
  have e2 : (Int32.ofNat n).toInt = n := Int32.toInt_ofNat_small (by omega)
  have e0 : (0 : Int32).toInt = 0 := rfl
  rw [Int32.lt_iff_toInt_lt, Int32.lt_iff_toInt_lt, e1, e2, e0]; omega
theorem own_padJ (l : List Int64) (x : Int64) : ((l.map Value.long) ++ List.replicate 1 (Value.long (0 : Int64))).set l.length (Value.long x) = (l ++ [x]).map Value.long := by
  rw [List.map_append, List.set_append_right _ _ (by rw [List.length_map]; exact Nat.le_refl _), List.length_map, Nat.sub_self]; rfl
theorem d5_0 : decode prog_35_method_4_code 0 = .ok (.aload_n 0, 1) := by decide +kernel
theorem d5_1 : decode prog_35_method_4_code 1 = .ok (.getfield 23, 3) := by decide +kernel
theorem d5_4 : decode prog_35_method_4_code 4 = .ok (.newarray .long, 2) := by decide +kernel
theorem d5_6 : decode prog_35_method_4_code 6 = .ok (.astore_n 1, 1) := by decide +kernel
theorem d5_7 : decode prog_35_method_4_code 7 = .ok (.iconst 0, 1) := by decide +kernel
theorem d5_8 : decode prog_35_method_4_code 8 = .ok (.istore_n 2, 1) := by decide +kernel
theorem d5_9 : decode prog_35_method_4_code 9 = .ok (.iconst 0, 1) := by decide +kernel
theorem d5_10 : decode prog_35_method_4_code 10 = .ok (.istore_n 3, 1) := by decide +kernel
theorem d5_11 : decode prog_35_method_4_code 11 = .ok (.iload_n 3, 1) := by decide +kernel
theorem d5_12 : decode prog_35_method_4_code 12 = .ok (.aload_n 0, 1) := by decide +kernel
theorem d5_13 : decode prog_35_method_4_code 13 = .ok (.getfield 7, 3) := by decide +kernel
theorem d5_16 : decode prog_35_method_4_code 16 = .ok (.arraylength, 1) := by decide +kernel
theorem d5_17 : decode prog_35_method_4_code 17 = .ok (.if_icmp .ge 30, 3) := by decide +kernel
theorem d5_47 : decode prog_35_method_4_code 47 = .ok (.aload_n 1, 1) := by decide +kernel
theorem d5_48 : decode prog_35_method_4_code 48 = .ok (.areturn, 1) := by decide +kernel
theorem d5_20 : decode prog_35_method_4_code 20 = .ok (.aload_n 0, 1) := by decide +kernel
theorem d5_21 : decode prog_35_method_4_code 21 = .ok (.getfield 17, 3) := by decide +kernel
theorem d5_24 : decode prog_35_method_4_code 24 = .ok (.iload_n 3, 1) := by decide +kernel
theorem d5_25 : decode prog_35_method_4_code 25 = .ok (.baload, 1) := by decide +kernel
theorem d5_26 : decode prog_35_method_4_code 26 = .ok (.ifCond .eq 15, 3) := by decide +kernel
theorem d5_41 : decode prog_35_method_4_code 41 = .ok (.iinc 3 1, 3) := by decide +kernel
theorem d5_44 : decode prog_35_method_4_code 44 = .ok (.goto (-33), 3) := by decide +kernel
theorem d5_29 : decode prog_35_method_4_code 29 = .ok (.aload_n 1, 1) := by decide +kernel
theorem d5_30 : decode prog_35_method_4_code 30 = .ok (.iload_n 2, 1) := by decide +kernel
theorem d5_31 : decode prog_35_method_4_code 31 = .ok (.iinc 2 1, 3) := by decide +kernel
theorem d5_34 : decode prog_35_method_4_code 34 = .ok (.aload_n 0, 1) := by decide +kernel
theorem d5_35 : decode prog_35_method_4_code 35 = .ok (.getfield 7, 3) := by decide +kernel
theorem d5_38 : decode prog_35_method_4_code 38 = .ok (.iload_n 3, 1) := by decide +kernel
theorem d5_39 : decode prog_35_method_4_code 39 = .ok (.laload, 1) := by decide +kernel
theorem d5_40 : decode prog_35_method_4_code 40 = .ok (.lastore, 1) := by decide +kernel
theorem ef_5 (m : MethodId) (o0 : Addr) : entryFrame m #[(.ref o0)] 4 = mkF m 0 #[rv o0, .unset, .unset, .unset] [] := by first | (simp [entryFrame, mkF, argsToLocals, Value.category]; done) | rfl
def Q5 (Z : State) (o0 : Addr) (ok : Addr) (ou : Addr) (kk : ClassId) (ku : ClassId) (ks : List Int64) (us : List Int32) (w1 : Int32) (h0 : Heap) (n0 : Nat) (v : Option Value) (h : Heap) (L : List Loc) : Prop := v = some (.ref h0.size) ∧ Fr n0 L ∧ Keep h0 h [] ∧ ∃ k : ClassId, Arv Z h h0.size k .long w1 ((own_Lp us ks 16).map Value.long) (.long (0 : Int64))
set_option maxRecDepth 65536 in
set_option maxHeartbeats 40000000 in
theorem rm5 (l : Launch) (Z : State) (a0 : Array Value) (hw : ∀ d ∈ tables_1, d.before a0 Z = true) (ws : List Jvm.Cond) (o0 : Addr) (ok : Addr) (ou : Addr) (kk : ClassId) (ku : ClassId) (ks : List Int64) (us : List Int32) (w1 : Int32) (h0 : Heap) (n0 : Nat) (Z0 : n0 ≤ h0.size) (F_keys_o0 : Fld Z h0 o0 "com/example/modest_tree_automata/modesttreeautomata/LongIntMap" "keys" "[J" (.ref ok)) (F_used_o0 : Fld Z h0 o0 "com/example/modest_tree_automata/modesttreeautomata/LongIntMap" "used" "[Z" (.ref ou)) (F_size_o0 : Fld Z h0 o0 "com/example/modest_tree_automata/modesttreeautomata/LongIntMap" "size" "I" (.int w1)) (V_ok : Arv Z h0 ok kk .long (16 : Int32) (ks.map Value.long) (.long (0 : Int64))) (V_ou : Arv Z h0 ou ku .boolean (16 : Int32) (us.map Value.int) (.int (0 : Int32))) (hks : ks.length = 16) (hus : us.length = 16) (hw1 : w1 = Int32.ofNat (own_Lp us ks 16).length) (hcap : (own_Lp us ks 16).length ≤ 4) :
    MetFree l (⟨"com/example/modest_tree_automata/modesttreeautomata/LongIntMap", "keys", "()[J"⟩ : MethodName) (head1 (Jvm.Cond.code (⟨"com/example/modest_tree_automata/modesttreeautomata/LongIntMap", "keys", "()[J"⟩ : MethodName) prog_35_method_4_code 4 (some (.array .long)) :: ws) ({ frames := 0, cells := 1, slots := 4, locals := 0 } : Room)) (fun a U => a = #[(.ref o0)] ∧ Z.Warmed39 U.vm ∧ U.heap = h0) (fun _ _ _ _ _ => True) (fun _ U o U' => ∃ v L, o = .returned v ∧ Q5 Z o0 ok ou kk ku ks us w1 h0 n0 v U'.heap L ∧ FrameEnd U o U' L ({ frames := 0, cells := 1, slots := 4, locals := 0 } : Room).cells ({ frames := 0, cells := 1, slots := 4, locals := 0 } : Room).slots) := by
  refine MetFree.of_bodySF (plainFor_of_name pn_1) hisR ?_
  intro p e s m args below meth c s₁ Bd hml0 hP hK
  obtain ⟨rfl, hZ, hh⟩ := hP
  have hx := Bd.exec
  have hby := Bd.bytes
  have hml : c.maxLocals = 4 := hml0
  have hown : s.vm.findClass "com/example/modest_tree_automata/modesttreeautomata/LongIntMap" = some m.cls := findClass_of_methodNamed Bd.named
  have hnm := (name_of_methodNamed Bd.named Bd.method).1
  have X0 : Stand p l e ({ frames := 0, cells := 1, slots := 4, locals := 0 } : Room) s m #[(.ref o0)] below meth c s₁ [] 0 0 := Stand.of_body Bd
  have e0 : s₁.heap = h0 := by rw [← hh, Bd.state]; rfl
  have N0 := Fr.nil n0
  have K0 := Keep.refl h0 []
  suffices hgo : Goes p.tables e below (fun s₂ o => ∃ v L, o = .returned v ∧ Q5 Z o0 ok ou kk ku ks us w1 h0 n0 v s₂.heap L ∧ FrameEnd s o s₂ L ({ frames := 0, cells := 1, slots := 4, locals := 0 } : Room).cells ({ frames := 0, cells := 1, slots := 4, locals := 0 } : Room).slots) (s₁.setTop (mkF m 0 #[rv o0, .unset, .unset, .unset] [])) from goEnd (fun t k => castTop (ef_5 m o0) k) hgo
  refine go (fun t kt => XS.aloadN X0.here hx rfl (hb hby d5_0) rfl rfl kt) ?_
  show Go p e below _ m s₁ 1 #[rv o0, .unset, .unset, .unset] [(.ref o0)]
  obtain ⟨T1, X1, e1, st1⟩ := getF X0 hx hZ hown (host := "") (Or.inl (hw _ (List.mem_of_getElem? (i := 23) rfl))) Via.refl e0 F_size_o0 (g := (mkF m 1 #[rv o0, .unset, .unset, .unset] [(.ref o0)])) rfl rfl (hb hby d5_1)
  refine go st1 ?_
  show Go p e below _ m T1 4 #[rv o0, .unset, .unset, .unset] [(.int w1)]
  obtain ⟨T2, h2, k2, X2, e2, E2, A2, st2⟩ := newP X1 hx hZ (hw _ (List.mem_of_getElem? (i := 9) rfl)) e1 (g := (mkF m 4 #[rv o0, .unset, .unset, .unset] [(.int w1)])) rfl (hb hby d5_4) rfl (own_sm hw1 hcap).1 (cap := 4) (own_sm hw1 hcap).2.1 (by decide) (by decide) (by decide)
  obtain ⟨b2, g2⟩ : ∃ z, z = h0.size := ⟨_, rfl⟩
  rw [← g2] at A2 st2
  have ne_o0_b2 : o0 ≠ b2 := Nat.ne_of_lt (Nat.lt_of_lt_of_le F_keys_o0.lt (Nat.le_of_eq g2.symm))
  have ne_ok_b2 : ok ≠ b2 := Nat.ne_of_lt (Nat.lt_of_lt_of_le V_ok.lt (Nat.le_of_eq g2.symm))
  have ne_ou_b2 : ou ≠ b2 := Nat.ne_of_lt (Nat.lt_of_lt_of_le V_ou.lt (Nat.le_of_eq g2.symm))
  have g_b2 : n0 ≤ b2 := Nat.le_trans Z0 (Nat.le_of_eq g2.symm)
  have sz_b2 : h0.size ≤ b2 := Nat.le_trans K0.1 (Nat.le_of_eq g2.symm)
  replace F_keys_o0 := F_keys_o0.ext E2
  replace F_used_o0 := F_used_o0.ext E2
  replace F_size_o0 := F_size_o0.ext E2
  replace V_ok := V_ok.ext E2
  replace V_ou := V_ou.ext E2
  have Zz2 := Nat.le_trans Z0 E2.1
  have Kk2 := K0.ext E2
  have V_b2 : Arv Z h2 b2 k2 .long w1 [] (.long (0 : Int64)) := (Arv.new A2 (own_sm hw1 hcap).1)
  refine go st2 ?_
  show Go p e below _ m T2 6 #[rv o0, .unset, .unset, .unset] [(.ref b2)]
  refine go (fun t kt => XS.astoreN X2.here hx rfl (hb hby d5_6) rfl rfl (l' := #[rv o0, rv b2, .unset, .unset]) rfl kt) ?_
  show Go p e below _ m T2 7 #[rv o0, rv b2, .unset, .unset] []
  refine go (fun t kt => XS.iconst X2.here hx rfl (hb hby d5_7) kt) ?_
  show Go p e below _ m T2 8 #[rv o0, rv b2, .unset, .unset] [(.int (0 : Int32))]
  refine go (fun t kt => XS.istoreN X2.here hx rfl (hb hby d5_8) rfl (l' := #[rv o0, rv b2, iv (0 : Int32), .unset]) rfl kt) ?_
  show Go p e below _ m T2 9 #[rv o0, rv b2, iv (0 : Int32), .unset] []
  refine go (fun t kt => XS.iconst X2.here hx rfl (hb hby d5_9) kt) ?_
  show Go p e below _ m T2 10 #[rv o0, rv b2, iv (0 : Int32), .unset] [(.int (0 : Int32))]
  refine go (fun t kt => XS.istoreN X2.here hx rfl (hb hby d5_10) rfl (l' := #[rv o0, rv b2, iv (0 : Int32), iv (0 : Int32)]) rfl kt) ?_
  show Go p e below _ m T2 11 #[rv o0, rv b2, iv (0 : Int32), iv (0 : Int32)] []
  have LP : ∀ (f sN : Nat) (T : State) (hh : Heap) (lo : List Loc) (XL : Stand p l e ({ frames := 0, cells := 1, slots := 4, locals := 0 } : Room) s m #[(.ref o0)] below meth c T lo 1 4) (NL : Fr n0 lo) (eL : T.heap = hh) (ZL : n0 ≤ hh.size) (KL : Keep h0 hh []) (F_keys_o0 : Fld Z hh o0 "com/example/modest_tree_automata/modesttreeautomata/LongIntMap" "keys" "[J" (.ref ok)) (F_used_o0 : Fld Z hh o0 "com/example/modest_tree_automata/modesttreeautomata/LongIntMap" "used" "[Z" (.ref ou)) (F_size_o0 : Fld Z hh o0 "com/example/modest_tree_automata/modesttreeautomata/LongIntMap" "size" "I" (.int w1)) (V_ok : Arv Z hh ok kk .long (16 : Int32) (ks.map Value.long) (.long (0 : Int64))) (V_ou : Arv Z hh ou ku .boolean (16 : Int32) (us.map Value.int) (.int (0 : Int32))) (V_b2 : Arv Z hh b2 k2 .long w1 ((own_Lp us ks sN).map Value.long) (.long (0 : Int64))), sN + f = 16 → Goes p.tables e below (fun s₂ o => ∃ v L, o = .returned v ∧ Q5 Z o0 ok ou kk ku ks us w1 h0 n0 v s₂.heap L ∧ FrameEnd s o s₂ L ({ frames := 0, cells := 1, slots := 4, locals := 0 } : Room).cells ({ frames := 0, cells := 1, slots := 4, locals := 0 } : Room).slots) (T.setTop (mkF m 11 #[rv o0, rv b2, iv (Int32.ofNat (own_Lp us ks sN).length), iv (Int32.ofNat sN)] [])) := by
    intro f
    induction f with
    | zero =>
      intro sN T hh lo XL NL eL ZL KL F_keys_o0 F_used_o0 F_size_o0 V_ok V_ou V_b2 hsum
      have hz : sN = 16 := by omega
      subst hz
      show Go p e below _ m T 11 #[rv o0, rv b2, iv (Int32.ofNat (own_Lp us ks 16).length), iv (Int32.ofNat 16)] []
      refine go (fun t kt => XS.iloadN XL.here hx rfl (hb hby d5_11) rfl kt) ?_
      show Go p e below _ m T 12 #[rv o0, rv b2, iv (Int32.ofNat (own_Lp us ks 16).length), iv (Int32.ofNat 16)] [(.int (Int32.ofNat 16))]
      refine go (fun t kt => XS.aloadN XL.here hx rfl (hb hby d5_12) rfl rfl kt) ?_
      show Go p e below _ m T 13 #[rv o0, rv b2, iv (Int32.ofNat (own_Lp us ks 16).length), iv (Int32.ofNat 16)] [(.ref o0), (.int (Int32.ofNat 16))]
      obtain ⟨T3, X3, e3, st3⟩ := getF XL hx hZ hown (host := "") (Or.inl (hw _ (List.mem_of_getElem? (i := 10) rfl))) Via.refl eL F_keys_o0 (g := (mkF m 13 #[rv o0, rv b2, iv (Int32.ofNat (own_Lp us ks 16).length), iv (Int32.ofNat 16)] [(.ref o0), (.int (Int32.ofNat 16))])) rfl rfl (hb hby d5_13)
      refine go st3 ?_
      show Go p e below _ m T3 16 #[rv o0, rv b2, iv (Int32.ofNat (own_Lp us ks 16).length), iv (Int32.ofNat 16)] [(.ref ok), (.int (Int32.ofNat 16))]
      obtain ⟨cl4, Ar4, qc4, S4, M4, H4, G4⟩ := id V_ok
      refine go (X3.arraylength hx (by rw [e3]; exact Ar4.1) (State.isArrayOf_alike hZ.alike Ar4.2.1) (g := (mkF m 16 #[rv o0, rv b2, iv (Int32.ofNat (own_Lp us ks 16).length), iv (Int32.ofNat 16)] [(.ref ok), (.int (Int32.ofNat 16))])) rfl rfl (hb hby d5_16)) ?_
      rw [len_of S4 M4]
      show Go p e below _ m T3 17 #[rv o0, rv b2, iv (Int32.ofNat (own_Lp us ks 16).length), iv (Int32.ofNat 16)] [(.int (16 : Int32)), (.int (Int32.ofNat 16))]
      refine go (fun t kt => XS.icmpYes X3.here hx rfl (pc0 := 17) (pc' := 47) rfl (hb hby d5_17) rfl (flt (by decide : ¬ (Int32.ofNat 16) < (16 : Int32))).2.1 (by decide) (by decide) kt) ?_
      show Go p e below _ m T3 47 #[rv o0, rv b2, iv (Int32.ofNat (own_Lp us ks 16).length), iv (Int32.ofNat 16)] []
      refine go (fun t kt => XS.aloadN X3.here hx rfl (hb hby d5_47) rfl rfl kt) ?_
      show Go p e below _ m T3 48 #[rv o0, rv b2, iv (Int32.ofNat (own_Lp us ks 16).length), iv (Int32.ofNat 16)] [(.ref b2)]
      obtain ⟨fs, hr, hrun, hended, hW, hsame⟩ := X3.leave (v := some (.ref b2)) (fun h => by rw [Bd.returns] at h; cases h)
      refine ⟨_, _, retOut X3 hx (i := .areturn) Bd.returns rfl (Or.inr (Or.inr (Or.inr (Or.inr ⟨rfl, rfl, rfl⟩)))) (hb hby d5_48) hr, hrun, hended, _, _, rfl, ?_, ⟨_, rfl⟩, hW, hsame.mono (by decide) (by decide)⟩
      show Q5 Z o0 ok ou kk ku ks us w1 h0 n0 _ T3.heap _
      rw [e3]
      subst g2
      exact ⟨rfl, NL, KL, _, V_b2⟩
    | succ f ih =>
      intro sN T hh lo XL NL eL ZL KL F_keys_o0 F_used_o0 F_size_o0 V_ok V_ou V_b2 hsum
      have hs : sN < 16 := by omega
      show Go p e below _ m T 11 #[rv o0, rv b2, iv (Int32.ofNat (own_Lp us ks sN).length), iv (Int32.ofNat sN)] []
      refine go (fun t kt => XS.iloadN XL.here hx rfl (hb hby d5_11) rfl kt) ?_
      show Go p e below _ m T 12 #[rv o0, rv b2, iv (Int32.ofNat (own_Lp us ks sN).length), iv (Int32.ofNat sN)] [(.int (Int32.ofNat sN))]
      refine go (fun t kt => XS.aloadN XL.here hx rfl (hb hby d5_12) rfl rfl kt) ?_
      show Go p e below _ m T 13 #[rv o0, rv b2, iv (Int32.ofNat (own_Lp us ks sN).length), iv (Int32.ofNat sN)] [(.ref o0), (.int (Int32.ofNat sN))]
      obtain ⟨T6, X6, e6, st6⟩ := getF XL hx hZ hown (host := "") (Or.inl (hw _ (List.mem_of_getElem? (i := 10) rfl))) Via.refl eL F_keys_o0 (g := (mkF m 13 #[rv o0, rv b2, iv (Int32.ofNat (own_Lp us ks sN).length), iv (Int32.ofNat sN)] [(.ref o0), (.int (Int32.ofNat sN))])) rfl rfl (hb hby d5_13)
      refine go st6 ?_
      show Go p e below _ m T6 16 #[rv o0, rv b2, iv (Int32.ofNat (own_Lp us ks sN).length), iv (Int32.ofNat sN)] [(.ref ok), (.int (Int32.ofNat sN))]
      obtain ⟨cl7, Ar7, qc7, S7, M7, H7, G7⟩ := id V_ok
      refine go (X6.arraylength hx (by rw [e6]; exact Ar7.1) (State.isArrayOf_alike hZ.alike Ar7.2.1) (g := (mkF m 16 #[rv o0, rv b2, iv (Int32.ofNat (own_Lp us ks sN).length), iv (Int32.ofNat sN)] [(.ref ok), (.int (Int32.ofNat sN))])) rfl rfl (hb hby d5_16)) ?_
      rw [len_of S7 M7]
      show Go p e below _ m T6 17 #[rv o0, rv b2, iv (Int32.ofNat (own_Lp us ks sN).length), iv (Int32.ofNat sN)] [(.int (16 : Int32)), (.int (Int32.ofNat sN))]
      refine go (fun t kt => XS.icmpNo X6.here hx rfl (hb hby d5_17) rfl (tlt (own_ofn sN hs).2.2).2.1 kt) ?_
      show Go p e below _ m T6 20 #[rv o0, rv b2, iv (Int32.ofNat (own_Lp us ks sN).length), iv (Int32.ofNat sN)] []
      refine go (fun t kt => XS.aloadN X6.here hx rfl (hb hby d5_20) rfl rfl kt) ?_
      show Go p e below _ m T6 21 #[rv o0, rv b2, iv (Int32.ofNat (own_Lp us ks sN).length), iv (Int32.ofNat sN)] [(.ref o0)]
      obtain ⟨T8, X8, e8, st8⟩ := getF X6 hx hZ hown (host := "") (Or.inl (hw _ (List.mem_of_getElem? (i := 16) rfl))) Via.refl e6 F_used_o0 (g := (mkF m 21 #[rv o0, rv b2, iv (Int32.ofNat (own_Lp us ks sN).length), iv (Int32.ofNat sN)] [(.ref o0)])) rfl rfl (hb hby d5_21)
      refine go st8 ?_
      show Go p e below _ m T8 24 #[rv o0, rv b2, iv (Int32.ofNat (own_Lp us ks sN).length), iv (Int32.ofNat sN)] [(.ref ou)]
      refine go (fun t kt => XS.iloadN X8.here hx rfl (hb hby d5_24) rfl kt) ?_
      show Go p e below _ m T8 25 #[rv o0, rv b2, iv (Int32.ofNat (own_Lp us ks sN).length), iv (Int32.ofNat sN)] [(.int (Int32.ofNat sN)), (.ref ou)]
      obtain ⟨cl9, Ar9, qc9, S9, M9, H9, G9⟩ := id V_ou
      have hin9 : ¬ ((Int32.ofNat sN) < 0 ∨ cl9.slots.size ≤ ((Int32.ofNat sN)).toNatClampNeg) := inb_of S9 (own_ofn sN hs).2
      have hat9 : cl9.slots[((Int32.ofNat sN)).toNatClampNeg]? = some (.int (us.getD sN 0)) := H9.at hin9 (own_hatI us sN hs)
      refine go (X8.baloadBooleans hx (j := (Int32.ofNat sN)) (v := (.int (us.getD sN 0))) (by rw [e8]; exact Ar9.1) (State.isArrayOf_alike hZ.alike Ar9.2.1) Ar9.2.2 hin9 hat9 (g := (mkF m 25 #[rv o0, rv b2, iv (Int32.ofNat (own_Lp us ks sN).length), iv (Int32.ofNat sN)] [(.int (Int32.ofNat sN)), (.ref ou)])) rfl rfl (hb hby d5_25)) ?_
      show Go p e below _ m T8 26 #[rv o0, rv b2, iv (Int32.ofNat (own_Lp us ks sN).length), iv (Int32.ofNat sN)] [(.int (us.getD sN 0))]
      by_cases hc10 : (us.getD sN 0) = (0 : Int32)
      ·
        refine go (fun t kt => XS.ifYes X8.here hx rfl (pc0 := 26) (pc' := 41) rfl (hb hby d5_26) rfl ((if0 _ _).trans (teq hc10).1) (by decide) (by decide) kt) ?_
        show Go p e below _ m T8 41 #[rv o0, rv b2, iv (Int32.ofNat (own_Lp us ks sN).length), iv (Int32.ofNat sN)] []
        refine go (fun t kt => XS.iinc X8.here hx rfl (hb hby d5_41) rfl (l' := #[rv o0, rv b2, iv (Int32.ofNat (own_Lp us ks sN).length), iv ((Int32.ofNat sN) + (1 : Int32))]) rfl kt) ?_
        show Go p e below _ m T8 44 #[rv o0, rv b2, iv (Int32.ofNat (own_Lp us ks sN).length), iv ((Int32.ofNat sN) + (1 : Int32))] []
        refine go (fun t kt => XS.goto X8.here hx rfl (pc0 := 44) (pc' := 11) rfl (hb hby d5_44) (by decide) (by decide) kt) ?_
        show Go p e below _ m T8 11 #[rv o0, rv b2, iv (Int32.ofNat (own_Lp us ks sN).length), iv ((Int32.ofNat sN) + (1 : Int32))] []
        rw [own_inc sN]
        have hq : own_Lp us ks sN = own_Lp us ks (sN + 1) := by rw [own_Lp, if_pos hc10]
        rw [hq] at V_b2 ⊢
        exact ih (sN + 1) _ _ _ X8 NL e8 ZL KL F_keys_o0 F_used_o0 F_size_o0 V_ok V_ou V_b2 (by omega)
      ·
        refine go (fun t kt => XS.ifNo X8.here hx rfl (hb hby d5_26) rfl ((if0 _ _).trans (feq hc10).1) kt) ?_
        show Go p e below _ m T8 29 #[rv o0, rv b2, iv (Int32.ofNat (own_Lp us ks sN).length), iv (Int32.ofNat sN)] []
        refine go (fun t kt => XS.aloadN X8.here hx rfl (hb hby d5_29) rfl rfl kt) ?_
        show Go p e below _ m T8 30 #[rv o0, rv b2, iv (Int32.ofNat (own_Lp us ks sN).length), iv (Int32.ofNat sN)] [(.ref b2)]
        refine go (fun t kt => XS.iloadN X8.here hx rfl (hb hby d5_30) rfl kt) ?_
        show Go p e below _ m T8 31 #[rv o0, rv b2, iv (Int32.ofNat (own_Lp us ks sN).length), iv (Int32.ofNat sN)] [(.int (Int32.ofNat (own_Lp us ks sN).length)), (.ref b2)]
        refine go (fun t kt => XS.iinc X8.here hx rfl (hb hby d5_31) rfl (l' := #[rv o0, rv b2, iv ((Int32.ofNat (own_Lp us ks sN).length) + (1 : Int32)), iv (Int32.ofNat sN)]) rfl kt) ?_
        show Go p e below _ m T8 34 #[rv o0, rv b2, iv ((Int32.ofNat (own_Lp us ks sN).length) + (1 : Int32)), iv (Int32.ofNat sN)] [(.int (Int32.ofNat (own_Lp us ks sN).length)), (.ref b2)]
        refine go (fun t kt => XS.aloadN X8.here hx rfl (hb hby d5_34) rfl rfl kt) ?_
        show Go p e below _ m T8 35 #[rv o0, rv b2, iv ((Int32.ofNat (own_Lp us ks sN).length) + (1 : Int32)), iv (Int32.ofNat sN)] [(.ref o0), (.int (Int32.ofNat (own_Lp us ks sN).length)), (.ref b2)]
        obtain ⟨T11, X11, e11, st11⟩ := getF X8 hx hZ hown (host := "") (Or.inl (hw _ (List.mem_of_getElem? (i := 10) rfl))) Via.refl e8 F_keys_o0 (g := (mkF m 35 #[rv o0, rv b2, iv ((Int32.ofNat (own_Lp us ks sN).length) + (1 : Int32)), iv (Int32.ofNat sN)] [(.ref o0), (.int (Int32.ofNat (own_Lp us ks sN).length)), (.ref b2)])) rfl rfl (hb hby d5_35)
        refine go st11 ?_
        show Go p e below _ m T11 38 #[rv o0, rv b2, iv ((Int32.ofNat (own_Lp us ks sN).length) + (1 : Int32)), iv (Int32.ofNat sN)] [(.ref ok), (.int (Int32.ofNat (own_Lp us ks sN).length)), (.ref b2)]
        refine go (fun t kt => XS.iloadN X11.here hx rfl (hb hby d5_38) rfl kt) ?_
        show Go p e below _ m T11 39 #[rv o0, rv b2, iv ((Int32.ofNat (own_Lp us ks sN).length) + (1 : Int32)), iv (Int32.ofNat sN)] [(.int (Int32.ofNat sN)), (.ref ok), (.int (Int32.ofNat (own_Lp us ks sN).length)), (.ref b2)]
        obtain ⟨cl12, Ar12, qc12, S12, M12, H12, G12⟩ := id V_ok
        have hin12 : ¬ ((Int32.ofNat sN) < 0 ∨ cl12.slots.size ≤ ((Int32.ofNat sN)).toNatClampNeg) := inb_of S12 (own_ofn sN hs).2
        have hat12 : cl12.slots[((Int32.ofNat sN)).toNatClampNeg]? = some (.long (ks.getD sN 0)) := H12.at hin12 (own_hatJ ks sN hs)
        refine go (X11.laload hx (j := (Int32.ofNat sN)) (v := (.long (ks.getD sN 0))) (by rw [e11]; exact Ar12.1) (State.isArrayOf_alike hZ.alike Ar12.2.1) Ar12.2.2 hin12 hat12 (g := (mkF m 39 #[rv o0, rv b2, iv ((Int32.ofNat (own_Lp us ks sN).length) + (1 : Int32)), iv (Int32.ofNat sN)] [(.int (Int32.ofNat sN)), (.ref ok), (.int (Int32.ofNat (own_Lp us ks sN).length)), (.ref b2)])) rfl rfl (hb hby d5_39)) ?_
        show Go p e below _ m T11 40 #[rv o0, rv b2, iv ((Int32.ofNat (own_Lp us ks sN).length) + (1 : Int32)), iv (Int32.ofNat sN)] [(.long (ks.getD sN 0)), (.int (Int32.ofNat (own_Lp us ks sN).length)), (.ref b2)]
        replace V_b2 := V_b2.pad (pad_rep _ _ 1)
        obtain ⟨cl13, Ar13, qc13, S13, M13, H13, G13⟩ := V_b2
        have hin13 : ¬ ((Int32.ofNat (own_Lp us ks sN).length) < 0 ∨ cl13.slots.size ≤ ((Int32.ofNat (own_Lp us ks sN).length)).toNatClampNeg) := inb_of S13 (own_ix hw1 hcap (own_Lp_lt us ks sN hs hc10))
        obtain ⟨T13, h13, X13, e13, W13, st13⟩ := stJ X11 hx hZ e11 Ar13 (j := (Int32.ofNat (own_Lp us ks sN).length)) hin13 (g := (mkF m 40 #[rv o0, rv b2, iv ((Int32.ofNat (own_Lp us ks sN).length) + (1 : Int32)), iv (Int32.ofNat sN)] [(.long (ks.getD sN 0)), (.int (Int32.ofNat (own_Lp us ks sN).length)), (.ref b2)])) rfl rfl (hb hby d5_40)
        have hl13 := own_Lp_lt us ks sN hs hc10
        have V_b2 : Arv Z h13 b2 k2 .long w1 ((own_Lp us ks sN ++ [ks.getD sN 0]).map Value.long) (.long (0 : Int64)) := by rw [← own_padJ]; exact Arv.set Ar13 qc13 S13 M13 H13 G13 rfl W13 _ (own_ofn _ (by omega)).1 (by rw [List.length_append, List.length_map]; simp)
        replace F_keys_o0 := F_keys_o0.other W13 (Or.inl ne_o0_b2)
        replace F_used_o0 := F_used_o0.other W13 (Or.inl ne_o0_b2)
        replace F_size_o0 := F_size_o0.other W13 (Or.inl ne_o0_b2)
        replace V_ok := V_ok.other W13 ne_ok_b2
        replace V_ou := V_ou.other W13 ne_ou_b2
        have Zz13 := Nat.le_trans ZL (Keep.of_wr W13).1
        have Kk13 := KL.wr W13 (Or.inr sz_b2)
        have N13 := Fr.snoc X13 NL g_b2
        refine go st13 ?_
        show Go p e below _ m T13 41 #[rv o0, rv b2, iv ((Int32.ofNat (own_Lp us ks sN).length) + (1 : Int32)), iv (Int32.ofNat sN)] []
        refine go (fun t kt => XS.iinc X13.here hx rfl (hb hby d5_41) rfl (l' := #[rv o0, rv b2, iv ((Int32.ofNat (own_Lp us ks sN).length) + (1 : Int32)), iv ((Int32.ofNat sN) + (1 : Int32))]) rfl kt) ?_
        show Go p e below _ m T13 44 #[rv o0, rv b2, iv ((Int32.ofNat (own_Lp us ks sN).length) + (1 : Int32)), iv ((Int32.ofNat sN) + (1 : Int32))] []
        refine go (fun t kt => XS.goto X13.here hx rfl (pc0 := 44) (pc' := 11) rfl (hb hby d5_44) (by decide) (by decide) kt) ?_
        show Go p e below _ m T13 11 #[rv o0, rv b2, iv ((Int32.ofNat (own_Lp us ks sN).length) + (1 : Int32)), iv ((Int32.ofNat sN) + (1 : Int32))] []
        rw [own_inc sN]
        have hq : own_Lp us ks sN ++ [ks.getD sN 0] = own_Lp us ks (sN + 1) := by rw [own_Lp, if_neg hc10]
        rw [own_inc (own_Lp us ks sN).length, show (own_Lp us ks sN).length + 1 = (own_Lp us ks (sN + 1)).length from by rw [← hq, List.length_append]; rfl]
        rw [hq] at V_b2
        exact ih (sN + 1) _ _ _ X13 N13 e13 Zz13 Kk13 F_keys_o0 F_used_o0 F_size_o0 V_ok V_ou V_b2 (by omega)
  exact LP 16 0 _ _ _ X2 N0 e2 Zz2 Kk2 F_keys_o0 F_used_o0 F_size_o0 V_ok V_ou V_b2 rfl
theorem d6_0 : decode method_2_code 0 = .ok (.aload_n 0, 1) := by decide +kernel
theorem d6_1 : decode method_2_code 1 = .ok (.arraylength, 1) := by decide +kernel
theorem d6_2 : decode method_2_code 2 = .ok (.ifCond .le 11, 3) := by decide +kernel
theorem d6_5 : decode method_2_code 5 = .ok (.aload_n 0, 1) := by decide +kernel
theorem d6_6 : decode method_2_code 6 = .ok (.iconst 0, 1) := by decide +kernel
theorem d6_7 : decode method_2_code 7 = .ok (.laload, 1) := by decide +kernel
theorem d6_8 : decode method_2_code 8 = .ok (.lload_n 1, 1) := by decide +kernel
theorem d6_9 : decode method_2_code 9 = .ok (.lcmp, 1) := by decide +kernel
theorem d6_10 : decode method_2_code 10 = .ok (.ifCond .eq 45, 3) := by decide +kernel
theorem d6_55 : decode method_2_code 55 = .ok (.iconst 1, 1) := by decide +kernel
theorem d6_56 : decode method_2_code 56 = .ok (.goto 4, 3) := by decide +kernel
theorem d6_60 : decode method_2_code 60 = .ok (.ireturn, 1) := by decide +kernel
theorem d6_13 : decode method_2_code 13 = .ok (.aload_n 0, 1) := by decide +kernel
theorem d6_14 : decode method_2_code 14 = .ok (.arraylength, 1) := by decide +kernel
theorem d6_15 : decode method_2_code 15 = .ok (.iconst 1, 1) := by decide +kernel
theorem d6_16 : decode method_2_code 16 = .ok (.if_icmp .le 11, 3) := by decide +kernel
theorem d6_19 : decode method_2_code 19 = .ok (.aload_n 0, 1) := by decide +kernel
theorem d6_20 : decode method_2_code 20 = .ok (.iconst 1, 1) := by decide +kernel
theorem d6_21 : decode method_2_code 21 = .ok (.laload, 1) := by decide +kernel
theorem d6_22 : decode method_2_code 22 = .ok (.lload_n 1, 1) := by decide +kernel
theorem d6_23 : decode method_2_code 23 = .ok (.lcmp, 1) := by decide +kernel
theorem d6_24 : decode method_2_code 24 = .ok (.ifCond .eq 31, 3) := by decide +kernel
theorem d6_27 : decode method_2_code 27 = .ok (.aload_n 0, 1) := by decide +kernel
theorem d6_28 : decode method_2_code 28 = .ok (.arraylength, 1) := by decide +kernel
theorem d6_29 : decode method_2_code 29 = .ok (.iconst 2, 1) := by decide +kernel
theorem d6_30 : decode method_2_code 30 = .ok (.if_icmp .le 11, 3) := by decide +kernel
theorem d6_33 : decode method_2_code 33 = .ok (.aload_n 0, 1) := by decide +kernel
theorem d6_34 : decode method_2_code 34 = .ok (.iconst 2, 1) := by decide +kernel
theorem d6_35 : decode method_2_code 35 = .ok (.laload, 1) := by decide +kernel
theorem d6_36 : decode method_2_code 36 = .ok (.lload_n 1, 1) := by decide +kernel
theorem d6_37 : decode method_2_code 37 = .ok (.lcmp, 1) := by decide +kernel
theorem d6_38 : decode method_2_code 38 = .ok (.ifCond .eq 17, 3) := by decide +kernel
theorem d6_41 : decode method_2_code 41 = .ok (.aload_n 0, 1) := by decide +kernel
theorem d6_42 : decode method_2_code 42 = .ok (.arraylength, 1) := by decide +kernel
theorem d6_43 : decode method_2_code 43 = .ok (.iconst 3, 1) := by decide +kernel
theorem d6_44 : decode method_2_code 44 = .ok (.if_icmp .le 15, 3) := by decide +kernel
theorem d6_47 : decode method_2_code 47 = .ok (.aload_n 0, 1) := by decide +kernel
theorem d6_48 : decode method_2_code 48 = .ok (.iconst 3, 1) := by decide +kernel
theorem d6_49 : decode method_2_code 49 = .ok (.laload, 1) := by decide +kernel
theorem d6_50 : decode method_2_code 50 = .ok (.lload_n 1, 1) := by decide +kernel
theorem d6_51 : decode method_2_code 51 = .ok (.lcmp, 1) := by decide +kernel
theorem d6_52 : decode method_2_code 52 = .ok (.ifCond .ne 7, 3) := by decide +kernel
theorem d6_59 : decode method_2_code 59 = .ok (.iconst 0, 1) := by decide +kernel
def own_has (q1 : Int64) (z1 : Int32) (x0 : Int64) (x1 : Int64) (x2 : Int64) (x3 : Int64) : Int32 := (if (0 : Int32) < z1 then (if x0 = q1 then (1 : Int32) else (if (1 : Int32) < z1 then (if x1 = q1 then (1 : Int32) else (if (2 : Int32) < z1 then (if x2 = q1 then (1 : Int32) else (if (3 : Int32) < z1 then (if x3 = q1 then (1 : Int32) else (0 : Int32)) else (0 : Int32))) else (if (3 : Int32) < z1 then (if x3 = q1 then (1 : Int32) else (0 : Int32)) else (0 : Int32)))) else (if (2 : Int32) < z1 then (if x2 = q1 then (1 : Int32) else (if (3 : Int32) < z1 then (if x3 = q1 then (1 : Int32) else (0 : Int32)) else (0 : Int32))) else (if (3 : Int32) < z1 then (if x3 = q1 then (1 : Int32) else (0 : Int32)) else (0 : Int32))))) else (if (1 : Int32) < z1 then (if x1 = q1 then (1 : Int32) else (if (2 : Int32) < z1 then (if x2 = q1 then (1 : Int32) else (if (3 : Int32) < z1 then (if x3 = q1 then (1 : Int32) else (0 : Int32)) else (0 : Int32))) else (if (3 : Int32) < z1 then (if x3 = q1 then (1 : Int32) else (0 : Int32)) else (0 : Int32)))) else (if (2 : Int32) < z1 then (if x2 = q1 then (1 : Int32) else (if (3 : Int32) < z1 then (if x3 = q1 then (1 : Int32) else (0 : Int32)) else (0 : Int32))) else (if (3 : Int32) < z1 then (if x3 = q1 then (1 : Int32) else (0 : Int32)) else (0 : Int32)))))
theorem pn_0 : plainName "com/example/modest_tree_automata/modesttreeautomata/LongIntMapKeysPinLaw" = true := by first | (simp [plainName, overriddenIn]; done) | decide +kernel
theorem ef_6 (m : MethodId) (o0 : Addr) (q1 : Int64) : entryFrame m #[(.ref o0), (.long q1)] 3 = mkF m 0 #[rv o0, jv q1, .second] [] := by first | (simp [entryFrame, mkF, argsToLocals, Value.category]; done) | rfl
def Q6 (Z : State) (o0 : Addr) (q1 : Int64) (kk : ClassId) (z1 : Int32) (LL : List Int64) (x0 : Int64) (x1 : Int64) (x2 : Int64) (x3 : Int64) (h0 : Heap) (n0 : Nat) (v : Option Value) (h : Heap) (L : List Loc) : Prop := v = some (.int (own_has q1 z1 x0 x1 x2 x3)) ∧ Fr n0 L ∧ h = h0
set_option maxRecDepth 65536 in
set_option maxHeartbeats 40000000 in
theorem rm6 (l : Launch) (Z : State) (a0 : Array Value) (hw : ∀ d ∈ tables_1, d.before a0 Z = true) (ws : List Jvm.Cond) (o0 : Addr) (q1 : Int64) (kk : ClassId) (z1 : Int32) (LL : List Int64) (x0 : Int64) (x1 : Int64) (x2 : Int64) (x3 : Int64) (h0 : Heap) (n0 : Nat) (Z0 : n0 ≤ h0.size) (V_o0 : Arv Z h0 o0 kk .long z1 (LL.map Value.long) (.long (0 : Int64))) (hx0 : (LL.map Value.long).getD 0 (.long (0 : Int64)) = .long x0) (hx1 : (LL.map Value.long).getD 1 (.long (0 : Int64)) = .long x1) (hx2 : (LL.map Value.long).getD 2 (.long (0 : Int64)) = .long x2) (hx3 : (LL.map Value.long).getD 3 (.long (0 : Int64)) = .long x3) :
    MetFree l (⟨"com/example/modest_tree_automata/modesttreeautomata/LongIntMapKeysPinLaw", "has", "([JJ)Z"⟩ : MethodName) (head1 (Jvm.Cond.code (⟨"com/example/modest_tree_automata/modesttreeautomata/LongIntMapKeysPinLaw", "has", "([JJ)Z"⟩ : MethodName) method_2_code 3 (some .boolean) :: ws) ({ frames := 0, cells := 0, slots := 0, locals := 0 } : Room)) (fun a U => a = #[(.ref o0), (.long q1)] ∧ Z.Warmed39 U.vm ∧ U.heap = h0) (fun _ _ _ _ _ => True) (fun _ U o U' => ∃ v L, o = .returned v ∧ Q6 Z o0 q1 kk z1 LL x0 x1 x2 x3 h0 n0 v U'.heap L ∧ FrameEnd U o U' L ({ frames := 0, cells := 0, slots := 0, locals := 0 } : Room).cells ({ frames := 0, cells := 0, slots := 0, locals := 0 } : Room).slots) := by
  refine MetFree.of_bodySF (plainFor_of_name pn_0) hisR ?_
  intro p e s m args below meth c s₁ Bd hml0 hP hK
  obtain ⟨rfl, hZ, hh⟩ := hP
  have hx := Bd.exec
  have hby := Bd.bytes
  have hml : c.maxLocals = 3 := hml0
  have hown : s.vm.findClass "com/example/modest_tree_automata/modesttreeautomata/LongIntMapKeysPinLaw" = some m.cls := findClass_of_methodNamed Bd.named
  have hnm := (name_of_methodNamed Bd.named Bd.method).1
  have X0 : Stand p l e ({ frames := 0, cells := 0, slots := 0, locals := 0 } : Room) s m #[(.ref o0), (.long q1)] below meth c s₁ [] 0 0 := Stand.of_body Bd
  have e0 : s₁.heap = h0 := by rw [← hh, Bd.state]; rfl
  have N0 := Fr.nil n0
  have K0 := Keep.refl h0 []
  suffices hgo : Goes p.tables e below (fun s₂ o => ∃ v L, o = .returned v ∧ Q6 Z o0 q1 kk z1 LL x0 x1 x2 x3 h0 n0 v s₂.heap L ∧ FrameEnd s o s₂ L ({ frames := 0, cells := 0, slots := 0, locals := 0 } : Room).cells ({ frames := 0, cells := 0, slots := 0, locals := 0 } : Room).slots) (s₁.setTop (mkF m 0 #[rv o0, jv q1, .second] [])) from goEnd (fun t k => castTop (ef_6 m o0 q1) k) hgo
  refine go (fun t kt => XS.aloadN X0.here hx rfl (hb hby d6_0) rfl rfl kt) ?_
  show Go p e below _ m s₁ 1 #[rv o0, jv q1, .second] [(.ref o0)]
  obtain ⟨cl1, Ar1, qc1, S1, M1, H1, G1⟩ := id V_o0
  refine go (X0.arraylength hx (by rw [e0]; exact Ar1.1) (State.isArrayOf_alike hZ.alike Ar1.2.1) (g := (mkF m 1 #[rv o0, jv q1, .second] [(.ref o0)])) rfl rfl (hb hby d6_1)) ?_
  rw [len_of S1 M1]
  show Go p e below _ m s₁ 2 #[rv o0, jv q1, .second] [(.int z1)]
  by_cases hc2 : (0 : Int32) < z1
  ·
    refine go (fun t kt => XS.ifNo X0.here hx rfl (hb hby d6_2) rfl ((if0 _ _).trans (tlt hc2).2.2.2) kt) ?_
    show Go p e below _ m s₁ 5 #[rv o0, jv q1, .second] []
    refine go (fun t kt => XS.aloadN X0.here hx rfl (hb hby d6_5) rfl rfl kt) ?_
    show Go p e below _ m s₁ 6 #[rv o0, jv q1, .second] [(.ref o0)]
    refine go (fun t kt => XS.iconst X0.here hx rfl (hb hby d6_6) kt) ?_
    show Go p e below _ m s₁ 7 #[rv o0, jv q1, .second] [(.int (0 : Int32)), (.ref o0)]
    obtain ⟨cl3, Ar3, qc3, S3, M3, H3, G3⟩ := id V_o0
    have hin3 : ¬ ((0 : Int32) < 0 ∨ cl3.slots.size ≤ ((0 : Int32)).toNatClampNeg) := inb_of S3 ⟨by decide, hc2⟩
    have hat3 : cl3.slots[((0 : Int32)).toNatClampNeg]? = some (.long x0) := H3.at hin3 hx0
    refine go (X0.laload hx (j := (0 : Int32)) (v := (.long x0)) (by rw [e0]; exact Ar3.1) (State.isArrayOf_alike hZ.alike Ar3.2.1) Ar3.2.2 hin3 hat3 (g := (mkF m 7 #[rv o0, jv q1, .second] [(.int (0 : Int32)), (.ref o0)])) rfl rfl (hb hby d6_7)) ?_
    show Go p e below _ m s₁ 8 #[rv o0, jv q1, .second] [(.long x0)]
    refine go (fun t kt => XS.lloadN X0.here hx rfl (hb hby d6_8) rfl kt) ?_
    show Go p e below _ m s₁ 9 #[rv o0, jv q1, .second] [(.long q1), (.long x0)]
    refine go (fun t kt => XS.lcmp X0.here hx rfl (hb hby d6_9) rfl kt) ?_
    show Go p e below _ m s₁ 10 #[rv o0, jv q1, .second] [(.int (lcmpW x0 q1))]
    by_cases hc4 : x0 = q1
    ·
      refine go (fun t kt => XS.ifYes X0.here hx rfl (pc0 := 10) (pc' := 55) rfl (hb hby d6_10) rfl ((if0 _ _).trans (teq ((lw_eq x0 q1).mpr hc4)).1) (by decide) (by decide) kt) ?_
      show Go p e below _ m s₁ 55 #[rv o0, jv q1, .second] []
      refine go (fun t kt => XS.iconst X0.here hx rfl (hb hby d6_55) kt) ?_
      show Go p e below _ m s₁ 56 #[rv o0, jv q1, .second] [(.int (1 : Int32))]
      refine go (fun t kt => XS.goto X0.here hx rfl (pc0 := 56) (pc' := 60) rfl (hb hby d6_56) (by decide) (by decide) kt) ?_
      show Go p e below _ m s₁ 60 #[rv o0, jv q1, .second] [(.int (1 : Int32))]
      obtain ⟨fs, hr, hrun, hended, hW, hsame⟩ := X0.leave (v := some (.int (1 : Int32))) (fun h => by rw [Bd.returns] at h; cases h)
      refine ⟨_, _, retN X0 hx (t := .boolean) Bd.returns (by simp) (hb hby d6_60) hr, hrun, hended, _, _, rfl, ?_, ⟨_, rfl⟩, hW, hsame.mono (by decide) (by decide)⟩
      show Q6 Z o0 q1 kk z1 LL x0 x1 x2 x3 h0 n0 _ s₁.heap _
      rw [e0]
      exact ⟨(by unfold own_has; rw [if_pos hc2, if_pos hc4]), N0, rfl⟩
    ·
      refine go (fun t kt => XS.ifNo X0.here hx rfl (hb hby d6_10) rfl ((if0 _ _).trans (feq (fun q => hc4 ((lw_eq x0 q1).mp q))).1) kt) ?_
      show Go p e below _ m s₁ 13 #[rv o0, jv q1, .second] []
      refine go (fun t kt => XS.aloadN X0.here hx rfl (hb hby d6_13) rfl rfl kt) ?_
      show Go p e below _ m s₁ 14 #[rv o0, jv q1, .second] [(.ref o0)]
      obtain ⟨cl6, Ar6, qc6, S6, M6, H6, G6⟩ := id V_o0
      refine go (X0.arraylength hx (by rw [e0]; exact Ar6.1) (State.isArrayOf_alike hZ.alike Ar6.2.1) (g := (mkF m 14 #[rv o0, jv q1, .second] [(.ref o0)])) rfl rfl (hb hby d6_14)) ?_
      rw [len_of S6 M6]
      show Go p e below _ m s₁ 15 #[rv o0, jv q1, .second] [(.int z1)]
      refine go (fun t kt => XS.iconst X0.here hx rfl (hb hby d6_15) kt) ?_
      show Go p e below _ m s₁ 16 #[rv o0, jv q1, .second] [(.int (1 : Int32)), (.int z1)]
      by_cases hc7 : (1 : Int32) < z1
      ·
        refine go (fun t kt => XS.icmpNo X0.here hx rfl (hb hby d6_16) rfl (tlt hc7).2.2.2 kt) ?_
        show Go p e below _ m s₁ 19 #[rv o0, jv q1, .second] []
        refine go (fun t kt => XS.aloadN X0.here hx rfl (hb hby d6_19) rfl rfl kt) ?_
        show Go p e below _ m s₁ 20 #[rv o0, jv q1, .second] [(.ref o0)]
        refine go (fun t kt => XS.iconst X0.here hx rfl (hb hby d6_20) kt) ?_
        show Go p e below _ m s₁ 21 #[rv o0, jv q1, .second] [(.int (1 : Int32)), (.ref o0)]
        obtain ⟨cl8, Ar8, qc8, S8, M8, H8, G8⟩ := id V_o0
        have hin8 : ¬ ((1 : Int32) < 0 ∨ cl8.slots.size ≤ ((1 : Int32)).toNatClampNeg) := inb_of S8 ⟨by decide, hc7⟩
        have hat8 : cl8.slots[((1 : Int32)).toNatClampNeg]? = some (.long x1) := H8.at hin8 hx1
        refine go (X0.laload hx (j := (1 : Int32)) (v := (.long x1)) (by rw [e0]; exact Ar8.1) (State.isArrayOf_alike hZ.alike Ar8.2.1) Ar8.2.2 hin8 hat8 (g := (mkF m 21 #[rv o0, jv q1, .second] [(.int (1 : Int32)), (.ref o0)])) rfl rfl (hb hby d6_21)) ?_
        show Go p e below _ m s₁ 22 #[rv o0, jv q1, .second] [(.long x1)]
        refine go (fun t kt => XS.lloadN X0.here hx rfl (hb hby d6_22) rfl kt) ?_
        show Go p e below _ m s₁ 23 #[rv o0, jv q1, .second] [(.long q1), (.long x1)]
        refine go (fun t kt => XS.lcmp X0.here hx rfl (hb hby d6_23) rfl kt) ?_
        show Go p e below _ m s₁ 24 #[rv o0, jv q1, .second] [(.int (lcmpW x1 q1))]
        by_cases hc9 : x1 = q1
        ·
          refine go (fun t kt => XS.ifYes X0.here hx rfl (pc0 := 24) (pc' := 55) rfl (hb hby d6_24) rfl ((if0 _ _).trans (teq ((lw_eq x1 q1).mpr hc9)).1) (by decide) (by decide) kt) ?_
          show Go p e below _ m s₁ 55 #[rv o0, jv q1, .second] []
          refine go (fun t kt => XS.iconst X0.here hx rfl (hb hby d6_55) kt) ?_
          show Go p e below _ m s₁ 56 #[rv o0, jv q1, .second] [(.int (1 : Int32))]
          refine go (fun t kt => XS.goto X0.here hx rfl (pc0 := 56) (pc' := 60) rfl (hb hby d6_56) (by decide) (by decide) kt) ?_
          show Go p e below _ m s₁ 60 #[rv o0, jv q1, .second] [(.int (1 : Int32))]
          obtain ⟨fs, hr, hrun, hended, hW, hsame⟩ := X0.leave (v := some (.int (1 : Int32))) (fun h => by rw [Bd.returns] at h; cases h)
          refine ⟨_, _, retN X0 hx (t := .boolean) Bd.returns (by simp) (hb hby d6_60) hr, hrun, hended, _, _, rfl, ?_, ⟨_, rfl⟩, hW, hsame.mono (by decide) (by decide)⟩
          show Q6 Z o0 q1 kk z1 LL x0 x1 x2 x3 h0 n0 _ s₁.heap _
          rw [e0]
          exact ⟨(by unfold own_has; rw [if_pos hc2, if_neg hc4, if_pos hc7, if_pos hc9]), N0, rfl⟩
        ·
          refine go (fun t kt => XS.ifNo X0.here hx rfl (hb hby d6_24) rfl ((if0 _ _).trans (feq (fun q => hc9 ((lw_eq x1 q1).mp q))).1) kt) ?_
          show Go p e below _ m s₁ 27 #[rv o0, jv q1, .second] []
          refine go (fun t kt => XS.aloadN X0.here hx rfl (hb hby d6_27) rfl rfl kt) ?_
          show Go p e below _ m s₁ 28 #[rv o0, jv q1, .second] [(.ref o0)]
          obtain ⟨cl11, Ar11, qc11, S11, M11, H11, G11⟩ := id V_o0
          refine go (X0.arraylength hx (by rw [e0]; exact Ar11.1) (State.isArrayOf_alike hZ.alike Ar11.2.1) (g := (mkF m 28 #[rv o0, jv q1, .second] [(.ref o0)])) rfl rfl (hb hby d6_28)) ?_
          rw [len_of S11 M11]
          show Go p e below _ m s₁ 29 #[rv o0, jv q1, .second] [(.int z1)]
          refine go (fun t kt => XS.iconst X0.here hx rfl (hb hby d6_29) kt) ?_
          show Go p e below _ m s₁ 30 #[rv o0, jv q1, .second] [(.int (2 : Int32)), (.int z1)]
          by_cases hc12 : (2 : Int32) < z1
          ·
            refine go (fun t kt => XS.icmpNo X0.here hx rfl (hb hby d6_30) rfl (tlt hc12).2.2.2 kt) ?_
            show Go p e below _ m s₁ 33 #[rv o0, jv q1, .second] []
            refine go (fun t kt => XS.aloadN X0.here hx rfl (hb hby d6_33) rfl rfl kt) ?_
            show Go p e below _ m s₁ 34 #[rv o0, jv q1, .second] [(.ref o0)]
            refine go (fun t kt => XS.iconst X0.here hx rfl (hb hby d6_34) kt) ?_
            show Go p e below _ m s₁ 35 #[rv o0, jv q1, .second] [(.int (2 : Int32)), (.ref o0)]
            obtain ⟨cl13, Ar13, qc13, S13, M13, H13, G13⟩ := id V_o0
            have hin13 : ¬ ((2 : Int32) < 0 ∨ cl13.slots.size ≤ ((2 : Int32)).toNatClampNeg) := inb_of S13 ⟨by decide, hc12⟩
            have hat13 : cl13.slots[((2 : Int32)).toNatClampNeg]? = some (.long x2) := H13.at hin13 hx2
            refine go (X0.laload hx (j := (2 : Int32)) (v := (.long x2)) (by rw [e0]; exact Ar13.1) (State.isArrayOf_alike hZ.alike Ar13.2.1) Ar13.2.2 hin13 hat13 (g := (mkF m 35 #[rv o0, jv q1, .second] [(.int (2 : Int32)), (.ref o0)])) rfl rfl (hb hby d6_35)) ?_
            show Go p e below _ m s₁ 36 #[rv o0, jv q1, .second] [(.long x2)]
            refine go (fun t kt => XS.lloadN X0.here hx rfl (hb hby d6_36) rfl kt) ?_
            show Go p e below _ m s₁ 37 #[rv o0, jv q1, .second] [(.long q1), (.long x2)]
            refine go (fun t kt => XS.lcmp X0.here hx rfl (hb hby d6_37) rfl kt) ?_
            show Go p e below _ m s₁ 38 #[rv o0, jv q1, .second] [(.int (lcmpW x2 q1))]
            by_cases hc14 : x2 = q1
            ·
              refine go (fun t kt => XS.ifYes X0.here hx rfl (pc0 := 38) (pc' := 55) rfl (hb hby d6_38) rfl ((if0 _ _).trans (teq ((lw_eq x2 q1).mpr hc14)).1) (by decide) (by decide) kt) ?_
              show Go p e below _ m s₁ 55 #[rv o0, jv q1, .second] []
              refine go (fun t kt => XS.iconst X0.here hx rfl (hb hby d6_55) kt) ?_
              show Go p e below _ m s₁ 56 #[rv o0, jv q1, .second] [(.int (1 : Int32))]
              refine go (fun t kt => XS.goto X0.here hx rfl (pc0 := 56) (pc' := 60) rfl (hb hby d6_56) (by decide) (by decide) kt) ?_
              show Go p e below _ m s₁ 60 #[rv o0, jv q1, .second] [(.int (1 : Int32))]
              obtain ⟨fs, hr, hrun, hended, hW, hsame⟩ := X0.leave (v := some (.int (1 : Int32))) (fun h => by rw [Bd.returns] at h; cases h)
              refine ⟨_, _, retN X0 hx (t := .boolean) Bd.returns (by simp) (hb hby d6_60) hr, hrun, hended, _, _, rfl, ?_, ⟨_, rfl⟩, hW, hsame.mono (by decide) (by decide)⟩
              show Q6 Z o0 q1 kk z1 LL x0 x1 x2 x3 h0 n0 _ s₁.heap _
              rw [e0]
              exact ⟨(by unfold own_has; rw [if_pos hc2, if_neg hc4, if_pos hc7, if_neg hc9, if_pos hc12, if_pos hc14]), N0, rfl⟩
            ·
              refine go (fun t kt => XS.ifNo X0.here hx rfl (hb hby d6_38) rfl ((if0 _ _).trans (feq (fun q => hc14 ((lw_eq x2 q1).mp q))).1) kt) ?_
              show Go p e below _ m s₁ 41 #[rv o0, jv q1, .second] []
              refine go (fun t kt => XS.aloadN X0.here hx rfl (hb hby d6_41) rfl rfl kt) ?_
              show Go p e below _ m s₁ 42 #[rv o0, jv q1, .second] [(.ref o0)]
              obtain ⟨cl16, Ar16, qc16, S16, M16, H16, G16⟩ := id V_o0
              refine go (X0.arraylength hx (by rw [e0]; exact Ar16.1) (State.isArrayOf_alike hZ.alike Ar16.2.1) (g := (mkF m 42 #[rv o0, jv q1, .second] [(.ref o0)])) rfl rfl (hb hby d6_42)) ?_
              rw [len_of S16 M16]
              show Go p e below _ m s₁ 43 #[rv o0, jv q1, .second] [(.int z1)]
              refine go (fun t kt => XS.iconst X0.here hx rfl (hb hby d6_43) kt) ?_
              show Go p e below _ m s₁ 44 #[rv o0, jv q1, .second] [(.int (3 : Int32)), (.int z1)]
              by_cases hc17 : (3 : Int32) < z1
              ·
                refine go (fun t kt => XS.icmpNo X0.here hx rfl (hb hby d6_44) rfl (tlt hc17).2.2.2 kt) ?_
                show Go p e below _ m s₁ 47 #[rv o0, jv q1, .second] []
                refine go (fun t kt => XS.aloadN X0.here hx rfl (hb hby d6_47) rfl rfl kt) ?_
                show Go p e below _ m s₁ 48 #[rv o0, jv q1, .second] [(.ref o0)]
                refine go (fun t kt => XS.iconst X0.here hx rfl (hb hby d6_48) kt) ?_
                show Go p e below _ m s₁ 49 #[rv o0, jv q1, .second] [(.int (3 : Int32)), (.ref o0)]
                obtain ⟨cl18, Ar18, qc18, S18, M18, H18, G18⟩ := id V_o0
                have hin18 : ¬ ((3 : Int32) < 0 ∨ cl18.slots.size ≤ ((3 : Int32)).toNatClampNeg) := inb_of S18 ⟨by decide, hc17⟩
                have hat18 : cl18.slots[((3 : Int32)).toNatClampNeg]? = some (.long x3) := H18.at hin18 hx3
                refine go (X0.laload hx (j := (3 : Int32)) (v := (.long x3)) (by rw [e0]; exact Ar18.1) (State.isArrayOf_alike hZ.alike Ar18.2.1) Ar18.2.2 hin18 hat18 (g := (mkF m 49 #[rv o0, jv q1, .second] [(.int (3 : Int32)), (.ref o0)])) rfl rfl (hb hby d6_49)) ?_
                show Go p e below _ m s₁ 50 #[rv o0, jv q1, .second] [(.long x3)]
                refine go (fun t kt => XS.lloadN X0.here hx rfl (hb hby d6_50) rfl kt) ?_
                show Go p e below _ m s₁ 51 #[rv o0, jv q1, .second] [(.long q1), (.long x3)]
                refine go (fun t kt => XS.lcmp X0.here hx rfl (hb hby d6_51) rfl kt) ?_
                show Go p e below _ m s₁ 52 #[rv o0, jv q1, .second] [(.int (lcmpW x3 q1))]
                by_cases hc19 : x3 = q1
                ·
                  refine go (fun t kt => XS.ifNo X0.here hx rfl (hb hby d6_52) rfl ((if0 _ _).trans (teq ((lw_eq x3 q1).mpr hc19)).2) kt) ?_
                  show Go p e below _ m s₁ 55 #[rv o0, jv q1, .second] []
                  refine go (fun t kt => XS.iconst X0.here hx rfl (hb hby d6_55) kt) ?_
                  show Go p e below _ m s₁ 56 #[rv o0, jv q1, .second] [(.int (1 : Int32))]
                  refine go (fun t kt => XS.goto X0.here hx rfl (pc0 := 56) (pc' := 60) rfl (hb hby d6_56) (by decide) (by decide) kt) ?_
                  show Go p e below _ m s₁ 60 #[rv o0, jv q1, .second] [(.int (1 : Int32))]
                  obtain ⟨fs, hr, hrun, hended, hW, hsame⟩ := X0.leave (v := some (.int (1 : Int32))) (fun h => by rw [Bd.returns] at h; cases h)
                  refine ⟨_, _, retN X0 hx (t := .boolean) Bd.returns (by simp) (hb hby d6_60) hr, hrun, hended, _, _, rfl, ?_, ⟨_, rfl⟩, hW, hsame.mono (by decide) (by decide)⟩
                  show Q6 Z o0 q1 kk z1 LL x0 x1 x2 x3 h0 n0 _ s₁.heap _
                  rw [e0]
                  exact ⟨(by unfold own_has; rw [if_pos hc2, if_neg hc4, if_pos hc7, if_neg hc9, if_pos hc12, if_neg hc14, if_pos hc17, if_pos hc19]), N0, rfl⟩
                ·
                  refine go (fun t kt => XS.ifYes X0.here hx rfl (pc0 := 52) (pc' := 59) rfl (hb hby d6_52) rfl ((if0 _ _).trans (feq (fun q => hc19 ((lw_eq x3 q1).mp q))).2) (by decide) (by decide) kt) ?_
                  show Go p e below _ m s₁ 59 #[rv o0, jv q1, .second] []
                  refine go (fun t kt => XS.iconst X0.here hx rfl (hb hby d6_59) kt) ?_
                  show Go p e below _ m s₁ 60 #[rv o0, jv q1, .second] [(.int (0 : Int32))]
                  obtain ⟨fs, hr, hrun, hended, hW, hsame⟩ := X0.leave (v := some (.int (0 : Int32))) (fun h => by rw [Bd.returns] at h; cases h)
                  refine ⟨_, _, retN X0 hx (t := .boolean) Bd.returns (by simp) (hb hby d6_60) hr, hrun, hended, _, _, rfl, ?_, ⟨_, rfl⟩, hW, hsame.mono (by decide) (by decide)⟩
                  show Q6 Z o0 q1 kk z1 LL x0 x1 x2 x3 h0 n0 _ s₁.heap _
                  rw [e0]
                  exact ⟨(by unfold own_has; rw [if_pos hc2, if_neg hc4, if_pos hc7, if_neg hc9, if_pos hc12, if_neg hc14, if_pos hc17, if_neg hc19]), N0, rfl⟩
              ·
                refine go (fun t kt => XS.icmpYes X0.here hx rfl (pc0 := 44) (pc' := 59) rfl (hb hby d6_44) rfl (flt hc17).2.2.2 (by decide) (by decide) kt) ?_
                show Go p e below _ m s₁ 59 #[rv o0, jv q1, .second] []
                refine go (fun t kt => XS.iconst X0.here hx rfl (hb hby d6_59) kt) ?_
                show Go p e below _ m s₁ 60 #[rv o0, jv q1, .second] [(.int (0 : Int32))]
                obtain ⟨fs, hr, hrun, hended, hW, hsame⟩ := X0.leave (v := some (.int (0 : Int32))) (fun h => by rw [Bd.returns] at h; cases h)
                refine ⟨_, _, retN X0 hx (t := .boolean) Bd.returns (by simp) (hb hby d6_60) hr, hrun, hended, _, _, rfl, ?_, ⟨_, rfl⟩, hW, hsame.mono (by decide) (by decide)⟩
                show Q6 Z o0 q1 kk z1 LL x0 x1 x2 x3 h0 n0 _ s₁.heap _
                rw [e0]
                exact ⟨(by unfold own_has; rw [if_pos hc2, if_neg hc4, if_pos hc7, if_neg hc9, if_pos hc12, if_neg hc14, if_neg hc17]), N0, rfl⟩
          ·
            refine go (fun t kt => XS.icmpYes X0.here hx rfl (pc0 := 30) (pc' := 41) rfl (hb hby d6_30) rfl (flt hc12).2.2.2 (by decide) (by decide) kt) ?_
            show Go p e below _ m s₁ 41 #[rv o0, jv q1, .second] []
            refine go (fun t kt => XS.aloadN X0.here hx rfl (hb hby d6_41) rfl rfl kt) ?_
            show Go p e below _ m s₁ 42 #[rv o0, jv q1, .second] [(.ref o0)]
            obtain ⟨cl23, Ar23, qc23, S23, M23, H23, G23⟩ := id V_o0
            refine go (X0.arraylength hx (by rw [e0]; exact Ar23.1) (State.isArrayOf_alike hZ.alike Ar23.2.1) (g := (mkF m 42 #[rv o0, jv q1, .second] [(.ref o0)])) rfl rfl (hb hby d6_42)) ?_
            rw [len_of S23 M23]
            show Go p e below _ m s₁ 43 #[rv o0, jv q1, .second] [(.int z1)]
            refine go (fun t kt => XS.iconst X0.here hx rfl (hb hby d6_43) kt) ?_
            show Go p e below _ m s₁ 44 #[rv o0, jv q1, .second] [(.int (3 : Int32)), (.int z1)]
            by_cases hc24 : (3 : Int32) < z1
            ·
              refine go (fun t kt => XS.icmpNo X0.here hx rfl (hb hby d6_44) rfl (tlt hc24).2.2.2 kt) ?_
              show Go p e below _ m s₁ 47 #[rv o0, jv q1, .second] []
              refine go (fun t kt => XS.aloadN X0.here hx rfl (hb hby d6_47) rfl rfl kt) ?_
              show Go p e below _ m s₁ 48 #[rv o0, jv q1, .second] [(.ref o0)]
              refine go (fun t kt => XS.iconst X0.here hx rfl (hb hby d6_48) kt) ?_
              show Go p e below _ m s₁ 49 #[rv o0, jv q1, .second] [(.int (3 : Int32)), (.ref o0)]
              obtain ⟨cl25, Ar25, qc25, S25, M25, H25, G25⟩ := id V_o0
              have hin25 : ¬ ((3 : Int32) < 0 ∨ cl25.slots.size ≤ ((3 : Int32)).toNatClampNeg) := inb_of S25 ⟨by decide, hc24⟩
              have hat25 : cl25.slots[((3 : Int32)).toNatClampNeg]? = some (.long x3) := H25.at hin25 hx3
              refine go (X0.laload hx (j := (3 : Int32)) (v := (.long x3)) (by rw [e0]; exact Ar25.1) (State.isArrayOf_alike hZ.alike Ar25.2.1) Ar25.2.2 hin25 hat25 (g := (mkF m 49 #[rv o0, jv q1, .second] [(.int (3 : Int32)), (.ref o0)])) rfl rfl (hb hby d6_49)) ?_
              show Go p e below _ m s₁ 50 #[rv o0, jv q1, .second] [(.long x3)]
              refine go (fun t kt => XS.lloadN X0.here hx rfl (hb hby d6_50) rfl kt) ?_
              show Go p e below _ m s₁ 51 #[rv o0, jv q1, .second] [(.long q1), (.long x3)]
              refine go (fun t kt => XS.lcmp X0.here hx rfl (hb hby d6_51) rfl kt) ?_
              show Go p e below _ m s₁ 52 #[rv o0, jv q1, .second] [(.int (lcmpW x3 q1))]
              by_cases hc26 : x3 = q1
              ·
                refine go (fun t kt => XS.ifNo X0.here hx rfl (hb hby d6_52) rfl ((if0 _ _).trans (teq ((lw_eq x3 q1).mpr hc26)).2) kt) ?_
                show Go p e below _ m s₁ 55 #[rv o0, jv q1, .second] []
                refine go (fun t kt => XS.iconst X0.here hx rfl (hb hby d6_55) kt) ?_
                show Go p e below _ m s₁ 56 #[rv o0, jv q1, .second] [(.int (1 : Int32))]
                refine go (fun t kt => XS.goto X0.here hx rfl (pc0 := 56) (pc' := 60) rfl (hb hby d6_56) (by decide) (by decide) kt) ?_
                show Go p e below _ m s₁ 60 #[rv o0, jv q1, .second] [(.int (1 : Int32))]
                obtain ⟨fs, hr, hrun, hended, hW, hsame⟩ := X0.leave (v := some (.int (1 : Int32))) (fun h => by rw [Bd.returns] at h; cases h)
                refine ⟨_, _, retN X0 hx (t := .boolean) Bd.returns (by simp) (hb hby d6_60) hr, hrun, hended, _, _, rfl, ?_, ⟨_, rfl⟩, hW, hsame.mono (by decide) (by decide)⟩
                show Q6 Z o0 q1 kk z1 LL x0 x1 x2 x3 h0 n0 _ s₁.heap _
                rw [e0]
                exact ⟨(by unfold own_has; rw [if_pos hc2, if_neg hc4, if_pos hc7, if_neg hc9, if_neg hc12, if_pos hc24, if_pos hc26]), N0, rfl⟩
              ·
                refine go (fun t kt => XS.ifYes X0.here hx rfl (pc0 := 52) (pc' := 59) rfl (hb hby d6_52) rfl ((if0 _ _).trans (feq (fun q => hc26 ((lw_eq x3 q1).mp q))).2) (by decide) (by decide) kt) ?_
                show Go p e below _ m s₁ 59 #[rv o0, jv q1, .second] []
                refine go (fun t kt => XS.iconst X0.here hx rfl (hb hby d6_59) kt) ?_
                show Go p e below _ m s₁ 60 #[rv o0, jv q1, .second] [(.int (0 : Int32))]
                obtain ⟨fs, hr, hrun, hended, hW, hsame⟩ := X0.leave (v := some (.int (0 : Int32))) (fun h => by rw [Bd.returns] at h; cases h)
                refine ⟨_, _, retN X0 hx (t := .boolean) Bd.returns (by simp) (hb hby d6_60) hr, hrun, hended, _, _, rfl, ?_, ⟨_, rfl⟩, hW, hsame.mono (by decide) (by decide)⟩
                show Q6 Z o0 q1 kk z1 LL x0 x1 x2 x3 h0 n0 _ s₁.heap _
                rw [e0]
                exact ⟨(by unfold own_has; rw [if_pos hc2, if_neg hc4, if_pos hc7, if_neg hc9, if_neg hc12, if_pos hc24, if_neg hc26]), N0, rfl⟩
            ·
              refine go (fun t kt => XS.icmpYes X0.here hx rfl (pc0 := 44) (pc' := 59) rfl (hb hby d6_44) rfl (flt hc24).2.2.2 (by decide) (by decide) kt) ?_
              show Go p e below _ m s₁ 59 #[rv o0, jv q1, .second] []
              refine go (fun t kt => XS.iconst X0.here hx rfl (hb hby d6_59) kt) ?_
              show Go p e below _ m s₁ 60 #[rv o0, jv q1, .second] [(.int (0 : Int32))]
              obtain ⟨fs, hr, hrun, hended, hW, hsame⟩ := X0.leave (v := some (.int (0 : Int32))) (fun h => by rw [Bd.returns] at h; cases h)
              refine ⟨_, _, retN X0 hx (t := .boolean) Bd.returns (by simp) (hb hby d6_60) hr, hrun, hended, _, _, rfl, ?_, ⟨_, rfl⟩, hW, hsame.mono (by decide) (by decide)⟩
              show Q6 Z o0 q1 kk z1 LL x0 x1 x2 x3 h0 n0 _ s₁.heap _
              rw [e0]
              exact ⟨(by unfold own_has; rw [if_pos hc2, if_neg hc4, if_pos hc7, if_neg hc9, if_neg hc12, if_neg hc24]), N0, rfl⟩
      ·
        refine go (fun t kt => XS.icmpYes X0.here hx rfl (pc0 := 16) (pc' := 27) rfl (hb hby d6_16) rfl (flt hc7).2.2.2 (by decide) (by decide) kt) ?_
        show Go p e below _ m s₁ 27 #[rv o0, jv q1, .second] []
        refine go (fun t kt => XS.aloadN X0.here hx rfl (hb hby d6_27) rfl rfl kt) ?_
        show Go p e below _ m s₁ 28 #[rv o0, jv q1, .second] [(.ref o0)]
        obtain ⟨cl30, Ar30, qc30, S30, M30, H30, G30⟩ := id V_o0
        refine go (X0.arraylength hx (by rw [e0]; exact Ar30.1) (State.isArrayOf_alike hZ.alike Ar30.2.1) (g := (mkF m 28 #[rv o0, jv q1, .second] [(.ref o0)])) rfl rfl (hb hby d6_28)) ?_
        rw [len_of S30 M30]
        show Go p e below _ m s₁ 29 #[rv o0, jv q1, .second] [(.int z1)]
        refine go (fun t kt => XS.iconst X0.here hx rfl (hb hby d6_29) kt) ?_
        show Go p e below _ m s₁ 30 #[rv o0, jv q1, .second] [(.int (2 : Int32)), (.int z1)]
        by_cases hc31 : (2 : Int32) < z1
        ·
          refine go (fun t kt => XS.icmpNo X0.here hx rfl (hb hby d6_30) rfl (tlt hc31).2.2.2 kt) ?_
          show Go p e below _ m s₁ 33 #[rv o0, jv q1, .second] []
          refine go (fun t kt => XS.aloadN X0.here hx rfl (hb hby d6_33) rfl rfl kt) ?_
          show Go p e below _ m s₁ 34 #[rv o0, jv q1, .second] [(.ref o0)]
          refine go (fun t kt => XS.iconst X0.here hx rfl (hb hby d6_34) kt) ?_
          show Go p e below _ m s₁ 35 #[rv o0, jv q1, .second] [(.int (2 : Int32)), (.ref o0)]
          obtain ⟨cl32, Ar32, qc32, S32, M32, H32, G32⟩ := id V_o0
          have hin32 : ¬ ((2 : Int32) < 0 ∨ cl32.slots.size ≤ ((2 : Int32)).toNatClampNeg) := inb_of S32 ⟨by decide, hc31⟩
          have hat32 : cl32.slots[((2 : Int32)).toNatClampNeg]? = some (.long x2) := H32.at hin32 hx2
          refine go (X0.laload hx (j := (2 : Int32)) (v := (.long x2)) (by rw [e0]; exact Ar32.1) (State.isArrayOf_alike hZ.alike Ar32.2.1) Ar32.2.2 hin32 hat32 (g := (mkF m 35 #[rv o0, jv q1, .second] [(.int (2 : Int32)), (.ref o0)])) rfl rfl (hb hby d6_35)) ?_
          show Go p e below _ m s₁ 36 #[rv o0, jv q1, .second] [(.long x2)]
          refine go (fun t kt => XS.lloadN X0.here hx rfl (hb hby d6_36) rfl kt) ?_
          show Go p e below _ m s₁ 37 #[rv o0, jv q1, .second] [(.long q1), (.long x2)]
          refine go (fun t kt => XS.lcmp X0.here hx rfl (hb hby d6_37) rfl kt) ?_
          show Go p e below _ m s₁ 38 #[rv o0, jv q1, .second] [(.int (lcmpW x2 q1))]
          by_cases hc33 : x2 = q1
          ·
            refine go (fun t kt => XS.ifYes X0.here hx rfl (pc0 := 38) (pc' := 55) rfl (hb hby d6_38) rfl ((if0 _ _).trans (teq ((lw_eq x2 q1).mpr hc33)).1) (by decide) (by decide) kt) ?_
            show Go p e below _ m s₁ 55 #[rv o0, jv q1, .second] []
            refine go (fun t kt => XS.iconst X0.here hx rfl (hb hby d6_55) kt) ?_
            show Go p e below _ m s₁ 56 #[rv o0, jv q1, .second] [(.int (1 : Int32))]
            refine go (fun t kt => XS.goto X0.here hx rfl (pc0 := 56) (pc' := 60) rfl (hb hby d6_56) (by decide) (by decide) kt) ?_
            show Go p e below _ m s₁ 60 #[rv o0, jv q1, .second] [(.int (1 : Int32))]
            obtain ⟨fs, hr, hrun, hended, hW, hsame⟩ := X0.leave (v := some (.int (1 : Int32))) (fun h => by rw [Bd.returns] at h; cases h)
            refine ⟨_, _, retN X0 hx (t := .boolean) Bd.returns (by simp) (hb hby d6_60) hr, hrun, hended, _, _, rfl, ?_, ⟨_, rfl⟩, hW, hsame.mono (by decide) (by decide)⟩
            show Q6 Z o0 q1 kk z1 LL x0 x1 x2 x3 h0 n0 _ s₁.heap _
            rw [e0]
            exact ⟨(by unfold own_has; rw [if_pos hc2, if_neg hc4, if_neg hc7, if_pos hc31, if_pos hc33]), N0, rfl⟩
          ·
            refine go (fun t kt => XS.ifNo X0.here hx rfl (hb hby d6_38) rfl ((if0 _ _).trans (feq (fun q => hc33 ((lw_eq x2 q1).mp q))).1) kt) ?_
            show Go p e below _ m s₁ 41 #[rv o0, jv q1, .second] []
            refine go (fun t kt => XS.aloadN X0.here hx rfl (hb hby d6_41) rfl rfl kt) ?_
            show Go p e below _ m s₁ 42 #[rv o0, jv q1, .second] [(.ref o0)]
            obtain ⟨cl35, Ar35, qc35, S35, M35, H35, G35⟩ := id V_o0
            refine go (X0.arraylength hx (by rw [e0]; exact Ar35.1) (State.isArrayOf_alike hZ.alike Ar35.2.1) (g := (mkF m 42 #[rv o0, jv q1, .second] [(.ref o0)])) rfl rfl (hb hby d6_42)) ?_
            rw [len_of S35 M35]
            show Go p e below _ m s₁ 43 #[rv o0, jv q1, .second] [(.int z1)]
            refine go (fun t kt => XS.iconst X0.here hx rfl (hb hby d6_43) kt) ?_
            show Go p e below _ m s₁ 44 #[rv o0, jv q1, .second] [(.int (3 : Int32)), (.int z1)]
            by_cases hc36 : (3 : Int32) < z1
            ·
              refine go (fun t kt => XS.icmpNo X0.here hx rfl (hb hby d6_44) rfl (tlt hc36).2.2.2 kt) ?_
              show Go p e below _ m s₁ 47 #[rv o0, jv q1, .second] []
              refine go (fun t kt => XS.aloadN X0.here hx rfl (hb hby d6_47) rfl rfl kt) ?_
              show Go p e below _ m s₁ 48 #[rv o0, jv q1, .second] [(.ref o0)]
              refine go (fun t kt => XS.iconst X0.here hx rfl (hb hby d6_48) kt) ?_
              show Go p e below _ m s₁ 49 #[rv o0, jv q1, .second] [(.int (3 : Int32)), (.ref o0)]
              obtain ⟨cl37, Ar37, qc37, S37, M37, H37, G37⟩ := id V_o0
              have hin37 : ¬ ((3 : Int32) < 0 ∨ cl37.slots.size ≤ ((3 : Int32)).toNatClampNeg) := inb_of S37 ⟨by decide, hc36⟩
              have hat37 : cl37.slots[((3 : Int32)).toNatClampNeg]? = some (.long x3) := H37.at hin37 hx3
              refine go (X0.laload hx (j := (3 : Int32)) (v := (.long x3)) (by rw [e0]; exact Ar37.1) (State.isArrayOf_alike hZ.alike Ar37.2.1) Ar37.2.2 hin37 hat37 (g := (mkF m 49 #[rv o0, jv q1, .second] [(.int (3 : Int32)), (.ref o0)])) rfl rfl (hb hby d6_49)) ?_
              show Go p e below _ m s₁ 50 #[rv o0, jv q1, .second] [(.long x3)]
              refine go (fun t kt => XS.lloadN X0.here hx rfl (hb hby d6_50) rfl kt) ?_
              show Go p e below _ m s₁ 51 #[rv o0, jv q1, .second] [(.long q1), (.long x3)]
              refine go (fun t kt => XS.lcmp X0.here hx rfl (hb hby d6_51) rfl kt) ?_
              show Go p e below _ m s₁ 52 #[rv o0, jv q1, .second] [(.int (lcmpW x3 q1))]
              by_cases hc38 : x3 = q1
              ·
                refine go (fun t kt => XS.ifNo X0.here hx rfl (hb hby d6_52) rfl ((if0 _ _).trans (teq ((lw_eq x3 q1).mpr hc38)).2) kt) ?_
                show Go p e below _ m s₁ 55 #[rv o0, jv q1, .second] []
                refine go (fun t kt => XS.iconst X0.here hx rfl (hb hby d6_55) kt) ?_
                show Go p e below _ m s₁ 56 #[rv o0, jv q1, .second] [(.int (1 : Int32))]
                refine go (fun t kt => XS.goto X0.here hx rfl (pc0 := 56) (pc' := 60) rfl (hb hby d6_56) (by decide) (by decide) kt) ?_
                show Go p e below _ m s₁ 60 #[rv o0, jv q1, .second] [(.int (1 : Int32))]
                obtain ⟨fs, hr, hrun, hended, hW, hsame⟩ := X0.leave (v := some (.int (1 : Int32))) (fun h => by rw [Bd.returns] at h; cases h)
                refine ⟨_, _, retN X0 hx (t := .boolean) Bd.returns (by simp) (hb hby d6_60) hr, hrun, hended, _, _, rfl, ?_, ⟨_, rfl⟩, hW, hsame.mono (by decide) (by decide)⟩
                show Q6 Z o0 q1 kk z1 LL x0 x1 x2 x3 h0 n0 _ s₁.heap _
                rw [e0]
                exact ⟨(by unfold own_has; rw [if_pos hc2, if_neg hc4, if_neg hc7, if_pos hc31, if_neg hc33, if_pos hc36, if_pos hc38]), N0, rfl⟩
              ·
                refine go (fun t kt => XS.ifYes X0.here hx rfl (pc0 := 52) (pc' := 59) rfl (hb hby d6_52) rfl ((if0 _ _).trans (feq (fun q => hc38 ((lw_eq x3 q1).mp q))).2) (by decide) (by decide) kt) ?_
                show Go p e below _ m s₁ 59 #[rv o0, jv q1, .second] []
                refine go (fun t kt => XS.iconst X0.here hx rfl (hb hby d6_59) kt) ?_
                show Go p e below _ m s₁ 60 #[rv o0, jv q1, .second] [(.int (0 : Int32))]
                obtain ⟨fs, hr, hrun, hended, hW, hsame⟩ := X0.leave (v := some (.int (0 : Int32))) (fun h => by rw [Bd.returns] at h; cases h)
                refine ⟨_, _, retN X0 hx (t := .boolean) Bd.returns (by simp) (hb hby d6_60) hr, hrun, hended, _, _, rfl, ?_, ⟨_, rfl⟩, hW, hsame.mono (by decide) (by decide)⟩
                show Q6 Z o0 q1 kk z1 LL x0 x1 x2 x3 h0 n0 _ s₁.heap _
                rw [e0]
                exact ⟨(by unfold own_has; rw [if_pos hc2, if_neg hc4, if_neg hc7, if_pos hc31, if_neg hc33, if_pos hc36, if_neg hc38]), N0, rfl⟩
            ·
              refine go (fun t kt => XS.icmpYes X0.here hx rfl (pc0 := 44) (pc' := 59) rfl (hb hby d6_44) rfl (flt hc36).2.2.2 (by decide) (by decide) kt) ?_
              show Go p e below _ m s₁ 59 #[rv o0, jv q1, .second] []
              refine go (fun t kt => XS.iconst X0.here hx rfl (hb hby d6_59) kt) ?_
              show Go p e below _ m s₁ 60 #[rv o0, jv q1, .second] [(.int (0 : Int32))]
              obtain ⟨fs, hr, hrun, hended, hW, hsame⟩ := X0.leave (v := some (.int (0 : Int32))) (fun h => by rw [Bd.returns] at h; cases h)
              refine ⟨_, _, retN X0 hx (t := .boolean) Bd.returns (by simp) (hb hby d6_60) hr, hrun, hended, _, _, rfl, ?_, ⟨_, rfl⟩, hW, hsame.mono (by decide) (by decide)⟩
              show Q6 Z o0 q1 kk z1 LL x0 x1 x2 x3 h0 n0 _ s₁.heap _
              rw [e0]
              exact ⟨(by unfold own_has; rw [if_pos hc2, if_neg hc4, if_neg hc7, if_pos hc31, if_neg hc33, if_neg hc36]), N0, rfl⟩
        ·
          refine go (fun t kt => XS.icmpYes X0.here hx rfl (pc0 := 30) (pc' := 41) rfl (hb hby d6_30) rfl (flt hc31).2.2.2 (by decide) (by decide) kt) ?_
          show Go p e below _ m s₁ 41 #[rv o0, jv q1, .second] []
          refine go (fun t kt => XS.aloadN X0.here hx rfl (hb hby d6_41) rfl rfl kt) ?_
          show Go p e below _ m s₁ 42 #[rv o0, jv q1, .second] [(.ref o0)]
          obtain ⟨cl42, Ar42, qc42, S42, M42, H42, G42⟩ := id V_o0
          refine go (X0.arraylength hx (by rw [e0]; exact Ar42.1) (State.isArrayOf_alike hZ.alike Ar42.2.1) (g := (mkF m 42 #[rv o0, jv q1, .second] [(.ref o0)])) rfl rfl (hb hby d6_42)) ?_
          rw [len_of S42 M42]
          show Go p e below _ m s₁ 43 #[rv o0, jv q1, .second] [(.int z1)]
          refine go (fun t kt => XS.iconst X0.here hx rfl (hb hby d6_43) kt) ?_
          show Go p e below _ m s₁ 44 #[rv o0, jv q1, .second] [(.int (3 : Int32)), (.int z1)]
          by_cases hc43 : (3 : Int32) < z1
          ·
            refine go (fun t kt => XS.icmpNo X0.here hx rfl (hb hby d6_44) rfl (tlt hc43).2.2.2 kt) ?_
            show Go p e below _ m s₁ 47 #[rv o0, jv q1, .second] []
            refine go (fun t kt => XS.aloadN X0.here hx rfl (hb hby d6_47) rfl rfl kt) ?_
            show Go p e below _ m s₁ 48 #[rv o0, jv q1, .second] [(.ref o0)]
            refine go (fun t kt => XS.iconst X0.here hx rfl (hb hby d6_48) kt) ?_
            show Go p e below _ m s₁ 49 #[rv o0, jv q1, .second] [(.int (3 : Int32)), (.ref o0)]
            obtain ⟨cl44, Ar44, qc44, S44, M44, H44, G44⟩ := id V_o0
            have hin44 : ¬ ((3 : Int32) < 0 ∨ cl44.slots.size ≤ ((3 : Int32)).toNatClampNeg) := inb_of S44 ⟨by decide, hc43⟩
            have hat44 : cl44.slots[((3 : Int32)).toNatClampNeg]? = some (.long x3) := H44.at hin44 hx3
            refine go (X0.laload hx (j := (3 : Int32)) (v := (.long x3)) (by rw [e0]; exact Ar44.1) (State.isArrayOf_alike hZ.alike Ar44.2.1) Ar44.2.2 hin44 hat44 (g := (mkF m 49 #[rv o0, jv q1, .second] [(.int (3 : Int32)), (.ref o0)])) rfl rfl (hb hby d6_49)) ?_
            show Go p e below _ m s₁ 50 #[rv o0, jv q1, .second] [(.long x3)]
            refine go (fun t kt => XS.lloadN X0.here hx rfl (hb hby d6_50) rfl kt) ?_
            show Go p e below _ m s₁ 51 #[rv o0, jv q1, .second] [(.long q1), (.long x3)]
            refine go (fun t kt => XS.lcmp X0.here hx rfl (hb hby d6_51) rfl kt) ?_
            show Go p e below _ m s₁ 52 #[rv o0, jv q1, .second] [(.int (lcmpW x3 q1))]
            by_cases hc45 : x3 = q1
            ·
              refine go (fun t kt => XS.ifNo X0.here hx rfl (hb hby d6_52) rfl ((if0 _ _).trans (teq ((lw_eq x3 q1).mpr hc45)).2) kt) ?_
              show Go p e below _ m s₁ 55 #[rv o0, jv q1, .second] []
              refine go (fun t kt => XS.iconst X0.here hx rfl (hb hby d6_55) kt) ?_
              show Go p e below _ m s₁ 56 #[rv o0, jv q1, .second] [(.int (1 : Int32))]
              refine go (fun t kt => XS.goto X0.here hx rfl (pc0 := 56) (pc' := 60) rfl (hb hby d6_56) (by decide) (by decide) kt) ?_
              show Go p e below _ m s₁ 60 #[rv o0, jv q1, .second] [(.int (1 : Int32))]
              obtain ⟨fs, hr, hrun, hended, hW, hsame⟩ := X0.leave (v := some (.int (1 : Int32))) (fun h => by rw [Bd.returns] at h; cases h)
              refine ⟨_, _, retN X0 hx (t := .boolean) Bd.returns (by simp) (hb hby d6_60) hr, hrun, hended, _, _, rfl, ?_, ⟨_, rfl⟩, hW, hsame.mono (by decide) (by decide)⟩
              show Q6 Z o0 q1 kk z1 LL x0 x1 x2 x3 h0 n0 _ s₁.heap _
              rw [e0]
              exact ⟨(by unfold own_has; rw [if_pos hc2, if_neg hc4, if_neg hc7, if_neg hc31, if_pos hc43, if_pos hc45]), N0, rfl⟩
            ·
              refine go (fun t kt => XS.ifYes X0.here hx rfl (pc0 := 52) (pc' := 59) rfl (hb hby d6_52) rfl ((if0 _ _).trans (feq (fun q => hc45 ((lw_eq x3 q1).mp q))).2) (by decide) (by decide) kt) ?_
              show Go p e below _ m s₁ 59 #[rv o0, jv q1, .second] []
              refine go (fun t kt => XS.iconst X0.here hx rfl (hb hby d6_59) kt) ?_
              show Go p e below _ m s₁ 60 #[rv o0, jv q1, .second] [(.int (0 : Int32))]
              obtain ⟨fs, hr, hrun, hended, hW, hsame⟩ := X0.leave (v := some (.int (0 : Int32))) (fun h => by rw [Bd.returns] at h; cases h)
              refine ⟨_, _, retN X0 hx (t := .boolean) Bd.returns (by simp) (hb hby d6_60) hr, hrun, hended, _, _, rfl, ?_, ⟨_, rfl⟩, hW, hsame.mono (by decide) (by decide)⟩
              show Q6 Z o0 q1 kk z1 LL x0 x1 x2 x3 h0 n0 _ s₁.heap _
              rw [e0]
              exact ⟨(by unfold own_has; rw [if_pos hc2, if_neg hc4, if_neg hc7, if_neg hc31, if_pos hc43, if_neg hc45]), N0, rfl⟩
          ·
            refine go (fun t kt => XS.icmpYes X0.here hx rfl (pc0 := 44) (pc' := 59) rfl (hb hby d6_44) rfl (flt hc43).2.2.2 (by decide) (by decide) kt) ?_
            show Go p e below _ m s₁ 59 #[rv o0, jv q1, .second] []
            refine go (fun t kt => XS.iconst X0.here hx rfl (hb hby d6_59) kt) ?_
            show Go p e below _ m s₁ 60 #[rv o0, jv q1, .second] [(.int (0 : Int32))]
            obtain ⟨fs, hr, hrun, hended, hW, hsame⟩ := X0.leave (v := some (.int (0 : Int32))) (fun h => by rw [Bd.returns] at h; cases h)
            refine ⟨_, _, retN X0 hx (t := .boolean) Bd.returns (by simp) (hb hby d6_60) hr, hrun, hended, _, _, rfl, ?_, ⟨_, rfl⟩, hW, hsame.mono (by decide) (by decide)⟩
            show Q6 Z o0 q1 kk z1 LL x0 x1 x2 x3 h0 n0 _ s₁.heap _
            rw [e0]
            exact ⟨(by unfold own_has; rw [if_pos hc2, if_neg hc4, if_neg hc7, if_neg hc31, if_neg hc43]), N0, rfl⟩
  ·
    refine go (fun t kt => XS.ifYes X0.here hx rfl (pc0 := 2) (pc' := 13) rfl (hb hby d6_2) rfl ((if0 _ _).trans (flt hc2).2.2.2) (by decide) (by decide) kt) ?_
    show Go p e below _ m s₁ 13 #[rv o0, jv q1, .second] []
    refine go (fun t kt => XS.aloadN X0.here hx rfl (hb hby d6_13) rfl rfl kt) ?_
    show Go p e below _ m s₁ 14 #[rv o0, jv q1, .second] [(.ref o0)]
    obtain ⟨cl49, Ar49, qc49, S49, M49, H49, G49⟩ := id V_o0
    refine go (X0.arraylength hx (by rw [e0]; exact Ar49.1) (State.isArrayOf_alike hZ.alike Ar49.2.1) (g := (mkF m 14 #[rv o0, jv q1, .second] [(.ref o0)])) rfl rfl (hb hby d6_14)) ?_
    rw [len_of S49 M49]
    show Go p e below _ m s₁ 15 #[rv o0, jv q1, .second] [(.int z1)]
    refine go (fun t kt => XS.iconst X0.here hx rfl (hb hby d6_15) kt) ?_
    show Go p e below _ m s₁ 16 #[rv o0, jv q1, .second] [(.int (1 : Int32)), (.int z1)]
    by_cases hc50 : (1 : Int32) < z1
    ·
      refine go (fun t kt => XS.icmpNo X0.here hx rfl (hb hby d6_16) rfl (tlt hc50).2.2.2 kt) ?_
      show Go p e below _ m s₁ 19 #[rv o0, jv q1, .second] []
      refine go (fun t kt => XS.aloadN X0.here hx rfl (hb hby d6_19) rfl rfl kt) ?_
      show Go p e below _ m s₁ 20 #[rv o0, jv q1, .second] [(.ref o0)]
      refine go (fun t kt => XS.iconst X0.here hx rfl (hb hby d6_20) kt) ?_
      show Go p e below _ m s₁ 21 #[rv o0, jv q1, .second] [(.int (1 : Int32)), (.ref o0)]
      obtain ⟨cl51, Ar51, qc51, S51, M51, H51, G51⟩ := id V_o0
      have hin51 : ¬ ((1 : Int32) < 0 ∨ cl51.slots.size ≤ ((1 : Int32)).toNatClampNeg) := inb_of S51 ⟨by decide, hc50⟩
      have hat51 : cl51.slots[((1 : Int32)).toNatClampNeg]? = some (.long x1) := H51.at hin51 hx1
      refine go (X0.laload hx (j := (1 : Int32)) (v := (.long x1)) (by rw [e0]; exact Ar51.1) (State.isArrayOf_alike hZ.alike Ar51.2.1) Ar51.2.2 hin51 hat51 (g := (mkF m 21 #[rv o0, jv q1, .second] [(.int (1 : Int32)), (.ref o0)])) rfl rfl (hb hby d6_21)) ?_
      show Go p e below _ m s₁ 22 #[rv o0, jv q1, .second] [(.long x1)]
      refine go (fun t kt => XS.lloadN X0.here hx rfl (hb hby d6_22) rfl kt) ?_
      show Go p e below _ m s₁ 23 #[rv o0, jv q1, .second] [(.long q1), (.long x1)]
      refine go (fun t kt => XS.lcmp X0.here hx rfl (hb hby d6_23) rfl kt) ?_
      show Go p e below _ m s₁ 24 #[rv o0, jv q1, .second] [(.int (lcmpW x1 q1))]
      by_cases hc52 : x1 = q1
      ·
        refine go (fun t kt => XS.ifYes X0.here hx rfl (pc0 := 24) (pc' := 55) rfl (hb hby d6_24) rfl ((if0 _ _).trans (teq ((lw_eq x1 q1).mpr hc52)).1) (by decide) (by decide) kt) ?_
        show Go p e below _ m s₁ 55 #[rv o0, jv q1, .second] []
        refine go (fun t kt => XS.iconst X0.here hx rfl (hb hby d6_55) kt) ?_
        show Go p e below _ m s₁ 56 #[rv o0, jv q1, .second] [(.int (1 : Int32))]
        refine go (fun t kt => XS.goto X0.here hx rfl (pc0 := 56) (pc' := 60) rfl (hb hby d6_56) (by decide) (by decide) kt) ?_
        show Go p e below _ m s₁ 60 #[rv o0, jv q1, .second] [(.int (1 : Int32))]
        obtain ⟨fs, hr, hrun, hended, hW, hsame⟩ := X0.leave (v := some (.int (1 : Int32))) (fun h => by rw [Bd.returns] at h; cases h)
        refine ⟨_, _, retN X0 hx (t := .boolean) Bd.returns (by simp) (hb hby d6_60) hr, hrun, hended, _, _, rfl, ?_, ⟨_, rfl⟩, hW, hsame.mono (by decide) (by decide)⟩
        show Q6 Z o0 q1 kk z1 LL x0 x1 x2 x3 h0 n0 _ s₁.heap _
        rw [e0]
        exact ⟨(by unfold own_has; rw [if_neg hc2, if_pos hc50, if_pos hc52]), N0, rfl⟩
      ·
        refine go (fun t kt => XS.ifNo X0.here hx rfl (hb hby d6_24) rfl ((if0 _ _).trans (feq (fun q => hc52 ((lw_eq x1 q1).mp q))).1) kt) ?_
        show Go p e below _ m s₁ 27 #[rv o0, jv q1, .second] []
        refine go (fun t kt => XS.aloadN X0.here hx rfl (hb hby d6_27) rfl rfl kt) ?_
        show Go p e below _ m s₁ 28 #[rv o0, jv q1, .second] [(.ref o0)]
        obtain ⟨cl54, Ar54, qc54, S54, M54, H54, G54⟩ := id V_o0
        refine go (X0.arraylength hx (by rw [e0]; exact Ar54.1) (State.isArrayOf_alike hZ.alike Ar54.2.1) (g := (mkF m 28 #[rv o0, jv q1, .second] [(.ref o0)])) rfl rfl (hb hby d6_28)) ?_
        rw [len_of S54 M54]
        show Go p e below _ m s₁ 29 #[rv o0, jv q1, .second] [(.int z1)]
        refine go (fun t kt => XS.iconst X0.here hx rfl (hb hby d6_29) kt) ?_
        show Go p e below _ m s₁ 30 #[rv o0, jv q1, .second] [(.int (2 : Int32)), (.int z1)]
        by_cases hc55 : (2 : Int32) < z1
        ·
          refine go (fun t kt => XS.icmpNo X0.here hx rfl (hb hby d6_30) rfl (tlt hc55).2.2.2 kt) ?_
          show Go p e below _ m s₁ 33 #[rv o0, jv q1, .second] []
          refine go (fun t kt => XS.aloadN X0.here hx rfl (hb hby d6_33) rfl rfl kt) ?_
          show Go p e below _ m s₁ 34 #[rv o0, jv q1, .second] [(.ref o0)]
          refine go (fun t kt => XS.iconst X0.here hx rfl (hb hby d6_34) kt) ?_
          show Go p e below _ m s₁ 35 #[rv o0, jv q1, .second] [(.int (2 : Int32)), (.ref o0)]
          obtain ⟨cl56, Ar56, qc56, S56, M56, H56, G56⟩ := id V_o0
          have hin56 : ¬ ((2 : Int32) < 0 ∨ cl56.slots.size ≤ ((2 : Int32)).toNatClampNeg) := inb_of S56 ⟨by decide, hc55⟩
          have hat56 : cl56.slots[((2 : Int32)).toNatClampNeg]? = some (.long x2) := H56.at hin56 hx2
          refine go (X0.laload hx (j := (2 : Int32)) (v := (.long x2)) (by rw [e0]; exact Ar56.1) (State.isArrayOf_alike hZ.alike Ar56.2.1) Ar56.2.2 hin56 hat56 (g := (mkF m 35 #[rv o0, jv q1, .second] [(.int (2 : Int32)), (.ref o0)])) rfl rfl (hb hby d6_35)) ?_
          show Go p e below _ m s₁ 36 #[rv o0, jv q1, .second] [(.long x2)]
          refine go (fun t kt => XS.lloadN X0.here hx rfl (hb hby d6_36) rfl kt) ?_
          show Go p e below _ m s₁ 37 #[rv o0, jv q1, .second] [(.long q1), (.long x2)]
          refine go (fun t kt => XS.lcmp X0.here hx rfl (hb hby d6_37) rfl kt) ?_
          show Go p e below _ m s₁ 38 #[rv o0, jv q1, .second] [(.int (lcmpW x2 q1))]
          by_cases hc57 : x2 = q1
          ·
            refine go (fun t kt => XS.ifYes X0.here hx rfl (pc0 := 38) (pc' := 55) rfl (hb hby d6_38) rfl ((if0 _ _).trans (teq ((lw_eq x2 q1).mpr hc57)).1) (by decide) (by decide) kt) ?_
            show Go p e below _ m s₁ 55 #[rv o0, jv q1, .second] []
            refine go (fun t kt => XS.iconst X0.here hx rfl (hb hby d6_55) kt) ?_
            show Go p e below _ m s₁ 56 #[rv o0, jv q1, .second] [(.int (1 : Int32))]
            refine go (fun t kt => XS.goto X0.here hx rfl (pc0 := 56) (pc' := 60) rfl (hb hby d6_56) (by decide) (by decide) kt) ?_
            show Go p e below _ m s₁ 60 #[rv o0, jv q1, .second] [(.int (1 : Int32))]
            obtain ⟨fs, hr, hrun, hended, hW, hsame⟩ := X0.leave (v := some (.int (1 : Int32))) (fun h => by rw [Bd.returns] at h; cases h)
            refine ⟨_, _, retN X0 hx (t := .boolean) Bd.returns (by simp) (hb hby d6_60) hr, hrun, hended, _, _, rfl, ?_, ⟨_, rfl⟩, hW, hsame.mono (by decide) (by decide)⟩
            show Q6 Z o0 q1 kk z1 LL x0 x1 x2 x3 h0 n0 _ s₁.heap _
            rw [e0]
            exact ⟨(by unfold own_has; rw [if_neg hc2, if_pos hc50, if_neg hc52, if_pos hc55, if_pos hc57]), N0, rfl⟩
          ·
            refine go (fun t kt => XS.ifNo X0.here hx rfl (hb hby d6_38) rfl ((if0 _ _).trans (feq (fun q => hc57 ((lw_eq x2 q1).mp q))).1) kt) ?_
            show Go p e below _ m s₁ 41 #[rv o0, jv q1, .second] []
            refine go (fun t kt => XS.aloadN X0.here hx rfl (hb hby d6_41) rfl rfl kt) ?_
            show Go p e below _ m s₁ 42 #[rv o0, jv q1, .second] [(.ref o0)]
            obtain ⟨cl59, Ar59, qc59, S59, M59, H59, G59⟩ := id V_o0
            refine go (X0.arraylength hx (by rw [e0]; exact Ar59.1) (State.isArrayOf_alike hZ.alike Ar59.2.1) (g := (mkF m 42 #[rv o0, jv q1, .second] [(.ref o0)])) rfl rfl (hb hby d6_42)) ?_
            rw [len_of S59 M59]
            show Go p e below _ m s₁ 43 #[rv o0, jv q1, .second] [(.int z1)]
            refine go (fun t kt => XS.iconst X0.here hx rfl (hb hby d6_43) kt) ?_
            show Go p e below _ m s₁ 44 #[rv o0, jv q1, .second] [(.int (3 : Int32)), (.int z1)]
            by_cases hc60 : (3 : Int32) < z1
            ·
              refine go (fun t kt => XS.icmpNo X0.here hx rfl (hb hby d6_44) rfl (tlt hc60).2.2.2 kt) ?_
              show Go p e below _ m s₁ 47 #[rv o0, jv q1, .second] []
              refine go (fun t kt => XS.aloadN X0.here hx rfl (hb hby d6_47) rfl rfl kt) ?_
              show Go p e below _ m s₁ 48 #[rv o0, jv q1, .second] [(.ref o0)]
              refine go (fun t kt => XS.iconst X0.here hx rfl (hb hby d6_48) kt) ?_
              show Go p e below _ m s₁ 49 #[rv o0, jv q1, .second] [(.int (3 : Int32)), (.ref o0)]
              obtain ⟨cl61, Ar61, qc61, S61, M61, H61, G61⟩ := id V_o0
              have hin61 : ¬ ((3 : Int32) < 0 ∨ cl61.slots.size ≤ ((3 : Int32)).toNatClampNeg) := inb_of S61 ⟨by decide, hc60⟩
              have hat61 : cl61.slots[((3 : Int32)).toNatClampNeg]? = some (.long x3) := H61.at hin61 hx3
              refine go (X0.laload hx (j := (3 : Int32)) (v := (.long x3)) (by rw [e0]; exact Ar61.1) (State.isArrayOf_alike hZ.alike Ar61.2.1) Ar61.2.2 hin61 hat61 (g := (mkF m 49 #[rv o0, jv q1, .second] [(.int (3 : Int32)), (.ref o0)])) rfl rfl (hb hby d6_49)) ?_
              show Go p e below _ m s₁ 50 #[rv o0, jv q1, .second] [(.long x3)]
              refine go (fun t kt => XS.lloadN X0.here hx rfl (hb hby d6_50) rfl kt) ?_
              show Go p e below _ m s₁ 51 #[rv o0, jv q1, .second] [(.long q1), (.long x3)]
              refine go (fun t kt => XS.lcmp X0.here hx rfl (hb hby d6_51) rfl kt) ?_
              show Go p e below _ m s₁ 52 #[rv o0, jv q1, .second] [(.int (lcmpW x3 q1))]
              by_cases hc62 : x3 = q1
              ·
                refine go (fun t kt => XS.ifNo X0.here hx rfl (hb hby d6_52) rfl ((if0 _ _).trans (teq ((lw_eq x3 q1).mpr hc62)).2) kt) ?_
                show Go p e below _ m s₁ 55 #[rv o0, jv q1, .second] []
                refine go (fun t kt => XS.iconst X0.here hx rfl (hb hby d6_55) kt) ?_
                show Go p e below _ m s₁ 56 #[rv o0, jv q1, .second] [(.int (1 : Int32))]
                refine go (fun t kt => XS.goto X0.here hx rfl (pc0 := 56) (pc' := 60) rfl (hb hby d6_56) (by decide) (by decide) kt) ?_
                show Go p e below _ m s₁ 60 #[rv o0, jv q1, .second] [(.int (1 : Int32))]
                obtain ⟨fs, hr, hrun, hended, hW, hsame⟩ := X0.leave (v := some (.int (1 : Int32))) (fun h => by rw [Bd.returns] at h; cases h)
                refine ⟨_, _, retN X0 hx (t := .boolean) Bd.returns (by simp) (hb hby d6_60) hr, hrun, hended, _, _, rfl, ?_, ⟨_, rfl⟩, hW, hsame.mono (by decide) (by decide)⟩
                show Q6 Z o0 q1 kk z1 LL x0 x1 x2 x3 h0 n0 _ s₁.heap _
                rw [e0]
                exact ⟨(by unfold own_has; rw [if_neg hc2, if_pos hc50, if_neg hc52, if_pos hc55, if_neg hc57, if_pos hc60, if_pos hc62]), N0, rfl⟩
              ·
                refine go (fun t kt => XS.ifYes X0.here hx rfl (pc0 := 52) (pc' := 59) rfl (hb hby d6_52) rfl ((if0 _ _).trans (feq (fun q => hc62 ((lw_eq x3 q1).mp q))).2) (by decide) (by decide) kt) ?_
                show Go p e below _ m s₁ 59 #[rv o0, jv q1, .second] []
                refine go (fun t kt => XS.iconst X0.here hx rfl (hb hby d6_59) kt) ?_
                show Go p e below _ m s₁ 60 #[rv o0, jv q1, .second] [(.int (0 : Int32))]
                obtain ⟨fs, hr, hrun, hended, hW, hsame⟩ := X0.leave (v := some (.int (0 : Int32))) (fun h => by rw [Bd.returns] at h; cases h)
                refine ⟨_, _, retN X0 hx (t := .boolean) Bd.returns (by simp) (hb hby d6_60) hr, hrun, hended, _, _, rfl, ?_, ⟨_, rfl⟩, hW, hsame.mono (by decide) (by decide)⟩
                show Q6 Z o0 q1 kk z1 LL x0 x1 x2 x3 h0 n0 _ s₁.heap _
                rw [e0]
                exact ⟨(by unfold own_has; rw [if_neg hc2, if_pos hc50, if_neg hc52, if_pos hc55, if_neg hc57, if_pos hc60, if_neg hc62]), N0, rfl⟩
            ·
              refine go (fun t kt => XS.icmpYes X0.here hx rfl (pc0 := 44) (pc' := 59) rfl (hb hby d6_44) rfl (flt hc60).2.2.2 (by decide) (by decide) kt) ?_
              show Go p e below _ m s₁ 59 #[rv o0, jv q1, .second] []
              refine go (fun t kt => XS.iconst X0.here hx rfl (hb hby d6_59) kt) ?_
              show Go p e below _ m s₁ 60 #[rv o0, jv q1, .second] [(.int (0 : Int32))]
              obtain ⟨fs, hr, hrun, hended, hW, hsame⟩ := X0.leave (v := some (.int (0 : Int32))) (fun h => by rw [Bd.returns] at h; cases h)
              refine ⟨_, _, retN X0 hx (t := .boolean) Bd.returns (by simp) (hb hby d6_60) hr, hrun, hended, _, _, rfl, ?_, ⟨_, rfl⟩, hW, hsame.mono (by decide) (by decide)⟩
              show Q6 Z o0 q1 kk z1 LL x0 x1 x2 x3 h0 n0 _ s₁.heap _
              rw [e0]
              exact ⟨(by unfold own_has; rw [if_neg hc2, if_pos hc50, if_neg hc52, if_pos hc55, if_neg hc57, if_neg hc60]), N0, rfl⟩
        ·
          refine go (fun t kt => XS.icmpYes X0.here hx rfl (pc0 := 30) (pc' := 41) rfl (hb hby d6_30) rfl (flt hc55).2.2.2 (by decide) (by decide) kt) ?_
          show Go p e below _ m s₁ 41 #[rv o0, jv q1, .second] []
          refine go (fun t kt => XS.aloadN X0.here hx rfl (hb hby d6_41) rfl rfl kt) ?_
          show Go p e below _ m s₁ 42 #[rv o0, jv q1, .second] [(.ref o0)]
          obtain ⟨cl66, Ar66, qc66, S66, M66, H66, G66⟩ := id V_o0
          refine go (X0.arraylength hx (by rw [e0]; exact Ar66.1) (State.isArrayOf_alike hZ.alike Ar66.2.1) (g := (mkF m 42 #[rv o0, jv q1, .second] [(.ref o0)])) rfl rfl (hb hby d6_42)) ?_
          rw [len_of S66 M66]
          show Go p e below _ m s₁ 43 #[rv o0, jv q1, .second] [(.int z1)]
          refine go (fun t kt => XS.iconst X0.here hx rfl (hb hby d6_43) kt) ?_
          show Go p e below _ m s₁ 44 #[rv o0, jv q1, .second] [(.int (3 : Int32)), (.int z1)]
          by_cases hc67 : (3 : Int32) < z1
          ·
            refine go (fun t kt => XS.icmpNo X0.here hx rfl (hb hby d6_44) rfl (tlt hc67).2.2.2 kt) ?_
            show Go p e below _ m s₁ 47 #[rv o0, jv q1, .second] []
            refine go (fun t kt => XS.aloadN X0.here hx rfl (hb hby d6_47) rfl rfl kt) ?_
            show Go p e below _ m s₁ 48 #[rv o0, jv q1, .second] [(.ref o0)]
            refine go (fun t kt => XS.iconst X0.here hx rfl (hb hby d6_48) kt) ?_
            show Go p e below _ m s₁ 49 #[rv o0, jv q1, .second] [(.int (3 : Int32)), (.ref o0)]
            obtain ⟨cl68, Ar68, qc68, S68, M68, H68, G68⟩ := id V_o0
            have hin68 : ¬ ((3 : Int32) < 0 ∨ cl68.slots.size ≤ ((3 : Int32)).toNatClampNeg) := inb_of S68 ⟨by decide, hc67⟩
            have hat68 : cl68.slots[((3 : Int32)).toNatClampNeg]? = some (.long x3) := H68.at hin68 hx3
            refine go (X0.laload hx (j := (3 : Int32)) (v := (.long x3)) (by rw [e0]; exact Ar68.1) (State.isArrayOf_alike hZ.alike Ar68.2.1) Ar68.2.2 hin68 hat68 (g := (mkF m 49 #[rv o0, jv q1, .second] [(.int (3 : Int32)), (.ref o0)])) rfl rfl (hb hby d6_49)) ?_
            show Go p e below _ m s₁ 50 #[rv o0, jv q1, .second] [(.long x3)]
            refine go (fun t kt => XS.lloadN X0.here hx rfl (hb hby d6_50) rfl kt) ?_
            show Go p e below _ m s₁ 51 #[rv o0, jv q1, .second] [(.long q1), (.long x3)]
            refine go (fun t kt => XS.lcmp X0.here hx rfl (hb hby d6_51) rfl kt) ?_
            show Go p e below _ m s₁ 52 #[rv o0, jv q1, .second] [(.int (lcmpW x3 q1))]
            by_cases hc69 : x3 = q1
            ·
              refine go (fun t kt => XS.ifNo X0.here hx rfl (hb hby d6_52) rfl ((if0 _ _).trans (teq ((lw_eq x3 q1).mpr hc69)).2) kt) ?_
              show Go p e below _ m s₁ 55 #[rv o0, jv q1, .second] []
              refine go (fun t kt => XS.iconst X0.here hx rfl (hb hby d6_55) kt) ?_
              show Go p e below _ m s₁ 56 #[rv o0, jv q1, .second] [(.int (1 : Int32))]
              refine go (fun t kt => XS.goto X0.here hx rfl (pc0 := 56) (pc' := 60) rfl (hb hby d6_56) (by decide) (by decide) kt) ?_
              show Go p e below _ m s₁ 60 #[rv o0, jv q1, .second] [(.int (1 : Int32))]
              obtain ⟨fs, hr, hrun, hended, hW, hsame⟩ := X0.leave (v := some (.int (1 : Int32))) (fun h => by rw [Bd.returns] at h; cases h)
              refine ⟨_, _, retN X0 hx (t := .boolean) Bd.returns (by simp) (hb hby d6_60) hr, hrun, hended, _, _, rfl, ?_, ⟨_, rfl⟩, hW, hsame.mono (by decide) (by decide)⟩
              show Q6 Z o0 q1 kk z1 LL x0 x1 x2 x3 h0 n0 _ s₁.heap _
              rw [e0]
              exact ⟨(by unfold own_has; rw [if_neg hc2, if_pos hc50, if_neg hc52, if_neg hc55, if_pos hc67, if_pos hc69]), N0, rfl⟩
            ·
              refine go (fun t kt => XS.ifYes X0.here hx rfl (pc0 := 52) (pc' := 59) rfl (hb hby d6_52) rfl ((if0 _ _).trans (feq (fun q => hc69 ((lw_eq x3 q1).mp q))).2) (by decide) (by decide) kt) ?_
              show Go p e below _ m s₁ 59 #[rv o0, jv q1, .second] []
              refine go (fun t kt => XS.iconst X0.here hx rfl (hb hby d6_59) kt) ?_
              show Go p e below _ m s₁ 60 #[rv o0, jv q1, .second] [(.int (0 : Int32))]
              obtain ⟨fs, hr, hrun, hended, hW, hsame⟩ := X0.leave (v := some (.int (0 : Int32))) (fun h => by rw [Bd.returns] at h; cases h)
              refine ⟨_, _, retN X0 hx (t := .boolean) Bd.returns (by simp) (hb hby d6_60) hr, hrun, hended, _, _, rfl, ?_, ⟨_, rfl⟩, hW, hsame.mono (by decide) (by decide)⟩
              show Q6 Z o0 q1 kk z1 LL x0 x1 x2 x3 h0 n0 _ s₁.heap _
              rw [e0]
              exact ⟨(by unfold own_has; rw [if_neg hc2, if_pos hc50, if_neg hc52, if_neg hc55, if_pos hc67, if_neg hc69]), N0, rfl⟩
          ·
            refine go (fun t kt => XS.icmpYes X0.here hx rfl (pc0 := 44) (pc' := 59) rfl (hb hby d6_44) rfl (flt hc67).2.2.2 (by decide) (by decide) kt) ?_
            show Go p e below _ m s₁ 59 #[rv o0, jv q1, .second] []
            refine go (fun t kt => XS.iconst X0.here hx rfl (hb hby d6_59) kt) ?_
            show Go p e below _ m s₁ 60 #[rv o0, jv q1, .second] [(.int (0 : Int32))]
            obtain ⟨fs, hr, hrun, hended, hW, hsame⟩ := X0.leave (v := some (.int (0 : Int32))) (fun h => by rw [Bd.returns] at h; cases h)
            refine ⟨_, _, retN X0 hx (t := .boolean) Bd.returns (by simp) (hb hby d6_60) hr, hrun, hended, _, _, rfl, ?_, ⟨_, rfl⟩, hW, hsame.mono (by decide) (by decide)⟩
            show Q6 Z o0 q1 kk z1 LL x0 x1 x2 x3 h0 n0 _ s₁.heap _
            rw [e0]
            exact ⟨(by unfold own_has; rw [if_neg hc2, if_pos hc50, if_neg hc52, if_neg hc55, if_neg hc67]), N0, rfl⟩
    ·
      refine go (fun t kt => XS.icmpYes X0.here hx rfl (pc0 := 16) (pc' := 27) rfl (hb hby d6_16) rfl (flt hc50).2.2.2 (by decide) (by decide) kt) ?_
      show Go p e below _ m s₁ 27 #[rv o0, jv q1, .second] []
      refine go (fun t kt => XS.aloadN X0.here hx rfl (hb hby d6_27) rfl rfl kt) ?_
      show Go p e below _ m s₁ 28 #[rv o0, jv q1, .second] [(.ref o0)]
      obtain ⟨cl73, Ar73, qc73, S73, M73, H73, G73⟩ := id V_o0
      refine go (X0.arraylength hx (by rw [e0]; exact Ar73.1) (State.isArrayOf_alike hZ.alike Ar73.2.1) (g := (mkF m 28 #[rv o0, jv q1, .second] [(.ref o0)])) rfl rfl (hb hby d6_28)) ?_
      rw [len_of S73 M73]
      show Go p e below _ m s₁ 29 #[rv o0, jv q1, .second] [(.int z1)]
      refine go (fun t kt => XS.iconst X0.here hx rfl (hb hby d6_29) kt) ?_
      show Go p e below _ m s₁ 30 #[rv o0, jv q1, .second] [(.int (2 : Int32)), (.int z1)]
      by_cases hc74 : (2 : Int32) < z1
      ·
        refine go (fun t kt => XS.icmpNo X0.here hx rfl (hb hby d6_30) rfl (tlt hc74).2.2.2 kt) ?_
        show Go p e below _ m s₁ 33 #[rv o0, jv q1, .second] []
        refine go (fun t kt => XS.aloadN X0.here hx rfl (hb hby d6_33) rfl rfl kt) ?_
        show Go p e below _ m s₁ 34 #[rv o0, jv q1, .second] [(.ref o0)]
        refine go (fun t kt => XS.iconst X0.here hx rfl (hb hby d6_34) kt) ?_
        show Go p e below _ m s₁ 35 #[rv o0, jv q1, .second] [(.int (2 : Int32)), (.ref o0)]
        obtain ⟨cl75, Ar75, qc75, S75, M75, H75, G75⟩ := id V_o0
        have hin75 : ¬ ((2 : Int32) < 0 ∨ cl75.slots.size ≤ ((2 : Int32)).toNatClampNeg) := inb_of S75 ⟨by decide, hc74⟩
        have hat75 : cl75.slots[((2 : Int32)).toNatClampNeg]? = some (.long x2) := H75.at hin75 hx2
        refine go (X0.laload hx (j := (2 : Int32)) (v := (.long x2)) (by rw [e0]; exact Ar75.1) (State.isArrayOf_alike hZ.alike Ar75.2.1) Ar75.2.2 hin75 hat75 (g := (mkF m 35 #[rv o0, jv q1, .second] [(.int (2 : Int32)), (.ref o0)])) rfl rfl (hb hby d6_35)) ?_
        show Go p e below _ m s₁ 36 #[rv o0, jv q1, .second] [(.long x2)]
        refine go (fun t kt => XS.lloadN X0.here hx rfl (hb hby d6_36) rfl kt) ?_
        show Go p e below _ m s₁ 37 #[rv o0, jv q1, .second] [(.long q1), (.long x2)]
        refine go (fun t kt => XS.lcmp X0.here hx rfl (hb hby d6_37) rfl kt) ?_
        show Go p e below _ m s₁ 38 #[rv o0, jv q1, .second] [(.int (lcmpW x2 q1))]
        by_cases hc76 : x2 = q1
        ·
          refine go (fun t kt => XS.ifYes X0.here hx rfl (pc0 := 38) (pc' := 55) rfl (hb hby d6_38) rfl ((if0 _ _).trans (teq ((lw_eq x2 q1).mpr hc76)).1) (by decide) (by decide) kt) ?_
          show Go p e below _ m s₁ 55 #[rv o0, jv q1, .second] []
          refine go (fun t kt => XS.iconst X0.here hx rfl (hb hby d6_55) kt) ?_
          show Go p e below _ m s₁ 56 #[rv o0, jv q1, .second] [(.int (1 : Int32))]
          refine go (fun t kt => XS.goto X0.here hx rfl (pc0 := 56) (pc' := 60) rfl (hb hby d6_56) (by decide) (by decide) kt) ?_
          show Go p e below _ m s₁ 60 #[rv o0, jv q1, .second] [(.int (1 : Int32))]
          obtain ⟨fs, hr, hrun, hended, hW, hsame⟩ := X0.leave (v := some (.int (1 : Int32))) (fun h => by rw [Bd.returns] at h; cases h)
          refine ⟨_, _, retN X0 hx (t := .boolean) Bd.returns (by simp) (hb hby d6_60) hr, hrun, hended, _, _, rfl, ?_, ⟨_, rfl⟩, hW, hsame.mono (by decide) (by decide)⟩
          show Q6 Z o0 q1 kk z1 LL x0 x1 x2 x3 h0 n0 _ s₁.heap _
          rw [e0]
          exact ⟨(by unfold own_has; rw [if_neg hc2, if_neg hc50, if_pos hc74, if_pos hc76]), N0, rfl⟩
        ·
          refine go (fun t kt => XS.ifNo X0.here hx rfl (hb hby d6_38) rfl ((if0 _ _).trans (feq (fun q => hc76 ((lw_eq x2 q1).mp q))).1) kt) ?_
          show Go p e below _ m s₁ 41 #[rv o0, jv q1, .second] []
          refine go (fun t kt => XS.aloadN X0.here hx rfl (hb hby d6_41) rfl rfl kt) ?_
          show Go p e below _ m s₁ 42 #[rv o0, jv q1, .second] [(.ref o0)]
          obtain ⟨cl78, Ar78, qc78, S78, M78, H78, G78⟩ := id V_o0
          refine go (X0.arraylength hx (by rw [e0]; exact Ar78.1) (State.isArrayOf_alike hZ.alike Ar78.2.1) (g := (mkF m 42 #[rv o0, jv q1, .second] [(.ref o0)])) rfl rfl (hb hby d6_42)) ?_
          rw [len_of S78 M78]
          show Go p e below _ m s₁ 43 #[rv o0, jv q1, .second] [(.int z1)]
          refine go (fun t kt => XS.iconst X0.here hx rfl (hb hby d6_43) kt) ?_
          show Go p e below _ m s₁ 44 #[rv o0, jv q1, .second] [(.int (3 : Int32)), (.int z1)]
          by_cases hc79 : (3 : Int32) < z1
          ·
            refine go (fun t kt => XS.icmpNo X0.here hx rfl (hb hby d6_44) rfl (tlt hc79).2.2.2 kt) ?_
            show Go p e below _ m s₁ 47 #[rv o0, jv q1, .second] []
            refine go (fun t kt => XS.aloadN X0.here hx rfl (hb hby d6_47) rfl rfl kt) ?_
            show Go p e below _ m s₁ 48 #[rv o0, jv q1, .second] [(.ref o0)]
            refine go (fun t kt => XS.iconst X0.here hx rfl (hb hby d6_48) kt) ?_
            show Go p e below _ m s₁ 49 #[rv o0, jv q1, .second] [(.int (3 : Int32)), (.ref o0)]
            obtain ⟨cl80, Ar80, qc80, S80, M80, H80, G80⟩ := id V_o0
            have hin80 : ¬ ((3 : Int32) < 0 ∨ cl80.slots.size ≤ ((3 : Int32)).toNatClampNeg) := inb_of S80 ⟨by decide, hc79⟩
            have hat80 : cl80.slots[((3 : Int32)).toNatClampNeg]? = some (.long x3) := H80.at hin80 hx3
            refine go (X0.laload hx (j := (3 : Int32)) (v := (.long x3)) (by rw [e0]; exact Ar80.1) (State.isArrayOf_alike hZ.alike Ar80.2.1) Ar80.2.2 hin80 hat80 (g := (mkF m 49 #[rv o0, jv q1, .second] [(.int (3 : Int32)), (.ref o0)])) rfl rfl (hb hby d6_49)) ?_
            show Go p e below _ m s₁ 50 #[rv o0, jv q1, .second] [(.long x3)]
            refine go (fun t kt => XS.lloadN X0.here hx rfl (hb hby d6_50) rfl kt) ?_
            show Go p e below _ m s₁ 51 #[rv o0, jv q1, .second] [(.long q1), (.long x3)]
            refine go (fun t kt => XS.lcmp X0.here hx rfl (hb hby d6_51) rfl kt) ?_
            show Go p e below _ m s₁ 52 #[rv o0, jv q1, .second] [(.int (lcmpW x3 q1))]
            by_cases hc81 : x3 = q1
            ·
              refine go (fun t kt => XS.ifNo X0.here hx rfl (hb hby d6_52) rfl ((if0 _ _).trans (teq ((lw_eq x3 q1).mpr hc81)).2) kt) ?_
              show Go p e below _ m s₁ 55 #[rv o0, jv q1, .second] []
              refine go (fun t kt => XS.iconst X0.here hx rfl (hb hby d6_55) kt) ?_
              show Go p e below _ m s₁ 56 #[rv o0, jv q1, .second] [(.int (1 : Int32))]
              refine go (fun t kt => XS.goto X0.here hx rfl (pc0 := 56) (pc' := 60) rfl (hb hby d6_56) (by decide) (by decide) kt) ?_
              show Go p e below _ m s₁ 60 #[rv o0, jv q1, .second] [(.int (1 : Int32))]
              obtain ⟨fs, hr, hrun, hended, hW, hsame⟩ := X0.leave (v := some (.int (1 : Int32))) (fun h => by rw [Bd.returns] at h; cases h)
              refine ⟨_, _, retN X0 hx (t := .boolean) Bd.returns (by simp) (hb hby d6_60) hr, hrun, hended, _, _, rfl, ?_, ⟨_, rfl⟩, hW, hsame.mono (by decide) (by decide)⟩
              show Q6 Z o0 q1 kk z1 LL x0 x1 x2 x3 h0 n0 _ s₁.heap _
              rw [e0]
              exact ⟨(by unfold own_has; rw [if_neg hc2, if_neg hc50, if_pos hc74, if_neg hc76, if_pos hc79, if_pos hc81]), N0, rfl⟩
            ·
              refine go (fun t kt => XS.ifYes X0.here hx rfl (pc0 := 52) (pc' := 59) rfl (hb hby d6_52) rfl ((if0 _ _).trans (feq (fun q => hc81 ((lw_eq x3 q1).mp q))).2) (by decide) (by decide) kt) ?_
              show Go p e below _ m s₁ 59 #[rv o0, jv q1, .second] []
              refine go (fun t kt => XS.iconst X0.here hx rfl (hb hby d6_59) kt) ?_
              show Go p e below _ m s₁ 60 #[rv o0, jv q1, .second] [(.int (0 : Int32))]
              obtain ⟨fs, hr, hrun, hended, hW, hsame⟩ := X0.leave (v := some (.int (0 : Int32))) (fun h => by rw [Bd.returns] at h; cases h)
              refine ⟨_, _, retN X0 hx (t := .boolean) Bd.returns (by simp) (hb hby d6_60) hr, hrun, hended, _, _, rfl, ?_, ⟨_, rfl⟩, hW, hsame.mono (by decide) (by decide)⟩
              show Q6 Z o0 q1 kk z1 LL x0 x1 x2 x3 h0 n0 _ s₁.heap _
              rw [e0]
              exact ⟨(by unfold own_has; rw [if_neg hc2, if_neg hc50, if_pos hc74, if_neg hc76, if_pos hc79, if_neg hc81]), N0, rfl⟩
          ·
            refine go (fun t kt => XS.icmpYes X0.here hx rfl (pc0 := 44) (pc' := 59) rfl (hb hby d6_44) rfl (flt hc79).2.2.2 (by decide) (by decide) kt) ?_
            show Go p e below _ m s₁ 59 #[rv o0, jv q1, .second] []
            refine go (fun t kt => XS.iconst X0.here hx rfl (hb hby d6_59) kt) ?_
            show Go p e below _ m s₁ 60 #[rv o0, jv q1, .second] [(.int (0 : Int32))]
            obtain ⟨fs, hr, hrun, hended, hW, hsame⟩ := X0.leave (v := some (.int (0 : Int32))) (fun h => by rw [Bd.returns] at h; cases h)
            refine ⟨_, _, retN X0 hx (t := .boolean) Bd.returns (by simp) (hb hby d6_60) hr, hrun, hended, _, _, rfl, ?_, ⟨_, rfl⟩, hW, hsame.mono (by decide) (by decide)⟩
            show Q6 Z o0 q1 kk z1 LL x0 x1 x2 x3 h0 n0 _ s₁.heap _
            rw [e0]
            exact ⟨(by unfold own_has; rw [if_neg hc2, if_neg hc50, if_pos hc74, if_neg hc76, if_neg hc79]), N0, rfl⟩
      ·
        refine go (fun t kt => XS.icmpYes X0.here hx rfl (pc0 := 30) (pc' := 41) rfl (hb hby d6_30) rfl (flt hc74).2.2.2 (by decide) (by decide) kt) ?_
        show Go p e below _ m s₁ 41 #[rv o0, jv q1, .second] []
        refine go (fun t kt => XS.aloadN X0.here hx rfl (hb hby d6_41) rfl rfl kt) ?_
        show Go p e below _ m s₁ 42 #[rv o0, jv q1, .second] [(.ref o0)]
        obtain ⟨cl85, Ar85, qc85, S85, M85, H85, G85⟩ := id V_o0
        refine go (X0.arraylength hx (by rw [e0]; exact Ar85.1) (State.isArrayOf_alike hZ.alike Ar85.2.1) (g := (mkF m 42 #[rv o0, jv q1, .second] [(.ref o0)])) rfl rfl (hb hby d6_42)) ?_
        rw [len_of S85 M85]
        show Go p e below _ m s₁ 43 #[rv o0, jv q1, .second] [(.int z1)]
        refine go (fun t kt => XS.iconst X0.here hx rfl (hb hby d6_43) kt) ?_
        show Go p e below _ m s₁ 44 #[rv o0, jv q1, .second] [(.int (3 : Int32)), (.int z1)]
        by_cases hc86 : (3 : Int32) < z1
        ·
          refine go (fun t kt => XS.icmpNo X0.here hx rfl (hb hby d6_44) rfl (tlt hc86).2.2.2 kt) ?_
          show Go p e below _ m s₁ 47 #[rv o0, jv q1, .second] []
          refine go (fun t kt => XS.aloadN X0.here hx rfl (hb hby d6_47) rfl rfl kt) ?_
          show Go p e below _ m s₁ 48 #[rv o0, jv q1, .second] [(.ref o0)]
          refine go (fun t kt => XS.iconst X0.here hx rfl (hb hby d6_48) kt) ?_
          show Go p e below _ m s₁ 49 #[rv o0, jv q1, .second] [(.int (3 : Int32)), (.ref o0)]
          obtain ⟨cl87, Ar87, qc87, S87, M87, H87, G87⟩ := id V_o0
          have hin87 : ¬ ((3 : Int32) < 0 ∨ cl87.slots.size ≤ ((3 : Int32)).toNatClampNeg) := inb_of S87 ⟨by decide, hc86⟩
          have hat87 : cl87.slots[((3 : Int32)).toNatClampNeg]? = some (.long x3) := H87.at hin87 hx3
          refine go (X0.laload hx (j := (3 : Int32)) (v := (.long x3)) (by rw [e0]; exact Ar87.1) (State.isArrayOf_alike hZ.alike Ar87.2.1) Ar87.2.2 hin87 hat87 (g := (mkF m 49 #[rv o0, jv q1, .second] [(.int (3 : Int32)), (.ref o0)])) rfl rfl (hb hby d6_49)) ?_
          show Go p e below _ m s₁ 50 #[rv o0, jv q1, .second] [(.long x3)]
          refine go (fun t kt => XS.lloadN X0.here hx rfl (hb hby d6_50) rfl kt) ?_
          show Go p e below _ m s₁ 51 #[rv o0, jv q1, .second] [(.long q1), (.long x3)]
          refine go (fun t kt => XS.lcmp X0.here hx rfl (hb hby d6_51) rfl kt) ?_
          show Go p e below _ m s₁ 52 #[rv o0, jv q1, .second] [(.int (lcmpW x3 q1))]
          by_cases hc88 : x3 = q1
          ·
            refine go (fun t kt => XS.ifNo X0.here hx rfl (hb hby d6_52) rfl ((if0 _ _).trans (teq ((lw_eq x3 q1).mpr hc88)).2) kt) ?_
            show Go p e below _ m s₁ 55 #[rv o0, jv q1, .second] []
            refine go (fun t kt => XS.iconst X0.here hx rfl (hb hby d6_55) kt) ?_
            show Go p e below _ m s₁ 56 #[rv o0, jv q1, .second] [(.int (1 : Int32))]
            refine go (fun t kt => XS.goto X0.here hx rfl (pc0 := 56) (pc' := 60) rfl (hb hby d6_56) (by decide) (by decide) kt) ?_
            show Go p e below _ m s₁ 60 #[rv o0, jv q1, .second] [(.int (1 : Int32))]
            obtain ⟨fs, hr, hrun, hended, hW, hsame⟩ := X0.leave (v := some (.int (1 : Int32))) (fun h => by rw [Bd.returns] at h; cases h)
            refine ⟨_, _, retN X0 hx (t := .boolean) Bd.returns (by simp) (hb hby d6_60) hr, hrun, hended, _, _, rfl, ?_, ⟨_, rfl⟩, hW, hsame.mono (by decide) (by decide)⟩
            show Q6 Z o0 q1 kk z1 LL x0 x1 x2 x3 h0 n0 _ s₁.heap _
            rw [e0]
            exact ⟨(by unfold own_has; rw [if_neg hc2, if_neg hc50, if_neg hc74, if_pos hc86, if_pos hc88]), N0, rfl⟩
          ·
            refine go (fun t kt => XS.ifYes X0.here hx rfl (pc0 := 52) (pc' := 59) rfl (hb hby d6_52) rfl ((if0 _ _).trans (feq (fun q => hc88 ((lw_eq x3 q1).mp q))).2) (by decide) (by decide) kt) ?_
            show Go p e below _ m s₁ 59 #[rv o0, jv q1, .second] []
            refine go (fun t kt => XS.iconst X0.here hx rfl (hb hby d6_59) kt) ?_
            show Go p e below _ m s₁ 60 #[rv o0, jv q1, .second] [(.int (0 : Int32))]
            obtain ⟨fs, hr, hrun, hended, hW, hsame⟩ := X0.leave (v := some (.int (0 : Int32))) (fun h => by rw [Bd.returns] at h; cases h)
            refine ⟨_, _, retN X0 hx (t := .boolean) Bd.returns (by simp) (hb hby d6_60) hr, hrun, hended, _, _, rfl, ?_, ⟨_, rfl⟩, hW, hsame.mono (by decide) (by decide)⟩
            show Q6 Z o0 q1 kk z1 LL x0 x1 x2 x3 h0 n0 _ s₁.heap _
            rw [e0]
            exact ⟨(by unfold own_has; rw [if_neg hc2, if_neg hc50, if_neg hc74, if_pos hc86, if_neg hc88]), N0, rfl⟩
        ·
          refine go (fun t kt => XS.icmpYes X0.here hx rfl (pc0 := 44) (pc' := 59) rfl (hb hby d6_44) rfl (flt hc86).2.2.2 (by decide) (by decide) kt) ?_
          show Go p e below _ m s₁ 59 #[rv o0, jv q1, .second] []
          refine go (fun t kt => XS.iconst X0.here hx rfl (hb hby d6_59) kt) ?_
          show Go p e below _ m s₁ 60 #[rv o0, jv q1, .second] [(.int (0 : Int32))]
          obtain ⟨fs, hr, hrun, hended, hW, hsame⟩ := X0.leave (v := some (.int (0 : Int32))) (fun h => by rw [Bd.returns] at h; cases h)
          refine ⟨_, _, retN X0 hx (t := .boolean) Bd.returns (by simp) (hb hby d6_60) hr, hrun, hended, _, _, rfl, ?_, ⟨_, rfl⟩, hW, hsame.mono (by decide) (by decide)⟩
          show Q6 Z o0 q1 kk z1 LL x0 x1 x2 x3 h0 n0 _ s₁.heap _
          rw [e0]
          exact ⟨(by unfold own_has; rw [if_neg hc2, if_neg hc50, if_neg hc74, if_neg hc86]), N0, rfl⟩
theorem d7_0 : decode method_3_code 0 = .ok (.iload_n 2, 1) := by decide +kernel
theorem d7_1 : decode method_3_code 1 = .ok (.ifCond .le 9, 3) := by decide +kernel
theorem d7_4 : decode method_3_code 4 = .ok (.lload_n 0, 1) := by decide +kernel
theorem d7_5 : decode method_3_code 5 = .ok (.lload_n 3, 1) := by decide +kernel
theorem d7_6 : decode method_3_code 6 = .ok (.lcmp, 1) := by decide +kernel
theorem d7_7 : decode method_3_code 7 = .ok (.ifCond .eq 39, 3) := by decide +kernel
theorem d7_46 : decode method_3_code 46 = .ok (.iconst 1, 1) := by decide +kernel
theorem d7_47 : decode method_3_code 47 = .ok (.goto 4, 3) := by decide +kernel
theorem d7_51 : decode method_3_code 51 = .ok (.ireturn, 1) := by decide +kernel
theorem d7_10 : decode method_3_code 10 = .ok (.iload_n 2, 1) := by decide +kernel
theorem d7_11 : decode method_3_code 11 = .ok (.iconst 1, 1) := by decide +kernel
theorem d7_12 : decode method_3_code 12 = .ok (.if_icmp .le 10, 3) := by decide +kernel
theorem d7_15 : decode method_3_code 15 = .ok (.lload_n 0, 1) := by decide +kernel
theorem d7_16 : decode method_3_code 16 = .ok (.lload 5, 2) := by decide +kernel
theorem d7_18 : decode method_3_code 18 = .ok (.lcmp, 1) := by decide +kernel
theorem d7_19 : decode method_3_code 19 = .ok (.ifCond .eq 27, 3) := by decide +kernel
theorem d7_22 : decode method_3_code 22 = .ok (.iload_n 2, 1) := by decide +kernel
theorem d7_23 : decode method_3_code 23 = .ok (.iconst 2, 1) := by decide +kernel
theorem d7_24 : decode method_3_code 24 = .ok (.if_icmp .le 10, 3) := by decide +kernel
theorem d7_27 : decode method_3_code 27 = .ok (.lload_n 0, 1) := by decide +kernel
theorem d7_28 : decode method_3_code 28 = .ok (.lload 7, 2) := by decide +kernel
theorem d7_30 : decode method_3_code 30 = .ok (.lcmp, 1) := by decide +kernel
theorem d7_31 : decode method_3_code 31 = .ok (.ifCond .eq 15, 3) := by decide +kernel
theorem d7_34 : decode method_3_code 34 = .ok (.iload_n 2, 1) := by decide +kernel
theorem d7_35 : decode method_3_code 35 = .ok (.iconst 3, 1) := by decide +kernel
theorem d7_36 : decode method_3_code 36 = .ok (.if_icmp .le 14, 3) := by decide +kernel
theorem d7_39 : decode method_3_code 39 = .ok (.lload_n 0, 1) := by decide +kernel
theorem d7_40 : decode method_3_code 40 = .ok (.lload 9, 2) := by decide +kernel
theorem d7_42 : decode method_3_code 42 = .ok (.lcmp, 1) := by decide +kernel
theorem d7_43 : decode method_3_code 43 = .ok (.ifCond .ne 7, 3) := by decide +kernel
theorem d7_50 : decode method_3_code 50 = .ok (.iconst 0, 1) := by decide +kernel
def own_inp (q0 : Int64) (p1 : Int32) (q2 : Int64) (q3 : Int64) (q4 : Int64) (q5 : Int64) : Int32 := (if (0 : Int32) < p1 then (if q0 = q2 then (1 : Int32) else (if (1 : Int32) < p1 then (if q0 = q3 then (1 : Int32) else (if (2 : Int32) < p1 then (if q0 = q4 then (1 : Int32) else (if (3 : Int32) < p1 then (if q0 = q5 then (1 : Int32) else (0 : Int32)) else (0 : Int32))) else (if (3 : Int32) < p1 then (if q0 = q5 then (1 : Int32) else (0 : Int32)) else (0 : Int32)))) else (if (2 : Int32) < p1 then (if q0 = q4 then (1 : Int32) else (if (3 : Int32) < p1 then (if q0 = q5 then (1 : Int32) else (0 : Int32)) else (0 : Int32))) else (if (3 : Int32) < p1 then (if q0 = q5 then (1 : Int32) else (0 : Int32)) else (0 : Int32))))) else (if (1 : Int32) < p1 then (if q0 = q3 then (1 : Int32) else (if (2 : Int32) < p1 then (if q0 = q4 then (1 : Int32) else (if (3 : Int32) < p1 then (if q0 = q5 then (1 : Int32) else (0 : Int32)) else (0 : Int32))) else (if (3 : Int32) < p1 then (if q0 = q5 then (1 : Int32) else (0 : Int32)) else (0 : Int32)))) else (if (2 : Int32) < p1 then (if q0 = q4 then (1 : Int32) else (if (3 : Int32) < p1 then (if q0 = q5 then (1 : Int32) else (0 : Int32)) else (0 : Int32))) else (if (3 : Int32) < p1 then (if q0 = q5 then (1 : Int32) else (0 : Int32)) else (0 : Int32)))))
theorem ef_7 (m : MethodId) (q0 : Int64) (p1 : Int32) (q2 : Int64) (q3 : Int64) (q4 : Int64) (q5 : Int64) : entryFrame m #[(.long q0), (.int p1), (.long q2), (.long q3), (.long q4), (.long q5)] 11 = mkF m 0 #[jv q0, .second, iv p1, jv q2, .second, jv q3, .second, jv q4, .second, jv q5, .second] [] := by first | (simp [entryFrame, mkF, argsToLocals, Value.category]; done) | rfl
def Q7 (Z : State) (q0 : Int64) (p1 : Int32) (q2 : Int64) (q3 : Int64) (q4 : Int64) (q5 : Int64) (h0 : Heap) (n0 : Nat) (v : Option Value) (h : Heap) (L : List Loc) : Prop := v = some (.int (own_inp q0 p1 q2 q3 q4 q5)) ∧ Fr n0 L ∧ h = h0
set_option maxRecDepth 65536 in
set_option maxHeartbeats 40000000 in
theorem rm7 (l : Launch) (Z : State) (a0 : Array Value) (hw : ∀ d ∈ tables_1, d.before a0 Z = true) (ws : List Jvm.Cond) (q0 : Int64) (p1 : Int32) (q2 : Int64) (q3 : Int64) (q4 : Int64) (q5 : Int64) (h0 : Heap) (n0 : Nat) (Z0 : n0 ≤ h0.size)  :
    MetFree l (⟨"com/example/modest_tree_automata/modesttreeautomata/LongIntMapKeysPinLaw", "isInput", "(JIJJJJ)Z"⟩ : MethodName) (head1 (Jvm.Cond.code (⟨"com/example/modest_tree_automata/modesttreeautomata/LongIntMapKeysPinLaw", "isInput", "(JIJJJJ)Z"⟩ : MethodName) method_3_code 11 (some .boolean) :: ws) ({ frames := 0, cells := 0, slots := 0, locals := 0 } : Room)) (fun a U => a = #[(.long q0), (.int p1), (.long q2), (.long q3), (.long q4), (.long q5)] ∧ Z.Warmed39 U.vm ∧ U.heap = h0) (fun _ _ _ _ _ => True) (fun _ U o U' => ∃ v L, o = .returned v ∧ Q7 Z q0 p1 q2 q3 q4 q5 h0 n0 v U'.heap L ∧ FrameEnd U o U' L ({ frames := 0, cells := 0, slots := 0, locals := 0 } : Room).cells ({ frames := 0, cells := 0, slots := 0, locals := 0 } : Room).slots) := by
  refine MetFree.of_bodySF (plainFor_of_name pn_0) hisR ?_
  intro p e s m args below meth c s₁ Bd hml0 hP hK
  obtain ⟨rfl, hZ, hh⟩ := hP
  have hx := Bd.exec
  have hby := Bd.bytes
  have hml : c.maxLocals = 11 := hml0
  have hown : s.vm.findClass "com/example/modest_tree_automata/modesttreeautomata/LongIntMapKeysPinLaw" = some m.cls := findClass_of_methodNamed Bd.named
  have hnm := (name_of_methodNamed Bd.named Bd.method).1
  have X0 : Stand p l e ({ frames := 0, cells := 0, slots := 0, locals := 0 } : Room) s m #[(.long q0), (.int p1), (.long q2), (.long q3), (.long q4), (.long q5)] below meth c s₁ [] 0 0 := Stand.of_body Bd
  have e0 : s₁.heap = h0 := by rw [← hh, Bd.state]; rfl
  have N0 := Fr.nil n0
  have K0 := Keep.refl h0 []
  suffices hgo : Goes p.tables e below (fun s₂ o => ∃ v L, o = .returned v ∧ Q7 Z q0 p1 q2 q3 q4 q5 h0 n0 v s₂.heap L ∧ FrameEnd s o s₂ L ({ frames := 0, cells := 0, slots := 0, locals := 0 } : Room).cells ({ frames := 0, cells := 0, slots := 0, locals := 0 } : Room).slots) (s₁.setTop (mkF m 0 #[jv q0, .second, iv p1, jv q2, .second, jv q3, .second, jv q4, .second, jv q5, .second] [])) from goEnd (fun t k => castTop (ef_7 m q0 p1 q2 q3 q4 q5) k) hgo
  refine go (fun t kt => XS.iloadN X0.here hx rfl (hb hby d7_0) rfl kt) ?_
  show Go p e below _ m s₁ 1 #[jv q0, .second, iv p1, jv q2, .second, jv q3, .second, jv q4, .second, jv q5, .second] [(.int p1)]
  by_cases hc1 : (0 : Int32) < p1
  ·
    refine go (fun t kt => XS.ifNo X0.here hx rfl (hb hby d7_1) rfl ((if0 _ _).trans (tlt hc1).2.2.2) kt) ?_
    show Go p e below _ m s₁ 4 #[jv q0, .second, iv p1, jv q2, .second, jv q3, .second, jv q4, .second, jv q5, .second] []
    refine go (fun t kt => XS.lloadN X0.here hx rfl (hb hby d7_4) rfl kt) ?_
    show Go p e below _ m s₁ 5 #[jv q0, .second, iv p1, jv q2, .second, jv q3, .second, jv q4, .second, jv q5, .second] [(.long q0)]
    refine go (fun t kt => XS.lloadN X0.here hx rfl (hb hby d7_5) rfl kt) ?_
    show Go p e below _ m s₁ 6 #[jv q0, .second, iv p1, jv q2, .second, jv q3, .second, jv q4, .second, jv q5, .second] [(.long q2), (.long q0)]
    refine go (fun t kt => XS.lcmp X0.here hx rfl (hb hby d7_6) rfl kt) ?_
    show Go p e below _ m s₁ 7 #[jv q0, .second, iv p1, jv q2, .second, jv q3, .second, jv q4, .second, jv q5, .second] [(.int (lcmpW q0 q2))]
    by_cases hc2 : q0 = q2
    ·
      refine go (fun t kt => XS.ifYes X0.here hx rfl (pc0 := 7) (pc' := 46) rfl (hb hby d7_7) rfl ((if0 _ _).trans (teq ((lw_eq q0 q2).mpr hc2)).1) (by decide) (by decide) kt) ?_
      show Go p e below _ m s₁ 46 #[jv q0, .second, iv p1, jv q2, .second, jv q3, .second, jv q4, .second, jv q5, .second] []
      refine go (fun t kt => XS.iconst X0.here hx rfl (hb hby d7_46) kt) ?_
      show Go p e below _ m s₁ 47 #[jv q0, .second, iv p1, jv q2, .second, jv q3, .second, jv q4, .second, jv q5, .second] [(.int (1 : Int32))]
      refine go (fun t kt => XS.goto X0.here hx rfl (pc0 := 47) (pc' := 51) rfl (hb hby d7_47) (by decide) (by decide) kt) ?_
      show Go p e below _ m s₁ 51 #[jv q0, .second, iv p1, jv q2, .second, jv q3, .second, jv q4, .second, jv q5, .second] [(.int (1 : Int32))]
      obtain ⟨fs, hr, hrun, hended, hW, hsame⟩ := X0.leave (v := some (.int (1 : Int32))) (fun h => by rw [Bd.returns] at h; cases h)
      refine ⟨_, _, retN X0 hx (t := .boolean) Bd.returns (by simp) (hb hby d7_51) hr, hrun, hended, _, _, rfl, ?_, ⟨_, rfl⟩, hW, hsame.mono (by decide) (by decide)⟩
      show Q7 Z q0 p1 q2 q3 q4 q5 h0 n0 _ s₁.heap _
      rw [e0]
      exact ⟨(by unfold own_inp; rw [if_pos hc1, if_pos hc2]), N0, rfl⟩
    ·
      refine go (fun t kt => XS.ifNo X0.here hx rfl (hb hby d7_7) rfl ((if0 _ _).trans (feq (fun q => hc2 ((lw_eq q0 q2).mp q))).1) kt) ?_
      show Go p e below _ m s₁ 10 #[jv q0, .second, iv p1, jv q2, .second, jv q3, .second, jv q4, .second, jv q5, .second] []
      refine go (fun t kt => XS.iloadN X0.here hx rfl (hb hby d7_10) rfl kt) ?_
      show Go p e below _ m s₁ 11 #[jv q0, .second, iv p1, jv q2, .second, jv q3, .second, jv q4, .second, jv q5, .second] [(.int p1)]
      refine go (fun t kt => XS.iconst X0.here hx rfl (hb hby d7_11) kt) ?_
      show Go p e below _ m s₁ 12 #[jv q0, .second, iv p1, jv q2, .second, jv q3, .second, jv q4, .second, jv q5, .second] [(.int (1 : Int32)), (.int p1)]
      by_cases hc4 : (1 : Int32) < p1
      ·
        refine go (fun t kt => XS.icmpNo X0.here hx rfl (hb hby d7_12) rfl (tlt hc4).2.2.2 kt) ?_
        show Go p e below _ m s₁ 15 #[jv q0, .second, iv p1, jv q2, .second, jv q3, .second, jv q4, .second, jv q5, .second] []
        refine go (fun t kt => XS.lloadN X0.here hx rfl (hb hby d7_15) rfl kt) ?_
        show Go p e below _ m s₁ 16 #[jv q0, .second, iv p1, jv q2, .second, jv q3, .second, jv q4, .second, jv q5, .second] [(.long q0)]
        refine go (fun t kt => XS.lload X0.here hx rfl (hb hby d7_16) rfl kt) ?_
        show Go p e below _ m s₁ 18 #[jv q0, .second, iv p1, jv q2, .second, jv q3, .second, jv q4, .second, jv q5, .second] [(.long q3), (.long q0)]
        refine go (fun t kt => XS.lcmp X0.here hx rfl (hb hby d7_18) rfl kt) ?_
        show Go p e below _ m s₁ 19 #[jv q0, .second, iv p1, jv q2, .second, jv q3, .second, jv q4, .second, jv q5, .second] [(.int (lcmpW q0 q3))]
        by_cases hc5 : q0 = q3
        ·
          refine go (fun t kt => XS.ifYes X0.here hx rfl (pc0 := 19) (pc' := 46) rfl (hb hby d7_19) rfl ((if0 _ _).trans (teq ((lw_eq q0 q3).mpr hc5)).1) (by decide) (by decide) kt) ?_
          show Go p e below _ m s₁ 46 #[jv q0, .second, iv p1, jv q2, .second, jv q3, .second, jv q4, .second, jv q5, .second] []
          refine go (fun t kt => XS.iconst X0.here hx rfl (hb hby d7_46) kt) ?_
          show Go p e below _ m s₁ 47 #[jv q0, .second, iv p1, jv q2, .second, jv q3, .second, jv q4, .second, jv q5, .second] [(.int (1 : Int32))]
          refine go (fun t kt => XS.goto X0.here hx rfl (pc0 := 47) (pc' := 51) rfl (hb hby d7_47) (by decide) (by decide) kt) ?_
          show Go p e below _ m s₁ 51 #[jv q0, .second, iv p1, jv q2, .second, jv q3, .second, jv q4, .second, jv q5, .second] [(.int (1 : Int32))]
          obtain ⟨fs, hr, hrun, hended, hW, hsame⟩ := X0.leave (v := some (.int (1 : Int32))) (fun h => by rw [Bd.returns] at h; cases h)
          refine ⟨_, _, retN X0 hx (t := .boolean) Bd.returns (by simp) (hb hby d7_51) hr, hrun, hended, _, _, rfl, ?_, ⟨_, rfl⟩, hW, hsame.mono (by decide) (by decide)⟩
          show Q7 Z q0 p1 q2 q3 q4 q5 h0 n0 _ s₁.heap _
          rw [e0]
          exact ⟨(by unfold own_inp; rw [if_pos hc1, if_neg hc2, if_pos hc4, if_pos hc5]), N0, rfl⟩
        ·
          refine go (fun t kt => XS.ifNo X0.here hx rfl (hb hby d7_19) rfl ((if0 _ _).trans (feq (fun q => hc5 ((lw_eq q0 q3).mp q))).1) kt) ?_
          show Go p e below _ m s₁ 22 #[jv q0, .second, iv p1, jv q2, .second, jv q3, .second, jv q4, .second, jv q5, .second] []
          refine go (fun t kt => XS.iloadN X0.here hx rfl (hb hby d7_22) rfl kt) ?_
          show Go p e below _ m s₁ 23 #[jv q0, .second, iv p1, jv q2, .second, jv q3, .second, jv q4, .second, jv q5, .second] [(.int p1)]
          refine go (fun t kt => XS.iconst X0.here hx rfl (hb hby d7_23) kt) ?_
          show Go p e below _ m s₁ 24 #[jv q0, .second, iv p1, jv q2, .second, jv q3, .second, jv q4, .second, jv q5, .second] [(.int (2 : Int32)), (.int p1)]
          by_cases hc7 : (2 : Int32) < p1
          ·
            refine go (fun t kt => XS.icmpNo X0.here hx rfl (hb hby d7_24) rfl (tlt hc7).2.2.2 kt) ?_
            show Go p e below _ m s₁ 27 #[jv q0, .second, iv p1, jv q2, .second, jv q3, .second, jv q4, .second, jv q5, .second] []
            refine go (fun t kt => XS.lloadN X0.here hx rfl (hb hby d7_27) rfl kt) ?_
            show Go p e below _ m s₁ 28 #[jv q0, .second, iv p1, jv q2, .second, jv q3, .second, jv q4, .second, jv q5, .second] [(.long q0)]
            refine go (fun t kt => XS.lload X0.here hx rfl (hb hby d7_28) rfl kt) ?_
            show Go p e below _ m s₁ 30 #[jv q0, .second, iv p1, jv q2, .second, jv q3, .second, jv q4, .second, jv q5, .second] [(.long q4), (.long q0)]
            refine go (fun t kt => XS.lcmp X0.here hx rfl (hb hby d7_30) rfl kt) ?_
            show Go p e below _ m s₁ 31 #[jv q0, .second, iv p1, jv q2, .second, jv q3, .second, jv q4, .second, jv q5, .second] [(.int (lcmpW q0 q4))]
            by_cases hc8 : q0 = q4
            ·
              refine go (fun t kt => XS.ifYes X0.here hx rfl (pc0 := 31) (pc' := 46) rfl (hb hby d7_31) rfl ((if0 _ _).trans (teq ((lw_eq q0 q4).mpr hc8)).1) (by decide) (by decide) kt) ?_
              show Go p e below _ m s₁ 46 #[jv q0, .second, iv p1, jv q2, .second, jv q3, .second, jv q4, .second, jv q5, .second] []
              refine go (fun t kt => XS.iconst X0.here hx rfl (hb hby d7_46) kt) ?_
              show Go p e below _ m s₁ 47 #[jv q0, .second, iv p1, jv q2, .second, jv q3, .second, jv q4, .second, jv q5, .second] [(.int (1 : Int32))]
              refine go (fun t kt => XS.goto X0.here hx rfl (pc0 := 47) (pc' := 51) rfl (hb hby d7_47) (by decide) (by decide) kt) ?_
              show Go p e below _ m s₁ 51 #[jv q0, .second, iv p1, jv q2, .second, jv q3, .second, jv q4, .second, jv q5, .second] [(.int (1 : Int32))]
              obtain ⟨fs, hr, hrun, hended, hW, hsame⟩ := X0.leave (v := some (.int (1 : Int32))) (fun h => by rw [Bd.returns] at h; cases h)
              refine ⟨_, _, retN X0 hx (t := .boolean) Bd.returns (by simp) (hb hby d7_51) hr, hrun, hended, _, _, rfl, ?_, ⟨_, rfl⟩, hW, hsame.mono (by decide) (by decide)⟩
              show Q7 Z q0 p1 q2 q3 q4 q5 h0 n0 _ s₁.heap _
              rw [e0]
              exact ⟨(by unfold own_inp; rw [if_pos hc1, if_neg hc2, if_pos hc4, if_neg hc5, if_pos hc7, if_pos hc8]), N0, rfl⟩
            ·
              refine go (fun t kt => XS.ifNo X0.here hx rfl (hb hby d7_31) rfl ((if0 _ _).trans (feq (fun q => hc8 ((lw_eq q0 q4).mp q))).1) kt) ?_
              show Go p e below _ m s₁ 34 #[jv q0, .second, iv p1, jv q2, .second, jv q3, .second, jv q4, .second, jv q5, .second] []
              refine go (fun t kt => XS.iloadN X0.here hx rfl (hb hby d7_34) rfl kt) ?_
              show Go p e below _ m s₁ 35 #[jv q0, .second, iv p1, jv q2, .second, jv q3, .second, jv q4, .second, jv q5, .second] [(.int p1)]
              refine go (fun t kt => XS.iconst X0.here hx rfl (hb hby d7_35) kt) ?_
              show Go p e below _ m s₁ 36 #[jv q0, .second, iv p1, jv q2, .second, jv q3, .second, jv q4, .second, jv q5, .second] [(.int (3 : Int32)), (.int p1)]
              by_cases hc10 : (3 : Int32) < p1
              ·
                refine go (fun t kt => XS.icmpNo X0.here hx rfl (hb hby d7_36) rfl (tlt hc10).2.2.2 kt) ?_
                show Go p e below _ m s₁ 39 #[jv q0, .second, iv p1, jv q2, .second, jv q3, .second, jv q4, .second, jv q5, .second] []
                refine go (fun t kt => XS.lloadN X0.here hx rfl (hb hby d7_39) rfl kt) ?_
                show Go p e below _ m s₁ 40 #[jv q0, .second, iv p1, jv q2, .second, jv q3, .second, jv q4, .second, jv q5, .second] [(.long q0)]
                refine go (fun t kt => XS.lload X0.here hx rfl (hb hby d7_40) rfl kt) ?_
                show Go p e below _ m s₁ 42 #[jv q0, .second, iv p1, jv q2, .second, jv q3, .second, jv q4, .second, jv q5, .second] [(.long q5), (.long q0)]
                refine go (fun t kt => XS.lcmp X0.here hx rfl (hb hby d7_42) rfl kt) ?_
                show Go p e below _ m s₁ 43 #[jv q0, .second, iv p1, jv q2, .second, jv q3, .second, jv q4, .second, jv q5, .second] [(.int (lcmpW q0 q5))]
                by_cases hc11 : q0 = q5
                ·
                  refine go (fun t kt => XS.ifNo X0.here hx rfl (hb hby d7_43) rfl ((if0 _ _).trans (teq ((lw_eq q0 q5).mpr hc11)).2) kt) ?_
                  show Go p e below _ m s₁ 46 #[jv q0, .second, iv p1, jv q2, .second, jv q3, .second, jv q4, .second, jv q5, .second] []
                  refine go (fun t kt => XS.iconst X0.here hx rfl (hb hby d7_46) kt) ?_
                  show Go p e below _ m s₁ 47 #[jv q0, .second, iv p1, jv q2, .second, jv q3, .second, jv q4, .second, jv q5, .second] [(.int (1 : Int32))]
                  refine go (fun t kt => XS.goto X0.here hx rfl (pc0 := 47) (pc' := 51) rfl (hb hby d7_47) (by decide) (by decide) kt) ?_
                  show Go p e below _ m s₁ 51 #[jv q0, .second, iv p1, jv q2, .second, jv q3, .second, jv q4, .second, jv q5, .second] [(.int (1 : Int32))]
                  obtain ⟨fs, hr, hrun, hended, hW, hsame⟩ := X0.leave (v := some (.int (1 : Int32))) (fun h => by rw [Bd.returns] at h; cases h)
                  refine ⟨_, _, retN X0 hx (t := .boolean) Bd.returns (by simp) (hb hby d7_51) hr, hrun, hended, _, _, rfl, ?_, ⟨_, rfl⟩, hW, hsame.mono (by decide) (by decide)⟩
                  show Q7 Z q0 p1 q2 q3 q4 q5 h0 n0 _ s₁.heap _
                  rw [e0]
                  exact ⟨(by unfold own_inp; rw [if_pos hc1, if_neg hc2, if_pos hc4, if_neg hc5, if_pos hc7, if_neg hc8, if_pos hc10, if_pos hc11]), N0, rfl⟩
                ·
                  refine go (fun t kt => XS.ifYes X0.here hx rfl (pc0 := 43) (pc' := 50) rfl (hb hby d7_43) rfl ((if0 _ _).trans (feq (fun q => hc11 ((lw_eq q0 q5).mp q))).2) (by decide) (by decide) kt) ?_
                  show Go p e below _ m s₁ 50 #[jv q0, .second, iv p1, jv q2, .second, jv q3, .second, jv q4, .second, jv q5, .second] []
                  refine go (fun t kt => XS.iconst X0.here hx rfl (hb hby d7_50) kt) ?_
                  show Go p e below _ m s₁ 51 #[jv q0, .second, iv p1, jv q2, .second, jv q3, .second, jv q4, .second, jv q5, .second] [(.int (0 : Int32))]
                  obtain ⟨fs, hr, hrun, hended, hW, hsame⟩ := X0.leave (v := some (.int (0 : Int32))) (fun h => by rw [Bd.returns] at h; cases h)
                  refine ⟨_, _, retN X0 hx (t := .boolean) Bd.returns (by simp) (hb hby d7_51) hr, hrun, hended, _, _, rfl, ?_, ⟨_, rfl⟩, hW, hsame.mono (by decide) (by decide)⟩
                  show Q7 Z q0 p1 q2 q3 q4 q5 h0 n0 _ s₁.heap _
                  rw [e0]
                  exact ⟨(by unfold own_inp; rw [if_pos hc1, if_neg hc2, if_pos hc4, if_neg hc5, if_pos hc7, if_neg hc8, if_pos hc10, if_neg hc11]), N0, rfl⟩
              ·
                refine go (fun t kt => XS.icmpYes X0.here hx rfl (pc0 := 36) (pc' := 50) rfl (hb hby d7_36) rfl (flt hc10).2.2.2 (by decide) (by decide) kt) ?_
                show Go p e below _ m s₁ 50 #[jv q0, .second, iv p1, jv q2, .second, jv q3, .second, jv q4, .second, jv q5, .second] []
                refine go (fun t kt => XS.iconst X0.here hx rfl (hb hby d7_50) kt) ?_
                show Go p e below _ m s₁ 51 #[jv q0, .second, iv p1, jv q2, .second, jv q3, .second, jv q4, .second, jv q5, .second] [(.int (0 : Int32))]
                obtain ⟨fs, hr, hrun, hended, hW, hsame⟩ := X0.leave (v := some (.int (0 : Int32))) (fun h => by rw [Bd.returns] at h; cases h)
                refine ⟨_, _, retN X0 hx (t := .boolean) Bd.returns (by simp) (hb hby d7_51) hr, hrun, hended, _, _, rfl, ?_, ⟨_, rfl⟩, hW, hsame.mono (by decide) (by decide)⟩
                show Q7 Z q0 p1 q2 q3 q4 q5 h0 n0 _ s₁.heap _
                rw [e0]
                exact ⟨(by unfold own_inp; rw [if_pos hc1, if_neg hc2, if_pos hc4, if_neg hc5, if_pos hc7, if_neg hc8, if_neg hc10]), N0, rfl⟩
          ·
            refine go (fun t kt => XS.icmpYes X0.here hx rfl (pc0 := 24) (pc' := 34) rfl (hb hby d7_24) rfl (flt hc7).2.2.2 (by decide) (by decide) kt) ?_
            show Go p e below _ m s₁ 34 #[jv q0, .second, iv p1, jv q2, .second, jv q3, .second, jv q4, .second, jv q5, .second] []
            refine go (fun t kt => XS.iloadN X0.here hx rfl (hb hby d7_34) rfl kt) ?_
            show Go p e below _ m s₁ 35 #[jv q0, .second, iv p1, jv q2, .second, jv q3, .second, jv q4, .second, jv q5, .second] [(.int p1)]
            refine go (fun t kt => XS.iconst X0.here hx rfl (hb hby d7_35) kt) ?_
            show Go p e below _ m s₁ 36 #[jv q0, .second, iv p1, jv q2, .second, jv q3, .second, jv q4, .second, jv q5, .second] [(.int (3 : Int32)), (.int p1)]
            by_cases hc15 : (3 : Int32) < p1
            ·
              refine go (fun t kt => XS.icmpNo X0.here hx rfl (hb hby d7_36) rfl (tlt hc15).2.2.2 kt) ?_
              show Go p e below _ m s₁ 39 #[jv q0, .second, iv p1, jv q2, .second, jv q3, .second, jv q4, .second, jv q5, .second] []
              refine go (fun t kt => XS.lloadN X0.here hx rfl (hb hby d7_39) rfl kt) ?_
              show Go p e below _ m s₁ 40 #[jv q0, .second, iv p1, jv q2, .second, jv q3, .second, jv q4, .second, jv q5, .second] [(.long q0)]
              refine go (fun t kt => XS.lload X0.here hx rfl (hb hby d7_40) rfl kt) ?_
              show Go p e below _ m s₁ 42 #[jv q0, .second, iv p1, jv q2, .second, jv q3, .second, jv q4, .second, jv q5, .second] [(.long q5), (.long q0)]
              refine go (fun t kt => XS.lcmp X0.here hx rfl (hb hby d7_42) rfl kt) ?_
              show Go p e below _ m s₁ 43 #[jv q0, .second, iv p1, jv q2, .second, jv q3, .second, jv q4, .second, jv q5, .second] [(.int (lcmpW q0 q5))]
              by_cases hc16 : q0 = q5
              ·
                refine go (fun t kt => XS.ifNo X0.here hx rfl (hb hby d7_43) rfl ((if0 _ _).trans (teq ((lw_eq q0 q5).mpr hc16)).2) kt) ?_
                show Go p e below _ m s₁ 46 #[jv q0, .second, iv p1, jv q2, .second, jv q3, .second, jv q4, .second, jv q5, .second] []
                refine go (fun t kt => XS.iconst X0.here hx rfl (hb hby d7_46) kt) ?_
                show Go p e below _ m s₁ 47 #[jv q0, .second, iv p1, jv q2, .second, jv q3, .second, jv q4, .second, jv q5, .second] [(.int (1 : Int32))]
                refine go (fun t kt => XS.goto X0.here hx rfl (pc0 := 47) (pc' := 51) rfl (hb hby d7_47) (by decide) (by decide) kt) ?_
                show Go p e below _ m s₁ 51 #[jv q0, .second, iv p1, jv q2, .second, jv q3, .second, jv q4, .second, jv q5, .second] [(.int (1 : Int32))]
                obtain ⟨fs, hr, hrun, hended, hW, hsame⟩ := X0.leave (v := some (.int (1 : Int32))) (fun h => by rw [Bd.returns] at h; cases h)
                refine ⟨_, _, retN X0 hx (t := .boolean) Bd.returns (by simp) (hb hby d7_51) hr, hrun, hended, _, _, rfl, ?_, ⟨_, rfl⟩, hW, hsame.mono (by decide) (by decide)⟩
                show Q7 Z q0 p1 q2 q3 q4 q5 h0 n0 _ s₁.heap _
                rw [e0]
                exact ⟨(by unfold own_inp; rw [if_pos hc1, if_neg hc2, if_pos hc4, if_neg hc5, if_neg hc7, if_pos hc15, if_pos hc16]), N0, rfl⟩
              ·
                refine go (fun t kt => XS.ifYes X0.here hx rfl (pc0 := 43) (pc' := 50) rfl (hb hby d7_43) rfl ((if0 _ _).trans (feq (fun q => hc16 ((lw_eq q0 q5).mp q))).2) (by decide) (by decide) kt) ?_
                show Go p e below _ m s₁ 50 #[jv q0, .second, iv p1, jv q2, .second, jv q3, .second, jv q4, .second, jv q5, .second] []
                refine go (fun t kt => XS.iconst X0.here hx rfl (hb hby d7_50) kt) ?_
                show Go p e below _ m s₁ 51 #[jv q0, .second, iv p1, jv q2, .second, jv q3, .second, jv q4, .second, jv q5, .second] [(.int (0 : Int32))]
                obtain ⟨fs, hr, hrun, hended, hW, hsame⟩ := X0.leave (v := some (.int (0 : Int32))) (fun h => by rw [Bd.returns] at h; cases h)
                refine ⟨_, _, retN X0 hx (t := .boolean) Bd.returns (by simp) (hb hby d7_51) hr, hrun, hended, _, _, rfl, ?_, ⟨_, rfl⟩, hW, hsame.mono (by decide) (by decide)⟩
                show Q7 Z q0 p1 q2 q3 q4 q5 h0 n0 _ s₁.heap _
                rw [e0]
                exact ⟨(by unfold own_inp; rw [if_pos hc1, if_neg hc2, if_pos hc4, if_neg hc5, if_neg hc7, if_pos hc15, if_neg hc16]), N0, rfl⟩
            ·
              refine go (fun t kt => XS.icmpYes X0.here hx rfl (pc0 := 36) (pc' := 50) rfl (hb hby d7_36) rfl (flt hc15).2.2.2 (by decide) (by decide) kt) ?_
              show Go p e below _ m s₁ 50 #[jv q0, .second, iv p1, jv q2, .second, jv q3, .second, jv q4, .second, jv q5, .second] []
              refine go (fun t kt => XS.iconst X0.here hx rfl (hb hby d7_50) kt) ?_
              show Go p e below _ m s₁ 51 #[jv q0, .second, iv p1, jv q2, .second, jv q3, .second, jv q4, .second, jv q5, .second] [(.int (0 : Int32))]
              obtain ⟨fs, hr, hrun, hended, hW, hsame⟩ := X0.leave (v := some (.int (0 : Int32))) (fun h => by rw [Bd.returns] at h; cases h)
              refine ⟨_, _, retN X0 hx (t := .boolean) Bd.returns (by simp) (hb hby d7_51) hr, hrun, hended, _, _, rfl, ?_, ⟨_, rfl⟩, hW, hsame.mono (by decide) (by decide)⟩
              show Q7 Z q0 p1 q2 q3 q4 q5 h0 n0 _ s₁.heap _
              rw [e0]
              exact ⟨(by unfold own_inp; rw [if_pos hc1, if_neg hc2, if_pos hc4, if_neg hc5, if_neg hc7, if_neg hc15]), N0, rfl⟩
      ·
        refine go (fun t kt => XS.icmpYes X0.here hx rfl (pc0 := 12) (pc' := 22) rfl (hb hby d7_12) rfl (flt hc4).2.2.2 (by decide) (by decide) kt) ?_
        show Go p e below _ m s₁ 22 #[jv q0, .second, iv p1, jv q2, .second, jv q3, .second, jv q4, .second, jv q5, .second] []
        refine go (fun t kt => XS.iloadN X0.here hx rfl (hb hby d7_22) rfl kt) ?_
        show Go p e below _ m s₁ 23 #[jv q0, .second, iv p1, jv q2, .second, jv q3, .second, jv q4, .second, jv q5, .second] [(.int p1)]
        refine go (fun t kt => XS.iconst X0.here hx rfl (hb hby d7_23) kt) ?_
        show Go p e below _ m s₁ 24 #[jv q0, .second, iv p1, jv q2, .second, jv q3, .second, jv q4, .second, jv q5, .second] [(.int (2 : Int32)), (.int p1)]
        by_cases hc20 : (2 : Int32) < p1
        ·
          refine go (fun t kt => XS.icmpNo X0.here hx rfl (hb hby d7_24) rfl (tlt hc20).2.2.2 kt) ?_
          show Go p e below _ m s₁ 27 #[jv q0, .second, iv p1, jv q2, .second, jv q3, .second, jv q4, .second, jv q5, .second] []
          refine go (fun t kt => XS.lloadN X0.here hx rfl (hb hby d7_27) rfl kt) ?_
          show Go p e below _ m s₁ 28 #[jv q0, .second, iv p1, jv q2, .second, jv q3, .second, jv q4, .second, jv q5, .second] [(.long q0)]
          refine go (fun t kt => XS.lload X0.here hx rfl (hb hby d7_28) rfl kt) ?_
          show Go p e below _ m s₁ 30 #[jv q0, .second, iv p1, jv q2, .second, jv q3, .second, jv q4, .second, jv q5, .second] [(.long q4), (.long q0)]
          refine go (fun t kt => XS.lcmp X0.here hx rfl (hb hby d7_30) rfl kt) ?_
          show Go p e below _ m s₁ 31 #[jv q0, .second, iv p1, jv q2, .second, jv q3, .second, jv q4, .second, jv q5, .second] [(.int (lcmpW q0 q4))]
          by_cases hc21 : q0 = q4
          ·
            refine go (fun t kt => XS.ifYes X0.here hx rfl (pc0 := 31) (pc' := 46) rfl (hb hby d7_31) rfl ((if0 _ _).trans (teq ((lw_eq q0 q4).mpr hc21)).1) (by decide) (by decide) kt) ?_
            show Go p e below _ m s₁ 46 #[jv q0, .second, iv p1, jv q2, .second, jv q3, .second, jv q4, .second, jv q5, .second] []
            refine go (fun t kt => XS.iconst X0.here hx rfl (hb hby d7_46) kt) ?_
            show Go p e below _ m s₁ 47 #[jv q0, .second, iv p1, jv q2, .second, jv q3, .second, jv q4, .second, jv q5, .second] [(.int (1 : Int32))]
            refine go (fun t kt => XS.goto X0.here hx rfl (pc0 := 47) (pc' := 51) rfl (hb hby d7_47) (by decide) (by decide) kt) ?_
            show Go p e below _ m s₁ 51 #[jv q0, .second, iv p1, jv q2, .second, jv q3, .second, jv q4, .second, jv q5, .second] [(.int (1 : Int32))]
            obtain ⟨fs, hr, hrun, hended, hW, hsame⟩ := X0.leave (v := some (.int (1 : Int32))) (fun h => by rw [Bd.returns] at h; cases h)
            refine ⟨_, _, retN X0 hx (t := .boolean) Bd.returns (by simp) (hb hby d7_51) hr, hrun, hended, _, _, rfl, ?_, ⟨_, rfl⟩, hW, hsame.mono (by decide) (by decide)⟩
            show Q7 Z q0 p1 q2 q3 q4 q5 h0 n0 _ s₁.heap _
            rw [e0]
            exact ⟨(by unfold own_inp; rw [if_pos hc1, if_neg hc2, if_neg hc4, if_pos hc20, if_pos hc21]), N0, rfl⟩
          ·
            refine go (fun t kt => XS.ifNo X0.here hx rfl (hb hby d7_31) rfl ((if0 _ _).trans (feq (fun q => hc21 ((lw_eq q0 q4).mp q))).1) kt) ?_
            show Go p e below _ m s₁ 34 #[jv q0, .second, iv p1, jv q2, .second, jv q3, .second, jv q4, .second, jv q5, .second] []
            refine go (fun t kt => XS.iloadN X0.here hx rfl (hb hby d7_34) rfl kt) ?_
            show Go p e below _ m s₁ 35 #[jv q0, .second, iv p1, jv q2, .second, jv q3, .second, jv q4, .second, jv q5, .second] [(.int p1)]
            refine go (fun t kt => XS.iconst X0.here hx rfl (hb hby d7_35) kt) ?_
            show Go p e below _ m s₁ 36 #[jv q0, .second, iv p1, jv q2, .second, jv q3, .second, jv q4, .second, jv q5, .second] [(.int (3 : Int32)), (.int p1)]
            by_cases hc23 : (3 : Int32) < p1
            ·
              refine go (fun t kt => XS.icmpNo X0.here hx rfl (hb hby d7_36) rfl (tlt hc23).2.2.2 kt) ?_
              show Go p e below _ m s₁ 39 #[jv q0, .second, iv p1, jv q2, .second, jv q3, .second, jv q4, .second, jv q5, .second] []
              refine go (fun t kt => XS.lloadN X0.here hx rfl (hb hby d7_39) rfl kt) ?_
              show Go p e below _ m s₁ 40 #[jv q0, .second, iv p1, jv q2, .second, jv q3, .second, jv q4, .second, jv q5, .second] [(.long q0)]
              refine go (fun t kt => XS.lload X0.here hx rfl (hb hby d7_40) rfl kt) ?_
              show Go p e below _ m s₁ 42 #[jv q0, .second, iv p1, jv q2, .second, jv q3, .second, jv q4, .second, jv q5, .second] [(.long q5), (.long q0)]
              refine go (fun t kt => XS.lcmp X0.here hx rfl (hb hby d7_42) rfl kt) ?_
              show Go p e below _ m s₁ 43 #[jv q0, .second, iv p1, jv q2, .second, jv q3, .second, jv q4, .second, jv q5, .second] [(.int (lcmpW q0 q5))]
              by_cases hc24 : q0 = q5
              ·
                refine go (fun t kt => XS.ifNo X0.here hx rfl (hb hby d7_43) rfl ((if0 _ _).trans (teq ((lw_eq q0 q5).mpr hc24)).2) kt) ?_
                show Go p e below _ m s₁ 46 #[jv q0, .second, iv p1, jv q2, .second, jv q3, .second, jv q4, .second, jv q5, .second] []
                refine go (fun t kt => XS.iconst X0.here hx rfl (hb hby d7_46) kt) ?_
                show Go p e below _ m s₁ 47 #[jv q0, .second, iv p1, jv q2, .second, jv q3, .second, jv q4, .second, jv q5, .second] [(.int (1 : Int32))]
                refine go (fun t kt => XS.goto X0.here hx rfl (pc0 := 47) (pc' := 51) rfl (hb hby d7_47) (by decide) (by decide) kt) ?_
                show Go p e below _ m s₁ 51 #[jv q0, .second, iv p1, jv q2, .second, jv q3, .second, jv q4, .second, jv q5, .second] [(.int (1 : Int32))]
                obtain ⟨fs, hr, hrun, hended, hW, hsame⟩ := X0.leave (v := some (.int (1 : Int32))) (fun h => by rw [Bd.returns] at h; cases h)
                refine ⟨_, _, retN X0 hx (t := .boolean) Bd.returns (by simp) (hb hby d7_51) hr, hrun, hended, _, _, rfl, ?_, ⟨_, rfl⟩, hW, hsame.mono (by decide) (by decide)⟩
                show Q7 Z q0 p1 q2 q3 q4 q5 h0 n0 _ s₁.heap _
                rw [e0]
                exact ⟨(by unfold own_inp; rw [if_pos hc1, if_neg hc2, if_neg hc4, if_pos hc20, if_neg hc21, if_pos hc23, if_pos hc24]), N0, rfl⟩
              ·
                refine go (fun t kt => XS.ifYes X0.here hx rfl (pc0 := 43) (pc' := 50) rfl (hb hby d7_43) rfl ((if0 _ _).trans (feq (fun q => hc24 ((lw_eq q0 q5).mp q))).2) (by decide) (by decide) kt) ?_
                show Go p e below _ m s₁ 50 #[jv q0, .second, iv p1, jv q2, .second, jv q3, .second, jv q4, .second, jv q5, .second] []
                refine go (fun t kt => XS.iconst X0.here hx rfl (hb hby d7_50) kt) ?_
                show Go p e below _ m s₁ 51 #[jv q0, .second, iv p1, jv q2, .second, jv q3, .second, jv q4, .second, jv q5, .second] [(.int (0 : Int32))]
                obtain ⟨fs, hr, hrun, hended, hW, hsame⟩ := X0.leave (v := some (.int (0 : Int32))) (fun h => by rw [Bd.returns] at h; cases h)
                refine ⟨_, _, retN X0 hx (t := .boolean) Bd.returns (by simp) (hb hby d7_51) hr, hrun, hended, _, _, rfl, ?_, ⟨_, rfl⟩, hW, hsame.mono (by decide) (by decide)⟩
                show Q7 Z q0 p1 q2 q3 q4 q5 h0 n0 _ s₁.heap _
                rw [e0]
                exact ⟨(by unfold own_inp; rw [if_pos hc1, if_neg hc2, if_neg hc4, if_pos hc20, if_neg hc21, if_pos hc23, if_neg hc24]), N0, rfl⟩
            ·
              refine go (fun t kt => XS.icmpYes X0.here hx rfl (pc0 := 36) (pc' := 50) rfl (hb hby d7_36) rfl (flt hc23).2.2.2 (by decide) (by decide) kt) ?_
              show Go p e below _ m s₁ 50 #[jv q0, .second, iv p1, jv q2, .second, jv q3, .second, jv q4, .second, jv q5, .second] []
              refine go (fun t kt => XS.iconst X0.here hx rfl (hb hby d7_50) kt) ?_
              show Go p e below _ m s₁ 51 #[jv q0, .second, iv p1, jv q2, .second, jv q3, .second, jv q4, .second, jv q5, .second] [(.int (0 : Int32))]
              obtain ⟨fs, hr, hrun, hended, hW, hsame⟩ := X0.leave (v := some (.int (0 : Int32))) (fun h => by rw [Bd.returns] at h; cases h)
              refine ⟨_, _, retN X0 hx (t := .boolean) Bd.returns (by simp) (hb hby d7_51) hr, hrun, hended, _, _, rfl, ?_, ⟨_, rfl⟩, hW, hsame.mono (by decide) (by decide)⟩
              show Q7 Z q0 p1 q2 q3 q4 q5 h0 n0 _ s₁.heap _
              rw [e0]
              exact ⟨(by unfold own_inp; rw [if_pos hc1, if_neg hc2, if_neg hc4, if_pos hc20, if_neg hc21, if_neg hc23]), N0, rfl⟩
        ·
          refine go (fun t kt => XS.icmpYes X0.here hx rfl (pc0 := 24) (pc' := 34) rfl (hb hby d7_24) rfl (flt hc20).2.2.2 (by decide) (by decide) kt) ?_
          show Go p e below _ m s₁ 34 #[jv q0, .second, iv p1, jv q2, .second, jv q3, .second, jv q4, .second, jv q5, .second] []
          refine go (fun t kt => XS.iloadN X0.here hx rfl (hb hby d7_34) rfl kt) ?_
          show Go p e below _ m s₁ 35 #[jv q0, .second, iv p1, jv q2, .second, jv q3, .second, jv q4, .second, jv q5, .second] [(.int p1)]
          refine go (fun t kt => XS.iconst X0.here hx rfl (hb hby d7_35) kt) ?_
          show Go p e below _ m s₁ 36 #[jv q0, .second, iv p1, jv q2, .second, jv q3, .second, jv q4, .second, jv q5, .second] [(.int (3 : Int32)), (.int p1)]
          by_cases hc28 : (3 : Int32) < p1
          ·
            refine go (fun t kt => XS.icmpNo X0.here hx rfl (hb hby d7_36) rfl (tlt hc28).2.2.2 kt) ?_
            show Go p e below _ m s₁ 39 #[jv q0, .second, iv p1, jv q2, .second, jv q3, .second, jv q4, .second, jv q5, .second] []
            refine go (fun t kt => XS.lloadN X0.here hx rfl (hb hby d7_39) rfl kt) ?_
            show Go p e below _ m s₁ 40 #[jv q0, .second, iv p1, jv q2, .second, jv q3, .second, jv q4, .second, jv q5, .second] [(.long q0)]
            refine go (fun t kt => XS.lload X0.here hx rfl (hb hby d7_40) rfl kt) ?_
            show Go p e below _ m s₁ 42 #[jv q0, .second, iv p1, jv q2, .second, jv q3, .second, jv q4, .second, jv q5, .second] [(.long q5), (.long q0)]
            refine go (fun t kt => XS.lcmp X0.here hx rfl (hb hby d7_42) rfl kt) ?_
            show Go p e below _ m s₁ 43 #[jv q0, .second, iv p1, jv q2, .second, jv q3, .second, jv q4, .second, jv q5, .second] [(.int (lcmpW q0 q5))]
            by_cases hc29 : q0 = q5
            ·
              refine go (fun t kt => XS.ifNo X0.here hx rfl (hb hby d7_43) rfl ((if0 _ _).trans (teq ((lw_eq q0 q5).mpr hc29)).2) kt) ?_
              show Go p e below _ m s₁ 46 #[jv q0, .second, iv p1, jv q2, .second, jv q3, .second, jv q4, .second, jv q5, .second] []
              refine go (fun t kt => XS.iconst X0.here hx rfl (hb hby d7_46) kt) ?_
              show Go p e below _ m s₁ 47 #[jv q0, .second, iv p1, jv q2, .second, jv q3, .second, jv q4, .second, jv q5, .second] [(.int (1 : Int32))]
              refine go (fun t kt => XS.goto X0.here hx rfl (pc0 := 47) (pc' := 51) rfl (hb hby d7_47) (by decide) (by decide) kt) ?_
              show Go p e below _ m s₁ 51 #[jv q0, .second, iv p1, jv q2, .second, jv q3, .second, jv q4, .second, jv q5, .second] [(.int (1 : Int32))]
              obtain ⟨fs, hr, hrun, hended, hW, hsame⟩ := X0.leave (v := some (.int (1 : Int32))) (fun h => by rw [Bd.returns] at h; cases h)
              refine ⟨_, _, retN X0 hx (t := .boolean) Bd.returns (by simp) (hb hby d7_51) hr, hrun, hended, _, _, rfl, ?_, ⟨_, rfl⟩, hW, hsame.mono (by decide) (by decide)⟩
              show Q7 Z q0 p1 q2 q3 q4 q5 h0 n0 _ s₁.heap _
              rw [e0]
              exact ⟨(by unfold own_inp; rw [if_pos hc1, if_neg hc2, if_neg hc4, if_neg hc20, if_pos hc28, if_pos hc29]), N0, rfl⟩
            ·
              refine go (fun t kt => XS.ifYes X0.here hx rfl (pc0 := 43) (pc' := 50) rfl (hb hby d7_43) rfl ((if0 _ _).trans (feq (fun q => hc29 ((lw_eq q0 q5).mp q))).2) (by decide) (by decide) kt) ?_
              show Go p e below _ m s₁ 50 #[jv q0, .second, iv p1, jv q2, .second, jv q3, .second, jv q4, .second, jv q5, .second] []
              refine go (fun t kt => XS.iconst X0.here hx rfl (hb hby d7_50) kt) ?_
              show Go p e below _ m s₁ 51 #[jv q0, .second, iv p1, jv q2, .second, jv q3, .second, jv q4, .second, jv q5, .second] [(.int (0 : Int32))]
              obtain ⟨fs, hr, hrun, hended, hW, hsame⟩ := X0.leave (v := some (.int (0 : Int32))) (fun h => by rw [Bd.returns] at h; cases h)
              refine ⟨_, _, retN X0 hx (t := .boolean) Bd.returns (by simp) (hb hby d7_51) hr, hrun, hended, _, _, rfl, ?_, ⟨_, rfl⟩, hW, hsame.mono (by decide) (by decide)⟩
              show Q7 Z q0 p1 q2 q3 q4 q5 h0 n0 _ s₁.heap _
              rw [e0]
              exact ⟨(by unfold own_inp; rw [if_pos hc1, if_neg hc2, if_neg hc4, if_neg hc20, if_pos hc28, if_neg hc29]), N0, rfl⟩
          ·
            refine go (fun t kt => XS.icmpYes X0.here hx rfl (pc0 := 36) (pc' := 50) rfl (hb hby d7_36) rfl (flt hc28).2.2.2 (by decide) (by decide) kt) ?_
            show Go p e below _ m s₁ 50 #[jv q0, .second, iv p1, jv q2, .second, jv q3, .second, jv q4, .second, jv q5, .second] []
            refine go (fun t kt => XS.iconst X0.here hx rfl (hb hby d7_50) kt) ?_
            show Go p e below _ m s₁ 51 #[jv q0, .second, iv p1, jv q2, .second, jv q3, .second, jv q4, .second, jv q5, .second] [(.int (0 : Int32))]
            obtain ⟨fs, hr, hrun, hended, hW, hsame⟩ := X0.leave (v := some (.int (0 : Int32))) (fun h => by rw [Bd.returns] at h; cases h)
            refine ⟨_, _, retN X0 hx (t := .boolean) Bd.returns (by simp) (hb hby d7_51) hr, hrun, hended, _, _, rfl, ?_, ⟨_, rfl⟩, hW, hsame.mono (by decide) (by decide)⟩
            show Q7 Z q0 p1 q2 q3 q4 q5 h0 n0 _ s₁.heap _
            rw [e0]
            exact ⟨(by unfold own_inp; rw [if_pos hc1, if_neg hc2, if_neg hc4, if_neg hc20, if_neg hc28]), N0, rfl⟩
  ·
    refine go (fun t kt => XS.ifYes X0.here hx rfl (pc0 := 1) (pc' := 10) rfl (hb hby d7_1) rfl ((if0 _ _).trans (flt hc1).2.2.2) (by decide) (by decide) kt) ?_
    show Go p e below _ m s₁ 10 #[jv q0, .second, iv p1, jv q2, .second, jv q3, .second, jv q4, .second, jv q5, .second] []
    refine go (fun t kt => XS.iloadN X0.here hx rfl (hb hby d7_10) rfl kt) ?_
    show Go p e below _ m s₁ 11 #[jv q0, .second, iv p1, jv q2, .second, jv q3, .second, jv q4, .second, jv q5, .second] [(.int p1)]
    refine go (fun t kt => XS.iconst X0.here hx rfl (hb hby d7_11) kt) ?_
    show Go p e below _ m s₁ 12 #[jv q0, .second, iv p1, jv q2, .second, jv q3, .second, jv q4, .second, jv q5, .second] [(.int (1 : Int32)), (.int p1)]
    by_cases hc33 : (1 : Int32) < p1
    ·
      refine go (fun t kt => XS.icmpNo X0.here hx rfl (hb hby d7_12) rfl (tlt hc33).2.2.2 kt) ?_
      show Go p e below _ m s₁ 15 #[jv q0, .second, iv p1, jv q2, .second, jv q3, .second, jv q4, .second, jv q5, .second] []
      refine go (fun t kt => XS.lloadN X0.here hx rfl (hb hby d7_15) rfl kt) ?_
      show Go p e below _ m s₁ 16 #[jv q0, .second, iv p1, jv q2, .second, jv q3, .second, jv q4, .second, jv q5, .second] [(.long q0)]
      refine go (fun t kt => XS.lload X0.here hx rfl (hb hby d7_16) rfl kt) ?_
      show Go p e below _ m s₁ 18 #[jv q0, .second, iv p1, jv q2, .second, jv q3, .second, jv q4, .second, jv q5, .second] [(.long q3), (.long q0)]
      refine go (fun t kt => XS.lcmp X0.here hx rfl (hb hby d7_18) rfl kt) ?_
      show Go p e below _ m s₁ 19 #[jv q0, .second, iv p1, jv q2, .second, jv q3, .second, jv q4, .second, jv q5, .second] [(.int (lcmpW q0 q3))]
      by_cases hc34 : q0 = q3
      ·
        refine go (fun t kt => XS.ifYes X0.here hx rfl (pc0 := 19) (pc' := 46) rfl (hb hby d7_19) rfl ((if0 _ _).trans (teq ((lw_eq q0 q3).mpr hc34)).1) (by decide) (by decide) kt) ?_
        show Go p e below _ m s₁ 46 #[jv q0, .second, iv p1, jv q2, .second, jv q3, .second, jv q4, .second, jv q5, .second] []
        refine go (fun t kt => XS.iconst X0.here hx rfl (hb hby d7_46) kt) ?_
        show Go p e below _ m s₁ 47 #[jv q0, .second, iv p1, jv q2, .second, jv q3, .second, jv q4, .second, jv q5, .second] [(.int (1 : Int32))]
        refine go (fun t kt => XS.goto X0.here hx rfl (pc0 := 47) (pc' := 51) rfl (hb hby d7_47) (by decide) (by decide) kt) ?_
        show Go p e below _ m s₁ 51 #[jv q0, .second, iv p1, jv q2, .second, jv q3, .second, jv q4, .second, jv q5, .second] [(.int (1 : Int32))]
        obtain ⟨fs, hr, hrun, hended, hW, hsame⟩ := X0.leave (v := some (.int (1 : Int32))) (fun h => by rw [Bd.returns] at h; cases h)
        refine ⟨_, _, retN X0 hx (t := .boolean) Bd.returns (by simp) (hb hby d7_51) hr, hrun, hended, _, _, rfl, ?_, ⟨_, rfl⟩, hW, hsame.mono (by decide) (by decide)⟩
        show Q7 Z q0 p1 q2 q3 q4 q5 h0 n0 _ s₁.heap _
        rw [e0]
        exact ⟨(by unfold own_inp; rw [if_neg hc1, if_pos hc33, if_pos hc34]), N0, rfl⟩
      ·
        refine go (fun t kt => XS.ifNo X0.here hx rfl (hb hby d7_19) rfl ((if0 _ _).trans (feq (fun q => hc34 ((lw_eq q0 q3).mp q))).1) kt) ?_
        show Go p e below _ m s₁ 22 #[jv q0, .second, iv p1, jv q2, .second, jv q3, .second, jv q4, .second, jv q5, .second] []
        refine go (fun t kt => XS.iloadN X0.here hx rfl (hb hby d7_22) rfl kt) ?_
        show Go p e below _ m s₁ 23 #[jv q0, .second, iv p1, jv q2, .second, jv q3, .second, jv q4, .second, jv q5, .second] [(.int p1)]
        refine go (fun t kt => XS.iconst X0.here hx rfl (hb hby d7_23) kt) ?_
        show Go p e below _ m s₁ 24 #[jv q0, .second, iv p1, jv q2, .second, jv q3, .second, jv q4, .second, jv q5, .second] [(.int (2 : Int32)), (.int p1)]
        by_cases hc36 : (2 : Int32) < p1
        ·
          refine go (fun t kt => XS.icmpNo X0.here hx rfl (hb hby d7_24) rfl (tlt hc36).2.2.2 kt) ?_
          show Go p e below _ m s₁ 27 #[jv q0, .second, iv p1, jv q2, .second, jv q3, .second, jv q4, .second, jv q5, .second] []
          refine go (fun t kt => XS.lloadN X0.here hx rfl (hb hby d7_27) rfl kt) ?_
          show Go p e below _ m s₁ 28 #[jv q0, .second, iv p1, jv q2, .second, jv q3, .second, jv q4, .second, jv q5, .second] [(.long q0)]
          refine go (fun t kt => XS.lload X0.here hx rfl (hb hby d7_28) rfl kt) ?_
          show Go p e below _ m s₁ 30 #[jv q0, .second, iv p1, jv q2, .second, jv q3, .second, jv q4, .second, jv q5, .second] [(.long q4), (.long q0)]
          refine go (fun t kt => XS.lcmp X0.here hx rfl (hb hby d7_30) rfl kt) ?_
          show Go p e below _ m s₁ 31 #[jv q0, .second, iv p1, jv q2, .second, jv q3, .second, jv q4, .second, jv q5, .second] [(.int (lcmpW q0 q4))]
          by_cases hc37 : q0 = q4
          ·
            refine go (fun t kt => XS.ifYes X0.here hx rfl (pc0 := 31) (pc' := 46) rfl (hb hby d7_31) rfl ((if0 _ _).trans (teq ((lw_eq q0 q4).mpr hc37)).1) (by decide) (by decide) kt) ?_
            show Go p e below _ m s₁ 46 #[jv q0, .second, iv p1, jv q2, .second, jv q3, .second, jv q4, .second, jv q5, .second] []
            refine go (fun t kt => XS.iconst X0.here hx rfl (hb hby d7_46) kt) ?_
            show Go p e below _ m s₁ 47 #[jv q0, .second, iv p1, jv q2, .second, jv q3, .second, jv q4, .second, jv q5, .second] [(.int (1 : Int32))]
            refine go (fun t kt => XS.goto X0.here hx rfl (pc0 := 47) (pc' := 51) rfl (hb hby d7_47) (by decide) (by decide) kt) ?_
            show Go p e below _ m s₁ 51 #[jv q0, .second, iv p1, jv q2, .second, jv q3, .second, jv q4, .second, jv q5, .second] [(.int (1 : Int32))]
            obtain ⟨fs, hr, hrun, hended, hW, hsame⟩ := X0.leave (v := some (.int (1 : Int32))) (fun h => by rw [Bd.returns] at h; cases h)
            refine ⟨_, _, retN X0 hx (t := .boolean) Bd.returns (by simp) (hb hby d7_51) hr, hrun, hended, _, _, rfl, ?_, ⟨_, rfl⟩, hW, hsame.mono (by decide) (by decide)⟩
            show Q7 Z q0 p1 q2 q3 q4 q5 h0 n0 _ s₁.heap _
            rw [e0]
            exact ⟨(by unfold own_inp; rw [if_neg hc1, if_pos hc33, if_neg hc34, if_pos hc36, if_pos hc37]), N0, rfl⟩
          ·
            refine go (fun t kt => XS.ifNo X0.here hx rfl (hb hby d7_31) rfl ((if0 _ _).trans (feq (fun q => hc37 ((lw_eq q0 q4).mp q))).1) kt) ?_
            show Go p e below _ m s₁ 34 #[jv q0, .second, iv p1, jv q2, .second, jv q3, .second, jv q4, .second, jv q5, .second] []
            refine go (fun t kt => XS.iloadN X0.here hx rfl (hb hby d7_34) rfl kt) ?_
            show Go p e below _ m s₁ 35 #[jv q0, .second, iv p1, jv q2, .second, jv q3, .second, jv q4, .second, jv q5, .second] [(.int p1)]
            refine go (fun t kt => XS.iconst X0.here hx rfl (hb hby d7_35) kt) ?_
            show Go p e below _ m s₁ 36 #[jv q0, .second, iv p1, jv q2, .second, jv q3, .second, jv q4, .second, jv q5, .second] [(.int (3 : Int32)), (.int p1)]
            by_cases hc39 : (3 : Int32) < p1
            ·
              refine go (fun t kt => XS.icmpNo X0.here hx rfl (hb hby d7_36) rfl (tlt hc39).2.2.2 kt) ?_
              show Go p e below _ m s₁ 39 #[jv q0, .second, iv p1, jv q2, .second, jv q3, .second, jv q4, .second, jv q5, .second] []
              refine go (fun t kt => XS.lloadN X0.here hx rfl (hb hby d7_39) rfl kt) ?_
              show Go p e below _ m s₁ 40 #[jv q0, .second, iv p1, jv q2, .second, jv q3, .second, jv q4, .second, jv q5, .second] [(.long q0)]
              refine go (fun t kt => XS.lload X0.here hx rfl (hb hby d7_40) rfl kt) ?_
              show Go p e below _ m s₁ 42 #[jv q0, .second, iv p1, jv q2, .second, jv q3, .second, jv q4, .second, jv q5, .second] [(.long q5), (.long q0)]
              refine go (fun t kt => XS.lcmp X0.here hx rfl (hb hby d7_42) rfl kt) ?_
              show Go p e below _ m s₁ 43 #[jv q0, .second, iv p1, jv q2, .second, jv q3, .second, jv q4, .second, jv q5, .second] [(.int (lcmpW q0 q5))]
              by_cases hc40 : q0 = q5
              ·
                refine go (fun t kt => XS.ifNo X0.here hx rfl (hb hby d7_43) rfl ((if0 _ _).trans (teq ((lw_eq q0 q5).mpr hc40)).2) kt) ?_
                show Go p e below _ m s₁ 46 #[jv q0, .second, iv p1, jv q2, .second, jv q3, .second, jv q4, .second, jv q5, .second] []
                refine go (fun t kt => XS.iconst X0.here hx rfl (hb hby d7_46) kt) ?_
                show Go p e below _ m s₁ 47 #[jv q0, .second, iv p1, jv q2, .second, jv q3, .second, jv q4, .second, jv q5, .second] [(.int (1 : Int32))]
                refine go (fun t kt => XS.goto X0.here hx rfl (pc0 := 47) (pc' := 51) rfl (hb hby d7_47) (by decide) (by decide) kt) ?_
                show Go p e below _ m s₁ 51 #[jv q0, .second, iv p1, jv q2, .second, jv q3, .second, jv q4, .second, jv q5, .second] [(.int (1 : Int32))]
                obtain ⟨fs, hr, hrun, hended, hW, hsame⟩ := X0.leave (v := some (.int (1 : Int32))) (fun h => by rw [Bd.returns] at h; cases h)
                refine ⟨_, _, retN X0 hx (t := .boolean) Bd.returns (by simp) (hb hby d7_51) hr, hrun, hended, _, _, rfl, ?_, ⟨_, rfl⟩, hW, hsame.mono (by decide) (by decide)⟩
                show Q7 Z q0 p1 q2 q3 q4 q5 h0 n0 _ s₁.heap _
                rw [e0]
                exact ⟨(by unfold own_inp; rw [if_neg hc1, if_pos hc33, if_neg hc34, if_pos hc36, if_neg hc37, if_pos hc39, if_pos hc40]), N0, rfl⟩
              ·
                refine go (fun t kt => XS.ifYes X0.here hx rfl (pc0 := 43) (pc' := 50) rfl (hb hby d7_43) rfl ((if0 _ _).trans (feq (fun q => hc40 ((lw_eq q0 q5).mp q))).2) (by decide) (by decide) kt) ?_
                show Go p e below _ m s₁ 50 #[jv q0, .second, iv p1, jv q2, .second, jv q3, .second, jv q4, .second, jv q5, .second] []
                refine go (fun t kt => XS.iconst X0.here hx rfl (hb hby d7_50) kt) ?_
                show Go p e below _ m s₁ 51 #[jv q0, .second, iv p1, jv q2, .second, jv q3, .second, jv q4, .second, jv q5, .second] [(.int (0 : Int32))]
                obtain ⟨fs, hr, hrun, hended, hW, hsame⟩ := X0.leave (v := some (.int (0 : Int32))) (fun h => by rw [Bd.returns] at h; cases h)
                refine ⟨_, _, retN X0 hx (t := .boolean) Bd.returns (by simp) (hb hby d7_51) hr, hrun, hended, _, _, rfl, ?_, ⟨_, rfl⟩, hW, hsame.mono (by decide) (by decide)⟩
                show Q7 Z q0 p1 q2 q3 q4 q5 h0 n0 _ s₁.heap _
                rw [e0]
                exact ⟨(by unfold own_inp; rw [if_neg hc1, if_pos hc33, if_neg hc34, if_pos hc36, if_neg hc37, if_pos hc39, if_neg hc40]), N0, rfl⟩
            ·
              refine go (fun t kt => XS.icmpYes X0.here hx rfl (pc0 := 36) (pc' := 50) rfl (hb hby d7_36) rfl (flt hc39).2.2.2 (by decide) (by decide) kt) ?_
              show Go p e below _ m s₁ 50 #[jv q0, .second, iv p1, jv q2, .second, jv q3, .second, jv q4, .second, jv q5, .second] []
              refine go (fun t kt => XS.iconst X0.here hx rfl (hb hby d7_50) kt) ?_
              show Go p e below _ m s₁ 51 #[jv q0, .second, iv p1, jv q2, .second, jv q3, .second, jv q4, .second, jv q5, .second] [(.int (0 : Int32))]
              obtain ⟨fs, hr, hrun, hended, hW, hsame⟩ := X0.leave (v := some (.int (0 : Int32))) (fun h => by rw [Bd.returns] at h; cases h)
              refine ⟨_, _, retN X0 hx (t := .boolean) Bd.returns (by simp) (hb hby d7_51) hr, hrun, hended, _, _, rfl, ?_, ⟨_, rfl⟩, hW, hsame.mono (by decide) (by decide)⟩
              show Q7 Z q0 p1 q2 q3 q4 q5 h0 n0 _ s₁.heap _
              rw [e0]
              exact ⟨(by unfold own_inp; rw [if_neg hc1, if_pos hc33, if_neg hc34, if_pos hc36, if_neg hc37, if_neg hc39]), N0, rfl⟩
        ·
          refine go (fun t kt => XS.icmpYes X0.here hx rfl (pc0 := 24) (pc' := 34) rfl (hb hby d7_24) rfl (flt hc36).2.2.2 (by decide) (by decide) kt) ?_
          show Go p e below _ m s₁ 34 #[jv q0, .second, iv p1, jv q2, .second, jv q3, .second, jv q4, .second, jv q5, .second] []
          refine go (fun t kt => XS.iloadN X0.here hx rfl (hb hby d7_34) rfl kt) ?_
          show Go p e below _ m s₁ 35 #[jv q0, .second, iv p1, jv q2, .second, jv q3, .second, jv q4, .second, jv q5, .second] [(.int p1)]
          refine go (fun t kt => XS.iconst X0.here hx rfl (hb hby d7_35) kt) ?_
          show Go p e below _ m s₁ 36 #[jv q0, .second, iv p1, jv q2, .second, jv q3, .second, jv q4, .second, jv q5, .second] [(.int (3 : Int32)), (.int p1)]
          by_cases hc44 : (3 : Int32) < p1
          ·
            refine go (fun t kt => XS.icmpNo X0.here hx rfl (hb hby d7_36) rfl (tlt hc44).2.2.2 kt) ?_
            show Go p e below _ m s₁ 39 #[jv q0, .second, iv p1, jv q2, .second, jv q3, .second, jv q4, .second, jv q5, .second] []
            refine go (fun t kt => XS.lloadN X0.here hx rfl (hb hby d7_39) rfl kt) ?_
            show Go p e below _ m s₁ 40 #[jv q0, .second, iv p1, jv q2, .second, jv q3, .second, jv q4, .second, jv q5, .second] [(.long q0)]
            refine go (fun t kt => XS.lload X0.here hx rfl (hb hby d7_40) rfl kt) ?_
            show Go p e below _ m s₁ 42 #[jv q0, .second, iv p1, jv q2, .second, jv q3, .second, jv q4, .second, jv q5, .second] [(.long q5), (.long q0)]
            refine go (fun t kt => XS.lcmp X0.here hx rfl (hb hby d7_42) rfl kt) ?_
            show Go p e below _ m s₁ 43 #[jv q0, .second, iv p1, jv q2, .second, jv q3, .second, jv q4, .second, jv q5, .second] [(.int (lcmpW q0 q5))]
            by_cases hc45 : q0 = q5
            ·
              refine go (fun t kt => XS.ifNo X0.here hx rfl (hb hby d7_43) rfl ((if0 _ _).trans (teq ((lw_eq q0 q5).mpr hc45)).2) kt) ?_
              show Go p e below _ m s₁ 46 #[jv q0, .second, iv p1, jv q2, .second, jv q3, .second, jv q4, .second, jv q5, .second] []
              refine go (fun t kt => XS.iconst X0.here hx rfl (hb hby d7_46) kt) ?_
              show Go p e below _ m s₁ 47 #[jv q0, .second, iv p1, jv q2, .second, jv q3, .second, jv q4, .second, jv q5, .second] [(.int (1 : Int32))]
              refine go (fun t kt => XS.goto X0.here hx rfl (pc0 := 47) (pc' := 51) rfl (hb hby d7_47) (by decide) (by decide) kt) ?_
              show Go p e below _ m s₁ 51 #[jv q0, .second, iv p1, jv q2, .second, jv q3, .second, jv q4, .second, jv q5, .second] [(.int (1 : Int32))]
              obtain ⟨fs, hr, hrun, hended, hW, hsame⟩ := X0.leave (v := some (.int (1 : Int32))) (fun h => by rw [Bd.returns] at h; cases h)
              refine ⟨_, _, retN X0 hx (t := .boolean) Bd.returns (by simp) (hb hby d7_51) hr, hrun, hended, _, _, rfl, ?_, ⟨_, rfl⟩, hW, hsame.mono (by decide) (by decide)⟩
              show Q7 Z q0 p1 q2 q3 q4 q5 h0 n0 _ s₁.heap _
              rw [e0]
              exact ⟨(by unfold own_inp; rw [if_neg hc1, if_pos hc33, if_neg hc34, if_neg hc36, if_pos hc44, if_pos hc45]), N0, rfl⟩
            ·
              refine go (fun t kt => XS.ifYes X0.here hx rfl (pc0 := 43) (pc' := 50) rfl (hb hby d7_43) rfl ((if0 _ _).trans (feq (fun q => hc45 ((lw_eq q0 q5).mp q))).2) (by decide) (by decide) kt) ?_
              show Go p e below _ m s₁ 50 #[jv q0, .second, iv p1, jv q2, .second, jv q3, .second, jv q4, .second, jv q5, .second] []
              refine go (fun t kt => XS.iconst X0.here hx rfl (hb hby d7_50) kt) ?_
              show Go p e below _ m s₁ 51 #[jv q0, .second, iv p1, jv q2, .second, jv q3, .second, jv q4, .second, jv q5, .second] [(.int (0 : Int32))]
              obtain ⟨fs, hr, hrun, hended, hW, hsame⟩ := X0.leave (v := some (.int (0 : Int32))) (fun h => by rw [Bd.returns] at h; cases h)
              refine ⟨_, _, retN X0 hx (t := .boolean) Bd.returns (by simp) (hb hby d7_51) hr, hrun, hended, _, _, rfl, ?_, ⟨_, rfl⟩, hW, hsame.mono (by decide) (by decide)⟩
              show Q7 Z q0 p1 q2 q3 q4 q5 h0 n0 _ s₁.heap _
              rw [e0]
              exact ⟨(by unfold own_inp; rw [if_neg hc1, if_pos hc33, if_neg hc34, if_neg hc36, if_pos hc44, if_neg hc45]), N0, rfl⟩
          ·
            refine go (fun t kt => XS.icmpYes X0.here hx rfl (pc0 := 36) (pc' := 50) rfl (hb hby d7_36) rfl (flt hc44).2.2.2 (by decide) (by decide) kt) ?_
            show Go p e below _ m s₁ 50 #[jv q0, .second, iv p1, jv q2, .second, jv q3, .second, jv q4, .second, jv q5, .second] []
            refine go (fun t kt => XS.iconst X0.here hx rfl (hb hby d7_50) kt) ?_
            show Go p e below _ m s₁ 51 #[jv q0, .second, iv p1, jv q2, .second, jv q3, .second, jv q4, .second, jv q5, .second] [(.int (0 : Int32))]
            obtain ⟨fs, hr, hrun, hended, hW, hsame⟩ := X0.leave (v := some (.int (0 : Int32))) (fun h => by rw [Bd.returns] at h; cases h)
            refine ⟨_, _, retN X0 hx (t := .boolean) Bd.returns (by simp) (hb hby d7_51) hr, hrun, hended, _, _, rfl, ?_, ⟨_, rfl⟩, hW, hsame.mono (by decide) (by decide)⟩
            show Q7 Z q0 p1 q2 q3 q4 q5 h0 n0 _ s₁.heap _
            rw [e0]
            exact ⟨(by unfold own_inp; rw [if_neg hc1, if_pos hc33, if_neg hc34, if_neg hc36, if_neg hc44]), N0, rfl⟩
    ·
      refine go (fun t kt => XS.icmpYes X0.here hx rfl (pc0 := 12) (pc' := 22) rfl (hb hby d7_12) rfl (flt hc33).2.2.2 (by decide) (by decide) kt) ?_
      show Go p e below _ m s₁ 22 #[jv q0, .second, iv p1, jv q2, .second, jv q3, .second, jv q4, .second, jv q5, .second] []
      refine go (fun t kt => XS.iloadN X0.here hx rfl (hb hby d7_22) rfl kt) ?_
      show Go p e below _ m s₁ 23 #[jv q0, .second, iv p1, jv q2, .second, jv q3, .second, jv q4, .second, jv q5, .second] [(.int p1)]
      refine go (fun t kt => XS.iconst X0.here hx rfl (hb hby d7_23) kt) ?_
      show Go p e below _ m s₁ 24 #[jv q0, .second, iv p1, jv q2, .second, jv q3, .second, jv q4, .second, jv q5, .second] [(.int (2 : Int32)), (.int p1)]
      by_cases hc49 : (2 : Int32) < p1
      ·
        refine go (fun t kt => XS.icmpNo X0.here hx rfl (hb hby d7_24) rfl (tlt hc49).2.2.2 kt) ?_
        show Go p e below _ m s₁ 27 #[jv q0, .second, iv p1, jv q2, .second, jv q3, .second, jv q4, .second, jv q5, .second] []
        refine go (fun t kt => XS.lloadN X0.here hx rfl (hb hby d7_27) rfl kt) ?_
        show Go p e below _ m s₁ 28 #[jv q0, .second, iv p1, jv q2, .second, jv q3, .second, jv q4, .second, jv q5, .second] [(.long q0)]
        refine go (fun t kt => XS.lload X0.here hx rfl (hb hby d7_28) rfl kt) ?_
        show Go p e below _ m s₁ 30 #[jv q0, .second, iv p1, jv q2, .second, jv q3, .second, jv q4, .second, jv q5, .second] [(.long q4), (.long q0)]
        refine go (fun t kt => XS.lcmp X0.here hx rfl (hb hby d7_30) rfl kt) ?_
        show Go p e below _ m s₁ 31 #[jv q0, .second, iv p1, jv q2, .second, jv q3, .second, jv q4, .second, jv q5, .second] [(.int (lcmpW q0 q4))]
        by_cases hc50 : q0 = q4
        ·
          refine go (fun t kt => XS.ifYes X0.here hx rfl (pc0 := 31) (pc' := 46) rfl (hb hby d7_31) rfl ((if0 _ _).trans (teq ((lw_eq q0 q4).mpr hc50)).1) (by decide) (by decide) kt) ?_
          show Go p e below _ m s₁ 46 #[jv q0, .second, iv p1, jv q2, .second, jv q3, .second, jv q4, .second, jv q5, .second] []
          refine go (fun t kt => XS.iconst X0.here hx rfl (hb hby d7_46) kt) ?_
          show Go p e below _ m s₁ 47 #[jv q0, .second, iv p1, jv q2, .second, jv q3, .second, jv q4, .second, jv q5, .second] [(.int (1 : Int32))]
          refine go (fun t kt => XS.goto X0.here hx rfl (pc0 := 47) (pc' := 51) rfl (hb hby d7_47) (by decide) (by decide) kt) ?_
          show Go p e below _ m s₁ 51 #[jv q0, .second, iv p1, jv q2, .second, jv q3, .second, jv q4, .second, jv q5, .second] [(.int (1 : Int32))]
          obtain ⟨fs, hr, hrun, hended, hW, hsame⟩ := X0.leave (v := some (.int (1 : Int32))) (fun h => by rw [Bd.returns] at h; cases h)
          refine ⟨_, _, retN X0 hx (t := .boolean) Bd.returns (by simp) (hb hby d7_51) hr, hrun, hended, _, _, rfl, ?_, ⟨_, rfl⟩, hW, hsame.mono (by decide) (by decide)⟩
          show Q7 Z q0 p1 q2 q3 q4 q5 h0 n0 _ s₁.heap _
          rw [e0]
          exact ⟨(by unfold own_inp; rw [if_neg hc1, if_neg hc33, if_pos hc49, if_pos hc50]), N0, rfl⟩
        ·
          refine go (fun t kt => XS.ifNo X0.here hx rfl (hb hby d7_31) rfl ((if0 _ _).trans (feq (fun q => hc50 ((lw_eq q0 q4).mp q))).1) kt) ?_
          show Go p e below _ m s₁ 34 #[jv q0, .second, iv p1, jv q2, .second, jv q3, .second, jv q4, .second, jv q5, .second] []
          refine go (fun t kt => XS.iloadN X0.here hx rfl (hb hby d7_34) rfl kt) ?_
          show Go p e below _ m s₁ 35 #[jv q0, .second, iv p1, jv q2, .second, jv q3, .second, jv q4, .second, jv q5, .second] [(.int p1)]
          refine go (fun t kt => XS.iconst X0.here hx rfl (hb hby d7_35) kt) ?_
          show Go p e below _ m s₁ 36 #[jv q0, .second, iv p1, jv q2, .second, jv q3, .second, jv q4, .second, jv q5, .second] [(.int (3 : Int32)), (.int p1)]
          by_cases hc52 : (3 : Int32) < p1
          ·
            refine go (fun t kt => XS.icmpNo X0.here hx rfl (hb hby d7_36) rfl (tlt hc52).2.2.2 kt) ?_
            show Go p e below _ m s₁ 39 #[jv q0, .second, iv p1, jv q2, .second, jv q3, .second, jv q4, .second, jv q5, .second] []
            refine go (fun t kt => XS.lloadN X0.here hx rfl (hb hby d7_39) rfl kt) ?_
            show Go p e below _ m s₁ 40 #[jv q0, .second, iv p1, jv q2, .second, jv q3, .second, jv q4, .second, jv q5, .second] [(.long q0)]
            refine go (fun t kt => XS.lload X0.here hx rfl (hb hby d7_40) rfl kt) ?_
            show Go p e below _ m s₁ 42 #[jv q0, .second, iv p1, jv q2, .second, jv q3, .second, jv q4, .second, jv q5, .second] [(.long q5), (.long q0)]
            refine go (fun t kt => XS.lcmp X0.here hx rfl (hb hby d7_42) rfl kt) ?_
            show Go p e below _ m s₁ 43 #[jv q0, .second, iv p1, jv q2, .second, jv q3, .second, jv q4, .second, jv q5, .second] [(.int (lcmpW q0 q5))]
            by_cases hc53 : q0 = q5
            ·
              refine go (fun t kt => XS.ifNo X0.here hx rfl (hb hby d7_43) rfl ((if0 _ _).trans (teq ((lw_eq q0 q5).mpr hc53)).2) kt) ?_
              show Go p e below _ m s₁ 46 #[jv q0, .second, iv p1, jv q2, .second, jv q3, .second, jv q4, .second, jv q5, .second] []
              refine go (fun t kt => XS.iconst X0.here hx rfl (hb hby d7_46) kt) ?_
              show Go p e below _ m s₁ 47 #[jv q0, .second, iv p1, jv q2, .second, jv q3, .second, jv q4, .second, jv q5, .second] [(.int (1 : Int32))]
              refine go (fun t kt => XS.goto X0.here hx rfl (pc0 := 47) (pc' := 51) rfl (hb hby d7_47) (by decide) (by decide) kt) ?_
              show Go p e below _ m s₁ 51 #[jv q0, .second, iv p1, jv q2, .second, jv q3, .second, jv q4, .second, jv q5, .second] [(.int (1 : Int32))]
              obtain ⟨fs, hr, hrun, hended, hW, hsame⟩ := X0.leave (v := some (.int (1 : Int32))) (fun h => by rw [Bd.returns] at h; cases h)
              refine ⟨_, _, retN X0 hx (t := .boolean) Bd.returns (by simp) (hb hby d7_51) hr, hrun, hended, _, _, rfl, ?_, ⟨_, rfl⟩, hW, hsame.mono (by decide) (by decide)⟩
              show Q7 Z q0 p1 q2 q3 q4 q5 h0 n0 _ s₁.heap _
              rw [e0]
              exact ⟨(by unfold own_inp; rw [if_neg hc1, if_neg hc33, if_pos hc49, if_neg hc50, if_pos hc52, if_pos hc53]), N0, rfl⟩
            ·
              refine go (fun t kt => XS.ifYes X0.here hx rfl (pc0 := 43) (pc' := 50) rfl (hb hby d7_43) rfl ((if0 _ _).trans (feq (fun q => hc53 ((lw_eq q0 q5).mp q))).2) (by decide) (by decide) kt) ?_
              show Go p e below _ m s₁ 50 #[jv q0, .second, iv p1, jv q2, .second, jv q3, .second, jv q4, .second, jv q5, .second] []
              refine go (fun t kt => XS.iconst X0.here hx rfl (hb hby d7_50) kt) ?_
              show Go p e below _ m s₁ 51 #[jv q0, .second, iv p1, jv q2, .second, jv q3, .second, jv q4, .second, jv q5, .second] [(.int (0 : Int32))]
              obtain ⟨fs, hr, hrun, hended, hW, hsame⟩ := X0.leave (v := some (.int (0 : Int32))) (fun h => by rw [Bd.returns] at h; cases h)
              refine ⟨_, _, retN X0 hx (t := .boolean) Bd.returns (by simp) (hb hby d7_51) hr, hrun, hended, _, _, rfl, ?_, ⟨_, rfl⟩, hW, hsame.mono (by decide) (by decide)⟩
              show Q7 Z q0 p1 q2 q3 q4 q5 h0 n0 _ s₁.heap _
              rw [e0]
              exact ⟨(by unfold own_inp; rw [if_neg hc1, if_neg hc33, if_pos hc49, if_neg hc50, if_pos hc52, if_neg hc53]), N0, rfl⟩
          ·
            refine go (fun t kt => XS.icmpYes X0.here hx rfl (pc0 := 36) (pc' := 50) rfl (hb hby d7_36) rfl (flt hc52).2.2.2 (by decide) (by decide) kt) ?_
            show Go p e below _ m s₁ 50 #[jv q0, .second, iv p1, jv q2, .second, jv q3, .second, jv q4, .second, jv q5, .second] []
            refine go (fun t kt => XS.iconst X0.here hx rfl (hb hby d7_50) kt) ?_
            show Go p e below _ m s₁ 51 #[jv q0, .second, iv p1, jv q2, .second, jv q3, .second, jv q4, .second, jv q5, .second] [(.int (0 : Int32))]
            obtain ⟨fs, hr, hrun, hended, hW, hsame⟩ := X0.leave (v := some (.int (0 : Int32))) (fun h => by rw [Bd.returns] at h; cases h)
            refine ⟨_, _, retN X0 hx (t := .boolean) Bd.returns (by simp) (hb hby d7_51) hr, hrun, hended, _, _, rfl, ?_, ⟨_, rfl⟩, hW, hsame.mono (by decide) (by decide)⟩
            show Q7 Z q0 p1 q2 q3 q4 q5 h0 n0 _ s₁.heap _
            rw [e0]
            exact ⟨(by unfold own_inp; rw [if_neg hc1, if_neg hc33, if_pos hc49, if_neg hc50, if_neg hc52]), N0, rfl⟩
      ·
        refine go (fun t kt => XS.icmpYes X0.here hx rfl (pc0 := 24) (pc' := 34) rfl (hb hby d7_24) rfl (flt hc49).2.2.2 (by decide) (by decide) kt) ?_
        show Go p e below _ m s₁ 34 #[jv q0, .second, iv p1, jv q2, .second, jv q3, .second, jv q4, .second, jv q5, .second] []
        refine go (fun t kt => XS.iloadN X0.here hx rfl (hb hby d7_34) rfl kt) ?_
        show Go p e below _ m s₁ 35 #[jv q0, .second, iv p1, jv q2, .second, jv q3, .second, jv q4, .second, jv q5, .second] [(.int p1)]
        refine go (fun t kt => XS.iconst X0.here hx rfl (hb hby d7_35) kt) ?_
        show Go p e below _ m s₁ 36 #[jv q0, .second, iv p1, jv q2, .second, jv q3, .second, jv q4, .second, jv q5, .second] [(.int (3 : Int32)), (.int p1)]
        by_cases hc57 : (3 : Int32) < p1
        ·
          refine go (fun t kt => XS.icmpNo X0.here hx rfl (hb hby d7_36) rfl (tlt hc57).2.2.2 kt) ?_
          show Go p e below _ m s₁ 39 #[jv q0, .second, iv p1, jv q2, .second, jv q3, .second, jv q4, .second, jv q5, .second] []
          refine go (fun t kt => XS.lloadN X0.here hx rfl (hb hby d7_39) rfl kt) ?_
          show Go p e below _ m s₁ 40 #[jv q0, .second, iv p1, jv q2, .second, jv q3, .second, jv q4, .second, jv q5, .second] [(.long q0)]
          refine go (fun t kt => XS.lload X0.here hx rfl (hb hby d7_40) rfl kt) ?_
          show Go p e below _ m s₁ 42 #[jv q0, .second, iv p1, jv q2, .second, jv q3, .second, jv q4, .second, jv q5, .second] [(.long q5), (.long q0)]
          refine go (fun t kt => XS.lcmp X0.here hx rfl (hb hby d7_42) rfl kt) ?_
          show Go p e below _ m s₁ 43 #[jv q0, .second, iv p1, jv q2, .second, jv q3, .second, jv q4, .second, jv q5, .second] [(.int (lcmpW q0 q5))]
          by_cases hc58 : q0 = q5
          ·
            refine go (fun t kt => XS.ifNo X0.here hx rfl (hb hby d7_43) rfl ((if0 _ _).trans (teq ((lw_eq q0 q5).mpr hc58)).2) kt) ?_
            show Go p e below _ m s₁ 46 #[jv q0, .second, iv p1, jv q2, .second, jv q3, .second, jv q4, .second, jv q5, .second] []
            refine go (fun t kt => XS.iconst X0.here hx rfl (hb hby d7_46) kt) ?_
            show Go p e below _ m s₁ 47 #[jv q0, .second, iv p1, jv q2, .second, jv q3, .second, jv q4, .second, jv q5, .second] [(.int (1 : Int32))]
            refine go (fun t kt => XS.goto X0.here hx rfl (pc0 := 47) (pc' := 51) rfl (hb hby d7_47) (by decide) (by decide) kt) ?_
            show Go p e below _ m s₁ 51 #[jv q0, .second, iv p1, jv q2, .second, jv q3, .second, jv q4, .second, jv q5, .second] [(.int (1 : Int32))]
            obtain ⟨fs, hr, hrun, hended, hW, hsame⟩ := X0.leave (v := some (.int (1 : Int32))) (fun h => by rw [Bd.returns] at h; cases h)
            refine ⟨_, _, retN X0 hx (t := .boolean) Bd.returns (by simp) (hb hby d7_51) hr, hrun, hended, _, _, rfl, ?_, ⟨_, rfl⟩, hW, hsame.mono (by decide) (by decide)⟩
            show Q7 Z q0 p1 q2 q3 q4 q5 h0 n0 _ s₁.heap _
            rw [e0]
            exact ⟨(by unfold own_inp; rw [if_neg hc1, if_neg hc33, if_neg hc49, if_pos hc57, if_pos hc58]), N0, rfl⟩
          ·
            refine go (fun t kt => XS.ifYes X0.here hx rfl (pc0 := 43) (pc' := 50) rfl (hb hby d7_43) rfl ((if0 _ _).trans (feq (fun q => hc58 ((lw_eq q0 q5).mp q))).2) (by decide) (by decide) kt) ?_
            show Go p e below _ m s₁ 50 #[jv q0, .second, iv p1, jv q2, .second, jv q3, .second, jv q4, .second, jv q5, .second] []
            refine go (fun t kt => XS.iconst X0.here hx rfl (hb hby d7_50) kt) ?_
            show Go p e below _ m s₁ 51 #[jv q0, .second, iv p1, jv q2, .second, jv q3, .second, jv q4, .second, jv q5, .second] [(.int (0 : Int32))]
            obtain ⟨fs, hr, hrun, hended, hW, hsame⟩ := X0.leave (v := some (.int (0 : Int32))) (fun h => by rw [Bd.returns] at h; cases h)
            refine ⟨_, _, retN X0 hx (t := .boolean) Bd.returns (by simp) (hb hby d7_51) hr, hrun, hended, _, _, rfl, ?_, ⟨_, rfl⟩, hW, hsame.mono (by decide) (by decide)⟩
            show Q7 Z q0 p1 q2 q3 q4 q5 h0 n0 _ s₁.heap _
            rw [e0]
            exact ⟨(by unfold own_inp; rw [if_neg hc1, if_neg hc33, if_neg hc49, if_pos hc57, if_neg hc58]), N0, rfl⟩
        ·
          refine go (fun t kt => XS.icmpYes X0.here hx rfl (pc0 := 36) (pc' := 50) rfl (hb hby d7_36) rfl (flt hc57).2.2.2 (by decide) (by decide) kt) ?_
          show Go p e below _ m s₁ 50 #[jv q0, .second, iv p1, jv q2, .second, jv q3, .second, jv q4, .second, jv q5, .second] []
          refine go (fun t kt => XS.iconst X0.here hx rfl (hb hby d7_50) kt) ?_
          show Go p e below _ m s₁ 51 #[jv q0, .second, iv p1, jv q2, .second, jv q3, .second, jv q4, .second, jv q5, .second] [(.int (0 : Int32))]
          obtain ⟨fs, hr, hrun, hended, hW, hsame⟩ := X0.leave (v := some (.int (0 : Int32))) (fun h => by rw [Bd.returns] at h; cases h)
          refine ⟨_, _, retN X0 hx (t := .boolean) Bd.returns (by simp) (hb hby d7_51) hr, hrun, hended, _, _, rfl, ?_, ⟨_, rfl⟩, hW, hsame.mono (by decide) (by decide)⟩
          show Q7 Z q0 p1 q2 q3 q4 q5 h0 n0 _ s₁.heap _
          rw [e0]
          exact ⟨(by unfold own_inp; rw [if_neg hc1, if_neg hc33, if_neg hc49, if_neg hc57]), N0, rfl⟩
theorem own_getJ (L : List Int64) (i : Nat) : (L.map Value.long).getD i (.long (0 : Int64)) = .long (L.getD i 0) := by
  simp only [List.getD_eq_getElem?_getD, List.getElem?_map]
  cases L[i]? <;> rfl
theorem own_hsz {us : List Int32} {ks : List Int64} {w : Int32} {S : List Int64} (I : own_Inv us ks w S) (hS : S.length ≤ 3) : ¬ (16 : Int32) < ((2 : Int32) * (w + (1 : Int32))) := by
  obtain ⟨-, -, h3, h4, -⟩ := I
  have : ∀ i : Fin 4, ¬ (16 : Int32) < ((2 : Int32) * (Int32.ofNat i.1 + (1 : Int32))) := by decide
  rw [h3]; exact this ⟨_, by omega⟩
theorem own_n5 (x : Int32) : (x &&& 7) % 5 = 0 ∨ (x &&& 7) % 5 = 1 ∨ (x &&& 7) % 5 = 2 ∨ (x &&& 7) % 5 = 3 ∨ (x &&& 7) % 5 = 4 := by
  have e := Jvm.Kit.i32_mask x 7 (k := 3) (by decide) (by decide)
  have e0 : (0 : Int32).toInt = 0 := rfl
  have e1 : (1 : Int32).toInt = 1 := rfl
  have e2 : (2 : Int32).toInt = 2 := rfl
  have e3 : (3 : Int32).toInt = 3 := rfl
  have e4 : (4 : Int32).toInt = 4 := rfl
  have e5 : (5 : Int32).toInt = 5 := rfl
  rw [← Int32.toInt_inj, ← Int32.toInt_inj, ← Int32.toInt_inj, ← Int32.toInt_inj, ← Int32.toInt_inj, Jvm.Kit.i32_rem_nonneg (by rw [e]; omega), e, e0, e1, e2, e3, e4, e5]
  omega
def own_P (m : Int32) (S : List Int64) : Prop := ∃ D : List Int64, m = Int32.ofNat D.length ∧ D.Nodup ∧ ∀ y, y ∈ D ↔ y ∈ S
theorem own_st {m : Int32} {S : List Int64} (h : own_P m S) (x : Int64) (m' : Int32) (h1 : x ∈ S → m' = m) (h2 : ¬ x ∈ S → m' = m + 1) : own_P m' (x :: S) := by
  obtain ⟨D, e, nd, hm⟩ := h
  by_cases c : x ∈ S
  · refine ⟨D, (h1 c).trans e, nd, fun y => ?_⟩
    rw [hm, List.mem_cons]
    exact ⟨Or.inr, fun q => q.elim (fun q => q ▸ c) id⟩
  · refine ⟨x :: D, ?_, List.nodup_cons.mpr ⟨fun q => c ((hm x).mp q), nd⟩, fun y => ?_⟩
    · rw [h2 c, e, List.length_cons]; exact own_inc _
    · rw [List.mem_cons, List.mem_cons, hm]
theorem own_q0 : own_P 0 [] := ⟨[], rfl, List.nodup_nil, fun _ => Iff.rfl⟩
theorem own_q1 (a : Int64) : own_P ((0 : Int32) + 1) [a] := own_st own_q0 a _ (fun h => nomatch h) (fun _ => rfl)
theorem own_q2 (a b : Int64) (m : Int32) (hm : m = if b = a then ((0 : Int32) + 1) else (((0 : Int32) + 1) + 1)) : own_P m [b, a] :=
  own_st (own_q1 a) b m (fun h => by rw [hm, if_pos (List.mem_singleton.mp h)]) (fun h => by rw [hm, if_neg (fun q => h (List.mem_singleton.mpr q))])
theorem own_q3 (a b c : Int64) (m m' : Int32) (h : own_P m [b, a]) (hm : m' = if c = a then m else (if c = b then m else m + 1)) : own_P m' [c, b, a] :=
  own_st h c m' (fun q => by
    rw [hm]; split
    · rfl
    · split
      · rfl
      · rename_i n1 n2; simp [n1, n2] at q) (fun q => by
    have n1 : ¬ c = a := fun e => q (by simp [e])
    have n2 : ¬ c = b := fun e => q (by simp [e])
    rw [hm, if_neg n1, if_neg n2])
theorem own_q4 (a b c d : Int64) (m m' : Int32) (h : own_P m [c, b, a]) (hm : m' = if d = a then m else (if d = b then m else (if d = c then m else m + 1))) : own_P m' [d, c, b, a] :=
  own_st h d m' (fun q => by
    rw [hm]; split
    · rfl
    · split
      · rfl
      · split
        · rfl
        · rename_i n1 n2 n3; simp [n1, n2, n3] at q) (fun q => by
    have n1 : ¬ d = a := fun e => q (by simp [e])
    have n2 : ¬ d = b := fun e => q (by simp [e])
    have n3 : ¬ d = c := fun e => q (by simp [e])
    rw [hm, if_neg n1, if_neg n2, if_neg n3])
theorem own_cnt {m w : Int32} {S L : List Int64} (h : own_P m S) (hw : w = Int32.ofNat L.length) (hnd : L.Nodup) (hmem : ∀ x, x ∈ L ↔ x ∈ S) : w = m := by
  obtain ⟨D, e, nd, hm⟩ := h
  have p : L.Perm D := (List.perm_ext_iff_of_nodup hnd nd).mpr fun y => by rw [hmem, hm]
  rw [hw, e, p.length_eq]
theorem own_gm {z : Int32} {L : List Int64} (hz : z = Int32.ofNat L.length) (hl : L.length ≤ 4) (j : Int32) (i : Nat) (hj : j.toInt = i) (h : j < z) : L.getD i 0 ∈ L := by
  have e : (Int32.ofNat L.length).toInt = L.length := Int32.toInt_ofNat_small (by omega)
  rw [hz, Int32.lt_iff_toInt_lt, e, hj] at h
  have hi : i < L.length := by omega
  rw [List.getD_eq_getElem?_getD, List.getElem?_eq_getElem hi]
  exact List.getElem_mem hi
theorem own_nl {k j z : Int32} (h : ¬ k < z) (hk : ¬ j < k) : ¬ j < z := by
  rw [Int32.lt_iff_toInt_lt] at *; omega
theorem own_has_in {z : Int32} {L : List Int64} (hz : z = Int32.ofNat L.length) (hl : L.length ≤ 4) (q : Int64) (h : q ∈ L) : ¬ own_has q z (L.getD 0 0) (L.getD 1 0) (L.getD 2 0) (L.getD 3 0) = 0 := by
  match L, hl, h with
  | [a], _, h => simp at h; subst hz; subst h; simp [own_has]
  | [a, b], _, h =>
    subst hz; simp only [own_has]
    simp at h
    rcases h with rfl | rfl
    · simp
    · simp
  | [a, b, c], _, h =>
    subst hz; simp only [own_has]
    simp at h
    rcases h with rfl | rfl | rfl <;> simp
  | [a, b, c, d], _, h =>
    subst hz; simp only [own_has]
    simp at h
    rcases h with rfl | rfl | rfl | rfl <;> simp
theorem own_in1 (x a b c d : Int64) (h : x ∈ [a]) : ¬ own_inp x 1 a b c d = 0 := by
  simp at h; subst h; simp [own_inp]
theorem own_in2 (x a b c d : Int64) (h : x ∈ [b, a]) : ¬ own_inp x 2 a b c d = 0 := by
  simp at h; rcases h with rfl | rfl <;> simp [own_inp]
theorem own_in3 (x a b c d : Int64) (h : x ∈ [c, b, a]) : ¬ own_inp x 3 a b c d = 0 := by
  simp at h; rcases h with rfl | rfl | rfl <;> simp [own_inp]
theorem own_in4 (x a b c d : Int64) (h : x ∈ [d, c, b, a]) : ¬ own_inp x 4 a b c d = 0 := by
  simp at h; rcases h with rfl | rfl | rfl | rfl <;> simp [own_inp]

theorem pd_1 : parseMethodDescriptor "()V" = some ⟨[], none⟩ := by decide +kernel
theorem pd_2 : parseMethodDescriptor "()[J" = some ⟨[], some (.array .long)⟩ := by decide +kernel
theorem pd_3 : parseMethodDescriptor "(JI)V" = some ⟨[.long, .int], none⟩ := by decide +kernel
theorem pd_4 : parseMethodDescriptor "([JJ)Z" = some ⟨[(.array .long), .long], some .boolean⟩ := by decide +kernel
theorem pd_5 : parseMethodDescriptor "(JIJJJJ)Z" = some ⟨[.long, .int, .long, .long, .long, .long], some .boolean⟩ := by decide +kernel
theorem ef_0 (m : MethodId) (q0 : Int64) (q1 : Int64) (q2 : Int64) (q3 : Int64) (p4 : Int32) : entryFrame m #[(.long q0), (.long q1), (.long q2), (.long q3), (.int p4)] maxLocals = mkF m 0 #[jv q0, .second, jv q1, .second, jv q2, .second, jv q3, .second, iv p4, .unset, .unset, .unset, .unset] [] := by first | (simp [entryFrame, mkF, argsToLocals, Value.category, maxLocals]; done) | rfl
def Q0 (Z : State) (q0 : Int64) (q1 : Int64) (q2 : Int64) (q3 : Int64) (p4 : Int32) (h0 : Heap) (n0 : Nat) (v : Option Value) (h : Heap) (L : List Loc) : Prop := v = some (.int (1 : Int32)) ∧ Fr n0 L
set_option maxRecDepth 65536 in
set_option maxHeartbeats 40000000 in
theorem rm0 (l : Launch) (Z : State) (a0 : Array Value) (hw : ∀ d ∈ tables_1, d.before a0 Z = true) (ws : List Jvm.Cond) (q0 : Int64) (q1 : Int64) (q2 : Int64) (q3 : Int64) (p4 : Int32) (h0 : Heap) (n0 : Nat) (Z0 : n0 ≤ h0.size)  :
    MetFree l x (head1 (Jvm.Cond.code x code maxLocals ret :: ws) room_1) (fun a U => a = #[(.long q0), (.long q1), (.long q2), (.long q3), (.int p4)] ∧ Z.Warmed39 U.vm ∧ U.heap = h0) (fun _ _ _ _ _ => True) (fun _ U o U' => ∃ v L, o = .returned v ∧ Q0 Z q0 q1 q2 q3 p4 h0 n0 v U'.heap L ∧ FrameEnd U o U' L 5 56) := by
  refine MetFree.of_bodySF (plainFor_of_name pn_0) hisR ?_
  intro p e s m args below meth c s₁ Bd hml0 hP hK
  obtain ⟨rfl, hZ, hh⟩ := hP
  have hx := Bd.exec
  have hby := Bd.bytes
  have hml : c.maxLocals = 13 := hml0
  have hown : s.vm.findClass "com/example/modest_tree_automata/modesttreeautomata/LongIntMapKeysPinLaw" = some m.cls := findClass_of_methodNamed Bd.named
  have hnm := (name_of_methodNamed Bd.named Bd.method).1
  have X0 : Stand p l e room_1 s m #[(.long q0), (.long q1), (.long q2), (.long q3), (.int p4)] below meth c s₁ [] 0 0 := Stand.of_body Bd
  have e0 : s₁.heap = h0 := by rw [← hh, Bd.state]; rfl
  have N0 := Fr.nil n0
  have K0 := Keep.refl h0 []
  suffices hgo : Goes p.tables e below (fun s₂ o => ∃ v L, o = .returned v ∧ Q0 Z q0 q1 q2 q3 p4 h0 n0 v s₂.heap L ∧ FrameEnd s o s₂ L 5 56) (s₁.setTop (mkF m 0 #[jv q0, .second, jv q1, .second, jv q2, .second, jv q3, .second, iv p4, .unset, .unset, .unset, .unset] [])) from goEnd (fun t k => castTop (ef_0 m q0 q1 q2 q3 p4) k) hgo
  refine go (fun t kt => XS.iload X0.here hx rfl (hb hby at_0) rfl kt) ?_
  show Go p e below _ m s₁ 2 #[jv q0, .second, jv q1, .second, jv q2, .second, jv q3, .second, iv p4, .unset, .unset, .unset, .unset] [(.int p4)]
  refine go (fun t kt => XS.bipush X0.here hx rfl (hb hby at_2) kt) ?_
  show Go p e below _ m s₁ 4 #[jv q0, .second, jv q1, .second, jv q2, .second, jv q3, .second, iv p4, .unset, .unset, .unset, .unset] [(.int (7 : Int32)), (.int p4)]
  refine go (fun t kt => XS.iand X0.here hx rfl (hb hby at_4) rfl kt) ?_
  show Go p e below _ m s₁ 5 #[jv q0, .second, jv q1, .second, jv q2, .second, jv q3, .second, iv p4, .unset, .unset, .unset, .unset] [(.int (p4 &&& (7 : Int32)))]
  refine go (fun t kt => XS.iconst X0.here hx rfl (hb hby at_5) kt) ?_
  show Go p e below _ m s₁ 6 #[jv q0, .second, jv q1, .second, jv q2, .second, jv q3, .second, iv p4, .unset, .unset, .unset, .unset] [(.int (5 : Int32)), (.int (p4 &&& (7 : Int32)))]
  refine go (fun t kt => iremM X0 hx rfl (hb hby at_6) rfl (by decide) kt) ?_
  show Go p e below _ m s₁ 7 #[jv q0, .second, jv q1, .second, jv q2, .second, jv q3, .second, iv p4, .unset, .unset, .unset, .unset] [(.int ((p4 &&& (7 : Int32)) % (5 : Int32)))]
  refine go (fun t kt => XS.istore X0.here hx rfl (hb hby at_7) rfl (l' := #[jv q0, .second, jv q1, .second, jv q2, .second, jv q3, .second, iv p4, iv ((p4 &&& (7 : Int32)) % (5 : Int32)), .unset, .unset, .unset]) rfl kt) ?_
  show Go p e below _ m s₁ 9 #[jv q0, .second, jv q1, .second, jv q2, .second, jv q3, .second, iv p4, iv ((p4 &&& (7 : Int32)) % (5 : Int32)), .unset, .unset, .unset] []
  refine go (fun t kt => XS.iload X0.here hx rfl (hb hby at_9) rfl kt) ?_
  show Go p e below _ m s₁ 11 #[jv q0, .second, jv q1, .second, jv q2, .second, jv q3, .second, iv p4, iv ((p4 &&& (7 : Int32)) % (5 : Int32)), .unset, .unset, .unset] [(.int p4)]
  refine go (fun t kt => XS.bipush X0.here hx rfl (hb hby at_11) kt) ?_
  show Go p e below _ m s₁ 13 #[jv q0, .second, jv q1, .second, jv q2, .second, jv q3, .second, iv p4, iv ((p4 &&& (7 : Int32)) % (5 : Int32)), .unset, .unset, .unset] [(.int (8 : Int32)), (.int p4)]
  refine go (fun t kt => XS.iand X0.here hx rfl (hb hby at_13) rfl kt) ?_
  show Go p e below _ m s₁ 14 #[jv q0, .second, jv q1, .second, jv q2, .second, jv q3, .second, iv p4, iv ((p4 &&& (7 : Int32)) % (5 : Int32)), .unset, .unset, .unset] [(.int (p4 &&& (8 : Int32)))]
  suffices KK : ∀ (m1 : Int64), m1 = (if (p4 &&& (8 : Int32)) = (0 : Int32) then q1 else q0) → Goes p.tables e below (fun s₂ o => ∃ v L, o = .returned v ∧ Q0 Z q0 q1 q2 q3 p4 h0 n0 v s₂.heap L ∧ FrameEnd s o s₂ L 5 56) (s₁.setTop (mkF m 19 #[jv q0, .second, jv m1, .second, jv q2, .second, jv q3, .second, iv p4, iv ((p4 &&& (7 : Int32)) % (5 : Int32)), .unset, .unset, .unset] [])) by
    by_cases hc2 : (p4 &&& (8 : Int32)) = (0 : Int32)
    ·
      refine go (fun t kt => XS.ifYes X0.here hx rfl (pc0 := 14) (pc' := 19) rfl (hb hby at_14) rfl ((if0 _ _).trans (teq hc2).1) (by decide) (by decide) kt) ?_
      show Go p e below _ m s₁ 19 #[jv q0, .second, jv q1, .second, jv q2, .second, jv q3, .second, iv p4, iv ((p4 &&& (7 : Int32)) % (5 : Int32)), .unset, .unset, .unset] []
      exact KK _ (by rw [if_pos hc2])
    ·
      refine go (fun t kt => XS.ifNo X0.here hx rfl (hb hby at_14) rfl ((if0 _ _).trans (feq hc2).1) kt) ?_
      show Go p e below _ m s₁ 17 #[jv q0, .second, jv q1, .second, jv q2, .second, jv q3, .second, iv p4, iv ((p4 &&& (7 : Int32)) % (5 : Int32)), .unset, .unset, .unset] []
      refine go (fun t kt => XS.lloadN X0.here hx rfl (hb hby at_17) rfl kt) ?_
      show Go p e below _ m s₁ 18 #[jv q0, .second, jv q1, .second, jv q2, .second, jv q3, .second, iv p4, iv ((p4 &&& (7 : Int32)) % (5 : Int32)), .unset, .unset, .unset] [(.long q0)]
      refine go (fun t kt => XS.lstoreN X0.here hx rfl (hb hby at_18) rfl (l' := #[jv q0, .second, jv q0, .second, jv q2, .second, jv q3, .second, iv p4, iv ((p4 &&& (7 : Int32)) % (5 : Int32)), .unset, .unset, .unset]) rfl kt) ?_
      show Go p e below _ m s₁ 19 #[jv q0, .second, jv q0, .second, jv q2, .second, jv q3, .second, iv p4, iv ((p4 &&& (7 : Int32)) % (5 : Int32)), .unset, .unset, .unset] []
      exact KK _ (by rw [if_neg hc2])
  intro m1 hm1
  show Go p e below _ m s₁ 19 #[jv q0, .second, jv m1, .second, jv q2, .second, jv q3, .second, iv p4, iv ((p4 &&& (7 : Int32)) % (5 : Int32)), .unset, .unset, .unset] []
  refine go (fun t kt => XS.iload X0.here hx rfl (hb hby at_19) rfl kt) ?_
  show Go p e below _ m s₁ 21 #[jv q0, .second, jv m1, .second, jv q2, .second, jv q3, .second, iv p4, iv ((p4 &&& (7 : Int32)) % (5 : Int32)), .unset, .unset, .unset] [(.int p4)]
  refine go (fun t kt => XS.bipush X0.here hx rfl (hb hby at_21) kt) ?_
  show Go p e below _ m s₁ 23 #[jv q0, .second, jv m1, .second, jv q2, .second, jv q3, .second, iv p4, iv ((p4 &&& (7 : Int32)) % (5 : Int32)), .unset, .unset, .unset] [(.int (16 : Int32)), (.int p4)]
  refine go (fun t kt => XS.iand X0.here hx rfl (hb hby at_23) rfl kt) ?_
  show Go p e below _ m s₁ 24 #[jv q0, .second, jv m1, .second, jv q2, .second, jv q3, .second, iv p4, iv ((p4 &&& (7 : Int32)) % (5 : Int32)), .unset, .unset, .unset] [(.int (p4 &&& (16 : Int32)))]
  suffices KK : ∀ (m3 : Int64), m3 = (if (p4 &&& (16 : Int32)) = (0 : Int32) then q2 else m1) → Goes p.tables e below (fun s₂ o => ∃ v L, o = .returned v ∧ Q0 Z q0 q1 q2 q3 p4 h0 n0 v s₂.heap L ∧ FrameEnd s o s₂ L 5 56) (s₁.setTop (mkF m 30 #[jv q0, .second, jv m1, .second, jv m3, .second, jv q3, .second, iv p4, iv ((p4 &&& (7 : Int32)) % (5 : Int32)), .unset, .unset, .unset] [])) by
    by_cases hc4 : (p4 &&& (16 : Int32)) = (0 : Int32)
    ·
      refine go (fun t kt => XS.ifYes X0.here hx rfl (pc0 := 24) (pc' := 30) rfl (hb hby at_24) rfl ((if0 _ _).trans (teq hc4).1) (by decide) (by decide) kt) ?_
      show Go p e below _ m s₁ 30 #[jv q0, .second, jv m1, .second, jv q2, .second, jv q3, .second, iv p4, iv ((p4 &&& (7 : Int32)) % (5 : Int32)), .unset, .unset, .unset] []
      exact KK _ (by rw [if_pos hc4])
    ·
      refine go (fun t kt => XS.ifNo X0.here hx rfl (hb hby at_24) rfl ((if0 _ _).trans (feq hc4).1) kt) ?_
      show Go p e below _ m s₁ 27 #[jv q0, .second, jv m1, .second, jv q2, .second, jv q3, .second, iv p4, iv ((p4 &&& (7 : Int32)) % (5 : Int32)), .unset, .unset, .unset] []
      refine go (fun t kt => XS.lloadN X0.here hx rfl (hb hby at_27) rfl kt) ?_
      show Go p e below _ m s₁ 28 #[jv q0, .second, jv m1, .second, jv q2, .second, jv q3, .second, iv p4, iv ((p4 &&& (7 : Int32)) % (5 : Int32)), .unset, .unset, .unset] [(.long m1)]
      refine go (fun t kt => XS.lstore X0.here hx rfl (hb hby at_28) rfl (l' := #[jv q0, .second, jv m1, .second, jv m1, .second, jv q3, .second, iv p4, iv ((p4 &&& (7 : Int32)) % (5 : Int32)), .unset, .unset, .unset]) rfl kt) ?_
      show Go p e below _ m s₁ 30 #[jv q0, .second, jv m1, .second, jv m1, .second, jv q3, .second, iv p4, iv ((p4 &&& (7 : Int32)) % (5 : Int32)), .unset, .unset, .unset] []
      exact KK _ (by rw [if_neg hc4])
  intro m3 hm3
  show Go p e below _ m s₁ 30 #[jv q0, .second, jv m1, .second, jv m3, .second, jv q3, .second, iv p4, iv ((p4 &&& (7 : Int32)) % (5 : Int32)), .unset, .unset, .unset] []
  refine go (fun t kt => XS.iload X0.here hx rfl (hb hby at_30) rfl kt) ?_
  show Go p e below _ m s₁ 32 #[jv q0, .second, jv m1, .second, jv m3, .second, jv q3, .second, iv p4, iv ((p4 &&& (7 : Int32)) % (5 : Int32)), .unset, .unset, .unset] [(.int p4)]
  refine go (fun t kt => XS.bipush X0.here hx rfl (hb hby at_32) kt) ?_
  show Go p e below _ m s₁ 34 #[jv q0, .second, jv m1, .second, jv m3, .second, jv q3, .second, iv p4, iv ((p4 &&& (7 : Int32)) % (5 : Int32)), .unset, .unset, .unset] [(.int (32 : Int32)), (.int p4)]
  refine go (fun t kt => XS.iand X0.here hx rfl (hb hby at_34) rfl kt) ?_
  show Go p e below _ m s₁ 35 #[jv q0, .second, jv m1, .second, jv m3, .second, jv q3, .second, iv p4, iv ((p4 &&& (7 : Int32)) % (5 : Int32)), .unset, .unset, .unset] [(.int (p4 &&& (32 : Int32)))]
  suffices KK : ∀ (m5 : Int64), m5 = (if (p4 &&& (32 : Int32)) = (0 : Int32) then q3 else q0) → Goes p.tables e below (fun s₂ o => ∃ v L, o = .returned v ∧ Q0 Z q0 q1 q2 q3 p4 h0 n0 v s₂.heap L ∧ FrameEnd s o s₂ L 5 56) (s₁.setTop (mkF m 41 #[jv q0, .second, jv m1, .second, jv m3, .second, jv m5, .second, iv p4, iv ((p4 &&& (7 : Int32)) % (5 : Int32)), .unset, .unset, .unset] [])) by
    by_cases hc6 : (p4 &&& (32 : Int32)) = (0 : Int32)
    ·
      refine go (fun t kt => XS.ifYes X0.here hx rfl (pc0 := 35) (pc' := 41) rfl (hb hby at_35) rfl ((if0 _ _).trans (teq hc6).1) (by decide) (by decide) kt) ?_
      show Go p e below _ m s₁ 41 #[jv q0, .second, jv m1, .second, jv m3, .second, jv q3, .second, iv p4, iv ((p4 &&& (7 : Int32)) % (5 : Int32)), .unset, .unset, .unset] []
      exact KK _ (by rw [if_pos hc6])
    ·
      refine go (fun t kt => XS.ifNo X0.here hx rfl (hb hby at_35) rfl ((if0 _ _).trans (feq hc6).1) kt) ?_
      show Go p e below _ m s₁ 38 #[jv q0, .second, jv m1, .second, jv m3, .second, jv q3, .second, iv p4, iv ((p4 &&& (7 : Int32)) % (5 : Int32)), .unset, .unset, .unset] []
      refine go (fun t kt => XS.lloadN X0.here hx rfl (hb hby at_38) rfl kt) ?_
      show Go p e below _ m s₁ 39 #[jv q0, .second, jv m1, .second, jv m3, .second, jv q3, .second, iv p4, iv ((p4 &&& (7 : Int32)) % (5 : Int32)), .unset, .unset, .unset] [(.long q0)]
      refine go (fun t kt => XS.lstore X0.here hx rfl (hb hby at_39) rfl (l' := #[jv q0, .second, jv m1, .second, jv m3, .second, jv q0, .second, iv p4, iv ((p4 &&& (7 : Int32)) % (5 : Int32)), .unset, .unset, .unset]) rfl kt) ?_
      show Go p e below _ m s₁ 41 #[jv q0, .second, jv m1, .second, jv m3, .second, jv q0, .second, iv p4, iv ((p4 &&& (7 : Int32)) % (5 : Int32)), .unset, .unset, .unset] []
      exact KK _ (by rw [if_neg hc6])
  intro m5 hm5
  show Go p e below _ m s₁ 41 #[jv q0, .second, jv m1, .second, jv m3, .second, jv m5, .second, iv p4, iv ((p4 &&& (7 : Int32)) % (5 : Int32)), .unset, .unset, .unset] []
  refine go (fun t kt => XS.iload X0.here hx rfl (hb hby at_41) rfl kt) ?_
  show Go p e below _ m s₁ 43 #[jv q0, .second, jv m1, .second, jv m3, .second, jv m5, .second, iv p4, iv ((p4 &&& (7 : Int32)) % (5 : Int32)), .unset, .unset, .unset] [(.int p4)]
  refine go (fun t kt => XS.bipush X0.here hx rfl (hb hby at_43) kt) ?_
  show Go p e below _ m s₁ 45 #[jv q0, .second, jv m1, .second, jv m3, .second, jv m5, .second, iv p4, iv ((p4 &&& (7 : Int32)) % (5 : Int32)), .unset, .unset, .unset] [(.int (64 : Int32)), (.int p4)]
  refine go (fun t kt => XS.iand X0.here hx rfl (hb hby at_45) rfl kt) ?_
  show Go p e below _ m s₁ 46 #[jv q0, .second, jv m1, .second, jv m3, .second, jv m5, .second, iv p4, iv ((p4 &&& (7 : Int32)) % (5 : Int32)), .unset, .unset, .unset] [(.int (p4 &&& (64 : Int32)))]
  suffices KK : ∀ (m7 : Int64), m7 = (if (p4 &&& (64 : Int32)) = (0 : Int32) then m3 else q0) → Goes p.tables e below (fun s₂ o => ∃ v L, o = .returned v ∧ Q0 Z q0 q1 q2 q3 p4 h0 n0 v s₂.heap L ∧ FrameEnd s o s₂ L 5 56) (s₁.setTop (mkF m 52 #[jv q0, .second, jv m1, .second, jv m7, .second, jv m5, .second, iv p4, iv ((p4 &&& (7 : Int32)) % (5 : Int32)), .unset, .unset, .unset] [])) by
    by_cases hc8 : (p4 &&& (64 : Int32)) = (0 : Int32)
    ·
      refine go (fun t kt => XS.ifYes X0.here hx rfl (pc0 := 46) (pc' := 52) rfl (hb hby at_46) rfl ((if0 _ _).trans (teq hc8).1) (by decide) (by decide) kt) ?_
      show Go p e below _ m s₁ 52 #[jv q0, .second, jv m1, .second, jv m3, .second, jv m5, .second, iv p4, iv ((p4 &&& (7 : Int32)) % (5 : Int32)), .unset, .unset, .unset] []
      exact KK _ (by rw [if_pos hc8])
    ·
      refine go (fun t kt => XS.ifNo X0.here hx rfl (hb hby at_46) rfl ((if0 _ _).trans (feq hc8).1) kt) ?_
      show Go p e below _ m s₁ 49 #[jv q0, .second, jv m1, .second, jv m3, .second, jv m5, .second, iv p4, iv ((p4 &&& (7 : Int32)) % (5 : Int32)), .unset, .unset, .unset] []
      refine go (fun t kt => XS.lloadN X0.here hx rfl (hb hby at_49) rfl kt) ?_
      show Go p e below _ m s₁ 50 #[jv q0, .second, jv m1, .second, jv m3, .second, jv m5, .second, iv p4, iv ((p4 &&& (7 : Int32)) % (5 : Int32)), .unset, .unset, .unset] [(.long q0)]
      refine go (fun t kt => XS.lstore X0.here hx rfl (hb hby at_50) rfl (l' := #[jv q0, .second, jv m1, .second, jv q0, .second, jv m5, .second, iv p4, iv ((p4 &&& (7 : Int32)) % (5 : Int32)), .unset, .unset, .unset]) rfl kt) ?_
      show Go p e below _ m s₁ 52 #[jv q0, .second, jv m1, .second, jv q0, .second, jv m5, .second, iv p4, iv ((p4 &&& (7 : Int32)) % (5 : Int32)), .unset, .unset, .unset] []
      exact KK _ (by rw [if_neg hc8])
  intro m7 hm7
  show Go p e below _ m s₁ 52 #[jv q0, .second, jv m1, .second, jv m7, .second, jv m5, .second, iv p4, iv ((p4 &&& (7 : Int32)) % (5 : Int32)), .unset, .unset, .unset] []
  refine go (fun t kt => XS.iload X0.here hx rfl (hb hby at_52) rfl kt) ?_
  show Go p e below _ m s₁ 54 #[jv q0, .second, jv m1, .second, jv m7, .second, jv m5, .second, iv p4, iv ((p4 &&& (7 : Int32)) % (5 : Int32)), .unset, .unset, .unset] [(.int p4)]
  refine go (fun t kt => XS.sipush X0.here hx rfl (hb hby at_54) kt) ?_
  show Go p e below _ m s₁ 57 #[jv q0, .second, jv m1, .second, jv m7, .second, jv m5, .second, iv p4, iv ((p4 &&& (7 : Int32)) % (5 : Int32)), .unset, .unset, .unset] [(.int (128 : Int32)), (.int p4)]
  refine go (fun t kt => XS.iand X0.here hx rfl (hb hby at_57) rfl kt) ?_
  show Go p e below _ m s₁ 58 #[jv q0, .second, jv m1, .second, jv m7, .second, jv m5, .second, iv p4, iv ((p4 &&& (7 : Int32)) % (5 : Int32)), .unset, .unset, .unset] [(.int (p4 &&& (128 : Int32)))]
  suffices KK : ∀ (m9 : Int64), m9 = (if (p4 &&& (128 : Int32)) = (0 : Int32) then m5 else m7) → Goes p.tables e below (fun s₂ o => ∃ v L, o = .returned v ∧ Q0 Z q0 q1 q2 q3 p4 h0 n0 v s₂.heap L ∧ FrameEnd s o s₂ L 5 56) (s₁.setTop (mkF m 65 #[jv q0, .second, jv m1, .second, jv m7, .second, jv m9, .second, iv p4, iv ((p4 &&& (7 : Int32)) % (5 : Int32)), .unset, .unset, .unset] [])) by
    by_cases hc10 : (p4 &&& (128 : Int32)) = (0 : Int32)
    ·
      refine go (fun t kt => XS.ifYes X0.here hx rfl (pc0 := 58) (pc' := 65) rfl (hb hby at_58) rfl ((if0 _ _).trans (teq hc10).1) (by decide) (by decide) kt) ?_
      show Go p e below _ m s₁ 65 #[jv q0, .second, jv m1, .second, jv m7, .second, jv m5, .second, iv p4, iv ((p4 &&& (7 : Int32)) % (5 : Int32)), .unset, .unset, .unset] []
      exact KK _ (by rw [if_pos hc10])
    ·
      refine go (fun t kt => XS.ifNo X0.here hx rfl (hb hby at_58) rfl ((if0 _ _).trans (feq hc10).1) kt) ?_
      show Go p e below _ m s₁ 61 #[jv q0, .second, jv m1, .second, jv m7, .second, jv m5, .second, iv p4, iv ((p4 &&& (7 : Int32)) % (5 : Int32)), .unset, .unset, .unset] []
      refine go (fun t kt => XS.lload X0.here hx rfl (hb hby at_61) rfl kt) ?_
      show Go p e below _ m s₁ 63 #[jv q0, .second, jv m1, .second, jv m7, .second, jv m5, .second, iv p4, iv ((p4 &&& (7 : Int32)) % (5 : Int32)), .unset, .unset, .unset] [(.long m7)]
      refine go (fun t kt => XS.lstore X0.here hx rfl (hb hby at_63) rfl (l' := #[jv q0, .second, jv m1, .second, jv m7, .second, jv m7, .second, iv p4, iv ((p4 &&& (7 : Int32)) % (5 : Int32)), .unset, .unset, .unset]) rfl kt) ?_
      show Go p e below _ m s₁ 65 #[jv q0, .second, jv m1, .second, jv m7, .second, jv m7, .second, iv p4, iv ((p4 &&& (7 : Int32)) % (5 : Int32)), .unset, .unset, .unset] []
      exact KK _ (by rw [if_neg hc10])
  intro m9 hm9
  show Go p e below _ m s₁ 65 #[jv q0, .second, jv m1, .second, jv m7, .second, jv m9, .second, iv p4, iv ((p4 &&& (7 : Int32)) % (5 : Int32)), .unset, .unset, .unset] []
  rcases own_n5 p4 with hk11 | hk11 | hk11 | hk11 | hk11
  ·
    rw [hk11]
    show Go p e below _ m s₁ 65 #[jv q0, .second, jv m1, .second, jv m7, .second, jv m9, .second, iv p4, iv (0 : Int32), .unset, .unset, .unset] []
    obtain ⟨T12, h12, X12, e12, E12, A12, D12, -, st12⟩ := newO X0 hx hZ hown (hw _ (List.mem_of_getElem? (i := 0) rfl)) (hw _ (List.mem_of_getElem? (i := 1) rfl)) (hw _ (List.mem_of_getElem? (i := 2) rfl)) e0 (g := (mkF m 65 #[jv q0, .second, jv m1, .second, jv m7, .second, jv m9, .second, iv p4, iv (0 : Int32), .unset, .unset, .unset] [])) rfl (hb hby at_65) (by decide) (by decide)
    obtain ⟨b12, g12⟩ : ∃ z, z = h0.size := ⟨_, rfl⟩
    rw [← g12] at A12 D12 st12
    have g_b12 : n0 ≤ b12 := Nat.le_trans Z0 (Nat.le_of_eq g12.symm)
    have sz_b12 : h0.size ≤ b12 := Nat.le_trans K0.1 (Nat.le_of_eq g12.symm)
    have Zz12 := Nat.le_trans Z0 E12.1
    have Kk12 := K0.ext E12
    have E_b12 := A12
    have F_keys_b12 : Fld Z h12 b12 "com/example/modest_tree_automata/modesttreeautomata/LongIntMap" "keys" "[J" .null := D12 (Or.inl (hw _ (List.mem_of_getElem? (i := 11) rfl))) (ty := (.array .long)) (by decide)
    have F_values_b12 : Fld Z h12 b12 "com/example/modest_tree_automata/modesttreeautomata/LongIntMap" "values" "[I" .null := D12 (Or.inl (hw _ (List.mem_of_getElem? (i := 14) rfl))) (ty := (.array .int)) (by decide)
    have F_used_b12 : Fld Z h12 b12 "com/example/modest_tree_automata/modesttreeautomata/LongIntMap" "used" "[Z" .null := D12 (Or.inl (hw _ (List.mem_of_getElem? (i := 17) rfl))) (ty := (.array .boolean)) (by decide)
    have F_size_b12 : Fld Z h12 b12 "com/example/modest_tree_automata/modesttreeautomata/LongIntMap" "size" "I" (.int (0 : Int32)) := D12 (Or.inl (hw _ (List.mem_of_getElem? (i := 24) rfl))) (ty := .int) (by decide)
    refine go st12 ?_
    show Go p e below _ m T12 68 #[jv q0, .second, jv m1, .second, jv m7, .second, jv m9, .second, iv p4, iv (0 : Int32), .unset, .unset, .unset] [(.ref b12)]
    refine go (fun t kt => XS.dup X12.here hx rfl (hb hby at_68) rfl rfl kt) ?_
    show Go p e below _ m T12 69 #[jv q0, .second, jv m1, .second, jv m7, .second, jv m9, .second, iv p4, iv (0 : Int32), .unset, .unset, .unset] [(.ref b12), (.ref b12)]
    obtain ⟨_, _, ⟨T13, L13, k13, n13⟩, -, X13, ⟨Lc13, hQ13, l13, y13, z13⟩, st13⟩ := X12.specialBack hx (y := (⟨"com/example/modest_tree_automata/modesttreeautomata/LongIntMap", "<init>", "()V"⟩ : MethodName)) rfl hown (mvT hZ (hw _ (List.mem_of_getElem? (i := 3) rfl))) (mvT hZ (hw _ (List.mem_of_getElem? (i := 4) rfl))) (mvT hZ (hw _ (List.mem_of_getElem? (i := 5) rfl))) (by decide) (backOf (W := 1) (rm1 l Z a0 hw [] b12 .null .null .null (0 : Int32) h12 n0 Zz12 E_b12 F_keys_b12 F_values_b12 F_used_b12 F_size_b12 g_b12) hZ (hw _ (List.mem_of_getElem? (i := 5) rfl)) (hw _ (List.mem_of_getElem? (i := 2) rfl)) (by decide) (by decide)) (g := (mkF m 69 #[jv q0, .second, jv m1, .second, jv m7, .second, jv m9, .second, iv p4, iv (0 : Int32), .unset, .unset, .unset] [(.ref b12), (.ref b12)])) rfl (by rw [hml]; rfl) (Steps.refl _) (a := b12) (argsL := []) (rest := [(.ref b12)]) (lenOf pd_1 rfl) rfl (by show 2 * 0 + _ ≤ _; exact Nat.le_of_eq rfl) (hb hby at_69) (fun _ _ => ⟨rfl, e12, (by decide : 1 + 3 ≤ _), (by decide : 4 + 48 ≤ _)⟩)
    dsimp only [Pt.U, Pt.locs, Pt.cells, Pt.slots] at X13 l13 y13 z13 st13 hQ13
    subst l13 y13 z13
    obtain ⟨rfl, Nq13, Kq13, Eq13, ok13, ov13, ou13, kk13, kv13, ku13, l1, l2, l3, ne_ok13_ov13, ne_ok13_ou13, ne_ov13_ou13, G1, G2, G3, G4, G5, G6, G7⟩ := hQ13
    have ne_b12_ok13 : b12 ≠ ok13 := Nat.ne_of_lt (Nat.lt_of_lt_of_le E_b12.lt l1)
    have g_ok13 : n0 ≤ ok13 := Nat.le_trans Zz12 l1
    have sz_ok13 : h0.size ≤ ok13 := Nat.le_trans Kk12.1 l1
    have ne_b12_ov13 : b12 ≠ ov13 := Nat.ne_of_lt (Nat.lt_of_lt_of_le E_b12.lt l2)
    have g_ov13 : n0 ≤ ov13 := Nat.le_trans Zz12 l2
    have sz_ov13 : h0.size ≤ ov13 := Nat.le_trans Kk12.1 l2
    have ne_b12_ou13 : b12 ≠ ou13 := Nat.ne_of_lt (Nat.lt_of_lt_of_le E_b12.lt l3)
    have g_ou13 : n0 ≤ ou13 := Nat.le_trans Zz12 l3
    have sz_ou13 : h0.size ≤ ou13 := Nat.le_trans Kk12.1 l3
    replace E_b12 := E_b12.keep Kq13
    clear F_keys_b12
    clear F_values_b12
    clear F_used_b12
    clear F_size_b12
    have Zz13 := Nat.le_trans Zz12 Kq13.1
    have Kk13 := Kk12.trans Kq13 (allS (Or.inr sz_b12) all0)
    have E_b12 := Eq13
    have F_keys_b12 := G1
    have F_values_b12 := G2
    have F_used_b12 := G3
    have F_size_b12 := G4
    have V_ok13 := G5
    have V_ov13 := G6
    have V_ou13 := G7
    have N13 := Fr.app N0 Nq13
    refine go (fun t kt => st13.trans kt) ?_
    show Go p e below _ m T13 72 #[jv q0, .second, jv m1, .second, jv m7, .second, jv m9, .second, iv p4, iv (0 : Int32), .unset, .unset, .unset] [(.ref b12)]
    refine go (fun t kt => XS.astore X13.here hx rfl (hb hby at_72) rfl rfl (l' := #[jv q0, .second, jv m1, .second, jv m7, .second, jv m9, .second, iv p4, iv (0 : Int32), rv b12, .unset, .unset]) rfl kt) ?_
    show Go p e below _ m T13 74 #[jv q0, .second, jv m1, .second, jv m7, .second, jv m9, .second, iv p4, iv (0 : Int32), rv b12, .unset, .unset] []
    refine go (fun t kt => XS.iload X13.here hx rfl (hb hby at_74) rfl kt) ?_
    show Go p e below _ m T13 76 #[jv q0, .second, jv m1, .second, jv m7, .second, jv m9, .second, iv p4, iv (0 : Int32), rv b12, .unset, .unset] [(.int (0 : Int32))]
    refine go (fun t kt => XS.ifYes X13.here hx rfl (pc0 := 76) (pc' := 86) rfl (hb hby at_76) rfl ((if0 _ _).trans (flt (by decide : ¬ ((0 : Int32) < (0 : Int32)))).2.2.2) (by decide) (by decide) kt) ?_
    show Go p e below _ m T13 86 #[jv q0, .second, jv m1, .second, jv m7, .second, jv m9, .second, iv p4, iv (0 : Int32), rv b12, .unset, .unset] []
    refine go (fun t kt => XS.iload X13.here hx rfl (hb hby at_86) rfl kt) ?_
    show Go p e below _ m T13 88 #[jv q0, .second, jv m1, .second, jv m7, .second, jv m9, .second, iv p4, iv (0 : Int32), rv b12, .unset, .unset] [(.int (0 : Int32))]
    refine go (fun t kt => XS.iconst X13.here hx rfl (hb hby at_88) kt) ?_
    show Go p e below _ m T13 89 #[jv q0, .second, jv m1, .second, jv m7, .second, jv m9, .second, iv p4, iv (0 : Int32), rv b12, .unset, .unset] [(.int (1 : Int32)), (.int (0 : Int32))]
    refine go (fun t kt => XS.icmpYes X13.here hx rfl (pc0 := 89) (pc' := 99) rfl (hb hby at_89) rfl (flt (by decide : ¬ ((1 : Int32) < (0 : Int32)))).2.2.2 (by decide) (by decide) kt) ?_
    show Go p e below _ m T13 99 #[jv q0, .second, jv m1, .second, jv m7, .second, jv m9, .second, iv p4, iv (0 : Int32), rv b12, .unset, .unset] []
    refine go (fun t kt => XS.iload X13.here hx rfl (hb hby at_99) rfl kt) ?_
    show Go p e below _ m T13 101 #[jv q0, .second, jv m1, .second, jv m7, .second, jv m9, .second, iv p4, iv (0 : Int32), rv b12, .unset, .unset] [(.int (0 : Int32))]
    refine go (fun t kt => XS.iconst X13.here hx rfl (hb hby at_101) kt) ?_
    show Go p e below _ m T13 102 #[jv q0, .second, jv m1, .second, jv m7, .second, jv m9, .second, iv p4, iv (0 : Int32), rv b12, .unset, .unset] [(.int (2 : Int32)), (.int (0 : Int32))]
    refine go (fun t kt => XS.icmpYes X13.here hx rfl (pc0 := 102) (pc' := 113) rfl (hb hby at_102) rfl (flt (by decide : ¬ ((2 : Int32) < (0 : Int32)))).2.2.2 (by decide) (by decide) kt) ?_
    show Go p e below _ m T13 113 #[jv q0, .second, jv m1, .second, jv m7, .second, jv m9, .second, iv p4, iv (0 : Int32), rv b12, .unset, .unset] []
    refine go (fun t kt => XS.iload X13.here hx rfl (hb hby at_113) rfl kt) ?_
    show Go p e below _ m T13 115 #[jv q0, .second, jv m1, .second, jv m7, .second, jv m9, .second, iv p4, iv (0 : Int32), rv b12, .unset, .unset] [(.int (0 : Int32))]
    refine go (fun t kt => XS.iconst X13.here hx rfl (hb hby at_115) kt) ?_
    show Go p e below _ m T13 116 #[jv q0, .second, jv m1, .second, jv m7, .second, jv m9, .second, iv p4, iv (0 : Int32), rv b12, .unset, .unset] [(.int (3 : Int32)), (.int (0 : Int32))]
    refine go (fun t kt => XS.icmpYes X13.here hx rfl (pc0 := 116) (pc' := 127) rfl (hb hby at_116) rfl (flt (by decide : ¬ ((3 : Int32) < (0 : Int32)))).2.2.2 (by decide) (by decide) kt) ?_
    show Go p e below _ m T13 127 #[jv q0, .second, jv m1, .second, jv m7, .second, jv m9, .second, iv p4, iv (0 : Int32), rv b12, .unset, .unset] []
    refine go (fun t kt => XS.aload X13.here hx rfl (hb hby at_127) rfl rfl kt) ?_
    show Go p e below _ m T13 129 #[jv q0, .second, jv m1, .second, jv m7, .second, jv m9, .second, iv p4, iv (0 : Int32), rv b12, .unset, .unset] [(.ref b12)]
    obtain ⟨cq14, kq14, q14a, q14b, q14c⟩ := isOf hZ rfl E_b12
    obtain ⟨_, _, ⟨T14, L14, k14, n14⟩, -, X14, ⟨Lc14, hQ14, l14, y14, z14⟩, st14⟩ := X13.virtualBack hx (y := (⟨"com/example/modest_tree_automata/modesttreeautomata/LongIntMap", "keys", "()[J"⟩ : MethodName)) (z := (⟨"com/example/modest_tree_automata/modesttreeautomata/LongIntMap", "keys", "()[J"⟩ : MethodName)) hown (mvT hZ (hw _ (List.mem_of_getElem? (i := 29) rfl))) (mvT hZ (hw _ (List.mem_of_getElem? (i := 30) rfl))) (notFace_of_selects (args := #[]) (mvT hZ (hw _ (List.mem_of_getElem? (i := 32) rfl)))) (mvT hZ (hw _ (List.mem_of_getElem? (i := 32) rfl))) (mvT hZ (hw _ (List.mem_of_getElem? (i := 31) rfl))) (by decide) (backOf (W := 0) (rm5 l Z a0 hw [] b12 ok13 ou13 kk13 ku13 (List.replicate 16 (0 : Int64)) (List.replicate 16 (0 : Int32)) (0 : Int32) T13.heap n0 Zz13 F_keys_b12 F_used_b12 F_size_b12 V_ok13 V_ou13 (own_inv0).2.1 (own_inv0).1 (own_inv0).2.2.1 (Nat.le_trans (own_inv0).2.2.2.1 (Nat.le_of_ble_eq_true rfl))) hZ (hw _ (List.mem_of_getElem? (i := 33) rfl)) (hw _ (List.mem_of_getElem? (i := 2) rfl)) (by decide) (by decide)) q14a q14c (g := (mkF m 129 #[jv q0, .second, jv m1, .second, jv m7, .second, jv m9, .second, iv p4, iv (0 : Int32), rv b12, .unset, .unset] [(.ref b12)])) rfl (by rw [hml]; rfl) (Steps.refl _) (argsL := []) (rest := []) (lenOf pd_2 rfl) rfl (by show 2 * 0 + _ ≤ _; exact Nat.le_of_eq rfl) (hb hby at_129) (fun _ _ => ⟨rfl, rfl, (by decide : 4 + 1 ≤ _), (by decide : 52 + 4 ≤ _)⟩)
    dsimp only [Pt.U, Pt.locs, Pt.cells, Pt.slots] at X14 l14 y14 z14 st14 hQ14
    subst l14 y14 z14
    obtain ⟨b14, g14⟩ : ∃ z, z = T13.heap.size := ⟨_, rfl⟩
    have ne_b12_b14 : b12 ≠ b14 := Nat.ne_of_lt (Nat.lt_of_lt_of_le E_b12.lt (Nat.le_of_eq g14.symm))
    have ne_ok13_b14 : ok13 ≠ b14 := Nat.ne_of_lt (Nat.lt_of_lt_of_le V_ok13.lt (Nat.le_of_eq g14.symm))
    have ne_ov13_b14 : ov13 ≠ b14 := Nat.ne_of_lt (Nat.lt_of_lt_of_le V_ov13.lt (Nat.le_of_eq g14.symm))
    have ne_ou13_b14 : ou13 ≠ b14 := Nat.ne_of_lt (Nat.lt_of_lt_of_le V_ou13.lt (Nat.le_of_eq g14.symm))
    have g_b14 : n0 ≤ b14 := Nat.le_trans Zz13 (Nat.le_of_eq g14.symm)
    have sz_b14 : h0.size ≤ b14 := Nat.le_trans Kk13.1 (Nat.le_of_eq g14.symm)
    obtain ⟨rfl, Nq14, Kq14, k14_, Vq14⟩ := hQ14
    rw [← g14] at Vq14 st14
    replace E_b12 := E_b12.keep Kq14
    replace F_keys_b12 := F_keys_b12.keep Kq14 nin0
    replace F_values_b12 := F_values_b12.keep Kq14 nin0
    replace F_used_b12 := F_used_b12.keep Kq14 nin0
    replace F_size_b12 := F_size_b12.keep Kq14 nin0
    replace V_ok13 := V_ok13.keep Kq14 nin0
    replace V_ov13 := V_ov13.keep Kq14 nin0
    replace V_ou13 := V_ou13.keep Kq14 nin0
    have Zz14 := Nat.le_trans Zz13 Kq14.1
    have Kk14 := Kk13.trans Kq14 all0
    have hnd := own_inv_nodup own_inv0
    have hmem := (own_inv0).2.2.2.2.2
    have hwz := (own_inv0).2.2.1
    have hlen := (own_inv0).2.2.2.1
    generalize hL : own_Lp (List.replicate 16 (0 : Int32)) (List.replicate 16 (0 : Int64)) 16 = LL at *
    have V_b14 := Vq14
    have N14 := Fr.app N13 Nq14
    refine go (fun t kt => st14.trans kt) ?_
    show Go p e below _ m T14 132 #[jv q0, .second, jv m1, .second, jv m7, .second, jv m9, .second, iv p4, iv (0 : Int32), rv b12, .unset, .unset] [(.ref b14)]
    refine go (fun t kt => XS.astore X14.here hx rfl (hb hby at_132) rfl rfl (l' := #[jv q0, .second, jv m1, .second, jv m7, .second, jv m9, .second, iv p4, iv (0 : Int32), rv b12, rv b14, .unset]) rfl kt) ?_
    show Go p e below _ m T14 134 #[jv q0, .second, jv m1, .second, jv m7, .second, jv m9, .second, iv p4, iv (0 : Int32), rv b12, rv b14, .unset] []
    refine go (fun t kt => XS.iconst X14.here hx rfl (hb hby at_134) kt) ?_
    show Go p e below _ m T14 135 #[jv q0, .second, jv m1, .second, jv m7, .second, jv m9, .second, iv p4, iv (0 : Int32), rv b12, rv b14, .unset] [(.int (0 : Int32))]
    refine go (fun t kt => XS.istore X14.here hx rfl (hb hby at_135) rfl (l' := #[jv q0, .second, jv m1, .second, jv m7, .second, jv m9, .second, iv p4, iv (0 : Int32), rv b12, rv b14, iv (0 : Int32)]) rfl kt) ?_
    show Go p e below _ m T14 137 #[jv q0, .second, jv m1, .second, jv m7, .second, jv m9, .second, iv p4, iv (0 : Int32), rv b12, rv b14, iv (0 : Int32)] []
    refine go (fun t kt => XS.iload X14.here hx rfl (hb hby at_137) rfl kt) ?_
    show Go p e below _ m T14 139 #[jv q0, .second, jv m1, .second, jv m7, .second, jv m9, .second, iv p4, iv (0 : Int32), rv b12, rv b14, iv (0 : Int32)] [(.int (0 : Int32))]
    refine go (fun t kt => XS.ifYes X14.here hx rfl (pc0 := 139) (pc' := 145) rfl (hb hby at_139) rfl ((if0 _ _).trans (flt (by decide : ¬ ((0 : Int32) < (0 : Int32)))).2.2.2) (by decide) (by decide) kt) ?_
    show Go p e below _ m T14 145 #[jv q0, .second, jv m1, .second, jv m7, .second, jv m9, .second, iv p4, iv (0 : Int32), rv b12, rv b14, iv (0 : Int32)] []
    refine go (fun t kt => XS.iload X14.here hx rfl (hb hby at_145) rfl kt) ?_
    show Go p e below _ m T14 147 #[jv q0, .second, jv m1, .second, jv m7, .second, jv m9, .second, iv p4, iv (0 : Int32), rv b12, rv b14, iv (0 : Int32)] [(.int (0 : Int32))]
    refine go (fun t kt => XS.iconst X14.here hx rfl (hb hby at_147) kt) ?_
    show Go p e below _ m T14 148 #[jv q0, .second, jv m1, .second, jv m7, .second, jv m9, .second, iv p4, iv (0 : Int32), rv b12, rv b14, iv (0 : Int32)] [(.int (1 : Int32)), (.int (0 : Int32))]
    refine go (fun t kt => XS.icmpYes X14.here hx rfl (pc0 := 148) (pc' := 160) rfl (hb hby at_148) rfl (flt (by decide : ¬ ((1 : Int32) < (0 : Int32)))).2.2.2 (by decide) (by decide) kt) ?_
    show Go p e below _ m T14 160 #[jv q0, .second, jv m1, .second, jv m7, .second, jv m9, .second, iv p4, iv (0 : Int32), rv b12, rv b14, iv (0 : Int32)] []
    refine go (fun t kt => XS.iload X14.here hx rfl (hb hby at_160) rfl kt) ?_
    show Go p e below _ m T14 162 #[jv q0, .second, jv m1, .second, jv m7, .second, jv m9, .second, iv p4, iv (0 : Int32), rv b12, rv b14, iv (0 : Int32)] [(.int (0 : Int32))]
    refine go (fun t kt => XS.iconst X14.here hx rfl (hb hby at_162) kt) ?_
    show Go p e below _ m T14 163 #[jv q0, .second, jv m1, .second, jv m7, .second, jv m9, .second, iv p4, iv (0 : Int32), rv b12, rv b14, iv (0 : Int32)] [(.int (2 : Int32)), (.int (0 : Int32))]
    refine go (fun t kt => XS.icmpYes X14.here hx rfl (pc0 := 163) (pc' := 183) rfl (hb hby at_163) rfl (flt (by decide : ¬ ((2 : Int32) < (0 : Int32)))).2.2.2 (by decide) (by decide) kt) ?_
    show Go p e below _ m T14 183 #[jv q0, .second, jv m1, .second, jv m7, .second, jv m9, .second, iv p4, iv (0 : Int32), rv b12, rv b14, iv (0 : Int32)] []
    refine go (fun t kt => XS.iload X14.here hx rfl (hb hby at_183) rfl kt) ?_
    show Go p e below _ m T14 185 #[jv q0, .second, jv m1, .second, jv m7, .second, jv m9, .second, iv p4, iv (0 : Int32), rv b12, rv b14, iv (0 : Int32)] [(.int (0 : Int32))]
    refine go (fun t kt => XS.iconst X14.here hx rfl (hb hby at_185) kt) ?_
    show Go p e below _ m T14 186 #[jv q0, .second, jv m1, .second, jv m7, .second, jv m9, .second, iv p4, iv (0 : Int32), rv b12, rv b14, iv (0 : Int32)] [(.int (3 : Int32)), (.int (0 : Int32))]
    refine go (fun t kt => XS.icmpYes X14.here hx rfl (pc0 := 186) (pc' := 214) rfl (hb hby at_186) rfl (flt (by decide : ¬ ((3 : Int32) < (0 : Int32)))).2.2.2 (by decide) (by decide) kt) ?_
    show Go p e below _ m T14 214 #[jv q0, .second, jv m1, .second, jv m7, .second, jv m9, .second, iv p4, iv (0 : Int32), rv b12, rv b14, iv (0 : Int32)] []
    refine go (fun t kt => XS.aload X14.here hx rfl (hb hby at_214) rfl rfl kt) ?_
    show Go p e below _ m T14 216 #[jv q0, .second, jv m1, .second, jv m7, .second, jv m9, .second, iv p4, iv (0 : Int32), rv b12, rv b14, iv (0 : Int32)] [(.ref b14)]
    obtain ⟨cl15, Ar15, qc15, S15, M15, H15, G15⟩ := id V_b14
    refine go (X14.arraylength hx Ar15.1 (State.isArrayOf_alike hZ.alike Ar15.2.1) (g := (mkF m 216 #[jv q0, .second, jv m1, .second, jv m7, .second, jv m9, .second, iv p4, iv (0 : Int32), rv b12, rv b14, iv (0 : Int32)] [(.ref b14)])) rfl rfl (hb hby at_216)) ?_
    rw [len_of S15 M15]
    show Go p e below _ m T14 217 #[jv q0, .second, jv m1, .second, jv m7, .second, jv m9, .second, iv p4, iv (0 : Int32), rv b12, rv b14, iv (0 : Int32)] [(.int (0 : Int32))]
    refine go (fun t kt => XS.iload X14.here hx rfl (hb hby at_217) rfl kt) ?_
    show Go p e below _ m T14 219 #[jv q0, .second, jv m1, .second, jv m7, .second, jv m9, .second, iv p4, iv (0 : Int32), rv b12, rv b14, iv (0 : Int32)] [(.int (0 : Int32)), (.int (0 : Int32))]
    refine go (fun t kt => XS.icmpYes X14.here hx rfl (pc0 := 219) (pc' := 224) rfl (hb hby at_219) rfl (teq (by decide : ((0 : Int32) = (0 : Int32)))).1 (by decide) (by decide) kt) ?_
    show Go p e below _ m T14 224 #[jv q0, .second, jv m1, .second, jv m7, .second, jv m9, .second, iv p4, iv (0 : Int32), rv b12, rv b14, iv (0 : Int32)] []
    refine go (fun t kt => XS.iload X14.here hx rfl (hb hby at_224) rfl kt) ?_
    show Go p e below _ m T14 226 #[jv q0, .second, jv m1, .second, jv m7, .second, jv m9, .second, iv p4, iv (0 : Int32), rv b12, rv b14, iv (0 : Int32)] [(.int (0 : Int32))]
    refine go (fun t kt => XS.ifYes X14.here hx rfl (pc0 := 226) (pc' := 240) rfl (hb hby at_226) rfl ((if0 _ _).trans (flt (by decide : ¬ ((0 : Int32) < (0 : Int32)))).2.2.2) (by decide) (by decide) kt) ?_
    show Go p e below _ m T14 240 #[jv q0, .second, jv m1, .second, jv m7, .second, jv m9, .second, iv p4, iv (0 : Int32), rv b12, rv b14, iv (0 : Int32)] []
    refine go (fun t kt => XS.iload X14.here hx rfl (hb hby at_240) rfl kt) ?_
    show Go p e below _ m T14 242 #[jv q0, .second, jv m1, .second, jv m7, .second, jv m9, .second, iv p4, iv (0 : Int32), rv b12, rv b14, iv (0 : Int32)] [(.int (0 : Int32))]
    refine go (fun t kt => XS.iconst X14.here hx rfl (hb hby at_242) kt) ?_
    show Go p e below _ m T14 243 #[jv q0, .second, jv m1, .second, jv m7, .second, jv m9, .second, iv p4, iv (0 : Int32), rv b12, rv b14, iv (0 : Int32)] [(.int (1 : Int32)), (.int (0 : Int32))]
    refine go (fun t kt => XS.icmpYes X14.here hx rfl (pc0 := 243) (pc' := 257) rfl (hb hby at_243) rfl (flt (by decide : ¬ ((1 : Int32) < (0 : Int32)))).2.2.2 (by decide) (by decide) kt) ?_
    show Go p e below _ m T14 257 #[jv q0, .second, jv m1, .second, jv m7, .second, jv m9, .second, iv p4, iv (0 : Int32), rv b12, rv b14, iv (0 : Int32)] []
    refine go (fun t kt => XS.iload X14.here hx rfl (hb hby at_257) rfl kt) ?_
    show Go p e below _ m T14 259 #[jv q0, .second, jv m1, .second, jv m7, .second, jv m9, .second, iv p4, iv (0 : Int32), rv b12, rv b14, iv (0 : Int32)] [(.int (0 : Int32))]
    refine go (fun t kt => XS.iconst X14.here hx rfl (hb hby at_259) kt) ?_
    show Go p e below _ m T14 260 #[jv q0, .second, jv m1, .second, jv m7, .second, jv m9, .second, iv p4, iv (0 : Int32), rv b12, rv b14, iv (0 : Int32)] [(.int (2 : Int32)), (.int (0 : Int32))]
    refine go (fun t kt => XS.icmpYes X14.here hx rfl (pc0 := 260) (pc' := 275) rfl (hb hby at_260) rfl (flt (by decide : ¬ ((2 : Int32) < (0 : Int32)))).2.2.2 (by decide) (by decide) kt) ?_
    show Go p e below _ m T14 275 #[jv q0, .second, jv m1, .second, jv m7, .second, jv m9, .second, iv p4, iv (0 : Int32), rv b12, rv b14, iv (0 : Int32)] []
    refine go (fun t kt => XS.iload X14.here hx rfl (hb hby at_275) rfl kt) ?_
    show Go p e below _ m T14 277 #[jv q0, .second, jv m1, .second, jv m7, .second, jv m9, .second, iv p4, iv (0 : Int32), rv b12, rv b14, iv (0 : Int32)] [(.int (0 : Int32))]
    refine go (fun t kt => XS.iconst X14.here hx rfl (hb hby at_277) kt) ?_
    show Go p e below _ m T14 278 #[jv q0, .second, jv m1, .second, jv m7, .second, jv m9, .second, iv p4, iv (0 : Int32), rv b12, rv b14, iv (0 : Int32)] [(.int (3 : Int32)), (.int (0 : Int32))]
    refine go (fun t kt => XS.icmpYes X14.here hx rfl (pc0 := 278) (pc' := 293) rfl (hb hby at_278) rfl (flt (by decide : ¬ ((3 : Int32) < (0 : Int32)))).2.2.2 (by decide) (by decide) kt) ?_
    show Go p e below _ m T14 293 #[jv q0, .second, jv m1, .second, jv m7, .second, jv m9, .second, iv p4, iv (0 : Int32), rv b12, rv b14, iv (0 : Int32)] []
    refine go (fun t kt => XS.aload X14.here hx rfl (hb hby at_293) rfl rfl kt) ?_
    show Go p e below _ m T14 295 #[jv q0, .second, jv m1, .second, jv m7, .second, jv m9, .second, iv p4, iv (0 : Int32), rv b12, rv b14, iv (0 : Int32)] [(.ref b14)]
    obtain ⟨cl16, Ar16, qc16, S16, M16, H16, G16⟩ := id V_b14
    refine go (X14.arraylength hx Ar16.1 (State.isArrayOf_alike hZ.alike Ar16.2.1) (g := (mkF m 295 #[jv q0, .second, jv m1, .second, jv m7, .second, jv m9, .second, iv p4, iv (0 : Int32), rv b12, rv b14, iv (0 : Int32)] [(.ref b14)])) rfl rfl (hb hby at_295)) ?_
    rw [len_of S16 M16]
    show Go p e below _ m T14 296 #[jv q0, .second, jv m1, .second, jv m7, .second, jv m9, .second, iv p4, iv (0 : Int32), rv b12, rv b14, iv (0 : Int32)] [(.int (0 : Int32))]
    refine go (fun t kt => XS.ifYes X14.here hx rfl (pc0 := 296) (pc' := 319) rfl (hb hby at_296) rfl ((if0 _ _).trans (flt (by decide : ¬ ((0 : Int32) < (0 : Int32)))).2.2.2) (by decide) (by decide) kt) ?_
    show Go p e below _ m T14 319 #[jv q0, .second, jv m1, .second, jv m7, .second, jv m9, .second, iv p4, iv (0 : Int32), rv b12, rv b14, iv (0 : Int32)] []
    refine go (fun t kt => XS.aload X14.here hx rfl (hb hby at_319) rfl rfl kt) ?_
    show Go p e below _ m T14 321 #[jv q0, .second, jv m1, .second, jv m7, .second, jv m9, .second, iv p4, iv (0 : Int32), rv b12, rv b14, iv (0 : Int32)] [(.ref b14)]
    obtain ⟨cl17, Ar17, qc17, S17, M17, H17, G17⟩ := id V_b14
    refine go (X14.arraylength hx Ar17.1 (State.isArrayOf_alike hZ.alike Ar17.2.1) (g := (mkF m 321 #[jv q0, .second, jv m1, .second, jv m7, .second, jv m9, .second, iv p4, iv (0 : Int32), rv b12, rv b14, iv (0 : Int32)] [(.ref b14)])) rfl rfl (hb hby at_321)) ?_
    rw [len_of S17 M17]
    show Go p e below _ m T14 322 #[jv q0, .second, jv m1, .second, jv m7, .second, jv m9, .second, iv p4, iv (0 : Int32), rv b12, rv b14, iv (0 : Int32)] [(.int (0 : Int32))]
    refine go (fun t kt => XS.iconst X14.here hx rfl (hb hby at_322) kt) ?_
    show Go p e below _ m T14 323 #[jv q0, .second, jv m1, .second, jv m7, .second, jv m9, .second, iv p4, iv (0 : Int32), rv b12, rv b14, iv (0 : Int32)] [(.int (1 : Int32)), (.int (0 : Int32))]
    refine go (fun t kt => XS.icmpYes X14.here hx rfl (pc0 := 323) (pc' := 346) rfl (hb hby at_323) rfl (flt (by decide : ¬ ((1 : Int32) < (0 : Int32)))).2.2.2 (by decide) (by decide) kt) ?_
    show Go p e below _ m T14 346 #[jv q0, .second, jv m1, .second, jv m7, .second, jv m9, .second, iv p4, iv (0 : Int32), rv b12, rv b14, iv (0 : Int32)] []
    refine go (fun t kt => XS.aload X14.here hx rfl (hb hby at_346) rfl rfl kt) ?_
    show Go p e below _ m T14 348 #[jv q0, .second, jv m1, .second, jv m7, .second, jv m9, .second, iv p4, iv (0 : Int32), rv b12, rv b14, iv (0 : Int32)] [(.ref b14)]
    obtain ⟨cl18, Ar18, qc18, S18, M18, H18, G18⟩ := id V_b14
    refine go (X14.arraylength hx Ar18.1 (State.isArrayOf_alike hZ.alike Ar18.2.1) (g := (mkF m 348 #[jv q0, .second, jv m1, .second, jv m7, .second, jv m9, .second, iv p4, iv (0 : Int32), rv b12, rv b14, iv (0 : Int32)] [(.ref b14)])) rfl rfl (hb hby at_348)) ?_
    rw [len_of S18 M18]
    show Go p e below _ m T14 349 #[jv q0, .second, jv m1, .second, jv m7, .second, jv m9, .second, iv p4, iv (0 : Int32), rv b12, rv b14, iv (0 : Int32)] [(.int (0 : Int32))]
    refine go (fun t kt => XS.iconst X14.here hx rfl (hb hby at_349) kt) ?_
    show Go p e below _ m T14 350 #[jv q0, .second, jv m1, .second, jv m7, .second, jv m9, .second, iv p4, iv (0 : Int32), rv b12, rv b14, iv (0 : Int32)] [(.int (2 : Int32)), (.int (0 : Int32))]
    refine go (fun t kt => XS.icmpYes X14.here hx rfl (pc0 := 350) (pc' := 373) rfl (hb hby at_350) rfl (flt (by decide : ¬ ((2 : Int32) < (0 : Int32)))).2.2.2 (by decide) (by decide) kt) ?_
    show Go p e below _ m T14 373 #[jv q0, .second, jv m1, .second, jv m7, .second, jv m9, .second, iv p4, iv (0 : Int32), rv b12, rv b14, iv (0 : Int32)] []
    refine go (fun t kt => XS.aload X14.here hx rfl (hb hby at_373) rfl rfl kt) ?_
    show Go p e below _ m T14 375 #[jv q0, .second, jv m1, .second, jv m7, .second, jv m9, .second, iv p4, iv (0 : Int32), rv b12, rv b14, iv (0 : Int32)] [(.ref b14)]
    obtain ⟨cl19, Ar19, qc19, S19, M19, H19, G19⟩ := id V_b14
    refine go (X14.arraylength hx Ar19.1 (State.isArrayOf_alike hZ.alike Ar19.2.1) (g := (mkF m 375 #[jv q0, .second, jv m1, .second, jv m7, .second, jv m9, .second, iv p4, iv (0 : Int32), rv b12, rv b14, iv (0 : Int32)] [(.ref b14)])) rfl rfl (hb hby at_375)) ?_
    rw [len_of S19 M19]
    show Go p e below _ m T14 376 #[jv q0, .second, jv m1, .second, jv m7, .second, jv m9, .second, iv p4, iv (0 : Int32), rv b12, rv b14, iv (0 : Int32)] [(.int (0 : Int32))]
    refine go (fun t kt => XS.iconst X14.here hx rfl (hb hby at_376) kt) ?_
    show Go p e below _ m T14 377 #[jv q0, .second, jv m1, .second, jv m7, .second, jv m9, .second, iv p4, iv (0 : Int32), rv b12, rv b14, iv (0 : Int32)] [(.int (3 : Int32)), (.int (0 : Int32))]
    refine go (fun t kt => XS.icmpYes X14.here hx rfl (pc0 := 377) (pc' := 400) rfl (hb hby at_377) rfl (flt (by decide : ¬ ((3 : Int32) < (0 : Int32)))).2.2.2 (by decide) (by decide) kt) ?_
    show Go p e below _ m T14 400 #[jv q0, .second, jv m1, .second, jv m7, .second, jv m9, .second, iv p4, iv (0 : Int32), rv b12, rv b14, iv (0 : Int32)] []
    refine go (fun t kt => XS.iconst X14.here hx rfl (hb hby at_400) kt) ?_
    show Go p e below _ m T14 401 #[jv q0, .second, jv m1, .second, jv m7, .second, jv m9, .second, iv p4, iv (0 : Int32), rv b12, rv b14, iv (0 : Int32)] [(.int (1 : Int32))]
    obtain ⟨fs, hr, hrun, hended, hW, hsame⟩ := X14.leave (v := some (.int (1 : Int32))) (fun h => by rw [Bd.returns] at h; cases h)
    refine ⟨_, _, retN X14 hx (t := .boolean) Bd.returns (by simp) (hb hby at_401) hr, hrun, hended, _, _, rfl, ?_, ⟨_, rfl⟩, hW, hsame.mono (by decide) (by decide)⟩
    show Q0 Z q0 q1 q2 q3 p4 h0 n0 _ T14.heap _
    exact ⟨rfl, N14⟩
  ·
    rw [hk11]
    show Go p e below _ m s₁ 65 #[jv q0, .second, jv m1, .second, jv m7, .second, jv m9, .second, iv p4, iv (1 : Int32), .unset, .unset, .unset] []
    obtain ⟨T21, h21, X21, e21, E21, A21, D21, -, st21⟩ := newO X0 hx hZ hown (hw _ (List.mem_of_getElem? (i := 0) rfl)) (hw _ (List.mem_of_getElem? (i := 1) rfl)) (hw _ (List.mem_of_getElem? (i := 2) rfl)) e0 (g := (mkF m 65 #[jv q0, .second, jv m1, .second, jv m7, .second, jv m9, .second, iv p4, iv (1 : Int32), .unset, .unset, .unset] [])) rfl (hb hby at_65) (by decide) (by decide)
    obtain ⟨b21, g21⟩ : ∃ z, z = h0.size := ⟨_, rfl⟩
    rw [← g21] at A21 D21 st21
    have g_b21 : n0 ≤ b21 := Nat.le_trans Z0 (Nat.le_of_eq g21.symm)
    have sz_b21 : h0.size ≤ b21 := Nat.le_trans K0.1 (Nat.le_of_eq g21.symm)
    have Zz21 := Nat.le_trans Z0 E21.1
    have Kk21 := K0.ext E21
    have E_b21 := A21
    have F_keys_b21 : Fld Z h21 b21 "com/example/modest_tree_automata/modesttreeautomata/LongIntMap" "keys" "[J" .null := D21 (Or.inl (hw _ (List.mem_of_getElem? (i := 11) rfl))) (ty := (.array .long)) (by decide)
    have F_values_b21 : Fld Z h21 b21 "com/example/modest_tree_automata/modesttreeautomata/LongIntMap" "values" "[I" .null := D21 (Or.inl (hw _ (List.mem_of_getElem? (i := 14) rfl))) (ty := (.array .int)) (by decide)
    have F_used_b21 : Fld Z h21 b21 "com/example/modest_tree_automata/modesttreeautomata/LongIntMap" "used" "[Z" .null := D21 (Or.inl (hw _ (List.mem_of_getElem? (i := 17) rfl))) (ty := (.array .boolean)) (by decide)
    have F_size_b21 : Fld Z h21 b21 "com/example/modest_tree_automata/modesttreeautomata/LongIntMap" "size" "I" (.int (0 : Int32)) := D21 (Or.inl (hw _ (List.mem_of_getElem? (i := 24) rfl))) (ty := .int) (by decide)
    refine go st21 ?_
    show Go p e below _ m T21 68 #[jv q0, .second, jv m1, .second, jv m7, .second, jv m9, .second, iv p4, iv (1 : Int32), .unset, .unset, .unset] [(.ref b21)]
    refine go (fun t kt => XS.dup X21.here hx rfl (hb hby at_68) rfl rfl kt) ?_
    show Go p e below _ m T21 69 #[jv q0, .second, jv m1, .second, jv m7, .second, jv m9, .second, iv p4, iv (1 : Int32), .unset, .unset, .unset] [(.ref b21), (.ref b21)]
    obtain ⟨_, _, ⟨T22, L22, k22, n22⟩, -, X22, ⟨Lc22, hQ22, l22, y22, z22⟩, st22⟩ := X21.specialBack hx (y := (⟨"com/example/modest_tree_automata/modesttreeautomata/LongIntMap", "<init>", "()V"⟩ : MethodName)) rfl hown (mvT hZ (hw _ (List.mem_of_getElem? (i := 3) rfl))) (mvT hZ (hw _ (List.mem_of_getElem? (i := 4) rfl))) (mvT hZ (hw _ (List.mem_of_getElem? (i := 5) rfl))) (by decide) (backOf (W := 1) (rm1 l Z a0 hw [] b21 .null .null .null (0 : Int32) h21 n0 Zz21 E_b21 F_keys_b21 F_values_b21 F_used_b21 F_size_b21 g_b21) hZ (hw _ (List.mem_of_getElem? (i := 5) rfl)) (hw _ (List.mem_of_getElem? (i := 2) rfl)) (by decide) (by decide)) (g := (mkF m 69 #[jv q0, .second, jv m1, .second, jv m7, .second, jv m9, .second, iv p4, iv (1 : Int32), .unset, .unset, .unset] [(.ref b21), (.ref b21)])) rfl (by rw [hml]; rfl) (Steps.refl _) (a := b21) (argsL := []) (rest := [(.ref b21)]) (lenOf pd_1 rfl) rfl (by show 2 * 0 + _ ≤ _; exact Nat.le_of_eq rfl) (hb hby at_69) (fun _ _ => ⟨rfl, e21, (by decide : 1 + 3 ≤ _), (by decide : 4 + 48 ≤ _)⟩)
    dsimp only [Pt.U, Pt.locs, Pt.cells, Pt.slots] at X22 l22 y22 z22 st22 hQ22
    subst l22 y22 z22
    obtain ⟨rfl, Nq22, Kq22, Eq22, ok22, ov22, ou22, kk22, kv22, ku22, l1, l2, l3, ne_ok22_ov22, ne_ok22_ou22, ne_ov22_ou22, G1, G2, G3, G4, G5, G6, G7⟩ := hQ22
    have ne_b21_ok22 : b21 ≠ ok22 := Nat.ne_of_lt (Nat.lt_of_lt_of_le E_b21.lt l1)
    have g_ok22 : n0 ≤ ok22 := Nat.le_trans Zz21 l1
    have sz_ok22 : h0.size ≤ ok22 := Nat.le_trans Kk21.1 l1
    have ne_b21_ov22 : b21 ≠ ov22 := Nat.ne_of_lt (Nat.lt_of_lt_of_le E_b21.lt l2)
    have g_ov22 : n0 ≤ ov22 := Nat.le_trans Zz21 l2
    have sz_ov22 : h0.size ≤ ov22 := Nat.le_trans Kk21.1 l2
    have ne_b21_ou22 : b21 ≠ ou22 := Nat.ne_of_lt (Nat.lt_of_lt_of_le E_b21.lt l3)
    have g_ou22 : n0 ≤ ou22 := Nat.le_trans Zz21 l3
    have sz_ou22 : h0.size ≤ ou22 := Nat.le_trans Kk21.1 l3
    replace E_b21 := E_b21.keep Kq22
    clear F_keys_b21
    clear F_values_b21
    clear F_used_b21
    clear F_size_b21
    have Zz22 := Nat.le_trans Zz21 Kq22.1
    have Kk22 := Kk21.trans Kq22 (allS (Or.inr sz_b21) all0)
    have E_b21 := Eq22
    have F_keys_b21 := G1
    have F_values_b21 := G2
    have F_used_b21 := G3
    have F_size_b21 := G4
    have V_ok22 := G5
    have V_ov22 := G6
    have V_ou22 := G7
    have N22 := Fr.app N0 Nq22
    refine go (fun t kt => st22.trans kt) ?_
    show Go p e below _ m T22 72 #[jv q0, .second, jv m1, .second, jv m7, .second, jv m9, .second, iv p4, iv (1 : Int32), .unset, .unset, .unset] [(.ref b21)]
    refine go (fun t kt => XS.astore X22.here hx rfl (hb hby at_72) rfl rfl (l' := #[jv q0, .second, jv m1, .second, jv m7, .second, jv m9, .second, iv p4, iv (1 : Int32), rv b21, .unset, .unset]) rfl kt) ?_
    show Go p e below _ m T22 74 #[jv q0, .second, jv m1, .second, jv m7, .second, jv m9, .second, iv p4, iv (1 : Int32), rv b21, .unset, .unset] []
    refine go (fun t kt => XS.iload X22.here hx rfl (hb hby at_74) rfl kt) ?_
    show Go p e below _ m T22 76 #[jv q0, .second, jv m1, .second, jv m7, .second, jv m9, .second, iv p4, iv (1 : Int32), rv b21, .unset, .unset] [(.int (1 : Int32))]
    refine go (fun t kt => XS.ifNo X22.here hx rfl (hb hby at_76) rfl ((if0 _ _).trans (tlt (by decide : ((0 : Int32) < (1 : Int32)))).2.2.2) kt) ?_
    show Go p e below _ m T22 79 #[jv q0, .second, jv m1, .second, jv m7, .second, jv m9, .second, iv p4, iv (1 : Int32), rv b21, .unset, .unset] []
    refine go (fun t kt => XS.aload X22.here hx rfl (hb hby at_79) rfl rfl kt) ?_
    show Go p e below _ m T22 81 #[jv q0, .second, jv m1, .second, jv m7, .second, jv m9, .second, iv p4, iv (1 : Int32), rv b21, .unset, .unset] [(.ref b21)]
    refine go (fun t kt => XS.lloadN X22.here hx rfl (hb hby at_81) rfl kt) ?_
    show Go p e below _ m T22 82 #[jv q0, .second, jv m1, .second, jv m7, .second, jv m9, .second, iv p4, iv (1 : Int32), rv b21, .unset, .unset] [(.long q0), (.ref b21)]
    refine go (fun t kt => XS.iconst X22.here hx rfl (hb hby at_82) kt) ?_
    show Go p e below _ m T22 83 #[jv q0, .second, jv m1, .second, jv m7, .second, jv m9, .second, iv p4, iv (1 : Int32), rv b21, .unset, .unset] [(.int (1 : Int32)), (.long q0), (.ref b21)]
    obtain ⟨cq23, kq23, q23a, q23b, q23c⟩ := isOf hZ rfl E_b21
    obtain ⟨_, _, ⟨T23, L23, k23, n23⟩, -, X23, ⟨Lc23, hQ23, l23, y23, z23⟩, st23⟩ := X22.virtualBack hx (y := (⟨"com/example/modest_tree_automata/modesttreeautomata/LongIntMap", "put", "(JI)V"⟩ : MethodName)) (z := (⟨"com/example/modest_tree_automata/modesttreeautomata/LongIntMap", "put", "(JI)V"⟩ : MethodName)) hown (mvT hZ (hw _ (List.mem_of_getElem? (i := 18) rfl))) (mvT hZ (hw _ (List.mem_of_getElem? (i := 19) rfl))) (notFace_of_selects (args := #[]) (mvT hZ (hw _ (List.mem_of_getElem? (i := 21) rfl)))) (mvT hZ (hw _ (List.mem_of_getElem? (i := 21) rfl))) (mvT hZ (hw _ (List.mem_of_getElem? (i := 20) rfl))) (by decide) (backOf (W := 0) (rm3 l Z a0 hw [] b21 q0 (1 : Int32) ok22 ov22 ou22 kk22 kv22 ku22 (List.replicate 16 (0 : Int64)) (List.replicate 16 (0 : Int32)) (List.replicate 16 (.int (0 : Int32))) (0 : Int32) T22.heap n0 Zz22 E_b21 F_keys_b21 F_values_b21 F_used_b21 F_size_b21 V_ok22 V_ov22 V_ou22 g_b21 g_ok22 g_ov22 g_ou22 ne_b21_ok22 ne_b21_ov22 ne_b21_ou22 ne_ok22_ov22 ne_ok22_ou22 ne_ov22_ou22 (own_inv0).2.1 (own_inv0).1 (by simp) (own_hsz own_inv0 (Nat.le_of_ble_eq_true rfl)) (own_inv_stop own_inv0 (Nat.le_of_ble_eq_true rfl) _)) hZ (hw _ (List.mem_of_getElem? (i := 22) rfl)) (hw _ (List.mem_of_getElem? (i := 2) rfl)) (by decide) (by decide)) q23a q23c (g := (mkF m 83 #[jv q0, .second, jv m1, .second, jv m7, .second, jv m9, .second, iv p4, iv (1 : Int32), rv b21, .unset, .unset] [(.int (1 : Int32)), (.long q0), (.ref b21)])) rfl (by rw [hml]; rfl) (Steps.refl _) (argsL := [(.long q0), (.int (1 : Int32))]) (rest := []) (lenOf pd_3 rfl) rfl (by show 2 * 0 + _ ≤ _; exact Nat.le_of_eq rfl) (hb hby at_83) (fun _ _ => ⟨rfl, rfl, (by decide : 4 + 0 ≤ _), (by decide : 52 + 0 ≤ _)⟩)
    dsimp only [Pt.U, Pt.locs, Pt.cells, Pt.slots] at X23 l23 y23 z23 st23 hQ23
    subst l23 y23 z23
    obtain ⟨rfl, Nq23, Kq23, G0, G1, G2, G3, G4, G5, G6, vv23, hvv23, G7⟩ := hQ23
    replace E_b21 := E_b21.keep Kq23
    clear F_keys_b21
    clear F_values_b21
    clear F_used_b21
    clear F_size_b21
    clear V_ok22
    clear V_ov22
    clear V_ou22
    have Zz23 := Nat.le_trans Zz22 Kq23.1
    have Kk23 := Kk22.trans Kq23 (allS (Or.inr sz_b21) (allS (Or.inr sz_ok22) (allS (Or.inr sz_ov22) (allS (Or.inr sz_ou22) all0))))
    have E_b21 := G0
    have F_keys_b21 := G1
    have F_values_b21 := G2
    have F_used_b21 := G3
    have F_size_b21 := G4
    have V_ok22 := G5
    have V_ou22 := G6
    have V_ov22 := G7
    have I23 := own_inv_put own_inv0 (Nat.le_of_ble_eq_true rfl) q0
    generalize hks23 : (own_ks (List.replicate 16 (0 : Int32)) (List.replicate 16 (0 : Int64)) q0) = ks23 at *
    generalize hus23 : (own_us (List.replicate 16 (0 : Int32)) (List.replicate 16 (0 : Int64)) q0) = us23 at *
    generalize hwz23 : (own_sz (List.replicate 16 (0 : Int32)) (List.replicate 16 (0 : Int64)) q0 (0 : Int32)) = wz23 at *
    have N23 := Fr.app N22 Nq23
    refine go (fun t kt => st23.trans kt) ?_
    show Go p e below _ m T23 86 #[jv q0, .second, jv m1, .second, jv m7, .second, jv m9, .second, iv p4, iv (1 : Int32), rv b21, .unset, .unset] []
    refine go (fun t kt => XS.iload X23.here hx rfl (hb hby at_86) rfl kt) ?_
    show Go p e below _ m T23 88 #[jv q0, .second, jv m1, .second, jv m7, .second, jv m9, .second, iv p4, iv (1 : Int32), rv b21, .unset, .unset] [(.int (1 : Int32))]
    refine go (fun t kt => XS.iconst X23.here hx rfl (hb hby at_88) kt) ?_
    show Go p e below _ m T23 89 #[jv q0, .second, jv m1, .second, jv m7, .second, jv m9, .second, iv p4, iv (1 : Int32), rv b21, .unset, .unset] [(.int (1 : Int32)), (.int (1 : Int32))]
    refine go (fun t kt => XS.icmpYes X23.here hx rfl (pc0 := 89) (pc' := 99) rfl (hb hby at_89) rfl (flt (by decide : ¬ ((1 : Int32) < (1 : Int32)))).2.2.2 (by decide) (by decide) kt) ?_
    show Go p e below _ m T23 99 #[jv q0, .second, jv m1, .second, jv m7, .second, jv m9, .second, iv p4, iv (1 : Int32), rv b21, .unset, .unset] []
    refine go (fun t kt => XS.iload X23.here hx rfl (hb hby at_99) rfl kt) ?_
    show Go p e below _ m T23 101 #[jv q0, .second, jv m1, .second, jv m7, .second, jv m9, .second, iv p4, iv (1 : Int32), rv b21, .unset, .unset] [(.int (1 : Int32))]
    refine go (fun t kt => XS.iconst X23.here hx rfl (hb hby at_101) kt) ?_
    show Go p e below _ m T23 102 #[jv q0, .second, jv m1, .second, jv m7, .second, jv m9, .second, iv p4, iv (1 : Int32), rv b21, .unset, .unset] [(.int (2 : Int32)), (.int (1 : Int32))]
    refine go (fun t kt => XS.icmpYes X23.here hx rfl (pc0 := 102) (pc' := 113) rfl (hb hby at_102) rfl (flt (by decide : ¬ ((2 : Int32) < (1 : Int32)))).2.2.2 (by decide) (by decide) kt) ?_
    show Go p e below _ m T23 113 #[jv q0, .second, jv m1, .second, jv m7, .second, jv m9, .second, iv p4, iv (1 : Int32), rv b21, .unset, .unset] []
    refine go (fun t kt => XS.iload X23.here hx rfl (hb hby at_113) rfl kt) ?_
    show Go p e below _ m T23 115 #[jv q0, .second, jv m1, .second, jv m7, .second, jv m9, .second, iv p4, iv (1 : Int32), rv b21, .unset, .unset] [(.int (1 : Int32))]
    refine go (fun t kt => XS.iconst X23.here hx rfl (hb hby at_115) kt) ?_
    show Go p e below _ m T23 116 #[jv q0, .second, jv m1, .second, jv m7, .second, jv m9, .second, iv p4, iv (1 : Int32), rv b21, .unset, .unset] [(.int (3 : Int32)), (.int (1 : Int32))]
    refine go (fun t kt => XS.icmpYes X23.here hx rfl (pc0 := 116) (pc' := 127) rfl (hb hby at_116) rfl (flt (by decide : ¬ ((3 : Int32) < (1 : Int32)))).2.2.2 (by decide) (by decide) kt) ?_
    show Go p e below _ m T23 127 #[jv q0, .second, jv m1, .second, jv m7, .second, jv m9, .second, iv p4, iv (1 : Int32), rv b21, .unset, .unset] []
    refine go (fun t kt => XS.aload X23.here hx rfl (hb hby at_127) rfl rfl kt) ?_
    show Go p e below _ m T23 129 #[jv q0, .second, jv m1, .second, jv m7, .second, jv m9, .second, iv p4, iv (1 : Int32), rv b21, .unset, .unset] [(.ref b21)]
    obtain ⟨cq24, kq24, q24a, q24b, q24c⟩ := isOf hZ rfl E_b21
    obtain ⟨_, _, ⟨T24, L24, k24, n24⟩, -, X24, ⟨Lc24, hQ24, l24, y24, z24⟩, st24⟩ := X23.virtualBack hx (y := (⟨"com/example/modest_tree_automata/modesttreeautomata/LongIntMap", "keys", "()[J"⟩ : MethodName)) (z := (⟨"com/example/modest_tree_automata/modesttreeautomata/LongIntMap", "keys", "()[J"⟩ : MethodName)) hown (mvT hZ (hw _ (List.mem_of_getElem? (i := 29) rfl))) (mvT hZ (hw _ (List.mem_of_getElem? (i := 30) rfl))) (notFace_of_selects (args := #[]) (mvT hZ (hw _ (List.mem_of_getElem? (i := 32) rfl)))) (mvT hZ (hw _ (List.mem_of_getElem? (i := 32) rfl))) (mvT hZ (hw _ (List.mem_of_getElem? (i := 31) rfl))) (by decide) (backOf (W := 0) (rm5 l Z a0 hw [] b21 ok22 ou22 kk22 ku22 ks23 us23 wz23 T23.heap n0 Zz23 F_keys_b21 F_used_b21 F_size_b21 V_ok22 V_ou22 (I23).2.1 (I23).1 (I23).2.2.1 (Nat.le_trans (I23).2.2.2.1 (Nat.le_of_ble_eq_true rfl))) hZ (hw _ (List.mem_of_getElem? (i := 33) rfl)) (hw _ (List.mem_of_getElem? (i := 2) rfl)) (by decide) (by decide)) q24a q24c (g := (mkF m 129 #[jv q0, .second, jv m1, .second, jv m7, .second, jv m9, .second, iv p4, iv (1 : Int32), rv b21, .unset, .unset] [(.ref b21)])) rfl (by rw [hml]; rfl) (Steps.refl _) (argsL := []) (rest := []) (lenOf pd_2 rfl) rfl (by show 2 * 0 + _ ≤ _; exact Nat.le_of_eq rfl) (hb hby at_129) (fun _ _ => ⟨rfl, rfl, (by decide : 4 + 1 ≤ _), (by decide : 52 + 4 ≤ _)⟩)
    dsimp only [Pt.U, Pt.locs, Pt.cells, Pt.slots] at X24 l24 y24 z24 st24 hQ24
    subst l24 y24 z24
    obtain ⟨b24, g24⟩ : ∃ z, z = T23.heap.size := ⟨_, rfl⟩
    have ne_b21_b24 : b21 ≠ b24 := Nat.ne_of_lt (Nat.lt_of_lt_of_le E_b21.lt (Nat.le_of_eq g24.symm))
    have ne_ok22_b24 : ok22 ≠ b24 := Nat.ne_of_lt (Nat.lt_of_lt_of_le V_ok22.lt (Nat.le_of_eq g24.symm))
    have ne_ou22_b24 : ou22 ≠ b24 := Nat.ne_of_lt (Nat.lt_of_lt_of_le V_ou22.lt (Nat.le_of_eq g24.symm))
    have ne_ov22_b24 : ov22 ≠ b24 := Nat.ne_of_lt (Nat.lt_of_lt_of_le V_ov22.lt (Nat.le_of_eq g24.symm))
    have g_b24 : n0 ≤ b24 := Nat.le_trans Zz23 (Nat.le_of_eq g24.symm)
    have sz_b24 : h0.size ≤ b24 := Nat.le_trans Kk23.1 (Nat.le_of_eq g24.symm)
    obtain ⟨rfl, Nq24, Kq24, k24_, Vq24⟩ := hQ24
    rw [← g24] at Vq24 st24
    replace E_b21 := E_b21.keep Kq24
    replace F_keys_b21 := F_keys_b21.keep Kq24 nin0
    replace F_values_b21 := F_values_b21.keep Kq24 nin0
    replace F_used_b21 := F_used_b21.keep Kq24 nin0
    replace F_size_b21 := F_size_b21.keep Kq24 nin0
    replace V_ok22 := V_ok22.keep Kq24 nin0
    replace V_ou22 := V_ou22.keep Kq24 nin0
    replace V_ov22 := V_ov22.keep Kq24 nin0
    have Zz24 := Nat.le_trans Zz23 Kq24.1
    have Kk24 := Kk23.trans Kq24 all0
    have hnd := own_inv_nodup I23
    have hmem := (I23).2.2.2.2.2
    have hwz := (I23).2.2.1
    have hlen := (I23).2.2.2.1
    generalize hL : own_Lp us23 ks23 16 = LL at *
    have V_b24 := Vq24
    have N24 := Fr.app N23 Nq24
    refine go (fun t kt => st24.trans kt) ?_
    show Go p e below _ m T24 132 #[jv q0, .second, jv m1, .second, jv m7, .second, jv m9, .second, iv p4, iv (1 : Int32), rv b21, .unset, .unset] [(.ref b24)]
    refine go (fun t kt => XS.astore X24.here hx rfl (hb hby at_132) rfl rfl (l' := #[jv q0, .second, jv m1, .second, jv m7, .second, jv m9, .second, iv p4, iv (1 : Int32), rv b21, rv b24, .unset]) rfl kt) ?_
    show Go p e below _ m T24 134 #[jv q0, .second, jv m1, .second, jv m7, .second, jv m9, .second, iv p4, iv (1 : Int32), rv b21, rv b24, .unset] []
    refine go (fun t kt => XS.iconst X24.here hx rfl (hb hby at_134) kt) ?_
    show Go p e below _ m T24 135 #[jv q0, .second, jv m1, .second, jv m7, .second, jv m9, .second, iv p4, iv (1 : Int32), rv b21, rv b24, .unset] [(.int (0 : Int32))]
    refine go (fun t kt => XS.istore X24.here hx rfl (hb hby at_135) rfl (l' := #[jv q0, .second, jv m1, .second, jv m7, .second, jv m9, .second, iv p4, iv (1 : Int32), rv b21, rv b24, iv (0 : Int32)]) rfl kt) ?_
    show Go p e below _ m T24 137 #[jv q0, .second, jv m1, .second, jv m7, .second, jv m9, .second, iv p4, iv (1 : Int32), rv b21, rv b24, iv (0 : Int32)] []
    refine go (fun t kt => XS.iload X24.here hx rfl (hb hby at_137) rfl kt) ?_
    show Go p e below _ m T24 139 #[jv q0, .second, jv m1, .second, jv m7, .second, jv m9, .second, iv p4, iv (1 : Int32), rv b21, rv b24, iv (0 : Int32)] [(.int (1 : Int32))]
    refine go (fun t kt => XS.ifNo X24.here hx rfl (hb hby at_139) rfl ((if0 _ _).trans (tlt (by decide : ((0 : Int32) < (1 : Int32)))).2.2.2) kt) ?_
    show Go p e below _ m T24 142 #[jv q0, .second, jv m1, .second, jv m7, .second, jv m9, .second, iv p4, iv (1 : Int32), rv b21, rv b24, iv (0 : Int32)] []
    refine go (fun t kt => XS.iinc X24.here hx rfl (hb hby at_142) rfl (l' := #[jv q0, .second, jv m1, .second, jv m7, .second, jv m9, .second, iv p4, iv (1 : Int32), rv b21, rv b24, iv ((0 : Int32) + (1 : Int32))]) rfl kt) ?_
    show Go p e below _ m T24 145 #[jv q0, .second, jv m1, .second, jv m7, .second, jv m9, .second, iv p4, iv (1 : Int32), rv b21, rv b24, iv ((0 : Int32) + (1 : Int32))] []
    refine go (fun t kt => XS.iload X24.here hx rfl (hb hby at_145) rfl kt) ?_
    show Go p e below _ m T24 147 #[jv q0, .second, jv m1, .second, jv m7, .second, jv m9, .second, iv p4, iv (1 : Int32), rv b21, rv b24, iv ((0 : Int32) + (1 : Int32))] [(.int (1 : Int32))]
    refine go (fun t kt => XS.iconst X24.here hx rfl (hb hby at_147) kt) ?_
    show Go p e below _ m T24 148 #[jv q0, .second, jv m1, .second, jv m7, .second, jv m9, .second, iv p4, iv (1 : Int32), rv b21, rv b24, iv ((0 : Int32) + (1 : Int32))] [(.int (1 : Int32)), (.int (1 : Int32))]
    refine go (fun t kt => XS.icmpYes X24.here hx rfl (pc0 := 148) (pc' := 160) rfl (hb hby at_148) rfl (flt (by decide : ¬ ((1 : Int32) < (1 : Int32)))).2.2.2 (by decide) (by decide) kt) ?_
    show Go p e below _ m T24 160 #[jv q0, .second, jv m1, .second, jv m7, .second, jv m9, .second, iv p4, iv (1 : Int32), rv b21, rv b24, iv ((0 : Int32) + (1 : Int32))] []
    refine go (fun t kt => XS.iload X24.here hx rfl (hb hby at_160) rfl kt) ?_
    show Go p e below _ m T24 162 #[jv q0, .second, jv m1, .second, jv m7, .second, jv m9, .second, iv p4, iv (1 : Int32), rv b21, rv b24, iv ((0 : Int32) + (1 : Int32))] [(.int (1 : Int32))]
    refine go (fun t kt => XS.iconst X24.here hx rfl (hb hby at_162) kt) ?_
    show Go p e below _ m T24 163 #[jv q0, .second, jv m1, .second, jv m7, .second, jv m9, .second, iv p4, iv (1 : Int32), rv b21, rv b24, iv ((0 : Int32) + (1 : Int32))] [(.int (2 : Int32)), (.int (1 : Int32))]
    refine go (fun t kt => XS.icmpYes X24.here hx rfl (pc0 := 163) (pc' := 183) rfl (hb hby at_163) rfl (flt (by decide : ¬ ((2 : Int32) < (1 : Int32)))).2.2.2 (by decide) (by decide) kt) ?_
    show Go p e below _ m T24 183 #[jv q0, .second, jv m1, .second, jv m7, .second, jv m9, .second, iv p4, iv (1 : Int32), rv b21, rv b24, iv ((0 : Int32) + (1 : Int32))] []
    refine go (fun t kt => XS.iload X24.here hx rfl (hb hby at_183) rfl kt) ?_
    show Go p e below _ m T24 185 #[jv q0, .second, jv m1, .second, jv m7, .second, jv m9, .second, iv p4, iv (1 : Int32), rv b21, rv b24, iv ((0 : Int32) + (1 : Int32))] [(.int (1 : Int32))]
    refine go (fun t kt => XS.iconst X24.here hx rfl (hb hby at_185) kt) ?_
    show Go p e below _ m T24 186 #[jv q0, .second, jv m1, .second, jv m7, .second, jv m9, .second, iv p4, iv (1 : Int32), rv b21, rv b24, iv ((0 : Int32) + (1 : Int32))] [(.int (3 : Int32)), (.int (1 : Int32))]
    refine go (fun t kt => XS.icmpYes X24.here hx rfl (pc0 := 186) (pc' := 214) rfl (hb hby at_186) rfl (flt (by decide : ¬ ((3 : Int32) < (1 : Int32)))).2.2.2 (by decide) (by decide) kt) ?_
    show Go p e below _ m T24 214 #[jv q0, .second, jv m1, .second, jv m7, .second, jv m9, .second, iv p4, iv (1 : Int32), rv b21, rv b24, iv ((0 : Int32) + (1 : Int32))] []
    refine go (fun t kt => XS.aload X24.here hx rfl (hb hby at_214) rfl rfl kt) ?_
    show Go p e below _ m T24 216 #[jv q0, .second, jv m1, .second, jv m7, .second, jv m9, .second, iv p4, iv (1 : Int32), rv b21, rv b24, iv ((0 : Int32) + (1 : Int32))] [(.ref b24)]
    obtain ⟨cl25, Ar25, qc25, S25, M25, H25, G25⟩ := id V_b24
    refine go (X24.arraylength hx Ar25.1 (State.isArrayOf_alike hZ.alike Ar25.2.1) (g := (mkF m 216 #[jv q0, .second, jv m1, .second, jv m7, .second, jv m9, .second, iv p4, iv (1 : Int32), rv b21, rv b24, iv ((0 : Int32) + (1 : Int32))] [(.ref b24)])) rfl rfl (hb hby at_216)) ?_
    rw [len_of S25 M25]
    show Go p e below _ m T24 217 #[jv q0, .second, jv m1, .second, jv m7, .second, jv m9, .second, iv p4, iv (1 : Int32), rv b21, rv b24, iv ((0 : Int32) + (1 : Int32))] [(.int wz23)]
    refine go (fun t kt => XS.iload X24.here hx rfl (hb hby at_217) rfl kt) ?_
    show Go p e below _ m T24 219 #[jv q0, .second, jv m1, .second, jv m7, .second, jv m9, .second, iv p4, iv (1 : Int32), rv b21, rv b24, iv ((0 : Int32) + (1 : Int32))] [(.int ((0 : Int32) + (1 : Int32))), (.int wz23)]
    refine go (fun t kt => XS.icmpYes X24.here hx rfl (pc0 := 219) (pc' := 224) rfl (hb hby at_219) rfl (teq (own_cnt (own_q1 q0) hwz hnd hmem)).1 (by decide) (by decide) kt) ?_
    show Go p e below _ m T24 224 #[jv q0, .second, jv m1, .second, jv m7, .second, jv m9, .second, iv p4, iv (1 : Int32), rv b21, rv b24, iv ((0 : Int32) + (1 : Int32))] []
    refine go (fun t kt => XS.iload X24.here hx rfl (hb hby at_224) rfl kt) ?_
    show Go p e below _ m T24 226 #[jv q0, .second, jv m1, .second, jv m7, .second, jv m9, .second, iv p4, iv (1 : Int32), rv b21, rv b24, iv ((0 : Int32) + (1 : Int32))] [(.int (1 : Int32))]
    refine go (fun t kt => XS.ifNo X24.here hx rfl (hb hby at_226) rfl ((if0 _ _).trans (tlt (by decide : ((0 : Int32) < (1 : Int32)))).2.2.2) kt) ?_
    show Go p e below _ m T24 229 #[jv q0, .second, jv m1, .second, jv m7, .second, jv m9, .second, iv p4, iv (1 : Int32), rv b21, rv b24, iv ((0 : Int32) + (1 : Int32))] []
    refine go (fun t kt => XS.aload X24.here hx rfl (hb hby at_229) rfl rfl kt) ?_
    show Go p e below _ m T24 231 #[jv q0, .second, jv m1, .second, jv m7, .second, jv m9, .second, iv p4, iv (1 : Int32), rv b21, rv b24, iv ((0 : Int32) + (1 : Int32))] [(.ref b24)]
    refine go (fun t kt => XS.lloadN X24.here hx rfl (hb hby at_231) rfl kt) ?_
    show Go p e below _ m T24 232 #[jv q0, .second, jv m1, .second, jv m7, .second, jv m9, .second, iv p4, iv (1 : Int32), rv b21, rv b24, iv ((0 : Int32) + (1 : Int32))] [(.long q0), (.ref b24)]
    obtain ⟨_, _, ⟨T26, L26, k26, n26⟩, -, X26, ⟨Lc26, hQ26, l26, y26, z26⟩, st26⟩ := Jvm.LawKit.callS X24 hx (y := (⟨"com/example/modest_tree_automata/modesttreeautomata/LongIntMapKeysPinLaw", "has", "([JJ)Z"⟩ : MethodName)) hown (mvT hZ (hw _ (List.mem_of_getElem? (i := 34) rfl))) (mvT hZ (hw _ (List.mem_of_getElem? (i := 35) rfl))) (mvT hZ (hw _ (List.mem_of_getElem? (i := 36) rfl))) (mvT hZ (hw _ (List.mem_of_getElem? (i := 37) rfl))) (by decide) (backOf (W := 0) (rm6 l Z a0 hw [] b24 q0 k24_ wz23 LL (LL.getD 0 0) (LL.getD 1 0) (LL.getD 2 0) (LL.getD 3 0) T24.heap n0 Zz24 V_b24 (own_getJ LL 0) (own_getJ LL 1) (own_getJ LL 2) (own_getJ LL 3)) hZ (hw _ (List.mem_of_getElem? (i := 37) rfl)) (hw _ (List.mem_of_getElem? (i := 36) rfl)) (by decide) (by decide)) (g := (mkF m 232 #[jv q0, .second, jv m1, .second, jv m7, .second, jv m9, .second, iv p4, iv (1 : Int32), rv b21, rv b24, iv ((0 : Int32) + (1 : Int32))] [(.long q0), (.ref b24)])) rfl (by rw [hml]; rfl) (argsL := [(.ref b24), (.long q0)]) (rest := []) (lenOf pd_4 rfl) rfl (by show 2 * 0 + _ ≤ _; exact Nat.le_of_eq rfl) (hb hby at_232) (fun _ _ => ⟨rfl, rfl, (by decide : 5 + 0 ≤ _), (by decide : 56 + 0 ≤ _)⟩)
    dsimp only [Pt.U, Pt.locs, Pt.cells, Pt.slots] at X26 l26 y26 z26 st26 hQ26
    subst l26 y26 z26
    obtain ⟨rfl, Nq26, e26⟩ := hQ26
    have N26 := Fr.app N24 Nq26
    refine go st26 ?_
    show Go p e below _ m T26 235 #[jv q0, .second, jv m1, .second, jv m7, .second, jv m9, .second, iv p4, iv (1 : Int32), rv b21, rv b24, iv ((0 : Int32) + (1 : Int32))] [(.int (own_has q0 wz23 (LL.getD 0 0) (LL.getD 1 0) (LL.getD 2 0) (LL.getD 3 0)))]
    refine go (fun t kt => XS.ifYes X26.here hx rfl (pc0 := 235) (pc' := 240) rfl (hb hby at_235) rfl ((if0 _ _).trans (feq (own_has_in hwz (Nat.le_trans hlen (Nat.le_of_ble_eq_true rfl)) _ ((hmem _).mpr (by simp)))).2) (by decide) (by decide) kt) ?_
    show Go p e below _ m T26 240 #[jv q0, .second, jv m1, .second, jv m7, .second, jv m9, .second, iv p4, iv (1 : Int32), rv b21, rv b24, iv ((0 : Int32) + (1 : Int32))] []
    refine go (fun t kt => XS.iload X26.here hx rfl (hb hby at_240) rfl kt) ?_
    show Go p e below _ m T26 242 #[jv q0, .second, jv m1, .second, jv m7, .second, jv m9, .second, iv p4, iv (1 : Int32), rv b21, rv b24, iv ((0 : Int32) + (1 : Int32))] [(.int (1 : Int32))]
    refine go (fun t kt => XS.iconst X26.here hx rfl (hb hby at_242) kt) ?_
    show Go p e below _ m T26 243 #[jv q0, .second, jv m1, .second, jv m7, .second, jv m9, .second, iv p4, iv (1 : Int32), rv b21, rv b24, iv ((0 : Int32) + (1 : Int32))] [(.int (1 : Int32)), (.int (1 : Int32))]
    refine go (fun t kt => XS.icmpYes X26.here hx rfl (pc0 := 243) (pc' := 257) rfl (hb hby at_243) rfl (flt (by decide : ¬ ((1 : Int32) < (1 : Int32)))).2.2.2 (by decide) (by decide) kt) ?_
    show Go p e below _ m T26 257 #[jv q0, .second, jv m1, .second, jv m7, .second, jv m9, .second, iv p4, iv (1 : Int32), rv b21, rv b24, iv ((0 : Int32) + (1 : Int32))] []
    refine go (fun t kt => XS.iload X26.here hx rfl (hb hby at_257) rfl kt) ?_
    show Go p e below _ m T26 259 #[jv q0, .second, jv m1, .second, jv m7, .second, jv m9, .second, iv p4, iv (1 : Int32), rv b21, rv b24, iv ((0 : Int32) + (1 : Int32))] [(.int (1 : Int32))]
    refine go (fun t kt => XS.iconst X26.here hx rfl (hb hby at_259) kt) ?_
    show Go p e below _ m T26 260 #[jv q0, .second, jv m1, .second, jv m7, .second, jv m9, .second, iv p4, iv (1 : Int32), rv b21, rv b24, iv ((0 : Int32) + (1 : Int32))] [(.int (2 : Int32)), (.int (1 : Int32))]
    refine go (fun t kt => XS.icmpYes X26.here hx rfl (pc0 := 260) (pc' := 275) rfl (hb hby at_260) rfl (flt (by decide : ¬ ((2 : Int32) < (1 : Int32)))).2.2.2 (by decide) (by decide) kt) ?_
    show Go p e below _ m T26 275 #[jv q0, .second, jv m1, .second, jv m7, .second, jv m9, .second, iv p4, iv (1 : Int32), rv b21, rv b24, iv ((0 : Int32) + (1 : Int32))] []
    refine go (fun t kt => XS.iload X26.here hx rfl (hb hby at_275) rfl kt) ?_
    show Go p e below _ m T26 277 #[jv q0, .second, jv m1, .second, jv m7, .second, jv m9, .second, iv p4, iv (1 : Int32), rv b21, rv b24, iv ((0 : Int32) + (1 : Int32))] [(.int (1 : Int32))]
    refine go (fun t kt => XS.iconst X26.here hx rfl (hb hby at_277) kt) ?_
    show Go p e below _ m T26 278 #[jv q0, .second, jv m1, .second, jv m7, .second, jv m9, .second, iv p4, iv (1 : Int32), rv b21, rv b24, iv ((0 : Int32) + (1 : Int32))] [(.int (3 : Int32)), (.int (1 : Int32))]
    refine go (fun t kt => XS.icmpYes X26.here hx rfl (pc0 := 278) (pc' := 293) rfl (hb hby at_278) rfl (flt (by decide : ¬ ((3 : Int32) < (1 : Int32)))).2.2.2 (by decide) (by decide) kt) ?_
    show Go p e below _ m T26 293 #[jv q0, .second, jv m1, .second, jv m7, .second, jv m9, .second, iv p4, iv (1 : Int32), rv b21, rv b24, iv ((0 : Int32) + (1 : Int32))] []
    refine go (fun t kt => XS.aload X26.here hx rfl (hb hby at_293) rfl rfl kt) ?_
    show Go p e below _ m T26 295 #[jv q0, .second, jv m1, .second, jv m7, .second, jv m9, .second, iv p4, iv (1 : Int32), rv b21, rv b24, iv ((0 : Int32) + (1 : Int32))] [(.ref b24)]
    obtain ⟨cl27, Ar27, qc27, S27, M27, H27, G27⟩ := id V_b24
    refine go (X26.arraylength hx (by rw [e26]; exact Ar27.1) (State.isArrayOf_alike hZ.alike Ar27.2.1) (g := (mkF m 295 #[jv q0, .second, jv m1, .second, jv m7, .second, jv m9, .second, iv p4, iv (1 : Int32), rv b21, rv b24, iv ((0 : Int32) + (1 : Int32))] [(.ref b24)])) rfl rfl (hb hby at_295)) ?_
    rw [len_of S27 M27]
    show Go p e below _ m T26 296 #[jv q0, .second, jv m1, .second, jv m7, .second, jv m9, .second, iv p4, iv (1 : Int32), rv b21, rv b24, iv ((0 : Int32) + (1 : Int32))] [(.int wz23)]
    by_cases hc28 : (0 : Int32) < wz23
    ·
      refine go (fun t kt => XS.ifNo X26.here hx rfl (hb hby at_296) rfl ((if0 _ _).trans (tlt hc28).2.2.2) kt) ?_
      show Go p e below _ m T26 299 #[jv q0, .second, jv m1, .second, jv m7, .second, jv m9, .second, iv p4, iv (1 : Int32), rv b21, rv b24, iv ((0 : Int32) + (1 : Int32))] []
      refine go (fun t kt => XS.aload X26.here hx rfl (hb hby at_299) rfl rfl kt) ?_
      show Go p e below _ m T26 301 #[jv q0, .second, jv m1, .second, jv m7, .second, jv m9, .second, iv p4, iv (1 : Int32), rv b21, rv b24, iv ((0 : Int32) + (1 : Int32))] [(.ref b24)]
      refine go (fun t kt => XS.iconst X26.here hx rfl (hb hby at_301) kt) ?_
      show Go p e below _ m T26 302 #[jv q0, .second, jv m1, .second, jv m7, .second, jv m9, .second, iv p4, iv (1 : Int32), rv b21, rv b24, iv ((0 : Int32) + (1 : Int32))] [(.int (0 : Int32)), (.ref b24)]
      obtain ⟨cl29, Ar29, qc29, S29, M29, H29, G29⟩ := id V_b24
      have hin29 : ¬ ((0 : Int32) < 0 ∨ cl29.slots.size ≤ ((0 : Int32)).toNatClampNeg) := inb_of S29 ⟨by decide, hc28⟩
      have hat29 : cl29.slots[((0 : Int32)).toNatClampNeg]? = some (.long (LL.getD 0 0)) := H29.at hin29 (own_getJ LL 0)
      refine go (X26.laload hx (j := (0 : Int32)) (v := (.long (LL.getD 0 0))) (by rw [e26]; exact Ar29.1) (State.isArrayOf_alike hZ.alike Ar29.2.1) Ar29.2.2 hin29 hat29 (g := (mkF m 302 #[jv q0, .second, jv m1, .second, jv m7, .second, jv m9, .second, iv p4, iv (1 : Int32), rv b21, rv b24, iv ((0 : Int32) + (1 : Int32))] [(.int (0 : Int32)), (.ref b24)])) rfl rfl (hb hby at_302)) ?_
      show Go p e below _ m T26 303 #[jv q0, .second, jv m1, .second, jv m7, .second, jv m9, .second, iv p4, iv (1 : Int32), rv b21, rv b24, iv ((0 : Int32) + (1 : Int32))] [(.long (LL.getD 0 0))]
      refine go (fun t kt => XS.iload X26.here hx rfl (hb hby at_303) rfl kt) ?_
      show Go p e below _ m T26 305 #[jv q0, .second, jv m1, .second, jv m7, .second, jv m9, .second, iv p4, iv (1 : Int32), rv b21, rv b24, iv ((0 : Int32) + (1 : Int32))] [(.int (1 : Int32)), (.long (LL.getD 0 0))]
      refine go (fun t kt => XS.lloadN X26.here hx rfl (hb hby at_305) rfl kt) ?_
      show Go p e below _ m T26 306 #[jv q0, .second, jv m1, .second, jv m7, .second, jv m9, .second, iv p4, iv (1 : Int32), rv b21, rv b24, iv ((0 : Int32) + (1 : Int32))] [(.long q0), (.int (1 : Int32)), (.long (LL.getD 0 0))]
      refine go (fun t kt => XS.lloadN X26.here hx rfl (hb hby at_306) rfl kt) ?_
      show Go p e below _ m T26 307 #[jv q0, .second, jv m1, .second, jv m7, .second, jv m9, .second, iv p4, iv (1 : Int32), rv b21, rv b24, iv ((0 : Int32) + (1 : Int32))] [(.long m1), (.long q0), (.int (1 : Int32)), (.long (LL.getD 0 0))]
      refine go (fun t kt => XS.lload X26.here hx rfl (hb hby at_307) rfl kt) ?_
      show Go p e below _ m T26 309 #[jv q0, .second, jv m1, .second, jv m7, .second, jv m9, .second, iv p4, iv (1 : Int32), rv b21, rv b24, iv ((0 : Int32) + (1 : Int32))] [(.long m7), (.long m1), (.long q0), (.int (1 : Int32)), (.long (LL.getD 0 0))]
      refine go (fun t kt => XS.lload X26.here hx rfl (hb hby at_309) rfl kt) ?_
      show Go p e below _ m T26 311 #[jv q0, .second, jv m1, .second, jv m7, .second, jv m9, .second, iv p4, iv (1 : Int32), rv b21, rv b24, iv ((0 : Int32) + (1 : Int32))] [(.long m9), (.long m7), (.long m1), (.long q0), (.int (1 : Int32)), (.long (LL.getD 0 0))]
      obtain ⟨_, _, ⟨T30, L30, k30, n30⟩, -, X30, ⟨Lc30, hQ30, l30, y30, z30⟩, st30⟩ := Jvm.LawKit.callS X26 hx (y := (⟨"com/example/modest_tree_automata/modesttreeautomata/LongIntMapKeysPinLaw", "isInput", "(JIJJJJ)Z"⟩ : MethodName)) hown (mvT hZ (hw _ (List.mem_of_getElem? (i := 38) rfl))) (mvT hZ (hw _ (List.mem_of_getElem? (i := 39) rfl))) (mvT hZ (hw _ (List.mem_of_getElem? (i := 36) rfl))) (mvT hZ (hw _ (List.mem_of_getElem? (i := 40) rfl))) (by decide) (backOf (W := 0) (rm7 l Z a0 hw [] (LL.getD 0 0) (1 : Int32) q0 m1 m7 m9 T24.heap n0 Zz24 ) hZ (hw _ (List.mem_of_getElem? (i := 40) rfl)) (hw _ (List.mem_of_getElem? (i := 36) rfl)) (by decide) (by decide)) (g := (mkF m 311 #[jv q0, .second, jv m1, .second, jv m7, .second, jv m9, .second, iv p4, iv (1 : Int32), rv b21, rv b24, iv ((0 : Int32) + (1 : Int32))] [(.long m9), (.long m7), (.long m1), (.long q0), (.int (1 : Int32)), (.long (LL.getD 0 0))])) rfl (by rw [hml]; rfl) (argsL := [(.long (LL.getD 0 0)), (.int (1 : Int32)), (.long q0), (.long m1), (.long m7), (.long m9)]) (rest := []) (lenOf pd_5 rfl) rfl (by show 2 * 0 + _ ≤ _; exact Nat.le_of_eq rfl) (hb hby at_311) (fun _ _ => ⟨rfl, e26, (by decide : 5 + 0 ≤ _), (by decide : 56 + 0 ≤ _)⟩)
      dsimp only [Pt.U, Pt.locs, Pt.cells, Pt.slots] at X30 l30 y30 z30 st30 hQ30
      subst l30 y30 z30
      obtain ⟨rfl, Nq30, e30⟩ := hQ30
      have N30 := Fr.app N26 Nq30
      refine go st30 ?_
      show Go p e below _ m T30 314 #[jv q0, .second, jv m1, .second, jv m7, .second, jv m9, .second, iv p4, iv (1 : Int32), rv b21, rv b24, iv ((0 : Int32) + (1 : Int32))] [(.int (own_inp (LL.getD 0 0) (1 : Int32) q0 m1 m7 m9))]
      refine go (fun t kt => XS.ifYes X30.here hx rfl (pc0 := 314) (pc' := 319) rfl (hb hby at_314) rfl ((if0 _ _).trans (feq (own_in1 _ _ _ _ _ ((hmem _).mp (own_gm hwz (Nat.le_trans hlen (Nat.le_of_ble_eq_true rfl)) (0 : Int32) 0 rfl hc28)))).2) (by decide) (by decide) kt) ?_
      show Go p e below _ m T30 319 #[jv q0, .second, jv m1, .second, jv m7, .second, jv m9, .second, iv p4, iv (1 : Int32), rv b21, rv b24, iv ((0 : Int32) + (1 : Int32))] []
      refine go (fun t kt => XS.aload X30.here hx rfl (hb hby at_319) rfl rfl kt) ?_
      show Go p e below _ m T30 321 #[jv q0, .second, jv m1, .second, jv m7, .second, jv m9, .second, iv p4, iv (1 : Int32), rv b21, rv b24, iv ((0 : Int32) + (1 : Int32))] [(.ref b24)]
      obtain ⟨cl31, Ar31, qc31, S31, M31, H31, G31⟩ := id V_b24
      refine go (X30.arraylength hx (by rw [e30]; exact Ar31.1) (State.isArrayOf_alike hZ.alike Ar31.2.1) (g := (mkF m 321 #[jv q0, .second, jv m1, .second, jv m7, .second, jv m9, .second, iv p4, iv (1 : Int32), rv b21, rv b24, iv ((0 : Int32) + (1 : Int32))] [(.ref b24)])) rfl rfl (hb hby at_321)) ?_
      rw [len_of S31 M31]
      show Go p e below _ m T30 322 #[jv q0, .second, jv m1, .second, jv m7, .second, jv m9, .second, iv p4, iv (1 : Int32), rv b21, rv b24, iv ((0 : Int32) + (1 : Int32))] [(.int wz23)]
      refine go (fun t kt => XS.iconst X30.here hx rfl (hb hby at_322) kt) ?_
      show Go p e below _ m T30 323 #[jv q0, .second, jv m1, .second, jv m7, .second, jv m9, .second, iv p4, iv (1 : Int32), rv b21, rv b24, iv ((0 : Int32) + (1 : Int32))] [(.int (1 : Int32)), (.int wz23)]
      by_cases hc32 : (1 : Int32) < wz23
      ·
        refine go (fun t kt => XS.icmpNo X30.here hx rfl (hb hby at_323) rfl (tlt hc32).2.2.2 kt) ?_
        show Go p e below _ m T30 326 #[jv q0, .second, jv m1, .second, jv m7, .second, jv m9, .second, iv p4, iv (1 : Int32), rv b21, rv b24, iv ((0 : Int32) + (1 : Int32))] []
        refine go (fun t kt => XS.aload X30.here hx rfl (hb hby at_326) rfl rfl kt) ?_
        show Go p e below _ m T30 328 #[jv q0, .second, jv m1, .second, jv m7, .second, jv m9, .second, iv p4, iv (1 : Int32), rv b21, rv b24, iv ((0 : Int32) + (1 : Int32))] [(.ref b24)]
        refine go (fun t kt => XS.iconst X30.here hx rfl (hb hby at_328) kt) ?_
        show Go p e below _ m T30 329 #[jv q0, .second, jv m1, .second, jv m7, .second, jv m9, .second, iv p4, iv (1 : Int32), rv b21, rv b24, iv ((0 : Int32) + (1 : Int32))] [(.int (1 : Int32)), (.ref b24)]
        obtain ⟨cl33, Ar33, qc33, S33, M33, H33, G33⟩ := id V_b24
        have hin33 : ¬ ((1 : Int32) < 0 ∨ cl33.slots.size ≤ ((1 : Int32)).toNatClampNeg) := inb_of S33 ⟨by decide, hc32⟩
        have hat33 : cl33.slots[((1 : Int32)).toNatClampNeg]? = some (.long (LL.getD 1 0)) := H33.at hin33 (own_getJ LL 1)
        refine go (X30.laload hx (j := (1 : Int32)) (v := (.long (LL.getD 1 0))) (by rw [e30]; exact Ar33.1) (State.isArrayOf_alike hZ.alike Ar33.2.1) Ar33.2.2 hin33 hat33 (g := (mkF m 329 #[jv q0, .second, jv m1, .second, jv m7, .second, jv m9, .second, iv p4, iv (1 : Int32), rv b21, rv b24, iv ((0 : Int32) + (1 : Int32))] [(.int (1 : Int32)), (.ref b24)])) rfl rfl (hb hby at_329)) ?_
        show Go p e below _ m T30 330 #[jv q0, .second, jv m1, .second, jv m7, .second, jv m9, .second, iv p4, iv (1 : Int32), rv b21, rv b24, iv ((0 : Int32) + (1 : Int32))] [(.long (LL.getD 1 0))]
        refine go (fun t kt => XS.iload X30.here hx rfl (hb hby at_330) rfl kt) ?_
        show Go p e below _ m T30 332 #[jv q0, .second, jv m1, .second, jv m7, .second, jv m9, .second, iv p4, iv (1 : Int32), rv b21, rv b24, iv ((0 : Int32) + (1 : Int32))] [(.int (1 : Int32)), (.long (LL.getD 1 0))]
        refine go (fun t kt => XS.lloadN X30.here hx rfl (hb hby at_332) rfl kt) ?_
        show Go p e below _ m T30 333 #[jv q0, .second, jv m1, .second, jv m7, .second, jv m9, .second, iv p4, iv (1 : Int32), rv b21, rv b24, iv ((0 : Int32) + (1 : Int32))] [(.long q0), (.int (1 : Int32)), (.long (LL.getD 1 0))]
        refine go (fun t kt => XS.lloadN X30.here hx rfl (hb hby at_333) rfl kt) ?_
        show Go p e below _ m T30 334 #[jv q0, .second, jv m1, .second, jv m7, .second, jv m9, .second, iv p4, iv (1 : Int32), rv b21, rv b24, iv ((0 : Int32) + (1 : Int32))] [(.long m1), (.long q0), (.int (1 : Int32)), (.long (LL.getD 1 0))]
        refine go (fun t kt => XS.lload X30.here hx rfl (hb hby at_334) rfl kt) ?_
        show Go p e below _ m T30 336 #[jv q0, .second, jv m1, .second, jv m7, .second, jv m9, .second, iv p4, iv (1 : Int32), rv b21, rv b24, iv ((0 : Int32) + (1 : Int32))] [(.long m7), (.long m1), (.long q0), (.int (1 : Int32)), (.long (LL.getD 1 0))]
        refine go (fun t kt => XS.lload X30.here hx rfl (hb hby at_336) rfl kt) ?_
        show Go p e below _ m T30 338 #[jv q0, .second, jv m1, .second, jv m7, .second, jv m9, .second, iv p4, iv (1 : Int32), rv b21, rv b24, iv ((0 : Int32) + (1 : Int32))] [(.long m9), (.long m7), (.long m1), (.long q0), (.int (1 : Int32)), (.long (LL.getD 1 0))]
        obtain ⟨_, _, ⟨T34, L34, k34, n34⟩, -, X34, ⟨Lc34, hQ34, l34, y34, z34⟩, st34⟩ := Jvm.LawKit.callS X30 hx (y := (⟨"com/example/modest_tree_automata/modesttreeautomata/LongIntMapKeysPinLaw", "isInput", "(JIJJJJ)Z"⟩ : MethodName)) hown (mvT hZ (hw _ (List.mem_of_getElem? (i := 38) rfl))) (mvT hZ (hw _ (List.mem_of_getElem? (i := 39) rfl))) (mvT hZ (hw _ (List.mem_of_getElem? (i := 36) rfl))) (mvT hZ (hw _ (List.mem_of_getElem? (i := 40) rfl))) (by decide) (backOf (W := 0) (rm7 l Z a0 hw [] (LL.getD 1 0) (1 : Int32) q0 m1 m7 m9 T24.heap n0 Zz24 ) hZ (hw _ (List.mem_of_getElem? (i := 40) rfl)) (hw _ (List.mem_of_getElem? (i := 36) rfl)) (by decide) (by decide)) (g := (mkF m 338 #[jv q0, .second, jv m1, .second, jv m7, .second, jv m9, .second, iv p4, iv (1 : Int32), rv b21, rv b24, iv ((0 : Int32) + (1 : Int32))] [(.long m9), (.long m7), (.long m1), (.long q0), (.int (1 : Int32)), (.long (LL.getD 1 0))])) rfl (by rw [hml]; rfl) (argsL := [(.long (LL.getD 1 0)), (.int (1 : Int32)), (.long q0), (.long m1), (.long m7), (.long m9)]) (rest := []) (lenOf pd_5 rfl) rfl (by show 2 * 0 + _ ≤ _; exact Nat.le_of_eq rfl) (hb hby at_338) (fun _ _ => ⟨rfl, e30, (by decide : 5 + 0 ≤ _), (by decide : 56 + 0 ≤ _)⟩)
        dsimp only [Pt.U, Pt.locs, Pt.cells, Pt.slots] at X34 l34 y34 z34 st34 hQ34
        subst l34 y34 z34
        obtain ⟨rfl, Nq34, e34⟩ := hQ34
        have N34 := Fr.app N30 Nq34
        refine go st34 ?_
        show Go p e below _ m T34 341 #[jv q0, .second, jv m1, .second, jv m7, .second, jv m9, .second, iv p4, iv (1 : Int32), rv b21, rv b24, iv ((0 : Int32) + (1 : Int32))] [(.int (own_inp (LL.getD 1 0) (1 : Int32) q0 m1 m7 m9))]
        refine go (fun t kt => XS.ifYes X34.here hx rfl (pc0 := 341) (pc' := 346) rfl (hb hby at_341) rfl ((if0 _ _).trans (feq (own_in1 _ _ _ _ _ ((hmem _).mp (own_gm hwz (Nat.le_trans hlen (Nat.le_of_ble_eq_true rfl)) (1 : Int32) 1 rfl hc32)))).2) (by decide) (by decide) kt) ?_
        show Go p e below _ m T34 346 #[jv q0, .second, jv m1, .second, jv m7, .second, jv m9, .second, iv p4, iv (1 : Int32), rv b21, rv b24, iv ((0 : Int32) + (1 : Int32))] []
        refine go (fun t kt => XS.aload X34.here hx rfl (hb hby at_346) rfl rfl kt) ?_
        show Go p e below _ m T34 348 #[jv q0, .second, jv m1, .second, jv m7, .second, jv m9, .second, iv p4, iv (1 : Int32), rv b21, rv b24, iv ((0 : Int32) + (1 : Int32))] [(.ref b24)]
        obtain ⟨cl35, Ar35, qc35, S35, M35, H35, G35⟩ := id V_b24
        refine go (X34.arraylength hx (by rw [e34]; exact Ar35.1) (State.isArrayOf_alike hZ.alike Ar35.2.1) (g := (mkF m 348 #[jv q0, .second, jv m1, .second, jv m7, .second, jv m9, .second, iv p4, iv (1 : Int32), rv b21, rv b24, iv ((0 : Int32) + (1 : Int32))] [(.ref b24)])) rfl rfl (hb hby at_348)) ?_
        rw [len_of S35 M35]
        show Go p e below _ m T34 349 #[jv q0, .second, jv m1, .second, jv m7, .second, jv m9, .second, iv p4, iv (1 : Int32), rv b21, rv b24, iv ((0 : Int32) + (1 : Int32))] [(.int wz23)]
        refine go (fun t kt => XS.iconst X34.here hx rfl (hb hby at_349) kt) ?_
        show Go p e below _ m T34 350 #[jv q0, .second, jv m1, .second, jv m7, .second, jv m9, .second, iv p4, iv (1 : Int32), rv b21, rv b24, iv ((0 : Int32) + (1 : Int32))] [(.int (2 : Int32)), (.int wz23)]
        by_cases hc36 : (2 : Int32) < wz23
        ·
          refine go (fun t kt => XS.icmpNo X34.here hx rfl (hb hby at_350) rfl (tlt hc36).2.2.2 kt) ?_
          show Go p e below _ m T34 353 #[jv q0, .second, jv m1, .second, jv m7, .second, jv m9, .second, iv p4, iv (1 : Int32), rv b21, rv b24, iv ((0 : Int32) + (1 : Int32))] []
          refine go (fun t kt => XS.aload X34.here hx rfl (hb hby at_353) rfl rfl kt) ?_
          show Go p e below _ m T34 355 #[jv q0, .second, jv m1, .second, jv m7, .second, jv m9, .second, iv p4, iv (1 : Int32), rv b21, rv b24, iv ((0 : Int32) + (1 : Int32))] [(.ref b24)]
          refine go (fun t kt => XS.iconst X34.here hx rfl (hb hby at_355) kt) ?_
          show Go p e below _ m T34 356 #[jv q0, .second, jv m1, .second, jv m7, .second, jv m9, .second, iv p4, iv (1 : Int32), rv b21, rv b24, iv ((0 : Int32) + (1 : Int32))] [(.int (2 : Int32)), (.ref b24)]
          obtain ⟨cl37, Ar37, qc37, S37, M37, H37, G37⟩ := id V_b24
          have hin37 : ¬ ((2 : Int32) < 0 ∨ cl37.slots.size ≤ ((2 : Int32)).toNatClampNeg) := inb_of S37 ⟨by decide, hc36⟩
          have hat37 : cl37.slots[((2 : Int32)).toNatClampNeg]? = some (.long (LL.getD 2 0)) := H37.at hin37 (own_getJ LL 2)
          refine go (X34.laload hx (j := (2 : Int32)) (v := (.long (LL.getD 2 0))) (by rw [e34]; exact Ar37.1) (State.isArrayOf_alike hZ.alike Ar37.2.1) Ar37.2.2 hin37 hat37 (g := (mkF m 356 #[jv q0, .second, jv m1, .second, jv m7, .second, jv m9, .second, iv p4, iv (1 : Int32), rv b21, rv b24, iv ((0 : Int32) + (1 : Int32))] [(.int (2 : Int32)), (.ref b24)])) rfl rfl (hb hby at_356)) ?_
          show Go p e below _ m T34 357 #[jv q0, .second, jv m1, .second, jv m7, .second, jv m9, .second, iv p4, iv (1 : Int32), rv b21, rv b24, iv ((0 : Int32) + (1 : Int32))] [(.long (LL.getD 2 0))]
          refine go (fun t kt => XS.iload X34.here hx rfl (hb hby at_357) rfl kt) ?_
          show Go p e below _ m T34 359 #[jv q0, .second, jv m1, .second, jv m7, .second, jv m9, .second, iv p4, iv (1 : Int32), rv b21, rv b24, iv ((0 : Int32) + (1 : Int32))] [(.int (1 : Int32)), (.long (LL.getD 2 0))]
          refine go (fun t kt => XS.lloadN X34.here hx rfl (hb hby at_359) rfl kt) ?_
          show Go p e below _ m T34 360 #[jv q0, .second, jv m1, .second, jv m7, .second, jv m9, .second, iv p4, iv (1 : Int32), rv b21, rv b24, iv ((0 : Int32) + (1 : Int32))] [(.long q0), (.int (1 : Int32)), (.long (LL.getD 2 0))]
          refine go (fun t kt => XS.lloadN X34.here hx rfl (hb hby at_360) rfl kt) ?_
          show Go p e below _ m T34 361 #[jv q0, .second, jv m1, .second, jv m7, .second, jv m9, .second, iv p4, iv (1 : Int32), rv b21, rv b24, iv ((0 : Int32) + (1 : Int32))] [(.long m1), (.long q0), (.int (1 : Int32)), (.long (LL.getD 2 0))]
          refine go (fun t kt => XS.lload X34.here hx rfl (hb hby at_361) rfl kt) ?_
          show Go p e below _ m T34 363 #[jv q0, .second, jv m1, .second, jv m7, .second, jv m9, .second, iv p4, iv (1 : Int32), rv b21, rv b24, iv ((0 : Int32) + (1 : Int32))] [(.long m7), (.long m1), (.long q0), (.int (1 : Int32)), (.long (LL.getD 2 0))]
          refine go (fun t kt => XS.lload X34.here hx rfl (hb hby at_363) rfl kt) ?_
          show Go p e below _ m T34 365 #[jv q0, .second, jv m1, .second, jv m7, .second, jv m9, .second, iv p4, iv (1 : Int32), rv b21, rv b24, iv ((0 : Int32) + (1 : Int32))] [(.long m9), (.long m7), (.long m1), (.long q0), (.int (1 : Int32)), (.long (LL.getD 2 0))]
          obtain ⟨_, _, ⟨T38, L38, k38, n38⟩, -, X38, ⟨Lc38, hQ38, l38, y38, z38⟩, st38⟩ := Jvm.LawKit.callS X34 hx (y := (⟨"com/example/modest_tree_automata/modesttreeautomata/LongIntMapKeysPinLaw", "isInput", "(JIJJJJ)Z"⟩ : MethodName)) hown (mvT hZ (hw _ (List.mem_of_getElem? (i := 38) rfl))) (mvT hZ (hw _ (List.mem_of_getElem? (i := 39) rfl))) (mvT hZ (hw _ (List.mem_of_getElem? (i := 36) rfl))) (mvT hZ (hw _ (List.mem_of_getElem? (i := 40) rfl))) (by decide) (backOf (W := 0) (rm7 l Z a0 hw [] (LL.getD 2 0) (1 : Int32) q0 m1 m7 m9 T24.heap n0 Zz24 ) hZ (hw _ (List.mem_of_getElem? (i := 40) rfl)) (hw _ (List.mem_of_getElem? (i := 36) rfl)) (by decide) (by decide)) (g := (mkF m 365 #[jv q0, .second, jv m1, .second, jv m7, .second, jv m9, .second, iv p4, iv (1 : Int32), rv b21, rv b24, iv ((0 : Int32) + (1 : Int32))] [(.long m9), (.long m7), (.long m1), (.long q0), (.int (1 : Int32)), (.long (LL.getD 2 0))])) rfl (by rw [hml]; rfl) (argsL := [(.long (LL.getD 2 0)), (.int (1 : Int32)), (.long q0), (.long m1), (.long m7), (.long m9)]) (rest := []) (lenOf pd_5 rfl) rfl (by show 2 * 0 + _ ≤ _; exact Nat.le_of_eq rfl) (hb hby at_365) (fun _ _ => ⟨rfl, e34, (by decide : 5 + 0 ≤ _), (by decide : 56 + 0 ≤ _)⟩)
          dsimp only [Pt.U, Pt.locs, Pt.cells, Pt.slots] at X38 l38 y38 z38 st38 hQ38
          subst l38 y38 z38
          obtain ⟨rfl, Nq38, e38⟩ := hQ38
          have N38 := Fr.app N34 Nq38
          refine go st38 ?_
          show Go p e below _ m T38 368 #[jv q0, .second, jv m1, .second, jv m7, .second, jv m9, .second, iv p4, iv (1 : Int32), rv b21, rv b24, iv ((0 : Int32) + (1 : Int32))] [(.int (own_inp (LL.getD 2 0) (1 : Int32) q0 m1 m7 m9))]
          refine go (fun t kt => XS.ifYes X38.here hx rfl (pc0 := 368) (pc' := 373) rfl (hb hby at_368) rfl ((if0 _ _).trans (feq (own_in1 _ _ _ _ _ ((hmem _).mp (own_gm hwz (Nat.le_trans hlen (Nat.le_of_ble_eq_true rfl)) (2 : Int32) 2 rfl hc36)))).2) (by decide) (by decide) kt) ?_
          show Go p e below _ m T38 373 #[jv q0, .second, jv m1, .second, jv m7, .second, jv m9, .second, iv p4, iv (1 : Int32), rv b21, rv b24, iv ((0 : Int32) + (1 : Int32))] []
          refine go (fun t kt => XS.aload X38.here hx rfl (hb hby at_373) rfl rfl kt) ?_
          show Go p e below _ m T38 375 #[jv q0, .second, jv m1, .second, jv m7, .second, jv m9, .second, iv p4, iv (1 : Int32), rv b21, rv b24, iv ((0 : Int32) + (1 : Int32))] [(.ref b24)]
          obtain ⟨cl39, Ar39, qc39, S39, M39, H39, G39⟩ := id V_b24
          refine go (X38.arraylength hx (by rw [e38]; exact Ar39.1) (State.isArrayOf_alike hZ.alike Ar39.2.1) (g := (mkF m 375 #[jv q0, .second, jv m1, .second, jv m7, .second, jv m9, .second, iv p4, iv (1 : Int32), rv b21, rv b24, iv ((0 : Int32) + (1 : Int32))] [(.ref b24)])) rfl rfl (hb hby at_375)) ?_
          rw [len_of S39 M39]
          show Go p e below _ m T38 376 #[jv q0, .second, jv m1, .second, jv m7, .second, jv m9, .second, iv p4, iv (1 : Int32), rv b21, rv b24, iv ((0 : Int32) + (1 : Int32))] [(.int wz23)]
          refine go (fun t kt => XS.iconst X38.here hx rfl (hb hby at_376) kt) ?_
          show Go p e below _ m T38 377 #[jv q0, .second, jv m1, .second, jv m7, .second, jv m9, .second, iv p4, iv (1 : Int32), rv b21, rv b24, iv ((0 : Int32) + (1 : Int32))] [(.int (3 : Int32)), (.int wz23)]
          by_cases hc40 : (3 : Int32) < wz23
          ·
            refine go (fun t kt => XS.icmpNo X38.here hx rfl (hb hby at_377) rfl (tlt hc40).2.2.2 kt) ?_
            show Go p e below _ m T38 380 #[jv q0, .second, jv m1, .second, jv m7, .second, jv m9, .second, iv p4, iv (1 : Int32), rv b21, rv b24, iv ((0 : Int32) + (1 : Int32))] []
            refine go (fun t kt => XS.aload X38.here hx rfl (hb hby at_380) rfl rfl kt) ?_
            show Go p e below _ m T38 382 #[jv q0, .second, jv m1, .second, jv m7, .second, jv m9, .second, iv p4, iv (1 : Int32), rv b21, rv b24, iv ((0 : Int32) + (1 : Int32))] [(.ref b24)]
            refine go (fun t kt => XS.iconst X38.here hx rfl (hb hby at_382) kt) ?_
            show Go p e below _ m T38 383 #[jv q0, .second, jv m1, .second, jv m7, .second, jv m9, .second, iv p4, iv (1 : Int32), rv b21, rv b24, iv ((0 : Int32) + (1 : Int32))] [(.int (3 : Int32)), (.ref b24)]
            obtain ⟨cl41, Ar41, qc41, S41, M41, H41, G41⟩ := id V_b24
            have hin41 : ¬ ((3 : Int32) < 0 ∨ cl41.slots.size ≤ ((3 : Int32)).toNatClampNeg) := inb_of S41 ⟨by decide, hc40⟩
            have hat41 : cl41.slots[((3 : Int32)).toNatClampNeg]? = some (.long (LL.getD 3 0)) := H41.at hin41 (own_getJ LL 3)
            refine go (X38.laload hx (j := (3 : Int32)) (v := (.long (LL.getD 3 0))) (by rw [e38]; exact Ar41.1) (State.isArrayOf_alike hZ.alike Ar41.2.1) Ar41.2.2 hin41 hat41 (g := (mkF m 383 #[jv q0, .second, jv m1, .second, jv m7, .second, jv m9, .second, iv p4, iv (1 : Int32), rv b21, rv b24, iv ((0 : Int32) + (1 : Int32))] [(.int (3 : Int32)), (.ref b24)])) rfl rfl (hb hby at_383)) ?_
            show Go p e below _ m T38 384 #[jv q0, .second, jv m1, .second, jv m7, .second, jv m9, .second, iv p4, iv (1 : Int32), rv b21, rv b24, iv ((0 : Int32) + (1 : Int32))] [(.long (LL.getD 3 0))]
            refine go (fun t kt => XS.iload X38.here hx rfl (hb hby at_384) rfl kt) ?_
            show Go p e below _ m T38 386 #[jv q0, .second, jv m1, .second, jv m7, .second, jv m9, .second, iv p4, iv (1 : Int32), rv b21, rv b24, iv ((0 : Int32) + (1 : Int32))] [(.int (1 : Int32)), (.long (LL.getD 3 0))]
            refine go (fun t kt => XS.lloadN X38.here hx rfl (hb hby at_386) rfl kt) ?_
            show Go p e below _ m T38 387 #[jv q0, .second, jv m1, .second, jv m7, .second, jv m9, .second, iv p4, iv (1 : Int32), rv b21, rv b24, iv ((0 : Int32) + (1 : Int32))] [(.long q0), (.int (1 : Int32)), (.long (LL.getD 3 0))]
            refine go (fun t kt => XS.lloadN X38.here hx rfl (hb hby at_387) rfl kt) ?_
            show Go p e below _ m T38 388 #[jv q0, .second, jv m1, .second, jv m7, .second, jv m9, .second, iv p4, iv (1 : Int32), rv b21, rv b24, iv ((0 : Int32) + (1 : Int32))] [(.long m1), (.long q0), (.int (1 : Int32)), (.long (LL.getD 3 0))]
            refine go (fun t kt => XS.lload X38.here hx rfl (hb hby at_388) rfl kt) ?_
            show Go p e below _ m T38 390 #[jv q0, .second, jv m1, .second, jv m7, .second, jv m9, .second, iv p4, iv (1 : Int32), rv b21, rv b24, iv ((0 : Int32) + (1 : Int32))] [(.long m7), (.long m1), (.long q0), (.int (1 : Int32)), (.long (LL.getD 3 0))]
            refine go (fun t kt => XS.lload X38.here hx rfl (hb hby at_390) rfl kt) ?_
            show Go p e below _ m T38 392 #[jv q0, .second, jv m1, .second, jv m7, .second, jv m9, .second, iv p4, iv (1 : Int32), rv b21, rv b24, iv ((0 : Int32) + (1 : Int32))] [(.long m9), (.long m7), (.long m1), (.long q0), (.int (1 : Int32)), (.long (LL.getD 3 0))]
            obtain ⟨_, _, ⟨T42, L42, k42, n42⟩, -, X42, ⟨Lc42, hQ42, l42, y42, z42⟩, st42⟩ := Jvm.LawKit.callS X38 hx (y := (⟨"com/example/modest_tree_automata/modesttreeautomata/LongIntMapKeysPinLaw", "isInput", "(JIJJJJ)Z"⟩ : MethodName)) hown (mvT hZ (hw _ (List.mem_of_getElem? (i := 38) rfl))) (mvT hZ (hw _ (List.mem_of_getElem? (i := 39) rfl))) (mvT hZ (hw _ (List.mem_of_getElem? (i := 36) rfl))) (mvT hZ (hw _ (List.mem_of_getElem? (i := 40) rfl))) (by decide) (backOf (W := 0) (rm7 l Z a0 hw [] (LL.getD 3 0) (1 : Int32) q0 m1 m7 m9 T24.heap n0 Zz24 ) hZ (hw _ (List.mem_of_getElem? (i := 40) rfl)) (hw _ (List.mem_of_getElem? (i := 36) rfl)) (by decide) (by decide)) (g := (mkF m 392 #[jv q0, .second, jv m1, .second, jv m7, .second, jv m9, .second, iv p4, iv (1 : Int32), rv b21, rv b24, iv ((0 : Int32) + (1 : Int32))] [(.long m9), (.long m7), (.long m1), (.long q0), (.int (1 : Int32)), (.long (LL.getD 3 0))])) rfl (by rw [hml]; rfl) (argsL := [(.long (LL.getD 3 0)), (.int (1 : Int32)), (.long q0), (.long m1), (.long m7), (.long m9)]) (rest := []) (lenOf pd_5 rfl) rfl (by show 2 * 0 + _ ≤ _; exact Nat.le_of_eq rfl) (hb hby at_392) (fun _ _ => ⟨rfl, e38, (by decide : 5 + 0 ≤ _), (by decide : 56 + 0 ≤ _)⟩)
            dsimp only [Pt.U, Pt.locs, Pt.cells, Pt.slots] at X42 l42 y42 z42 st42 hQ42
            subst l42 y42 z42
            obtain ⟨rfl, Nq42, e42⟩ := hQ42
            have N42 := Fr.app N38 Nq42
            refine go st42 ?_
            show Go p e below _ m T42 395 #[jv q0, .second, jv m1, .second, jv m7, .second, jv m9, .second, iv p4, iv (1 : Int32), rv b21, rv b24, iv ((0 : Int32) + (1 : Int32))] [(.int (own_inp (LL.getD 3 0) (1 : Int32) q0 m1 m7 m9))]
            refine go (fun t kt => XS.ifYes X42.here hx rfl (pc0 := 395) (pc' := 400) rfl (hb hby at_395) rfl ((if0 _ _).trans (feq (own_in1 _ _ _ _ _ ((hmem _).mp (own_gm hwz (Nat.le_trans hlen (Nat.le_of_ble_eq_true rfl)) (3 : Int32) 3 rfl hc40)))).2) (by decide) (by decide) kt) ?_
            show Go p e below _ m T42 400 #[jv q0, .second, jv m1, .second, jv m7, .second, jv m9, .second, iv p4, iv (1 : Int32), rv b21, rv b24, iv ((0 : Int32) + (1 : Int32))] []
            refine go (fun t kt => XS.iconst X42.here hx rfl (hb hby at_400) kt) ?_
            show Go p e below _ m T42 401 #[jv q0, .second, jv m1, .second, jv m7, .second, jv m9, .second, iv p4, iv (1 : Int32), rv b21, rv b24, iv ((0 : Int32) + (1 : Int32))] [(.int (1 : Int32))]
            obtain ⟨fs, hr, hrun, hended, hW, hsame⟩ := X42.leave (v := some (.int (1 : Int32))) (fun h => by rw [Bd.returns] at h; cases h)
            refine ⟨_, _, retN X42 hx (t := .boolean) Bd.returns (by simp) (hb hby at_401) hr, hrun, hended, _, _, rfl, ?_, ⟨_, rfl⟩, hW, hsame.mono (by decide) (by decide)⟩
            show Q0 Z q0 q1 q2 q3 p4 h0 n0 _ T42.heap _
            rw [e42]
            exact ⟨rfl, N42⟩
          ·
            refine go (fun t kt => XS.icmpYes X38.here hx rfl (pc0 := 377) (pc' := 400) rfl (hb hby at_377) rfl (flt hc40).2.2.2 (by decide) (by decide) kt) ?_
            show Go p e below _ m T38 400 #[jv q0, .second, jv m1, .second, jv m7, .second, jv m9, .second, iv p4, iv (1 : Int32), rv b21, rv b24, iv ((0 : Int32) + (1 : Int32))] []
            refine go (fun t kt => XS.iconst X38.here hx rfl (hb hby at_400) kt) ?_
            show Go p e below _ m T38 401 #[jv q0, .second, jv m1, .second, jv m7, .second, jv m9, .second, iv p4, iv (1 : Int32), rv b21, rv b24, iv ((0 : Int32) + (1 : Int32))] [(.int (1 : Int32))]
            obtain ⟨fs, hr, hrun, hended, hW, hsame⟩ := X38.leave (v := some (.int (1 : Int32))) (fun h => by rw [Bd.returns] at h; cases h)
            refine ⟨_, _, retN X38 hx (t := .boolean) Bd.returns (by simp) (hb hby at_401) hr, hrun, hended, _, _, rfl, ?_, ⟨_, rfl⟩, hW, hsame.mono (by decide) (by decide)⟩
            show Q0 Z q0 q1 q2 q3 p4 h0 n0 _ T38.heap _
            rw [e38]
            exact ⟨rfl, N38⟩
        ·
          refine go (fun t kt => XS.icmpYes X34.here hx rfl (pc0 := 350) (pc' := 373) rfl (hb hby at_350) rfl (flt hc36).2.2.2 (by decide) (by decide) kt) ?_
          show Go p e below _ m T34 373 #[jv q0, .second, jv m1, .second, jv m7, .second, jv m9, .second, iv p4, iv (1 : Int32), rv b21, rv b24, iv ((0 : Int32) + (1 : Int32))] []
          refine go (fun t kt => XS.aload X34.here hx rfl (hb hby at_373) rfl rfl kt) ?_
          show Go p e below _ m T34 375 #[jv q0, .second, jv m1, .second, jv m7, .second, jv m9, .second, iv p4, iv (1 : Int32), rv b21, rv b24, iv ((0 : Int32) + (1 : Int32))] [(.ref b24)]
          obtain ⟨cl45, Ar45, qc45, S45, M45, H45, G45⟩ := id V_b24
          refine go (X34.arraylength hx (by rw [e34]; exact Ar45.1) (State.isArrayOf_alike hZ.alike Ar45.2.1) (g := (mkF m 375 #[jv q0, .second, jv m1, .second, jv m7, .second, jv m9, .second, iv p4, iv (1 : Int32), rv b21, rv b24, iv ((0 : Int32) + (1 : Int32))] [(.ref b24)])) rfl rfl (hb hby at_375)) ?_
          rw [len_of S45 M45]
          show Go p e below _ m T34 376 #[jv q0, .second, jv m1, .second, jv m7, .second, jv m9, .second, iv p4, iv (1 : Int32), rv b21, rv b24, iv ((0 : Int32) + (1 : Int32))] [(.int wz23)]
          refine go (fun t kt => XS.iconst X34.here hx rfl (hb hby at_376) kt) ?_
          show Go p e below _ m T34 377 #[jv q0, .second, jv m1, .second, jv m7, .second, jv m9, .second, iv p4, iv (1 : Int32), rv b21, rv b24, iv ((0 : Int32) + (1 : Int32))] [(.int (3 : Int32)), (.int wz23)]
          refine go (fun t kt => XS.icmpYes X34.here hx rfl (pc0 := 377) (pc' := 400) rfl (hb hby at_377) rfl (flt (own_nl hc36 (by decide))).2.2.2 (by decide) (by decide) kt) ?_
          show Go p e below _ m T34 400 #[jv q0, .second, jv m1, .second, jv m7, .second, jv m9, .second, iv p4, iv (1 : Int32), rv b21, rv b24, iv ((0 : Int32) + (1 : Int32))] []
          refine go (fun t kt => XS.iconst X34.here hx rfl (hb hby at_400) kt) ?_
          show Go p e below _ m T34 401 #[jv q0, .second, jv m1, .second, jv m7, .second, jv m9, .second, iv p4, iv (1 : Int32), rv b21, rv b24, iv ((0 : Int32) + (1 : Int32))] [(.int (1 : Int32))]
          obtain ⟨fs, hr, hrun, hended, hW, hsame⟩ := X34.leave (v := some (.int (1 : Int32))) (fun h => by rw [Bd.returns] at h; cases h)
          refine ⟨_, _, retN X34 hx (t := .boolean) Bd.returns (by simp) (hb hby at_401) hr, hrun, hended, _, _, rfl, ?_, ⟨_, rfl⟩, hW, hsame.mono (by decide) (by decide)⟩
          show Q0 Z q0 q1 q2 q3 p4 h0 n0 _ T34.heap _
          rw [e34]
          exact ⟨rfl, N34⟩
      ·
        refine go (fun t kt => XS.icmpYes X30.here hx rfl (pc0 := 323) (pc' := 346) rfl (hb hby at_323) rfl (flt hc32).2.2.2 (by decide) (by decide) kt) ?_
        show Go p e below _ m T30 346 #[jv q0, .second, jv m1, .second, jv m7, .second, jv m9, .second, iv p4, iv (1 : Int32), rv b21, rv b24, iv ((0 : Int32) + (1 : Int32))] []
        refine go (fun t kt => XS.aload X30.here hx rfl (hb hby at_346) rfl rfl kt) ?_
        show Go p e below _ m T30 348 #[jv q0, .second, jv m1, .second, jv m7, .second, jv m9, .second, iv p4, iv (1 : Int32), rv b21, rv b24, iv ((0 : Int32) + (1 : Int32))] [(.ref b24)]
        obtain ⟨cl47, Ar47, qc47, S47, M47, H47, G47⟩ := id V_b24
        refine go (X30.arraylength hx (by rw [e30]; exact Ar47.1) (State.isArrayOf_alike hZ.alike Ar47.2.1) (g := (mkF m 348 #[jv q0, .second, jv m1, .second, jv m7, .second, jv m9, .second, iv p4, iv (1 : Int32), rv b21, rv b24, iv ((0 : Int32) + (1 : Int32))] [(.ref b24)])) rfl rfl (hb hby at_348)) ?_
        rw [len_of S47 M47]
        show Go p e below _ m T30 349 #[jv q0, .second, jv m1, .second, jv m7, .second, jv m9, .second, iv p4, iv (1 : Int32), rv b21, rv b24, iv ((0 : Int32) + (1 : Int32))] [(.int wz23)]
        refine go (fun t kt => XS.iconst X30.here hx rfl (hb hby at_349) kt) ?_
        show Go p e below _ m T30 350 #[jv q0, .second, jv m1, .second, jv m7, .second, jv m9, .second, iv p4, iv (1 : Int32), rv b21, rv b24, iv ((0 : Int32) + (1 : Int32))] [(.int (2 : Int32)), (.int wz23)]
        refine go (fun t kt => XS.icmpYes X30.here hx rfl (pc0 := 350) (pc' := 373) rfl (hb hby at_350) rfl (flt (own_nl hc32 (by decide))).2.2.2 (by decide) (by decide) kt) ?_
        show Go p e below _ m T30 373 #[jv q0, .second, jv m1, .second, jv m7, .second, jv m9, .second, iv p4, iv (1 : Int32), rv b21, rv b24, iv ((0 : Int32) + (1 : Int32))] []
        refine go (fun t kt => XS.aload X30.here hx rfl (hb hby at_373) rfl rfl kt) ?_
        show Go p e below _ m T30 375 #[jv q0, .second, jv m1, .second, jv m7, .second, jv m9, .second, iv p4, iv (1 : Int32), rv b21, rv b24, iv ((0 : Int32) + (1 : Int32))] [(.ref b24)]
        obtain ⟨cl48, Ar48, qc48, S48, M48, H48, G48⟩ := id V_b24
        refine go (X30.arraylength hx (by rw [e30]; exact Ar48.1) (State.isArrayOf_alike hZ.alike Ar48.2.1) (g := (mkF m 375 #[jv q0, .second, jv m1, .second, jv m7, .second, jv m9, .second, iv p4, iv (1 : Int32), rv b21, rv b24, iv ((0 : Int32) + (1 : Int32))] [(.ref b24)])) rfl rfl (hb hby at_375)) ?_
        rw [len_of S48 M48]
        show Go p e below _ m T30 376 #[jv q0, .second, jv m1, .second, jv m7, .second, jv m9, .second, iv p4, iv (1 : Int32), rv b21, rv b24, iv ((0 : Int32) + (1 : Int32))] [(.int wz23)]
        refine go (fun t kt => XS.iconst X30.here hx rfl (hb hby at_376) kt) ?_
        show Go p e below _ m T30 377 #[jv q0, .second, jv m1, .second, jv m7, .second, jv m9, .second, iv p4, iv (1 : Int32), rv b21, rv b24, iv ((0 : Int32) + (1 : Int32))] [(.int (3 : Int32)), (.int wz23)]
        refine go (fun t kt => XS.icmpYes X30.here hx rfl (pc0 := 377) (pc' := 400) rfl (hb hby at_377) rfl (flt (own_nl hc32 (by decide))).2.2.2 (by decide) (by decide) kt) ?_
        show Go p e below _ m T30 400 #[jv q0, .second, jv m1, .second, jv m7, .second, jv m9, .second, iv p4, iv (1 : Int32), rv b21, rv b24, iv ((0 : Int32) + (1 : Int32))] []
        refine go (fun t kt => XS.iconst X30.here hx rfl (hb hby at_400) kt) ?_
        show Go p e below _ m T30 401 #[jv q0, .second, jv m1, .second, jv m7, .second, jv m9, .second, iv p4, iv (1 : Int32), rv b21, rv b24, iv ((0 : Int32) + (1 : Int32))] [(.int (1 : Int32))]
        obtain ⟨fs, hr, hrun, hended, hW, hsame⟩ := X30.leave (v := some (.int (1 : Int32))) (fun h => by rw [Bd.returns] at h; cases h)
        refine ⟨_, _, retN X30 hx (t := .boolean) Bd.returns (by simp) (hb hby at_401) hr, hrun, hended, _, _, rfl, ?_, ⟨_, rfl⟩, hW, hsame.mono (by decide) (by decide)⟩
        show Q0 Z q0 q1 q2 q3 p4 h0 n0 _ T30.heap _
        rw [e30]
        exact ⟨rfl, N30⟩
    ·
      refine go (fun t kt => XS.ifYes X26.here hx rfl (pc0 := 296) (pc' := 319) rfl (hb hby at_296) rfl ((if0 _ _).trans (flt hc28).2.2.2) (by decide) (by decide) kt) ?_
      show Go p e below _ m T26 319 #[jv q0, .second, jv m1, .second, jv m7, .second, jv m9, .second, iv p4, iv (1 : Int32), rv b21, rv b24, iv ((0 : Int32) + (1 : Int32))] []
      refine go (fun t kt => XS.aload X26.here hx rfl (hb hby at_319) rfl rfl kt) ?_
      show Go p e below _ m T26 321 #[jv q0, .second, jv m1, .second, jv m7, .second, jv m9, .second, iv p4, iv (1 : Int32), rv b21, rv b24, iv ((0 : Int32) + (1 : Int32))] [(.ref b24)]
      obtain ⟨cl50, Ar50, qc50, S50, M50, H50, G50⟩ := id V_b24
      refine go (X26.arraylength hx (by rw [e26]; exact Ar50.1) (State.isArrayOf_alike hZ.alike Ar50.2.1) (g := (mkF m 321 #[jv q0, .second, jv m1, .second, jv m7, .second, jv m9, .second, iv p4, iv (1 : Int32), rv b21, rv b24, iv ((0 : Int32) + (1 : Int32))] [(.ref b24)])) rfl rfl (hb hby at_321)) ?_
      rw [len_of S50 M50]
      show Go p e below _ m T26 322 #[jv q0, .second, jv m1, .second, jv m7, .second, jv m9, .second, iv p4, iv (1 : Int32), rv b21, rv b24, iv ((0 : Int32) + (1 : Int32))] [(.int wz23)]
      refine go (fun t kt => XS.iconst X26.here hx rfl (hb hby at_322) kt) ?_
      show Go p e below _ m T26 323 #[jv q0, .second, jv m1, .second, jv m7, .second, jv m9, .second, iv p4, iv (1 : Int32), rv b21, rv b24, iv ((0 : Int32) + (1 : Int32))] [(.int (1 : Int32)), (.int wz23)]
      refine go (fun t kt => XS.icmpYes X26.here hx rfl (pc0 := 323) (pc' := 346) rfl (hb hby at_323) rfl (flt (own_nl hc28 (by decide))).2.2.2 (by decide) (by decide) kt) ?_
      show Go p e below _ m T26 346 #[jv q0, .second, jv m1, .second, jv m7, .second, jv m9, .second, iv p4, iv (1 : Int32), rv b21, rv b24, iv ((0 : Int32) + (1 : Int32))] []
      refine go (fun t kt => XS.aload X26.here hx rfl (hb hby at_346) rfl rfl kt) ?_
      show Go p e below _ m T26 348 #[jv q0, .second, jv m1, .second, jv m7, .second, jv m9, .second, iv p4, iv (1 : Int32), rv b21, rv b24, iv ((0 : Int32) + (1 : Int32))] [(.ref b24)]
      obtain ⟨cl51, Ar51, qc51, S51, M51, H51, G51⟩ := id V_b24
      refine go (X26.arraylength hx (by rw [e26]; exact Ar51.1) (State.isArrayOf_alike hZ.alike Ar51.2.1) (g := (mkF m 348 #[jv q0, .second, jv m1, .second, jv m7, .second, jv m9, .second, iv p4, iv (1 : Int32), rv b21, rv b24, iv ((0 : Int32) + (1 : Int32))] [(.ref b24)])) rfl rfl (hb hby at_348)) ?_
      rw [len_of S51 M51]
      show Go p e below _ m T26 349 #[jv q0, .second, jv m1, .second, jv m7, .second, jv m9, .second, iv p4, iv (1 : Int32), rv b21, rv b24, iv ((0 : Int32) + (1 : Int32))] [(.int wz23)]
      refine go (fun t kt => XS.iconst X26.here hx rfl (hb hby at_349) kt) ?_
      show Go p e below _ m T26 350 #[jv q0, .second, jv m1, .second, jv m7, .second, jv m9, .second, iv p4, iv (1 : Int32), rv b21, rv b24, iv ((0 : Int32) + (1 : Int32))] [(.int (2 : Int32)), (.int wz23)]
      refine go (fun t kt => XS.icmpYes X26.here hx rfl (pc0 := 350) (pc' := 373) rfl (hb hby at_350) rfl (flt (own_nl hc28 (by decide))).2.2.2 (by decide) (by decide) kt) ?_
      show Go p e below _ m T26 373 #[jv q0, .second, jv m1, .second, jv m7, .second, jv m9, .second, iv p4, iv (1 : Int32), rv b21, rv b24, iv ((0 : Int32) + (1 : Int32))] []
      refine go (fun t kt => XS.aload X26.here hx rfl (hb hby at_373) rfl rfl kt) ?_
      show Go p e below _ m T26 375 #[jv q0, .second, jv m1, .second, jv m7, .second, jv m9, .second, iv p4, iv (1 : Int32), rv b21, rv b24, iv ((0 : Int32) + (1 : Int32))] [(.ref b24)]
      obtain ⟨cl52, Ar52, qc52, S52, M52, H52, G52⟩ := id V_b24
      refine go (X26.arraylength hx (by rw [e26]; exact Ar52.1) (State.isArrayOf_alike hZ.alike Ar52.2.1) (g := (mkF m 375 #[jv q0, .second, jv m1, .second, jv m7, .second, jv m9, .second, iv p4, iv (1 : Int32), rv b21, rv b24, iv ((0 : Int32) + (1 : Int32))] [(.ref b24)])) rfl rfl (hb hby at_375)) ?_
      rw [len_of S52 M52]
      show Go p e below _ m T26 376 #[jv q0, .second, jv m1, .second, jv m7, .second, jv m9, .second, iv p4, iv (1 : Int32), rv b21, rv b24, iv ((0 : Int32) + (1 : Int32))] [(.int wz23)]
      refine go (fun t kt => XS.iconst X26.here hx rfl (hb hby at_376) kt) ?_
      show Go p e below _ m T26 377 #[jv q0, .second, jv m1, .second, jv m7, .second, jv m9, .second, iv p4, iv (1 : Int32), rv b21, rv b24, iv ((0 : Int32) + (1 : Int32))] [(.int (3 : Int32)), (.int wz23)]
      refine go (fun t kt => XS.icmpYes X26.here hx rfl (pc0 := 377) (pc' := 400) rfl (hb hby at_377) rfl (flt (own_nl hc28 (by decide))).2.2.2 (by decide) (by decide) kt) ?_
      show Go p e below _ m T26 400 #[jv q0, .second, jv m1, .second, jv m7, .second, jv m9, .second, iv p4, iv (1 : Int32), rv b21, rv b24, iv ((0 : Int32) + (1 : Int32))] []
      refine go (fun t kt => XS.iconst X26.here hx rfl (hb hby at_400) kt) ?_
      show Go p e below _ m T26 401 #[jv q0, .second, jv m1, .second, jv m7, .second, jv m9, .second, iv p4, iv (1 : Int32), rv b21, rv b24, iv ((0 : Int32) + (1 : Int32))] [(.int (1 : Int32))]
      obtain ⟨fs, hr, hrun, hended, hW, hsame⟩ := X26.leave (v := some (.int (1 : Int32))) (fun h => by rw [Bd.returns] at h; cases h)
      refine ⟨_, _, retN X26 hx (t := .boolean) Bd.returns (by simp) (hb hby at_401) hr, hrun, hended, _, _, rfl, ?_, ⟨_, rfl⟩, hW, hsame.mono (by decide) (by decide)⟩
      show Q0 Z q0 q1 q2 q3 p4 h0 n0 _ T26.heap _
      rw [e26]
      exact ⟨rfl, N26⟩
  ·
    rw [hk11]
    show Go p e below _ m s₁ 65 #[jv q0, .second, jv m1, .second, jv m7, .second, jv m9, .second, iv p4, iv (2 : Int32), .unset, .unset, .unset] []
    obtain ⟨T54, h54, X54, e54, E54, A54, D54, -, st54⟩ := newO X0 hx hZ hown (hw _ (List.mem_of_getElem? (i := 0) rfl)) (hw _ (List.mem_of_getElem? (i := 1) rfl)) (hw _ (List.mem_of_getElem? (i := 2) rfl)) e0 (g := (mkF m 65 #[jv q0, .second, jv m1, .second, jv m7, .second, jv m9, .second, iv p4, iv (2 : Int32), .unset, .unset, .unset] [])) rfl (hb hby at_65) (by decide) (by decide)
    obtain ⟨b54, g54⟩ : ∃ z, z = h0.size := ⟨_, rfl⟩
    rw [← g54] at A54 D54 st54
    have g_b54 : n0 ≤ b54 := Nat.le_trans Z0 (Nat.le_of_eq g54.symm)
    have sz_b54 : h0.size ≤ b54 := Nat.le_trans K0.1 (Nat.le_of_eq g54.symm)
    have Zz54 := Nat.le_trans Z0 E54.1
    have Kk54 := K0.ext E54
    have E_b54 := A54
    have F_keys_b54 : Fld Z h54 b54 "com/example/modest_tree_automata/modesttreeautomata/LongIntMap" "keys" "[J" .null := D54 (Or.inl (hw _ (List.mem_of_getElem? (i := 11) rfl))) (ty := (.array .long)) (by decide)
    have F_values_b54 : Fld Z h54 b54 "com/example/modest_tree_automata/modesttreeautomata/LongIntMap" "values" "[I" .null := D54 (Or.inl (hw _ (List.mem_of_getElem? (i := 14) rfl))) (ty := (.array .int)) (by decide)
    have F_used_b54 : Fld Z h54 b54 "com/example/modest_tree_automata/modesttreeautomata/LongIntMap" "used" "[Z" .null := D54 (Or.inl (hw _ (List.mem_of_getElem? (i := 17) rfl))) (ty := (.array .boolean)) (by decide)
    have F_size_b54 : Fld Z h54 b54 "com/example/modest_tree_automata/modesttreeautomata/LongIntMap" "size" "I" (.int (0 : Int32)) := D54 (Or.inl (hw _ (List.mem_of_getElem? (i := 24) rfl))) (ty := .int) (by decide)
    refine go st54 ?_
    show Go p e below _ m T54 68 #[jv q0, .second, jv m1, .second, jv m7, .second, jv m9, .second, iv p4, iv (2 : Int32), .unset, .unset, .unset] [(.ref b54)]
    refine go (fun t kt => XS.dup X54.here hx rfl (hb hby at_68) rfl rfl kt) ?_
    show Go p e below _ m T54 69 #[jv q0, .second, jv m1, .second, jv m7, .second, jv m9, .second, iv p4, iv (2 : Int32), .unset, .unset, .unset] [(.ref b54), (.ref b54)]
    obtain ⟨_, _, ⟨T55, L55, k55, n55⟩, -, X55, ⟨Lc55, hQ55, l55, y55, z55⟩, st55⟩ := X54.specialBack hx (y := (⟨"com/example/modest_tree_automata/modesttreeautomata/LongIntMap", "<init>", "()V"⟩ : MethodName)) rfl hown (mvT hZ (hw _ (List.mem_of_getElem? (i := 3) rfl))) (mvT hZ (hw _ (List.mem_of_getElem? (i := 4) rfl))) (mvT hZ (hw _ (List.mem_of_getElem? (i := 5) rfl))) (by decide) (backOf (W := 1) (rm1 l Z a0 hw [] b54 .null .null .null (0 : Int32) h54 n0 Zz54 E_b54 F_keys_b54 F_values_b54 F_used_b54 F_size_b54 g_b54) hZ (hw _ (List.mem_of_getElem? (i := 5) rfl)) (hw _ (List.mem_of_getElem? (i := 2) rfl)) (by decide) (by decide)) (g := (mkF m 69 #[jv q0, .second, jv m1, .second, jv m7, .second, jv m9, .second, iv p4, iv (2 : Int32), .unset, .unset, .unset] [(.ref b54), (.ref b54)])) rfl (by rw [hml]; rfl) (Steps.refl _) (a := b54) (argsL := []) (rest := [(.ref b54)]) (lenOf pd_1 rfl) rfl (by show 2 * 0 + _ ≤ _; exact Nat.le_of_eq rfl) (hb hby at_69) (fun _ _ => ⟨rfl, e54, (by decide : 1 + 3 ≤ _), (by decide : 4 + 48 ≤ _)⟩)
    dsimp only [Pt.U, Pt.locs, Pt.cells, Pt.slots] at X55 l55 y55 z55 st55 hQ55
    subst l55 y55 z55
    obtain ⟨rfl, Nq55, Kq55, Eq55, ok55, ov55, ou55, kk55, kv55, ku55, l1, l2, l3, ne_ok55_ov55, ne_ok55_ou55, ne_ov55_ou55, G1, G2, G3, G4, G5, G6, G7⟩ := hQ55
    have ne_b54_ok55 : b54 ≠ ok55 := Nat.ne_of_lt (Nat.lt_of_lt_of_le E_b54.lt l1)
    have g_ok55 : n0 ≤ ok55 := Nat.le_trans Zz54 l1
    have sz_ok55 : h0.size ≤ ok55 := Nat.le_trans Kk54.1 l1
    have ne_b54_ov55 : b54 ≠ ov55 := Nat.ne_of_lt (Nat.lt_of_lt_of_le E_b54.lt l2)
    have g_ov55 : n0 ≤ ov55 := Nat.le_trans Zz54 l2
    have sz_ov55 : h0.size ≤ ov55 := Nat.le_trans Kk54.1 l2
    have ne_b54_ou55 : b54 ≠ ou55 := Nat.ne_of_lt (Nat.lt_of_lt_of_le E_b54.lt l3)
    have g_ou55 : n0 ≤ ou55 := Nat.le_trans Zz54 l3
    have sz_ou55 : h0.size ≤ ou55 := Nat.le_trans Kk54.1 l3
    replace E_b54 := E_b54.keep Kq55
    clear F_keys_b54
    clear F_values_b54
    clear F_used_b54
    clear F_size_b54
    have Zz55 := Nat.le_trans Zz54 Kq55.1
    have Kk55 := Kk54.trans Kq55 (allS (Or.inr sz_b54) all0)
    have E_b54 := Eq55
    have F_keys_b54 := G1
    have F_values_b54 := G2
    have F_used_b54 := G3
    have F_size_b54 := G4
    have V_ok55 := G5
    have V_ov55 := G6
    have V_ou55 := G7
    have N55 := Fr.app N0 Nq55
    refine go (fun t kt => st55.trans kt) ?_
    show Go p e below _ m T55 72 #[jv q0, .second, jv m1, .second, jv m7, .second, jv m9, .second, iv p4, iv (2 : Int32), .unset, .unset, .unset] [(.ref b54)]
    refine go (fun t kt => XS.astore X55.here hx rfl (hb hby at_72) rfl rfl (l' := #[jv q0, .second, jv m1, .second, jv m7, .second, jv m9, .second, iv p4, iv (2 : Int32), rv b54, .unset, .unset]) rfl kt) ?_
    show Go p e below _ m T55 74 #[jv q0, .second, jv m1, .second, jv m7, .second, jv m9, .second, iv p4, iv (2 : Int32), rv b54, .unset, .unset] []
    refine go (fun t kt => XS.iload X55.here hx rfl (hb hby at_74) rfl kt) ?_
    show Go p e below _ m T55 76 #[jv q0, .second, jv m1, .second, jv m7, .second, jv m9, .second, iv p4, iv (2 : Int32), rv b54, .unset, .unset] [(.int (2 : Int32))]
    refine go (fun t kt => XS.ifNo X55.here hx rfl (hb hby at_76) rfl ((if0 _ _).trans (tlt (by decide : ((0 : Int32) < (2 : Int32)))).2.2.2) kt) ?_
    show Go p e below _ m T55 79 #[jv q0, .second, jv m1, .second, jv m7, .second, jv m9, .second, iv p4, iv (2 : Int32), rv b54, .unset, .unset] []
    refine go (fun t kt => XS.aload X55.here hx rfl (hb hby at_79) rfl rfl kt) ?_
    show Go p e below _ m T55 81 #[jv q0, .second, jv m1, .second, jv m7, .second, jv m9, .second, iv p4, iv (2 : Int32), rv b54, .unset, .unset] [(.ref b54)]
    refine go (fun t kt => XS.lloadN X55.here hx rfl (hb hby at_81) rfl kt) ?_
    show Go p e below _ m T55 82 #[jv q0, .second, jv m1, .second, jv m7, .second, jv m9, .second, iv p4, iv (2 : Int32), rv b54, .unset, .unset] [(.long q0), (.ref b54)]
    refine go (fun t kt => XS.iconst X55.here hx rfl (hb hby at_82) kt) ?_
    show Go p e below _ m T55 83 #[jv q0, .second, jv m1, .second, jv m7, .second, jv m9, .second, iv p4, iv (2 : Int32), rv b54, .unset, .unset] [(.int (1 : Int32)), (.long q0), (.ref b54)]
    obtain ⟨cq56, kq56, q56a, q56b, q56c⟩ := isOf hZ rfl E_b54
    obtain ⟨_, _, ⟨T56, L56, k56, n56⟩, -, X56, ⟨Lc56, hQ56, l56, y56, z56⟩, st56⟩ := X55.virtualBack hx (y := (⟨"com/example/modest_tree_automata/modesttreeautomata/LongIntMap", "put", "(JI)V"⟩ : MethodName)) (z := (⟨"com/example/modest_tree_automata/modesttreeautomata/LongIntMap", "put", "(JI)V"⟩ : MethodName)) hown (mvT hZ (hw _ (List.mem_of_getElem? (i := 18) rfl))) (mvT hZ (hw _ (List.mem_of_getElem? (i := 19) rfl))) (notFace_of_selects (args := #[]) (mvT hZ (hw _ (List.mem_of_getElem? (i := 21) rfl)))) (mvT hZ (hw _ (List.mem_of_getElem? (i := 21) rfl))) (mvT hZ (hw _ (List.mem_of_getElem? (i := 20) rfl))) (by decide) (backOf (W := 0) (rm3 l Z a0 hw [] b54 q0 (1 : Int32) ok55 ov55 ou55 kk55 kv55 ku55 (List.replicate 16 (0 : Int64)) (List.replicate 16 (0 : Int32)) (List.replicate 16 (.int (0 : Int32))) (0 : Int32) T55.heap n0 Zz55 E_b54 F_keys_b54 F_values_b54 F_used_b54 F_size_b54 V_ok55 V_ov55 V_ou55 g_b54 g_ok55 g_ov55 g_ou55 ne_b54_ok55 ne_b54_ov55 ne_b54_ou55 ne_ok55_ov55 ne_ok55_ou55 ne_ov55_ou55 (own_inv0).2.1 (own_inv0).1 (by simp) (own_hsz own_inv0 (Nat.le_of_ble_eq_true rfl)) (own_inv_stop own_inv0 (Nat.le_of_ble_eq_true rfl) _)) hZ (hw _ (List.mem_of_getElem? (i := 22) rfl)) (hw _ (List.mem_of_getElem? (i := 2) rfl)) (by decide) (by decide)) q56a q56c (g := (mkF m 83 #[jv q0, .second, jv m1, .second, jv m7, .second, jv m9, .second, iv p4, iv (2 : Int32), rv b54, .unset, .unset] [(.int (1 : Int32)), (.long q0), (.ref b54)])) rfl (by rw [hml]; rfl) (Steps.refl _) (argsL := [(.long q0), (.int (1 : Int32))]) (rest := []) (lenOf pd_3 rfl) rfl (by show 2 * 0 + _ ≤ _; exact Nat.le_of_eq rfl) (hb hby at_83) (fun _ _ => ⟨rfl, rfl, (by decide : 4 + 0 ≤ _), (by decide : 52 + 0 ≤ _)⟩)
    dsimp only [Pt.U, Pt.locs, Pt.cells, Pt.slots] at X56 l56 y56 z56 st56 hQ56
    subst l56 y56 z56
    obtain ⟨rfl, Nq56, Kq56, G0, G1, G2, G3, G4, G5, G6, vv56, hvv56, G7⟩ := hQ56
    replace E_b54 := E_b54.keep Kq56
    clear F_keys_b54
    clear F_values_b54
    clear F_used_b54
    clear F_size_b54
    clear V_ok55
    clear V_ov55
    clear V_ou55
    have Zz56 := Nat.le_trans Zz55 Kq56.1
    have Kk56 := Kk55.trans Kq56 (allS (Or.inr sz_b54) (allS (Or.inr sz_ok55) (allS (Or.inr sz_ov55) (allS (Or.inr sz_ou55) all0))))
    have E_b54 := G0
    have F_keys_b54 := G1
    have F_values_b54 := G2
    have F_used_b54 := G3
    have F_size_b54 := G4
    have V_ok55 := G5
    have V_ou55 := G6
    have V_ov55 := G7
    have I56 := own_inv_put own_inv0 (Nat.le_of_ble_eq_true rfl) q0
    generalize hks56 : (own_ks (List.replicate 16 (0 : Int32)) (List.replicate 16 (0 : Int64)) q0) = ks56 at *
    generalize hus56 : (own_us (List.replicate 16 (0 : Int32)) (List.replicate 16 (0 : Int64)) q0) = us56 at *
    generalize hwz56 : (own_sz (List.replicate 16 (0 : Int32)) (List.replicate 16 (0 : Int64)) q0 (0 : Int32)) = wz56 at *
    have N56 := Fr.app N55 Nq56
    refine go (fun t kt => st56.trans kt) ?_
    show Go p e below _ m T56 86 #[jv q0, .second, jv m1, .second, jv m7, .second, jv m9, .second, iv p4, iv (2 : Int32), rv b54, .unset, .unset] []
    refine go (fun t kt => XS.iload X56.here hx rfl (hb hby at_86) rfl kt) ?_
    show Go p e below _ m T56 88 #[jv q0, .second, jv m1, .second, jv m7, .second, jv m9, .second, iv p4, iv (2 : Int32), rv b54, .unset, .unset] [(.int (2 : Int32))]
    refine go (fun t kt => XS.iconst X56.here hx rfl (hb hby at_88) kt) ?_
    show Go p e below _ m T56 89 #[jv q0, .second, jv m1, .second, jv m7, .second, jv m9, .second, iv p4, iv (2 : Int32), rv b54, .unset, .unset] [(.int (1 : Int32)), (.int (2 : Int32))]
    refine go (fun t kt => XS.icmpNo X56.here hx rfl (hb hby at_89) rfl (tlt (by decide : ((1 : Int32) < (2 : Int32)))).2.2.2 kt) ?_
    show Go p e below _ m T56 92 #[jv q0, .second, jv m1, .second, jv m7, .second, jv m9, .second, iv p4, iv (2 : Int32), rv b54, .unset, .unset] []
    refine go (fun t kt => XS.aload X56.here hx rfl (hb hby at_92) rfl rfl kt) ?_
    show Go p e below _ m T56 94 #[jv q0, .second, jv m1, .second, jv m7, .second, jv m9, .second, iv p4, iv (2 : Int32), rv b54, .unset, .unset] [(.ref b54)]
    refine go (fun t kt => XS.lloadN X56.here hx rfl (hb hby at_94) rfl kt) ?_
    show Go p e below _ m T56 95 #[jv q0, .second, jv m1, .second, jv m7, .second, jv m9, .second, iv p4, iv (2 : Int32), rv b54, .unset, .unset] [(.long m1), (.ref b54)]
    refine go (fun t kt => XS.iconst X56.here hx rfl (hb hby at_95) kt) ?_
    show Go p e below _ m T56 96 #[jv q0, .second, jv m1, .second, jv m7, .second, jv m9, .second, iv p4, iv (2 : Int32), rv b54, .unset, .unset] [(.int (2 : Int32)), (.long m1), (.ref b54)]
    obtain ⟨cq57, kq57, q57a, q57b, q57c⟩ := isOf hZ rfl E_b54
    obtain ⟨_, _, ⟨T57, L57, k57, n57⟩, -, X57, ⟨Lc57, hQ57, l57, y57, z57⟩, st57⟩ := X56.virtualBack hx (y := (⟨"com/example/modest_tree_automata/modesttreeautomata/LongIntMap", "put", "(JI)V"⟩ : MethodName)) (z := (⟨"com/example/modest_tree_automata/modesttreeautomata/LongIntMap", "put", "(JI)V"⟩ : MethodName)) hown (mvT hZ (hw _ (List.mem_of_getElem? (i := 18) rfl))) (mvT hZ (hw _ (List.mem_of_getElem? (i := 19) rfl))) (notFace_of_selects (args := #[]) (mvT hZ (hw _ (List.mem_of_getElem? (i := 21) rfl)))) (mvT hZ (hw _ (List.mem_of_getElem? (i := 21) rfl))) (mvT hZ (hw _ (List.mem_of_getElem? (i := 20) rfl))) (by decide) (backOf (W := 0) (rm3 l Z a0 hw [] b54 m1 (2 : Int32) ok55 ov55 ou55 kk55 kv55 ku55 ks56 us56 vv56 wz56 T56.heap n0 Zz56 E_b54 F_keys_b54 F_values_b54 F_used_b54 F_size_b54 V_ok55 V_ov55 V_ou55 g_b54 g_ok55 g_ov55 g_ou55 ne_b54_ok55 ne_b54_ov55 ne_b54_ou55 ne_ok55_ov55 ne_ok55_ou55 ne_ov55_ou55 (I56).2.1 (I56).1 hvv56 (own_hsz I56 (Nat.le_of_ble_eq_true rfl)) (own_inv_stop I56 (Nat.le_of_ble_eq_true rfl) _)) hZ (hw _ (List.mem_of_getElem? (i := 22) rfl)) (hw _ (List.mem_of_getElem? (i := 2) rfl)) (by decide) (by decide)) q57a q57c (g := (mkF m 96 #[jv q0, .second, jv m1, .second, jv m7, .second, jv m9, .second, iv p4, iv (2 : Int32), rv b54, .unset, .unset] [(.int (2 : Int32)), (.long m1), (.ref b54)])) rfl (by rw [hml]; rfl) (Steps.refl _) (argsL := [(.long m1), (.int (2 : Int32))]) (rest := []) (lenOf pd_3 rfl) rfl (by show 2 * 0 + _ ≤ _; exact Nat.le_of_eq rfl) (hb hby at_96) (fun _ _ => ⟨rfl, rfl, (by decide : 4 + 0 ≤ _), (by decide : 52 + 0 ≤ _)⟩)
    dsimp only [Pt.U, Pt.locs, Pt.cells, Pt.slots] at X57 l57 y57 z57 st57 hQ57
    subst l57 y57 z57
    obtain ⟨rfl, Nq57, Kq57, G0, G1, G2, G3, G4, G5, G6, vv57, hvv57, G7⟩ := hQ57
    replace E_b54 := E_b54.keep Kq57
    clear F_keys_b54
    clear F_values_b54
    clear F_used_b54
    clear F_size_b54
    clear V_ok55
    clear V_ou55
    clear V_ov55
    have Zz57 := Nat.le_trans Zz56 Kq57.1
    have Kk57 := Kk56.trans Kq57 (allS (Or.inr sz_b54) (allS (Or.inr sz_ok55) (allS (Or.inr sz_ov55) (allS (Or.inr sz_ou55) all0))))
    have E_b54 := G0
    have F_keys_b54 := G1
    have F_values_b54 := G2
    have F_used_b54 := G3
    have F_size_b54 := G4
    have V_ok55 := G5
    have V_ou55 := G6
    have V_ov55 := G7
    have I57 := own_inv_put I56 (Nat.le_of_ble_eq_true rfl) m1
    generalize hks57 : (own_ks us56 ks56 m1) = ks57 at *
    generalize hus57 : (own_us us56 ks56 m1) = us57 at *
    generalize hwz57 : (own_sz us56 ks56 m1 wz56) = wz57 at *
    have N57 := Fr.app N56 Nq57
    refine go (fun t kt => st57.trans kt) ?_
    show Go p e below _ m T57 99 #[jv q0, .second, jv m1, .second, jv m7, .second, jv m9, .second, iv p4, iv (2 : Int32), rv b54, .unset, .unset] []
    refine go (fun t kt => XS.iload X57.here hx rfl (hb hby at_99) rfl kt) ?_
    show Go p e below _ m T57 101 #[jv q0, .second, jv m1, .second, jv m7, .second, jv m9, .second, iv p4, iv (2 : Int32), rv b54, .unset, .unset] [(.int (2 : Int32))]
    refine go (fun t kt => XS.iconst X57.here hx rfl (hb hby at_101) kt) ?_
    show Go p e below _ m T57 102 #[jv q0, .second, jv m1, .second, jv m7, .second, jv m9, .second, iv p4, iv (2 : Int32), rv b54, .unset, .unset] [(.int (2 : Int32)), (.int (2 : Int32))]
    refine go (fun t kt => XS.icmpYes X57.here hx rfl (pc0 := 102) (pc' := 113) rfl (hb hby at_102) rfl (flt (by decide : ¬ ((2 : Int32) < (2 : Int32)))).2.2.2 (by decide) (by decide) kt) ?_
    show Go p e below _ m T57 113 #[jv q0, .second, jv m1, .second, jv m7, .second, jv m9, .second, iv p4, iv (2 : Int32), rv b54, .unset, .unset] []
    refine go (fun t kt => XS.iload X57.here hx rfl (hb hby at_113) rfl kt) ?_
    show Go p e below _ m T57 115 #[jv q0, .second, jv m1, .second, jv m7, .second, jv m9, .second, iv p4, iv (2 : Int32), rv b54, .unset, .unset] [(.int (2 : Int32))]
    refine go (fun t kt => XS.iconst X57.here hx rfl (hb hby at_115) kt) ?_
    show Go p e below _ m T57 116 #[jv q0, .second, jv m1, .second, jv m7, .second, jv m9, .second, iv p4, iv (2 : Int32), rv b54, .unset, .unset] [(.int (3 : Int32)), (.int (2 : Int32))]
    refine go (fun t kt => XS.icmpYes X57.here hx rfl (pc0 := 116) (pc' := 127) rfl (hb hby at_116) rfl (flt (by decide : ¬ ((3 : Int32) < (2 : Int32)))).2.2.2 (by decide) (by decide) kt) ?_
    show Go p e below _ m T57 127 #[jv q0, .second, jv m1, .second, jv m7, .second, jv m9, .second, iv p4, iv (2 : Int32), rv b54, .unset, .unset] []
    refine go (fun t kt => XS.aload X57.here hx rfl (hb hby at_127) rfl rfl kt) ?_
    show Go p e below _ m T57 129 #[jv q0, .second, jv m1, .second, jv m7, .second, jv m9, .second, iv p4, iv (2 : Int32), rv b54, .unset, .unset] [(.ref b54)]
    obtain ⟨cq58, kq58, q58a, q58b, q58c⟩ := isOf hZ rfl E_b54
    obtain ⟨_, _, ⟨T58, L58, k58, n58⟩, -, X58, ⟨Lc58, hQ58, l58, y58, z58⟩, st58⟩ := X57.virtualBack hx (y := (⟨"com/example/modest_tree_automata/modesttreeautomata/LongIntMap", "keys", "()[J"⟩ : MethodName)) (z := (⟨"com/example/modest_tree_automata/modesttreeautomata/LongIntMap", "keys", "()[J"⟩ : MethodName)) hown (mvT hZ (hw _ (List.mem_of_getElem? (i := 29) rfl))) (mvT hZ (hw _ (List.mem_of_getElem? (i := 30) rfl))) (notFace_of_selects (args := #[]) (mvT hZ (hw _ (List.mem_of_getElem? (i := 32) rfl)))) (mvT hZ (hw _ (List.mem_of_getElem? (i := 32) rfl))) (mvT hZ (hw _ (List.mem_of_getElem? (i := 31) rfl))) (by decide) (backOf (W := 0) (rm5 l Z a0 hw [] b54 ok55 ou55 kk55 ku55 ks57 us57 wz57 T57.heap n0 Zz57 F_keys_b54 F_used_b54 F_size_b54 V_ok55 V_ou55 (I57).2.1 (I57).1 (I57).2.2.1 (Nat.le_trans (I57).2.2.2.1 (Nat.le_of_ble_eq_true rfl))) hZ (hw _ (List.mem_of_getElem? (i := 33) rfl)) (hw _ (List.mem_of_getElem? (i := 2) rfl)) (by decide) (by decide)) q58a q58c (g := (mkF m 129 #[jv q0, .second, jv m1, .second, jv m7, .second, jv m9, .second, iv p4, iv (2 : Int32), rv b54, .unset, .unset] [(.ref b54)])) rfl (by rw [hml]; rfl) (Steps.refl _) (argsL := []) (rest := []) (lenOf pd_2 rfl) rfl (by show 2 * 0 + _ ≤ _; exact Nat.le_of_eq rfl) (hb hby at_129) (fun _ _ => ⟨rfl, rfl, (by decide : 4 + 1 ≤ _), (by decide : 52 + 4 ≤ _)⟩)
    dsimp only [Pt.U, Pt.locs, Pt.cells, Pt.slots] at X58 l58 y58 z58 st58 hQ58
    subst l58 y58 z58
    obtain ⟨b58, g58⟩ : ∃ z, z = T57.heap.size := ⟨_, rfl⟩
    have ne_b54_b58 : b54 ≠ b58 := Nat.ne_of_lt (Nat.lt_of_lt_of_le E_b54.lt (Nat.le_of_eq g58.symm))
    have ne_ok55_b58 : ok55 ≠ b58 := Nat.ne_of_lt (Nat.lt_of_lt_of_le V_ok55.lt (Nat.le_of_eq g58.symm))
    have ne_ou55_b58 : ou55 ≠ b58 := Nat.ne_of_lt (Nat.lt_of_lt_of_le V_ou55.lt (Nat.le_of_eq g58.symm))
    have ne_ov55_b58 : ov55 ≠ b58 := Nat.ne_of_lt (Nat.lt_of_lt_of_le V_ov55.lt (Nat.le_of_eq g58.symm))
    have g_b58 : n0 ≤ b58 := Nat.le_trans Zz57 (Nat.le_of_eq g58.symm)
    have sz_b58 : h0.size ≤ b58 := Nat.le_trans Kk57.1 (Nat.le_of_eq g58.symm)
    obtain ⟨rfl, Nq58, Kq58, k58_, Vq58⟩ := hQ58
    rw [← g58] at Vq58 st58
    replace E_b54 := E_b54.keep Kq58
    replace F_keys_b54 := F_keys_b54.keep Kq58 nin0
    replace F_values_b54 := F_values_b54.keep Kq58 nin0
    replace F_used_b54 := F_used_b54.keep Kq58 nin0
    replace F_size_b54 := F_size_b54.keep Kq58 nin0
    replace V_ok55 := V_ok55.keep Kq58 nin0
    replace V_ou55 := V_ou55.keep Kq58 nin0
    replace V_ov55 := V_ov55.keep Kq58 nin0
    have Zz58 := Nat.le_trans Zz57 Kq58.1
    have Kk58 := Kk57.trans Kq58 all0
    have hnd := own_inv_nodup I57
    have hmem := (I57).2.2.2.2.2
    have hwz := (I57).2.2.1
    have hlen := (I57).2.2.2.1
    generalize hL : own_Lp us57 ks57 16 = LL at *
    have V_b58 := Vq58
    have N58 := Fr.app N57 Nq58
    refine go (fun t kt => st58.trans kt) ?_
    show Go p e below _ m T58 132 #[jv q0, .second, jv m1, .second, jv m7, .second, jv m9, .second, iv p4, iv (2 : Int32), rv b54, .unset, .unset] [(.ref b58)]
    refine go (fun t kt => XS.astore X58.here hx rfl (hb hby at_132) rfl rfl (l' := #[jv q0, .second, jv m1, .second, jv m7, .second, jv m9, .second, iv p4, iv (2 : Int32), rv b54, rv b58, .unset]) rfl kt) ?_
    show Go p e below _ m T58 134 #[jv q0, .second, jv m1, .second, jv m7, .second, jv m9, .second, iv p4, iv (2 : Int32), rv b54, rv b58, .unset] []
    refine go (fun t kt => XS.iconst X58.here hx rfl (hb hby at_134) kt) ?_
    show Go p e below _ m T58 135 #[jv q0, .second, jv m1, .second, jv m7, .second, jv m9, .second, iv p4, iv (2 : Int32), rv b54, rv b58, .unset] [(.int (0 : Int32))]
    refine go (fun t kt => XS.istore X58.here hx rfl (hb hby at_135) rfl (l' := #[jv q0, .second, jv m1, .second, jv m7, .second, jv m9, .second, iv p4, iv (2 : Int32), rv b54, rv b58, iv (0 : Int32)]) rfl kt) ?_
    show Go p e below _ m T58 137 #[jv q0, .second, jv m1, .second, jv m7, .second, jv m9, .second, iv p4, iv (2 : Int32), rv b54, rv b58, iv (0 : Int32)] []
    refine go (fun t kt => XS.iload X58.here hx rfl (hb hby at_137) rfl kt) ?_
    show Go p e below _ m T58 139 #[jv q0, .second, jv m1, .second, jv m7, .second, jv m9, .second, iv p4, iv (2 : Int32), rv b54, rv b58, iv (0 : Int32)] [(.int (2 : Int32))]
    refine go (fun t kt => XS.ifNo X58.here hx rfl (hb hby at_139) rfl ((if0 _ _).trans (tlt (by decide : ((0 : Int32) < (2 : Int32)))).2.2.2) kt) ?_
    show Go p e below _ m T58 142 #[jv q0, .second, jv m1, .second, jv m7, .second, jv m9, .second, iv p4, iv (2 : Int32), rv b54, rv b58, iv (0 : Int32)] []
    refine go (fun t kt => XS.iinc X58.here hx rfl (hb hby at_142) rfl (l' := #[jv q0, .second, jv m1, .second, jv m7, .second, jv m9, .second, iv p4, iv (2 : Int32), rv b54, rv b58, iv ((0 : Int32) + (1 : Int32))]) rfl kt) ?_
    show Go p e below _ m T58 145 #[jv q0, .second, jv m1, .second, jv m7, .second, jv m9, .second, iv p4, iv (2 : Int32), rv b54, rv b58, iv ((0 : Int32) + (1 : Int32))] []
    refine go (fun t kt => XS.iload X58.here hx rfl (hb hby at_145) rfl kt) ?_
    show Go p e below _ m T58 147 #[jv q0, .second, jv m1, .second, jv m7, .second, jv m9, .second, iv p4, iv (2 : Int32), rv b54, rv b58, iv ((0 : Int32) + (1 : Int32))] [(.int (2 : Int32))]
    refine go (fun t kt => XS.iconst X58.here hx rfl (hb hby at_147) kt) ?_
    show Go p e below _ m T58 148 #[jv q0, .second, jv m1, .second, jv m7, .second, jv m9, .second, iv p4, iv (2 : Int32), rv b54, rv b58, iv ((0 : Int32) + (1 : Int32))] [(.int (1 : Int32)), (.int (2 : Int32))]
    refine go (fun t kt => XS.icmpNo X58.here hx rfl (hb hby at_148) rfl (tlt (by decide : ((1 : Int32) < (2 : Int32)))).2.2.2 kt) ?_
    show Go p e below _ m T58 151 #[jv q0, .second, jv m1, .second, jv m7, .second, jv m9, .second, iv p4, iv (2 : Int32), rv b54, rv b58, iv ((0 : Int32) + (1 : Int32))] []
    refine go (fun t kt => XS.lloadN X58.here hx rfl (hb hby at_151) rfl kt) ?_
    show Go p e below _ m T58 152 #[jv q0, .second, jv m1, .second, jv m7, .second, jv m9, .second, iv p4, iv (2 : Int32), rv b54, rv b58, iv ((0 : Int32) + (1 : Int32))] [(.long m1)]
    refine go (fun t kt => XS.lloadN X58.here hx rfl (hb hby at_152) rfl kt) ?_
    show Go p e below _ m T58 153 #[jv q0, .second, jv m1, .second, jv m7, .second, jv m9, .second, iv p4, iv (2 : Int32), rv b54, rv b58, iv ((0 : Int32) + (1 : Int32))] [(.long q0), (.long m1)]
    refine go (fun t kt => XS.lcmp X58.here hx rfl (hb hby at_153) rfl kt) ?_
    show Go p e below _ m T58 154 #[jv q0, .second, jv m1, .second, jv m7, .second, jv m9, .second, iv p4, iv (2 : Int32), rv b54, rv b58, iv ((0 : Int32) + (1 : Int32))] [(.int (lcmpW m1 q0))]
    suffices KK : ∀ (m59 : Int32), m59 = (if m1 = q0 then ((0 : Int32) + (1 : Int32)) else (((0 : Int32) + (1 : Int32)) + (1 : Int32))) → Goes p.tables e below (fun s₂ o => ∃ v L, o = .returned v ∧ Q0 Z q0 q1 q2 q3 p4 h0 n0 v s₂.heap L ∧ FrameEnd s o s₂ L 5 56) (T58.setTop (mkF m 160 #[jv q0, .second, jv m1, .second, jv m7, .second, jv m9, .second, iv p4, iv (2 : Int32), rv b54, rv b58, iv m59] [])) by
      by_cases hc60 : m1 = q0
      ·
        refine go (fun t kt => XS.ifYes X58.here hx rfl (pc0 := 154) (pc' := 160) rfl (hb hby at_154) rfl ((if0 _ _).trans (teq ((lw_eq m1 q0).mpr hc60)).1) (by decide) (by decide) kt) ?_
        show Go p e below _ m T58 160 #[jv q0, .second, jv m1, .second, jv m7, .second, jv m9, .second, iv p4, iv (2 : Int32), rv b54, rv b58, iv ((0 : Int32) + (1 : Int32))] []
        exact KK _ (by rw [if_pos hc60])
      ·
        refine go (fun t kt => XS.ifNo X58.here hx rfl (hb hby at_154) rfl ((if0 _ _).trans (feq (fun q => hc60 ((lw_eq m1 q0).mp q))).1) kt) ?_
        show Go p e below _ m T58 157 #[jv q0, .second, jv m1, .second, jv m7, .second, jv m9, .second, iv p4, iv (2 : Int32), rv b54, rv b58, iv ((0 : Int32) + (1 : Int32))] []
        refine go (fun t kt => XS.iinc X58.here hx rfl (hb hby at_157) rfl (l' := #[jv q0, .second, jv m1, .second, jv m7, .second, jv m9, .second, iv p4, iv (2 : Int32), rv b54, rv b58, iv (((0 : Int32) + (1 : Int32)) + (1 : Int32))]) rfl kt) ?_
        show Go p e below _ m T58 160 #[jv q0, .second, jv m1, .second, jv m7, .second, jv m9, .second, iv p4, iv (2 : Int32), rv b54, rv b58, iv (((0 : Int32) + (1 : Int32)) + (1 : Int32))] []
        exact KK _ (by rw [if_neg hc60])
    intro m59 hm59
    show Go p e below _ m T58 160 #[jv q0, .second, jv m1, .second, jv m7, .second, jv m9, .second, iv p4, iv (2 : Int32), rv b54, rv b58, iv m59] []
    refine go (fun t kt => XS.iload X58.here hx rfl (hb hby at_160) rfl kt) ?_
    show Go p e below _ m T58 162 #[jv q0, .second, jv m1, .second, jv m7, .second, jv m9, .second, iv p4, iv (2 : Int32), rv b54, rv b58, iv m59] [(.int (2 : Int32))]
    refine go (fun t kt => XS.iconst X58.here hx rfl (hb hby at_162) kt) ?_
    show Go p e below _ m T58 163 #[jv q0, .second, jv m1, .second, jv m7, .second, jv m9, .second, iv p4, iv (2 : Int32), rv b54, rv b58, iv m59] [(.int (2 : Int32)), (.int (2 : Int32))]
    refine go (fun t kt => XS.icmpYes X58.here hx rfl (pc0 := 163) (pc' := 183) rfl (hb hby at_163) rfl (flt (by decide : ¬ ((2 : Int32) < (2 : Int32)))).2.2.2 (by decide) (by decide) kt) ?_
    show Go p e below _ m T58 183 #[jv q0, .second, jv m1, .second, jv m7, .second, jv m9, .second, iv p4, iv (2 : Int32), rv b54, rv b58, iv m59] []
    refine go (fun t kt => XS.iload X58.here hx rfl (hb hby at_183) rfl kt) ?_
    show Go p e below _ m T58 185 #[jv q0, .second, jv m1, .second, jv m7, .second, jv m9, .second, iv p4, iv (2 : Int32), rv b54, rv b58, iv m59] [(.int (2 : Int32))]
    refine go (fun t kt => XS.iconst X58.here hx rfl (hb hby at_185) kt) ?_
    show Go p e below _ m T58 186 #[jv q0, .second, jv m1, .second, jv m7, .second, jv m9, .second, iv p4, iv (2 : Int32), rv b54, rv b58, iv m59] [(.int (3 : Int32)), (.int (2 : Int32))]
    refine go (fun t kt => XS.icmpYes X58.here hx rfl (pc0 := 186) (pc' := 214) rfl (hb hby at_186) rfl (flt (by decide : ¬ ((3 : Int32) < (2 : Int32)))).2.2.2 (by decide) (by decide) kt) ?_
    show Go p e below _ m T58 214 #[jv q0, .second, jv m1, .second, jv m7, .second, jv m9, .second, iv p4, iv (2 : Int32), rv b54, rv b58, iv m59] []
    refine go (fun t kt => XS.aload X58.here hx rfl (hb hby at_214) rfl rfl kt) ?_
    show Go p e below _ m T58 216 #[jv q0, .second, jv m1, .second, jv m7, .second, jv m9, .second, iv p4, iv (2 : Int32), rv b54, rv b58, iv m59] [(.ref b58)]
    obtain ⟨cl61, Ar61, qc61, S61, M61, H61, G61⟩ := id V_b58
    refine go (X58.arraylength hx Ar61.1 (State.isArrayOf_alike hZ.alike Ar61.2.1) (g := (mkF m 216 #[jv q0, .second, jv m1, .second, jv m7, .second, jv m9, .second, iv p4, iv (2 : Int32), rv b54, rv b58, iv m59] [(.ref b58)])) rfl rfl (hb hby at_216)) ?_
    rw [len_of S61 M61]
    show Go p e below _ m T58 217 #[jv q0, .second, jv m1, .second, jv m7, .second, jv m9, .second, iv p4, iv (2 : Int32), rv b54, rv b58, iv m59] [(.int wz57)]
    refine go (fun t kt => XS.iload X58.here hx rfl (hb hby at_217) rfl kt) ?_
    show Go p e below _ m T58 219 #[jv q0, .second, jv m1, .second, jv m7, .second, jv m9, .second, iv p4, iv (2 : Int32), rv b54, rv b58, iv m59] [(.int m59), (.int wz57)]
    refine go (fun t kt => XS.icmpYes X58.here hx rfl (pc0 := 219) (pc' := 224) rfl (hb hby at_219) rfl (teq (own_cnt (own_q2 q0 m1 _ hm59) hwz hnd hmem)).1 (by decide) (by decide) kt) ?_
    show Go p e below _ m T58 224 #[jv q0, .second, jv m1, .second, jv m7, .second, jv m9, .second, iv p4, iv (2 : Int32), rv b54, rv b58, iv m59] []
    refine go (fun t kt => XS.iload X58.here hx rfl (hb hby at_224) rfl kt) ?_
    show Go p e below _ m T58 226 #[jv q0, .second, jv m1, .second, jv m7, .second, jv m9, .second, iv p4, iv (2 : Int32), rv b54, rv b58, iv m59] [(.int (2 : Int32))]
    refine go (fun t kt => XS.ifNo X58.here hx rfl (hb hby at_226) rfl ((if0 _ _).trans (tlt (by decide : ((0 : Int32) < (2 : Int32)))).2.2.2) kt) ?_
    show Go p e below _ m T58 229 #[jv q0, .second, jv m1, .second, jv m7, .second, jv m9, .second, iv p4, iv (2 : Int32), rv b54, rv b58, iv m59] []
    refine go (fun t kt => XS.aload X58.here hx rfl (hb hby at_229) rfl rfl kt) ?_
    show Go p e below _ m T58 231 #[jv q0, .second, jv m1, .second, jv m7, .second, jv m9, .second, iv p4, iv (2 : Int32), rv b54, rv b58, iv m59] [(.ref b58)]
    refine go (fun t kt => XS.lloadN X58.here hx rfl (hb hby at_231) rfl kt) ?_
    show Go p e below _ m T58 232 #[jv q0, .second, jv m1, .second, jv m7, .second, jv m9, .second, iv p4, iv (2 : Int32), rv b54, rv b58, iv m59] [(.long q0), (.ref b58)]
    obtain ⟨_, _, ⟨T62, L62, k62, n62⟩, -, X62, ⟨Lc62, hQ62, l62, y62, z62⟩, st62⟩ := Jvm.LawKit.callS X58 hx (y := (⟨"com/example/modest_tree_automata/modesttreeautomata/LongIntMapKeysPinLaw", "has", "([JJ)Z"⟩ : MethodName)) hown (mvT hZ (hw _ (List.mem_of_getElem? (i := 34) rfl))) (mvT hZ (hw _ (List.mem_of_getElem? (i := 35) rfl))) (mvT hZ (hw _ (List.mem_of_getElem? (i := 36) rfl))) (mvT hZ (hw _ (List.mem_of_getElem? (i := 37) rfl))) (by decide) (backOf (W := 0) (rm6 l Z a0 hw [] b58 q0 k58_ wz57 LL (LL.getD 0 0) (LL.getD 1 0) (LL.getD 2 0) (LL.getD 3 0) T58.heap n0 Zz58 V_b58 (own_getJ LL 0) (own_getJ LL 1) (own_getJ LL 2) (own_getJ LL 3)) hZ (hw _ (List.mem_of_getElem? (i := 37) rfl)) (hw _ (List.mem_of_getElem? (i := 36) rfl)) (by decide) (by decide)) (g := (mkF m 232 #[jv q0, .second, jv m1, .second, jv m7, .second, jv m9, .second, iv p4, iv (2 : Int32), rv b54, rv b58, iv m59] [(.long q0), (.ref b58)])) rfl (by rw [hml]; rfl) (argsL := [(.ref b58), (.long q0)]) (rest := []) (lenOf pd_4 rfl) rfl (by show 2 * 0 + _ ≤ _; exact Nat.le_of_eq rfl) (hb hby at_232) (fun _ _ => ⟨rfl, rfl, (by decide : 5 + 0 ≤ _), (by decide : 56 + 0 ≤ _)⟩)
    dsimp only [Pt.U, Pt.locs, Pt.cells, Pt.slots] at X62 l62 y62 z62 st62 hQ62
    subst l62 y62 z62
    obtain ⟨rfl, Nq62, e62⟩ := hQ62
    have N62 := Fr.app N58 Nq62
    refine go st62 ?_
    show Go p e below _ m T62 235 #[jv q0, .second, jv m1, .second, jv m7, .second, jv m9, .second, iv p4, iv (2 : Int32), rv b54, rv b58, iv m59] [(.int (own_has q0 wz57 (LL.getD 0 0) (LL.getD 1 0) (LL.getD 2 0) (LL.getD 3 0)))]
    refine go (fun t kt => XS.ifYes X62.here hx rfl (pc0 := 235) (pc' := 240) rfl (hb hby at_235) rfl ((if0 _ _).trans (feq (own_has_in hwz (Nat.le_trans hlen (Nat.le_of_ble_eq_true rfl)) _ ((hmem _).mpr (by simp)))).2) (by decide) (by decide) kt) ?_
    show Go p e below _ m T62 240 #[jv q0, .second, jv m1, .second, jv m7, .second, jv m9, .second, iv p4, iv (2 : Int32), rv b54, rv b58, iv m59] []
    refine go (fun t kt => XS.iload X62.here hx rfl (hb hby at_240) rfl kt) ?_
    show Go p e below _ m T62 242 #[jv q0, .second, jv m1, .second, jv m7, .second, jv m9, .second, iv p4, iv (2 : Int32), rv b54, rv b58, iv m59] [(.int (2 : Int32))]
    refine go (fun t kt => XS.iconst X62.here hx rfl (hb hby at_242) kt) ?_
    show Go p e below _ m T62 243 #[jv q0, .second, jv m1, .second, jv m7, .second, jv m9, .second, iv p4, iv (2 : Int32), rv b54, rv b58, iv m59] [(.int (1 : Int32)), (.int (2 : Int32))]
    refine go (fun t kt => XS.icmpNo X62.here hx rfl (hb hby at_243) rfl (tlt (by decide : ((1 : Int32) < (2 : Int32)))).2.2.2 kt) ?_
    show Go p e below _ m T62 246 #[jv q0, .second, jv m1, .second, jv m7, .second, jv m9, .second, iv p4, iv (2 : Int32), rv b54, rv b58, iv m59] []
    refine go (fun t kt => XS.aload X62.here hx rfl (hb hby at_246) rfl rfl kt) ?_
    show Go p e below _ m T62 248 #[jv q0, .second, jv m1, .second, jv m7, .second, jv m9, .second, iv p4, iv (2 : Int32), rv b54, rv b58, iv m59] [(.ref b58)]
    refine go (fun t kt => XS.lloadN X62.here hx rfl (hb hby at_248) rfl kt) ?_
    show Go p e below _ m T62 249 #[jv q0, .second, jv m1, .second, jv m7, .second, jv m9, .second, iv p4, iv (2 : Int32), rv b54, rv b58, iv m59] [(.long m1), (.ref b58)]
    obtain ⟨_, _, ⟨T63, L63, k63, n63⟩, -, X63, ⟨Lc63, hQ63, l63, y63, z63⟩, st63⟩ := Jvm.LawKit.callS X62 hx (y := (⟨"com/example/modest_tree_automata/modesttreeautomata/LongIntMapKeysPinLaw", "has", "([JJ)Z"⟩ : MethodName)) hown (mvT hZ (hw _ (List.mem_of_getElem? (i := 34) rfl))) (mvT hZ (hw _ (List.mem_of_getElem? (i := 35) rfl))) (mvT hZ (hw _ (List.mem_of_getElem? (i := 36) rfl))) (mvT hZ (hw _ (List.mem_of_getElem? (i := 37) rfl))) (by decide) (backOf (W := 0) (rm6 l Z a0 hw [] b58 m1 k58_ wz57 LL (LL.getD 0 0) (LL.getD 1 0) (LL.getD 2 0) (LL.getD 3 0) T58.heap n0 Zz58 V_b58 (own_getJ LL 0) (own_getJ LL 1) (own_getJ LL 2) (own_getJ LL 3)) hZ (hw _ (List.mem_of_getElem? (i := 37) rfl)) (hw _ (List.mem_of_getElem? (i := 36) rfl)) (by decide) (by decide)) (g := (mkF m 249 #[jv q0, .second, jv m1, .second, jv m7, .second, jv m9, .second, iv p4, iv (2 : Int32), rv b54, rv b58, iv m59] [(.long m1), (.ref b58)])) rfl (by rw [hml]; rfl) (argsL := [(.ref b58), (.long m1)]) (rest := []) (lenOf pd_4 rfl) rfl (by show 2 * 0 + _ ≤ _; exact Nat.le_of_eq rfl) (hb hby at_249) (fun _ _ => ⟨rfl, e62, (by decide : 5 + 0 ≤ _), (by decide : 56 + 0 ≤ _)⟩)
    dsimp only [Pt.U, Pt.locs, Pt.cells, Pt.slots] at X63 l63 y63 z63 st63 hQ63
    subst l63 y63 z63
    obtain ⟨rfl, Nq63, e63⟩ := hQ63
    have N63 := Fr.app N62 Nq63
    refine go st63 ?_
    show Go p e below _ m T63 252 #[jv q0, .second, jv m1, .second, jv m7, .second, jv m9, .second, iv p4, iv (2 : Int32), rv b54, rv b58, iv m59] [(.int (own_has m1 wz57 (LL.getD 0 0) (LL.getD 1 0) (LL.getD 2 0) (LL.getD 3 0)))]
    refine go (fun t kt => XS.ifYes X63.here hx rfl (pc0 := 252) (pc' := 257) rfl (hb hby at_252) rfl ((if0 _ _).trans (feq (own_has_in hwz (Nat.le_trans hlen (Nat.le_of_ble_eq_true rfl)) _ ((hmem _).mpr (by simp)))).2) (by decide) (by decide) kt) ?_
    show Go p e below _ m T63 257 #[jv q0, .second, jv m1, .second, jv m7, .second, jv m9, .second, iv p4, iv (2 : Int32), rv b54, rv b58, iv m59] []
    refine go (fun t kt => XS.iload X63.here hx rfl (hb hby at_257) rfl kt) ?_
    show Go p e below _ m T63 259 #[jv q0, .second, jv m1, .second, jv m7, .second, jv m9, .second, iv p4, iv (2 : Int32), rv b54, rv b58, iv m59] [(.int (2 : Int32))]
    refine go (fun t kt => XS.iconst X63.here hx rfl (hb hby at_259) kt) ?_
    show Go p e below _ m T63 260 #[jv q0, .second, jv m1, .second, jv m7, .second, jv m9, .second, iv p4, iv (2 : Int32), rv b54, rv b58, iv m59] [(.int (2 : Int32)), (.int (2 : Int32))]
    refine go (fun t kt => XS.icmpYes X63.here hx rfl (pc0 := 260) (pc' := 275) rfl (hb hby at_260) rfl (flt (by decide : ¬ ((2 : Int32) < (2 : Int32)))).2.2.2 (by decide) (by decide) kt) ?_
    show Go p e below _ m T63 275 #[jv q0, .second, jv m1, .second, jv m7, .second, jv m9, .second, iv p4, iv (2 : Int32), rv b54, rv b58, iv m59] []
    refine go (fun t kt => XS.iload X63.here hx rfl (hb hby at_275) rfl kt) ?_
    show Go p e below _ m T63 277 #[jv q0, .second, jv m1, .second, jv m7, .second, jv m9, .second, iv p4, iv (2 : Int32), rv b54, rv b58, iv m59] [(.int (2 : Int32))]
    refine go (fun t kt => XS.iconst X63.here hx rfl (hb hby at_277) kt) ?_
    show Go p e below _ m T63 278 #[jv q0, .second, jv m1, .second, jv m7, .second, jv m9, .second, iv p4, iv (2 : Int32), rv b54, rv b58, iv m59] [(.int (3 : Int32)), (.int (2 : Int32))]
    refine go (fun t kt => XS.icmpYes X63.here hx rfl (pc0 := 278) (pc' := 293) rfl (hb hby at_278) rfl (flt (by decide : ¬ ((3 : Int32) < (2 : Int32)))).2.2.2 (by decide) (by decide) kt) ?_
    show Go p e below _ m T63 293 #[jv q0, .second, jv m1, .second, jv m7, .second, jv m9, .second, iv p4, iv (2 : Int32), rv b54, rv b58, iv m59] []
    refine go (fun t kt => XS.aload X63.here hx rfl (hb hby at_293) rfl rfl kt) ?_
    show Go p e below _ m T63 295 #[jv q0, .second, jv m1, .second, jv m7, .second, jv m9, .second, iv p4, iv (2 : Int32), rv b54, rv b58, iv m59] [(.ref b58)]
    obtain ⟨cl64, Ar64, qc64, S64, M64, H64, G64⟩ := id V_b58
    refine go (X63.arraylength hx (by rw [e63]; exact Ar64.1) (State.isArrayOf_alike hZ.alike Ar64.2.1) (g := (mkF m 295 #[jv q0, .second, jv m1, .second, jv m7, .second, jv m9, .second, iv p4, iv (2 : Int32), rv b54, rv b58, iv m59] [(.ref b58)])) rfl rfl (hb hby at_295)) ?_
    rw [len_of S64 M64]
    show Go p e below _ m T63 296 #[jv q0, .second, jv m1, .second, jv m7, .second, jv m9, .second, iv p4, iv (2 : Int32), rv b54, rv b58, iv m59] [(.int wz57)]
    by_cases hc65 : (0 : Int32) < wz57
    ·
      refine go (fun t kt => XS.ifNo X63.here hx rfl (hb hby at_296) rfl ((if0 _ _).trans (tlt hc65).2.2.2) kt) ?_
      show Go p e below _ m T63 299 #[jv q0, .second, jv m1, .second, jv m7, .second, jv m9, .second, iv p4, iv (2 : Int32), rv b54, rv b58, iv m59] []
      refine go (fun t kt => XS.aload X63.here hx rfl (hb hby at_299) rfl rfl kt) ?_
      show Go p e below _ m T63 301 #[jv q0, .second, jv m1, .second, jv m7, .second, jv m9, .second, iv p4, iv (2 : Int32), rv b54, rv b58, iv m59] [(.ref b58)]
      refine go (fun t kt => XS.iconst X63.here hx rfl (hb hby at_301) kt) ?_
      show Go p e below _ m T63 302 #[jv q0, .second, jv m1, .second, jv m7, .second, jv m9, .second, iv p4, iv (2 : Int32), rv b54, rv b58, iv m59] [(.int (0 : Int32)), (.ref b58)]
      obtain ⟨cl66, Ar66, qc66, S66, M66, H66, G66⟩ := id V_b58
      have hin66 : ¬ ((0 : Int32) < 0 ∨ cl66.slots.size ≤ ((0 : Int32)).toNatClampNeg) := inb_of S66 ⟨by decide, hc65⟩
      have hat66 : cl66.slots[((0 : Int32)).toNatClampNeg]? = some (.long (LL.getD 0 0)) := H66.at hin66 (own_getJ LL 0)
      refine go (X63.laload hx (j := (0 : Int32)) (v := (.long (LL.getD 0 0))) (by rw [e63]; exact Ar66.1) (State.isArrayOf_alike hZ.alike Ar66.2.1) Ar66.2.2 hin66 hat66 (g := (mkF m 302 #[jv q0, .second, jv m1, .second, jv m7, .second, jv m9, .second, iv p4, iv (2 : Int32), rv b54, rv b58, iv m59] [(.int (0 : Int32)), (.ref b58)])) rfl rfl (hb hby at_302)) ?_
      show Go p e below _ m T63 303 #[jv q0, .second, jv m1, .second, jv m7, .second, jv m9, .second, iv p4, iv (2 : Int32), rv b54, rv b58, iv m59] [(.long (LL.getD 0 0))]
      refine go (fun t kt => XS.iload X63.here hx rfl (hb hby at_303) rfl kt) ?_
      show Go p e below _ m T63 305 #[jv q0, .second, jv m1, .second, jv m7, .second, jv m9, .second, iv p4, iv (2 : Int32), rv b54, rv b58, iv m59] [(.int (2 : Int32)), (.long (LL.getD 0 0))]
      refine go (fun t kt => XS.lloadN X63.here hx rfl (hb hby at_305) rfl kt) ?_
      show Go p e below _ m T63 306 #[jv q0, .second, jv m1, .second, jv m7, .second, jv m9, .second, iv p4, iv (2 : Int32), rv b54, rv b58, iv m59] [(.long q0), (.int (2 : Int32)), (.long (LL.getD 0 0))]
      refine go (fun t kt => XS.lloadN X63.here hx rfl (hb hby at_306) rfl kt) ?_
      show Go p e below _ m T63 307 #[jv q0, .second, jv m1, .second, jv m7, .second, jv m9, .second, iv p4, iv (2 : Int32), rv b54, rv b58, iv m59] [(.long m1), (.long q0), (.int (2 : Int32)), (.long (LL.getD 0 0))]
      refine go (fun t kt => XS.lload X63.here hx rfl (hb hby at_307) rfl kt) ?_
      show Go p e below _ m T63 309 #[jv q0, .second, jv m1, .second, jv m7, .second, jv m9, .second, iv p4, iv (2 : Int32), rv b54, rv b58, iv m59] [(.long m7), (.long m1), (.long q0), (.int (2 : Int32)), (.long (LL.getD 0 0))]
      refine go (fun t kt => XS.lload X63.here hx rfl (hb hby at_309) rfl kt) ?_
      show Go p e below _ m T63 311 #[jv q0, .second, jv m1, .second, jv m7, .second, jv m9, .second, iv p4, iv (2 : Int32), rv b54, rv b58, iv m59] [(.long m9), (.long m7), (.long m1), (.long q0), (.int (2 : Int32)), (.long (LL.getD 0 0))]
      obtain ⟨_, _, ⟨T67, L67, k67, n67⟩, -, X67, ⟨Lc67, hQ67, l67, y67, z67⟩, st67⟩ := Jvm.LawKit.callS X63 hx (y := (⟨"com/example/modest_tree_automata/modesttreeautomata/LongIntMapKeysPinLaw", "isInput", "(JIJJJJ)Z"⟩ : MethodName)) hown (mvT hZ (hw _ (List.mem_of_getElem? (i := 38) rfl))) (mvT hZ (hw _ (List.mem_of_getElem? (i := 39) rfl))) (mvT hZ (hw _ (List.mem_of_getElem? (i := 36) rfl))) (mvT hZ (hw _ (List.mem_of_getElem? (i := 40) rfl))) (by decide) (backOf (W := 0) (rm7 l Z a0 hw [] (LL.getD 0 0) (2 : Int32) q0 m1 m7 m9 T58.heap n0 Zz58 ) hZ (hw _ (List.mem_of_getElem? (i := 40) rfl)) (hw _ (List.mem_of_getElem? (i := 36) rfl)) (by decide) (by decide)) (g := (mkF m 311 #[jv q0, .second, jv m1, .second, jv m7, .second, jv m9, .second, iv p4, iv (2 : Int32), rv b54, rv b58, iv m59] [(.long m9), (.long m7), (.long m1), (.long q0), (.int (2 : Int32)), (.long (LL.getD 0 0))])) rfl (by rw [hml]; rfl) (argsL := [(.long (LL.getD 0 0)), (.int (2 : Int32)), (.long q0), (.long m1), (.long m7), (.long m9)]) (rest := []) (lenOf pd_5 rfl) rfl (by show 2 * 0 + _ ≤ _; exact Nat.le_of_eq rfl) (hb hby at_311) (fun _ _ => ⟨rfl, e63, (by decide : 5 + 0 ≤ _), (by decide : 56 + 0 ≤ _)⟩)
      dsimp only [Pt.U, Pt.locs, Pt.cells, Pt.slots] at X67 l67 y67 z67 st67 hQ67
      subst l67 y67 z67
      obtain ⟨rfl, Nq67, e67⟩ := hQ67
      have N67 := Fr.app N63 Nq67
      refine go st67 ?_
      show Go p e below _ m T67 314 #[jv q0, .second, jv m1, .second, jv m7, .second, jv m9, .second, iv p4, iv (2 : Int32), rv b54, rv b58, iv m59] [(.int (own_inp (LL.getD 0 0) (2 : Int32) q0 m1 m7 m9))]
      refine go (fun t kt => XS.ifYes X67.here hx rfl (pc0 := 314) (pc' := 319) rfl (hb hby at_314) rfl ((if0 _ _).trans (feq (own_in2 _ _ _ _ _ ((hmem _).mp (own_gm hwz (Nat.le_trans hlen (Nat.le_of_ble_eq_true rfl)) (0 : Int32) 0 rfl hc65)))).2) (by decide) (by decide) kt) ?_
      show Go p e below _ m T67 319 #[jv q0, .second, jv m1, .second, jv m7, .second, jv m9, .second, iv p4, iv (2 : Int32), rv b54, rv b58, iv m59] []
      refine go (fun t kt => XS.aload X67.here hx rfl (hb hby at_319) rfl rfl kt) ?_
      show Go p e below _ m T67 321 #[jv q0, .second, jv m1, .second, jv m7, .second, jv m9, .second, iv p4, iv (2 : Int32), rv b54, rv b58, iv m59] [(.ref b58)]
      obtain ⟨cl68, Ar68, qc68, S68, M68, H68, G68⟩ := id V_b58
      refine go (X67.arraylength hx (by rw [e67]; exact Ar68.1) (State.isArrayOf_alike hZ.alike Ar68.2.1) (g := (mkF m 321 #[jv q0, .second, jv m1, .second, jv m7, .second, jv m9, .second, iv p4, iv (2 : Int32), rv b54, rv b58, iv m59] [(.ref b58)])) rfl rfl (hb hby at_321)) ?_
      rw [len_of S68 M68]
      show Go p e below _ m T67 322 #[jv q0, .second, jv m1, .second, jv m7, .second, jv m9, .second, iv p4, iv (2 : Int32), rv b54, rv b58, iv m59] [(.int wz57)]
      refine go (fun t kt => XS.iconst X67.here hx rfl (hb hby at_322) kt) ?_
      show Go p e below _ m T67 323 #[jv q0, .second, jv m1, .second, jv m7, .second, jv m9, .second, iv p4, iv (2 : Int32), rv b54, rv b58, iv m59] [(.int (1 : Int32)), (.int wz57)]
      by_cases hc69 : (1 : Int32) < wz57
      ·
        refine go (fun t kt => XS.icmpNo X67.here hx rfl (hb hby at_323) rfl (tlt hc69).2.2.2 kt) ?_
        show Go p e below _ m T67 326 #[jv q0, .second, jv m1, .second, jv m7, .second, jv m9, .second, iv p4, iv (2 : Int32), rv b54, rv b58, iv m59] []
        refine go (fun t kt => XS.aload X67.here hx rfl (hb hby at_326) rfl rfl kt) ?_
        show Go p e below _ m T67 328 #[jv q0, .second, jv m1, .second, jv m7, .second, jv m9, .second, iv p4, iv (2 : Int32), rv b54, rv b58, iv m59] [(.ref b58)]
        refine go (fun t kt => XS.iconst X67.here hx rfl (hb hby at_328) kt) ?_
        show Go p e below _ m T67 329 #[jv q0, .second, jv m1, .second, jv m7, .second, jv m9, .second, iv p4, iv (2 : Int32), rv b54, rv b58, iv m59] [(.int (1 : Int32)), (.ref b58)]
        obtain ⟨cl70, Ar70, qc70, S70, M70, H70, G70⟩ := id V_b58
        have hin70 : ¬ ((1 : Int32) < 0 ∨ cl70.slots.size ≤ ((1 : Int32)).toNatClampNeg) := inb_of S70 ⟨by decide, hc69⟩
        have hat70 : cl70.slots[((1 : Int32)).toNatClampNeg]? = some (.long (LL.getD 1 0)) := H70.at hin70 (own_getJ LL 1)
        refine go (X67.laload hx (j := (1 : Int32)) (v := (.long (LL.getD 1 0))) (by rw [e67]; exact Ar70.1) (State.isArrayOf_alike hZ.alike Ar70.2.1) Ar70.2.2 hin70 hat70 (g := (mkF m 329 #[jv q0, .second, jv m1, .second, jv m7, .second, jv m9, .second, iv p4, iv (2 : Int32), rv b54, rv b58, iv m59] [(.int (1 : Int32)), (.ref b58)])) rfl rfl (hb hby at_329)) ?_
        show Go p e below _ m T67 330 #[jv q0, .second, jv m1, .second, jv m7, .second, jv m9, .second, iv p4, iv (2 : Int32), rv b54, rv b58, iv m59] [(.long (LL.getD 1 0))]
        refine go (fun t kt => XS.iload X67.here hx rfl (hb hby at_330) rfl kt) ?_
        show Go p e below _ m T67 332 #[jv q0, .second, jv m1, .second, jv m7, .second, jv m9, .second, iv p4, iv (2 : Int32), rv b54, rv b58, iv m59] [(.int (2 : Int32)), (.long (LL.getD 1 0))]
        refine go (fun t kt => XS.lloadN X67.here hx rfl (hb hby at_332) rfl kt) ?_
        show Go p e below _ m T67 333 #[jv q0, .second, jv m1, .second, jv m7, .second, jv m9, .second, iv p4, iv (2 : Int32), rv b54, rv b58, iv m59] [(.long q0), (.int (2 : Int32)), (.long (LL.getD 1 0))]
        refine go (fun t kt => XS.lloadN X67.here hx rfl (hb hby at_333) rfl kt) ?_
        show Go p e below _ m T67 334 #[jv q0, .second, jv m1, .second, jv m7, .second, jv m9, .second, iv p4, iv (2 : Int32), rv b54, rv b58, iv m59] [(.long m1), (.long q0), (.int (2 : Int32)), (.long (LL.getD 1 0))]
        refine go (fun t kt => XS.lload X67.here hx rfl (hb hby at_334) rfl kt) ?_
        show Go p e below _ m T67 336 #[jv q0, .second, jv m1, .second, jv m7, .second, jv m9, .second, iv p4, iv (2 : Int32), rv b54, rv b58, iv m59] [(.long m7), (.long m1), (.long q0), (.int (2 : Int32)), (.long (LL.getD 1 0))]
        refine go (fun t kt => XS.lload X67.here hx rfl (hb hby at_336) rfl kt) ?_
        show Go p e below _ m T67 338 #[jv q0, .second, jv m1, .second, jv m7, .second, jv m9, .second, iv p4, iv (2 : Int32), rv b54, rv b58, iv m59] [(.long m9), (.long m7), (.long m1), (.long q0), (.int (2 : Int32)), (.long (LL.getD 1 0))]
        obtain ⟨_, _, ⟨T71, L71, k71, n71⟩, -, X71, ⟨Lc71, hQ71, l71, y71, z71⟩, st71⟩ := Jvm.LawKit.callS X67 hx (y := (⟨"com/example/modest_tree_automata/modesttreeautomata/LongIntMapKeysPinLaw", "isInput", "(JIJJJJ)Z"⟩ : MethodName)) hown (mvT hZ (hw _ (List.mem_of_getElem? (i := 38) rfl))) (mvT hZ (hw _ (List.mem_of_getElem? (i := 39) rfl))) (mvT hZ (hw _ (List.mem_of_getElem? (i := 36) rfl))) (mvT hZ (hw _ (List.mem_of_getElem? (i := 40) rfl))) (by decide) (backOf (W := 0) (rm7 l Z a0 hw [] (LL.getD 1 0) (2 : Int32) q0 m1 m7 m9 T58.heap n0 Zz58 ) hZ (hw _ (List.mem_of_getElem? (i := 40) rfl)) (hw _ (List.mem_of_getElem? (i := 36) rfl)) (by decide) (by decide)) (g := (mkF m 338 #[jv q0, .second, jv m1, .second, jv m7, .second, jv m9, .second, iv p4, iv (2 : Int32), rv b54, rv b58, iv m59] [(.long m9), (.long m7), (.long m1), (.long q0), (.int (2 : Int32)), (.long (LL.getD 1 0))])) rfl (by rw [hml]; rfl) (argsL := [(.long (LL.getD 1 0)), (.int (2 : Int32)), (.long q0), (.long m1), (.long m7), (.long m9)]) (rest := []) (lenOf pd_5 rfl) rfl (by show 2 * 0 + _ ≤ _; exact Nat.le_of_eq rfl) (hb hby at_338) (fun _ _ => ⟨rfl, e67, (by decide : 5 + 0 ≤ _), (by decide : 56 + 0 ≤ _)⟩)
        dsimp only [Pt.U, Pt.locs, Pt.cells, Pt.slots] at X71 l71 y71 z71 st71 hQ71
        subst l71 y71 z71
        obtain ⟨rfl, Nq71, e71⟩ := hQ71
        have N71 := Fr.app N67 Nq71
        refine go st71 ?_
        show Go p e below _ m T71 341 #[jv q0, .second, jv m1, .second, jv m7, .second, jv m9, .second, iv p4, iv (2 : Int32), rv b54, rv b58, iv m59] [(.int (own_inp (LL.getD 1 0) (2 : Int32) q0 m1 m7 m9))]
        refine go (fun t kt => XS.ifYes X71.here hx rfl (pc0 := 341) (pc' := 346) rfl (hb hby at_341) rfl ((if0 _ _).trans (feq (own_in2 _ _ _ _ _ ((hmem _).mp (own_gm hwz (Nat.le_trans hlen (Nat.le_of_ble_eq_true rfl)) (1 : Int32) 1 rfl hc69)))).2) (by decide) (by decide) kt) ?_
        show Go p e below _ m T71 346 #[jv q0, .second, jv m1, .second, jv m7, .second, jv m9, .second, iv p4, iv (2 : Int32), rv b54, rv b58, iv m59] []
        refine go (fun t kt => XS.aload X71.here hx rfl (hb hby at_346) rfl rfl kt) ?_
        show Go p e below _ m T71 348 #[jv q0, .second, jv m1, .second, jv m7, .second, jv m9, .second, iv p4, iv (2 : Int32), rv b54, rv b58, iv m59] [(.ref b58)]
        obtain ⟨cl72, Ar72, qc72, S72, M72, H72, G72⟩ := id V_b58
        refine go (X71.arraylength hx (by rw [e71]; exact Ar72.1) (State.isArrayOf_alike hZ.alike Ar72.2.1) (g := (mkF m 348 #[jv q0, .second, jv m1, .second, jv m7, .second, jv m9, .second, iv p4, iv (2 : Int32), rv b54, rv b58, iv m59] [(.ref b58)])) rfl rfl (hb hby at_348)) ?_
        rw [len_of S72 M72]
        show Go p e below _ m T71 349 #[jv q0, .second, jv m1, .second, jv m7, .second, jv m9, .second, iv p4, iv (2 : Int32), rv b54, rv b58, iv m59] [(.int wz57)]
        refine go (fun t kt => XS.iconst X71.here hx rfl (hb hby at_349) kt) ?_
        show Go p e below _ m T71 350 #[jv q0, .second, jv m1, .second, jv m7, .second, jv m9, .second, iv p4, iv (2 : Int32), rv b54, rv b58, iv m59] [(.int (2 : Int32)), (.int wz57)]
        by_cases hc73 : (2 : Int32) < wz57
        ·
          refine go (fun t kt => XS.icmpNo X71.here hx rfl (hb hby at_350) rfl (tlt hc73).2.2.2 kt) ?_
          show Go p e below _ m T71 353 #[jv q0, .second, jv m1, .second, jv m7, .second, jv m9, .second, iv p4, iv (2 : Int32), rv b54, rv b58, iv m59] []
          refine go (fun t kt => XS.aload X71.here hx rfl (hb hby at_353) rfl rfl kt) ?_
          show Go p e below _ m T71 355 #[jv q0, .second, jv m1, .second, jv m7, .second, jv m9, .second, iv p4, iv (2 : Int32), rv b54, rv b58, iv m59] [(.ref b58)]
          refine go (fun t kt => XS.iconst X71.here hx rfl (hb hby at_355) kt) ?_
          show Go p e below _ m T71 356 #[jv q0, .second, jv m1, .second, jv m7, .second, jv m9, .second, iv p4, iv (2 : Int32), rv b54, rv b58, iv m59] [(.int (2 : Int32)), (.ref b58)]
          obtain ⟨cl74, Ar74, qc74, S74, M74, H74, G74⟩ := id V_b58
          have hin74 : ¬ ((2 : Int32) < 0 ∨ cl74.slots.size ≤ ((2 : Int32)).toNatClampNeg) := inb_of S74 ⟨by decide, hc73⟩
          have hat74 : cl74.slots[((2 : Int32)).toNatClampNeg]? = some (.long (LL.getD 2 0)) := H74.at hin74 (own_getJ LL 2)
          refine go (X71.laload hx (j := (2 : Int32)) (v := (.long (LL.getD 2 0))) (by rw [e71]; exact Ar74.1) (State.isArrayOf_alike hZ.alike Ar74.2.1) Ar74.2.2 hin74 hat74 (g := (mkF m 356 #[jv q0, .second, jv m1, .second, jv m7, .second, jv m9, .second, iv p4, iv (2 : Int32), rv b54, rv b58, iv m59] [(.int (2 : Int32)), (.ref b58)])) rfl rfl (hb hby at_356)) ?_
          show Go p e below _ m T71 357 #[jv q0, .second, jv m1, .second, jv m7, .second, jv m9, .second, iv p4, iv (2 : Int32), rv b54, rv b58, iv m59] [(.long (LL.getD 2 0))]
          refine go (fun t kt => XS.iload X71.here hx rfl (hb hby at_357) rfl kt) ?_
          show Go p e below _ m T71 359 #[jv q0, .second, jv m1, .second, jv m7, .second, jv m9, .second, iv p4, iv (2 : Int32), rv b54, rv b58, iv m59] [(.int (2 : Int32)), (.long (LL.getD 2 0))]
          refine go (fun t kt => XS.lloadN X71.here hx rfl (hb hby at_359) rfl kt) ?_
          show Go p e below _ m T71 360 #[jv q0, .second, jv m1, .second, jv m7, .second, jv m9, .second, iv p4, iv (2 : Int32), rv b54, rv b58, iv m59] [(.long q0), (.int (2 : Int32)), (.long (LL.getD 2 0))]
          refine go (fun t kt => XS.lloadN X71.here hx rfl (hb hby at_360) rfl kt) ?_
          show Go p e below _ m T71 361 #[jv q0, .second, jv m1, .second, jv m7, .second, jv m9, .second, iv p4, iv (2 : Int32), rv b54, rv b58, iv m59] [(.long m1), (.long q0), (.int (2 : Int32)), (.long (LL.getD 2 0))]
          refine go (fun t kt => XS.lload X71.here hx rfl (hb hby at_361) rfl kt) ?_
          show Go p e below _ m T71 363 #[jv q0, .second, jv m1, .second, jv m7, .second, jv m9, .second, iv p4, iv (2 : Int32), rv b54, rv b58, iv m59] [(.long m7), (.long m1), (.long q0), (.int (2 : Int32)), (.long (LL.getD 2 0))]
          refine go (fun t kt => XS.lload X71.here hx rfl (hb hby at_363) rfl kt) ?_
          show Go p e below _ m T71 365 #[jv q0, .second, jv m1, .second, jv m7, .second, jv m9, .second, iv p4, iv (2 : Int32), rv b54, rv b58, iv m59] [(.long m9), (.long m7), (.long m1), (.long q0), (.int (2 : Int32)), (.long (LL.getD 2 0))]
          obtain ⟨_, _, ⟨T75, L75, k75, n75⟩, -, X75, ⟨Lc75, hQ75, l75, y75, z75⟩, st75⟩ := Jvm.LawKit.callS X71 hx (y := (⟨"com/example/modest_tree_automata/modesttreeautomata/LongIntMapKeysPinLaw", "isInput", "(JIJJJJ)Z"⟩ : MethodName)) hown (mvT hZ (hw _ (List.mem_of_getElem? (i := 38) rfl))) (mvT hZ (hw _ (List.mem_of_getElem? (i := 39) rfl))) (mvT hZ (hw _ (List.mem_of_getElem? (i := 36) rfl))) (mvT hZ (hw _ (List.mem_of_getElem? (i := 40) rfl))) (by decide) (backOf (W := 0) (rm7 l Z a0 hw [] (LL.getD 2 0) (2 : Int32) q0 m1 m7 m9 T58.heap n0 Zz58 ) hZ (hw _ (List.mem_of_getElem? (i := 40) rfl)) (hw _ (List.mem_of_getElem? (i := 36) rfl)) (by decide) (by decide)) (g := (mkF m 365 #[jv q0, .second, jv m1, .second, jv m7, .second, jv m9, .second, iv p4, iv (2 : Int32), rv b54, rv b58, iv m59] [(.long m9), (.long m7), (.long m1), (.long q0), (.int (2 : Int32)), (.long (LL.getD 2 0))])) rfl (by rw [hml]; rfl) (argsL := [(.long (LL.getD 2 0)), (.int (2 : Int32)), (.long q0), (.long m1), (.long m7), (.long m9)]) (rest := []) (lenOf pd_5 rfl) rfl (by show 2 * 0 + _ ≤ _; exact Nat.le_of_eq rfl) (hb hby at_365) (fun _ _ => ⟨rfl, e71, (by decide : 5 + 0 ≤ _), (by decide : 56 + 0 ≤ _)⟩)
          dsimp only [Pt.U, Pt.locs, Pt.cells, Pt.slots] at X75 l75 y75 z75 st75 hQ75
          subst l75 y75 z75
          obtain ⟨rfl, Nq75, e75⟩ := hQ75
          have N75 := Fr.app N71 Nq75
          refine go st75 ?_
          show Go p e below _ m T75 368 #[jv q0, .second, jv m1, .second, jv m7, .second, jv m9, .second, iv p4, iv (2 : Int32), rv b54, rv b58, iv m59] [(.int (own_inp (LL.getD 2 0) (2 : Int32) q0 m1 m7 m9))]
          refine go (fun t kt => XS.ifYes X75.here hx rfl (pc0 := 368) (pc' := 373) rfl (hb hby at_368) rfl ((if0 _ _).trans (feq (own_in2 _ _ _ _ _ ((hmem _).mp (own_gm hwz (Nat.le_trans hlen (Nat.le_of_ble_eq_true rfl)) (2 : Int32) 2 rfl hc73)))).2) (by decide) (by decide) kt) ?_
          show Go p e below _ m T75 373 #[jv q0, .second, jv m1, .second, jv m7, .second, jv m9, .second, iv p4, iv (2 : Int32), rv b54, rv b58, iv m59] []
          refine go (fun t kt => XS.aload X75.here hx rfl (hb hby at_373) rfl rfl kt) ?_
          show Go p e below _ m T75 375 #[jv q0, .second, jv m1, .second, jv m7, .second, jv m9, .second, iv p4, iv (2 : Int32), rv b54, rv b58, iv m59] [(.ref b58)]
          obtain ⟨cl76, Ar76, qc76, S76, M76, H76, G76⟩ := id V_b58
          refine go (X75.arraylength hx (by rw [e75]; exact Ar76.1) (State.isArrayOf_alike hZ.alike Ar76.2.1) (g := (mkF m 375 #[jv q0, .second, jv m1, .second, jv m7, .second, jv m9, .second, iv p4, iv (2 : Int32), rv b54, rv b58, iv m59] [(.ref b58)])) rfl rfl (hb hby at_375)) ?_
          rw [len_of S76 M76]
          show Go p e below _ m T75 376 #[jv q0, .second, jv m1, .second, jv m7, .second, jv m9, .second, iv p4, iv (2 : Int32), rv b54, rv b58, iv m59] [(.int wz57)]
          refine go (fun t kt => XS.iconst X75.here hx rfl (hb hby at_376) kt) ?_
          show Go p e below _ m T75 377 #[jv q0, .second, jv m1, .second, jv m7, .second, jv m9, .second, iv p4, iv (2 : Int32), rv b54, rv b58, iv m59] [(.int (3 : Int32)), (.int wz57)]
          by_cases hc77 : (3 : Int32) < wz57
          ·
            refine go (fun t kt => XS.icmpNo X75.here hx rfl (hb hby at_377) rfl (tlt hc77).2.2.2 kt) ?_
            show Go p e below _ m T75 380 #[jv q0, .second, jv m1, .second, jv m7, .second, jv m9, .second, iv p4, iv (2 : Int32), rv b54, rv b58, iv m59] []
            refine go (fun t kt => XS.aload X75.here hx rfl (hb hby at_380) rfl rfl kt) ?_
            show Go p e below _ m T75 382 #[jv q0, .second, jv m1, .second, jv m7, .second, jv m9, .second, iv p4, iv (2 : Int32), rv b54, rv b58, iv m59] [(.ref b58)]
            refine go (fun t kt => XS.iconst X75.here hx rfl (hb hby at_382) kt) ?_
            show Go p e below _ m T75 383 #[jv q0, .second, jv m1, .second, jv m7, .second, jv m9, .second, iv p4, iv (2 : Int32), rv b54, rv b58, iv m59] [(.int (3 : Int32)), (.ref b58)]
            obtain ⟨cl78, Ar78, qc78, S78, M78, H78, G78⟩ := id V_b58
            have hin78 : ¬ ((3 : Int32) < 0 ∨ cl78.slots.size ≤ ((3 : Int32)).toNatClampNeg) := inb_of S78 ⟨by decide, hc77⟩
            have hat78 : cl78.slots[((3 : Int32)).toNatClampNeg]? = some (.long (LL.getD 3 0)) := H78.at hin78 (own_getJ LL 3)
            refine go (X75.laload hx (j := (3 : Int32)) (v := (.long (LL.getD 3 0))) (by rw [e75]; exact Ar78.1) (State.isArrayOf_alike hZ.alike Ar78.2.1) Ar78.2.2 hin78 hat78 (g := (mkF m 383 #[jv q0, .second, jv m1, .second, jv m7, .second, jv m9, .second, iv p4, iv (2 : Int32), rv b54, rv b58, iv m59] [(.int (3 : Int32)), (.ref b58)])) rfl rfl (hb hby at_383)) ?_
            show Go p e below _ m T75 384 #[jv q0, .second, jv m1, .second, jv m7, .second, jv m9, .second, iv p4, iv (2 : Int32), rv b54, rv b58, iv m59] [(.long (LL.getD 3 0))]
            refine go (fun t kt => XS.iload X75.here hx rfl (hb hby at_384) rfl kt) ?_
            show Go p e below _ m T75 386 #[jv q0, .second, jv m1, .second, jv m7, .second, jv m9, .second, iv p4, iv (2 : Int32), rv b54, rv b58, iv m59] [(.int (2 : Int32)), (.long (LL.getD 3 0))]
            refine go (fun t kt => XS.lloadN X75.here hx rfl (hb hby at_386) rfl kt) ?_
            show Go p e below _ m T75 387 #[jv q0, .second, jv m1, .second, jv m7, .second, jv m9, .second, iv p4, iv (2 : Int32), rv b54, rv b58, iv m59] [(.long q0), (.int (2 : Int32)), (.long (LL.getD 3 0))]
            refine go (fun t kt => XS.lloadN X75.here hx rfl (hb hby at_387) rfl kt) ?_
            show Go p e below _ m T75 388 #[jv q0, .second, jv m1, .second, jv m7, .second, jv m9, .second, iv p4, iv (2 : Int32), rv b54, rv b58, iv m59] [(.long m1), (.long q0), (.int (2 : Int32)), (.long (LL.getD 3 0))]
            refine go (fun t kt => XS.lload X75.here hx rfl (hb hby at_388) rfl kt) ?_
            show Go p e below _ m T75 390 #[jv q0, .second, jv m1, .second, jv m7, .second, jv m9, .second, iv p4, iv (2 : Int32), rv b54, rv b58, iv m59] [(.long m7), (.long m1), (.long q0), (.int (2 : Int32)), (.long (LL.getD 3 0))]
            refine go (fun t kt => XS.lload X75.here hx rfl (hb hby at_390) rfl kt) ?_
            show Go p e below _ m T75 392 #[jv q0, .second, jv m1, .second, jv m7, .second, jv m9, .second, iv p4, iv (2 : Int32), rv b54, rv b58, iv m59] [(.long m9), (.long m7), (.long m1), (.long q0), (.int (2 : Int32)), (.long (LL.getD 3 0))]
            obtain ⟨_, _, ⟨T79, L79, k79, n79⟩, -, X79, ⟨Lc79, hQ79, l79, y79, z79⟩, st79⟩ := Jvm.LawKit.callS X75 hx (y := (⟨"com/example/modest_tree_automata/modesttreeautomata/LongIntMapKeysPinLaw", "isInput", "(JIJJJJ)Z"⟩ : MethodName)) hown (mvT hZ (hw _ (List.mem_of_getElem? (i := 38) rfl))) (mvT hZ (hw _ (List.mem_of_getElem? (i := 39) rfl))) (mvT hZ (hw _ (List.mem_of_getElem? (i := 36) rfl))) (mvT hZ (hw _ (List.mem_of_getElem? (i := 40) rfl))) (by decide) (backOf (W := 0) (rm7 l Z a0 hw [] (LL.getD 3 0) (2 : Int32) q0 m1 m7 m9 T58.heap n0 Zz58 ) hZ (hw _ (List.mem_of_getElem? (i := 40) rfl)) (hw _ (List.mem_of_getElem? (i := 36) rfl)) (by decide) (by decide)) (g := (mkF m 392 #[jv q0, .second, jv m1, .second, jv m7, .second, jv m9, .second, iv p4, iv (2 : Int32), rv b54, rv b58, iv m59] [(.long m9), (.long m7), (.long m1), (.long q0), (.int (2 : Int32)), (.long (LL.getD 3 0))])) rfl (by rw [hml]; rfl) (argsL := [(.long (LL.getD 3 0)), (.int (2 : Int32)), (.long q0), (.long m1), (.long m7), (.long m9)]) (rest := []) (lenOf pd_5 rfl) rfl (by show 2 * 0 + _ ≤ _; exact Nat.le_of_eq rfl) (hb hby at_392) (fun _ _ => ⟨rfl, e75, (by decide : 5 + 0 ≤ _), (by decide : 56 + 0 ≤ _)⟩)
            dsimp only [Pt.U, Pt.locs, Pt.cells, Pt.slots] at X79 l79 y79 z79 st79 hQ79
            subst l79 y79 z79
            obtain ⟨rfl, Nq79, e79⟩ := hQ79
            have N79 := Fr.app N75 Nq79
            refine go st79 ?_
            show Go p e below _ m T79 395 #[jv q0, .second, jv m1, .second, jv m7, .second, jv m9, .second, iv p4, iv (2 : Int32), rv b54, rv b58, iv m59] [(.int (own_inp (LL.getD 3 0) (2 : Int32) q0 m1 m7 m9))]
            refine go (fun t kt => XS.ifYes X79.here hx rfl (pc0 := 395) (pc' := 400) rfl (hb hby at_395) rfl ((if0 _ _).trans (feq (own_in2 _ _ _ _ _ ((hmem _).mp (own_gm hwz (Nat.le_trans hlen (Nat.le_of_ble_eq_true rfl)) (3 : Int32) 3 rfl hc77)))).2) (by decide) (by decide) kt) ?_
            show Go p e below _ m T79 400 #[jv q0, .second, jv m1, .second, jv m7, .second, jv m9, .second, iv p4, iv (2 : Int32), rv b54, rv b58, iv m59] []
            refine go (fun t kt => XS.iconst X79.here hx rfl (hb hby at_400) kt) ?_
            show Go p e below _ m T79 401 #[jv q0, .second, jv m1, .second, jv m7, .second, jv m9, .second, iv p4, iv (2 : Int32), rv b54, rv b58, iv m59] [(.int (1 : Int32))]
            obtain ⟨fs, hr, hrun, hended, hW, hsame⟩ := X79.leave (v := some (.int (1 : Int32))) (fun h => by rw [Bd.returns] at h; cases h)
            refine ⟨_, _, retN X79 hx (t := .boolean) Bd.returns (by simp) (hb hby at_401) hr, hrun, hended, _, _, rfl, ?_, ⟨_, rfl⟩, hW, hsame.mono (by decide) (by decide)⟩
            show Q0 Z q0 q1 q2 q3 p4 h0 n0 _ T79.heap _
            rw [e79]
            exact ⟨rfl, N79⟩
          ·
            refine go (fun t kt => XS.icmpYes X75.here hx rfl (pc0 := 377) (pc' := 400) rfl (hb hby at_377) rfl (flt hc77).2.2.2 (by decide) (by decide) kt) ?_
            show Go p e below _ m T75 400 #[jv q0, .second, jv m1, .second, jv m7, .second, jv m9, .second, iv p4, iv (2 : Int32), rv b54, rv b58, iv m59] []
            refine go (fun t kt => XS.iconst X75.here hx rfl (hb hby at_400) kt) ?_
            show Go p e below _ m T75 401 #[jv q0, .second, jv m1, .second, jv m7, .second, jv m9, .second, iv p4, iv (2 : Int32), rv b54, rv b58, iv m59] [(.int (1 : Int32))]
            obtain ⟨fs, hr, hrun, hended, hW, hsame⟩ := X75.leave (v := some (.int (1 : Int32))) (fun h => by rw [Bd.returns] at h; cases h)
            refine ⟨_, _, retN X75 hx (t := .boolean) Bd.returns (by simp) (hb hby at_401) hr, hrun, hended, _, _, rfl, ?_, ⟨_, rfl⟩, hW, hsame.mono (by decide) (by decide)⟩
            show Q0 Z q0 q1 q2 q3 p4 h0 n0 _ T75.heap _
            rw [e75]
            exact ⟨rfl, N75⟩
        ·
          refine go (fun t kt => XS.icmpYes X71.here hx rfl (pc0 := 350) (pc' := 373) rfl (hb hby at_350) rfl (flt hc73).2.2.2 (by decide) (by decide) kt) ?_
          show Go p e below _ m T71 373 #[jv q0, .second, jv m1, .second, jv m7, .second, jv m9, .second, iv p4, iv (2 : Int32), rv b54, rv b58, iv m59] []
          refine go (fun t kt => XS.aload X71.here hx rfl (hb hby at_373) rfl rfl kt) ?_
          show Go p e below _ m T71 375 #[jv q0, .second, jv m1, .second, jv m7, .second, jv m9, .second, iv p4, iv (2 : Int32), rv b54, rv b58, iv m59] [(.ref b58)]
          obtain ⟨cl82, Ar82, qc82, S82, M82, H82, G82⟩ := id V_b58
          refine go (X71.arraylength hx (by rw [e71]; exact Ar82.1) (State.isArrayOf_alike hZ.alike Ar82.2.1) (g := (mkF m 375 #[jv q0, .second, jv m1, .second, jv m7, .second, jv m9, .second, iv p4, iv (2 : Int32), rv b54, rv b58, iv m59] [(.ref b58)])) rfl rfl (hb hby at_375)) ?_
          rw [len_of S82 M82]
          show Go p e below _ m T71 376 #[jv q0, .second, jv m1, .second, jv m7, .second, jv m9, .second, iv p4, iv (2 : Int32), rv b54, rv b58, iv m59] [(.int wz57)]
          refine go (fun t kt => XS.iconst X71.here hx rfl (hb hby at_376) kt) ?_
          show Go p e below _ m T71 377 #[jv q0, .second, jv m1, .second, jv m7, .second, jv m9, .second, iv p4, iv (2 : Int32), rv b54, rv b58, iv m59] [(.int (3 : Int32)), (.int wz57)]
          refine go (fun t kt => XS.icmpYes X71.here hx rfl (pc0 := 377) (pc' := 400) rfl (hb hby at_377) rfl (flt (own_nl hc73 (by decide))).2.2.2 (by decide) (by decide) kt) ?_
          show Go p e below _ m T71 400 #[jv q0, .second, jv m1, .second, jv m7, .second, jv m9, .second, iv p4, iv (2 : Int32), rv b54, rv b58, iv m59] []
          refine go (fun t kt => XS.iconst X71.here hx rfl (hb hby at_400) kt) ?_
          show Go p e below _ m T71 401 #[jv q0, .second, jv m1, .second, jv m7, .second, jv m9, .second, iv p4, iv (2 : Int32), rv b54, rv b58, iv m59] [(.int (1 : Int32))]
          obtain ⟨fs, hr, hrun, hended, hW, hsame⟩ := X71.leave (v := some (.int (1 : Int32))) (fun h => by rw [Bd.returns] at h; cases h)
          refine ⟨_, _, retN X71 hx (t := .boolean) Bd.returns (by simp) (hb hby at_401) hr, hrun, hended, _, _, rfl, ?_, ⟨_, rfl⟩, hW, hsame.mono (by decide) (by decide)⟩
          show Q0 Z q0 q1 q2 q3 p4 h0 n0 _ T71.heap _
          rw [e71]
          exact ⟨rfl, N71⟩
      ·
        refine go (fun t kt => XS.icmpYes X67.here hx rfl (pc0 := 323) (pc' := 346) rfl (hb hby at_323) rfl (flt hc69).2.2.2 (by decide) (by decide) kt) ?_
        show Go p e below _ m T67 346 #[jv q0, .second, jv m1, .second, jv m7, .second, jv m9, .second, iv p4, iv (2 : Int32), rv b54, rv b58, iv m59] []
        refine go (fun t kt => XS.aload X67.here hx rfl (hb hby at_346) rfl rfl kt) ?_
        show Go p e below _ m T67 348 #[jv q0, .second, jv m1, .second, jv m7, .second, jv m9, .second, iv p4, iv (2 : Int32), rv b54, rv b58, iv m59] [(.ref b58)]
        obtain ⟨cl84, Ar84, qc84, S84, M84, H84, G84⟩ := id V_b58
        refine go (X67.arraylength hx (by rw [e67]; exact Ar84.1) (State.isArrayOf_alike hZ.alike Ar84.2.1) (g := (mkF m 348 #[jv q0, .second, jv m1, .second, jv m7, .second, jv m9, .second, iv p4, iv (2 : Int32), rv b54, rv b58, iv m59] [(.ref b58)])) rfl rfl (hb hby at_348)) ?_
        rw [len_of S84 M84]
        show Go p e below _ m T67 349 #[jv q0, .second, jv m1, .second, jv m7, .second, jv m9, .second, iv p4, iv (2 : Int32), rv b54, rv b58, iv m59] [(.int wz57)]
        refine go (fun t kt => XS.iconst X67.here hx rfl (hb hby at_349) kt) ?_
        show Go p e below _ m T67 350 #[jv q0, .second, jv m1, .second, jv m7, .second, jv m9, .second, iv p4, iv (2 : Int32), rv b54, rv b58, iv m59] [(.int (2 : Int32)), (.int wz57)]
        refine go (fun t kt => XS.icmpYes X67.here hx rfl (pc0 := 350) (pc' := 373) rfl (hb hby at_350) rfl (flt (own_nl hc69 (by decide))).2.2.2 (by decide) (by decide) kt) ?_
        show Go p e below _ m T67 373 #[jv q0, .second, jv m1, .second, jv m7, .second, jv m9, .second, iv p4, iv (2 : Int32), rv b54, rv b58, iv m59] []
        refine go (fun t kt => XS.aload X67.here hx rfl (hb hby at_373) rfl rfl kt) ?_
        show Go p e below _ m T67 375 #[jv q0, .second, jv m1, .second, jv m7, .second, jv m9, .second, iv p4, iv (2 : Int32), rv b54, rv b58, iv m59] [(.ref b58)]
        obtain ⟨cl85, Ar85, qc85, S85, M85, H85, G85⟩ := id V_b58
        refine go (X67.arraylength hx (by rw [e67]; exact Ar85.1) (State.isArrayOf_alike hZ.alike Ar85.2.1) (g := (mkF m 375 #[jv q0, .second, jv m1, .second, jv m7, .second, jv m9, .second, iv p4, iv (2 : Int32), rv b54, rv b58, iv m59] [(.ref b58)])) rfl rfl (hb hby at_375)) ?_
        rw [len_of S85 M85]
        show Go p e below _ m T67 376 #[jv q0, .second, jv m1, .second, jv m7, .second, jv m9, .second, iv p4, iv (2 : Int32), rv b54, rv b58, iv m59] [(.int wz57)]
        refine go (fun t kt => XS.iconst X67.here hx rfl (hb hby at_376) kt) ?_
        show Go p e below _ m T67 377 #[jv q0, .second, jv m1, .second, jv m7, .second, jv m9, .second, iv p4, iv (2 : Int32), rv b54, rv b58, iv m59] [(.int (3 : Int32)), (.int wz57)]
        refine go (fun t kt => XS.icmpYes X67.here hx rfl (pc0 := 377) (pc' := 400) rfl (hb hby at_377) rfl (flt (own_nl hc69 (by decide))).2.2.2 (by decide) (by decide) kt) ?_
        show Go p e below _ m T67 400 #[jv q0, .second, jv m1, .second, jv m7, .second, jv m9, .second, iv p4, iv (2 : Int32), rv b54, rv b58, iv m59] []
        refine go (fun t kt => XS.iconst X67.here hx rfl (hb hby at_400) kt) ?_
        show Go p e below _ m T67 401 #[jv q0, .second, jv m1, .second, jv m7, .second, jv m9, .second, iv p4, iv (2 : Int32), rv b54, rv b58, iv m59] [(.int (1 : Int32))]
        obtain ⟨fs, hr, hrun, hended, hW, hsame⟩ := X67.leave (v := some (.int (1 : Int32))) (fun h => by rw [Bd.returns] at h; cases h)
        refine ⟨_, _, retN X67 hx (t := .boolean) Bd.returns (by simp) (hb hby at_401) hr, hrun, hended, _, _, rfl, ?_, ⟨_, rfl⟩, hW, hsame.mono (by decide) (by decide)⟩
        show Q0 Z q0 q1 q2 q3 p4 h0 n0 _ T67.heap _
        rw [e67]
        exact ⟨rfl, N67⟩
    ·
      refine go (fun t kt => XS.ifYes X63.here hx rfl (pc0 := 296) (pc' := 319) rfl (hb hby at_296) rfl ((if0 _ _).trans (flt hc65).2.2.2) (by decide) (by decide) kt) ?_
      show Go p e below _ m T63 319 #[jv q0, .second, jv m1, .second, jv m7, .second, jv m9, .second, iv p4, iv (2 : Int32), rv b54, rv b58, iv m59] []
      refine go (fun t kt => XS.aload X63.here hx rfl (hb hby at_319) rfl rfl kt) ?_
      show Go p e below _ m T63 321 #[jv q0, .second, jv m1, .second, jv m7, .second, jv m9, .second, iv p4, iv (2 : Int32), rv b54, rv b58, iv m59] [(.ref b58)]
      obtain ⟨cl87, Ar87, qc87, S87, M87, H87, G87⟩ := id V_b58
      refine go (X63.arraylength hx (by rw [e63]; exact Ar87.1) (State.isArrayOf_alike hZ.alike Ar87.2.1) (g := (mkF m 321 #[jv q0, .second, jv m1, .second, jv m7, .second, jv m9, .second, iv p4, iv (2 : Int32), rv b54, rv b58, iv m59] [(.ref b58)])) rfl rfl (hb hby at_321)) ?_
      rw [len_of S87 M87]
      show Go p e below _ m T63 322 #[jv q0, .second, jv m1, .second, jv m7, .second, jv m9, .second, iv p4, iv (2 : Int32), rv b54, rv b58, iv m59] [(.int wz57)]
      refine go (fun t kt => XS.iconst X63.here hx rfl (hb hby at_322) kt) ?_
      show Go p e below _ m T63 323 #[jv q0, .second, jv m1, .second, jv m7, .second, jv m9, .second, iv p4, iv (2 : Int32), rv b54, rv b58, iv m59] [(.int (1 : Int32)), (.int wz57)]
      refine go (fun t kt => XS.icmpYes X63.here hx rfl (pc0 := 323) (pc' := 346) rfl (hb hby at_323) rfl (flt (own_nl hc65 (by decide))).2.2.2 (by decide) (by decide) kt) ?_
      show Go p e below _ m T63 346 #[jv q0, .second, jv m1, .second, jv m7, .second, jv m9, .second, iv p4, iv (2 : Int32), rv b54, rv b58, iv m59] []
      refine go (fun t kt => XS.aload X63.here hx rfl (hb hby at_346) rfl rfl kt) ?_
      show Go p e below _ m T63 348 #[jv q0, .second, jv m1, .second, jv m7, .second, jv m9, .second, iv p4, iv (2 : Int32), rv b54, rv b58, iv m59] [(.ref b58)]
      obtain ⟨cl88, Ar88, qc88, S88, M88, H88, G88⟩ := id V_b58
      refine go (X63.arraylength hx (by rw [e63]; exact Ar88.1) (State.isArrayOf_alike hZ.alike Ar88.2.1) (g := (mkF m 348 #[jv q0, .second, jv m1, .second, jv m7, .second, jv m9, .second, iv p4, iv (2 : Int32), rv b54, rv b58, iv m59] [(.ref b58)])) rfl rfl (hb hby at_348)) ?_
      rw [len_of S88 M88]
      show Go p e below _ m T63 349 #[jv q0, .second, jv m1, .second, jv m7, .second, jv m9, .second, iv p4, iv (2 : Int32), rv b54, rv b58, iv m59] [(.int wz57)]
      refine go (fun t kt => XS.iconst X63.here hx rfl (hb hby at_349) kt) ?_
      show Go p e below _ m T63 350 #[jv q0, .second, jv m1, .second, jv m7, .second, jv m9, .second, iv p4, iv (2 : Int32), rv b54, rv b58, iv m59] [(.int (2 : Int32)), (.int wz57)]
      refine go (fun t kt => XS.icmpYes X63.here hx rfl (pc0 := 350) (pc' := 373) rfl (hb hby at_350) rfl (flt (own_nl hc65 (by decide))).2.2.2 (by decide) (by decide) kt) ?_
      show Go p e below _ m T63 373 #[jv q0, .second, jv m1, .second, jv m7, .second, jv m9, .second, iv p4, iv (2 : Int32), rv b54, rv b58, iv m59] []
      refine go (fun t kt => XS.aload X63.here hx rfl (hb hby at_373) rfl rfl kt) ?_
      show Go p e below _ m T63 375 #[jv q0, .second, jv m1, .second, jv m7, .second, jv m9, .second, iv p4, iv (2 : Int32), rv b54, rv b58, iv m59] [(.ref b58)]
      obtain ⟨cl89, Ar89, qc89, S89, M89, H89, G89⟩ := id V_b58
      refine go (X63.arraylength hx (by rw [e63]; exact Ar89.1) (State.isArrayOf_alike hZ.alike Ar89.2.1) (g := (mkF m 375 #[jv q0, .second, jv m1, .second, jv m7, .second, jv m9, .second, iv p4, iv (2 : Int32), rv b54, rv b58, iv m59] [(.ref b58)])) rfl rfl (hb hby at_375)) ?_
      rw [len_of S89 M89]
      show Go p e below _ m T63 376 #[jv q0, .second, jv m1, .second, jv m7, .second, jv m9, .second, iv p4, iv (2 : Int32), rv b54, rv b58, iv m59] [(.int wz57)]
      refine go (fun t kt => XS.iconst X63.here hx rfl (hb hby at_376) kt) ?_
      show Go p e below _ m T63 377 #[jv q0, .second, jv m1, .second, jv m7, .second, jv m9, .second, iv p4, iv (2 : Int32), rv b54, rv b58, iv m59] [(.int (3 : Int32)), (.int wz57)]
      refine go (fun t kt => XS.icmpYes X63.here hx rfl (pc0 := 377) (pc' := 400) rfl (hb hby at_377) rfl (flt (own_nl hc65 (by decide))).2.2.2 (by decide) (by decide) kt) ?_
      show Go p e below _ m T63 400 #[jv q0, .second, jv m1, .second, jv m7, .second, jv m9, .second, iv p4, iv (2 : Int32), rv b54, rv b58, iv m59] []
      refine go (fun t kt => XS.iconst X63.here hx rfl (hb hby at_400) kt) ?_
      show Go p e below _ m T63 401 #[jv q0, .second, jv m1, .second, jv m7, .second, jv m9, .second, iv p4, iv (2 : Int32), rv b54, rv b58, iv m59] [(.int (1 : Int32))]
      obtain ⟨fs, hr, hrun, hended, hW, hsame⟩ := X63.leave (v := some (.int (1 : Int32))) (fun h => by rw [Bd.returns] at h; cases h)
      refine ⟨_, _, retN X63 hx (t := .boolean) Bd.returns (by simp) (hb hby at_401) hr, hrun, hended, _, _, rfl, ?_, ⟨_, rfl⟩, hW, hsame.mono (by decide) (by decide)⟩
      show Q0 Z q0 q1 q2 q3 p4 h0 n0 _ T63.heap _
      rw [e63]
      exact ⟨rfl, N63⟩
  ·
    rw [hk11]
    show Go p e below _ m s₁ 65 #[jv q0, .second, jv m1, .second, jv m7, .second, jv m9, .second, iv p4, iv (3 : Int32), .unset, .unset, .unset] []
    obtain ⟨T91, h91, X91, e91, E91, A91, D91, -, st91⟩ := newO X0 hx hZ hown (hw _ (List.mem_of_getElem? (i := 0) rfl)) (hw _ (List.mem_of_getElem? (i := 1) rfl)) (hw _ (List.mem_of_getElem? (i := 2) rfl)) e0 (g := (mkF m 65 #[jv q0, .second, jv m1, .second, jv m7, .second, jv m9, .second, iv p4, iv (3 : Int32), .unset, .unset, .unset] [])) rfl (hb hby at_65) (by decide) (by decide)
    obtain ⟨b91, g91⟩ : ∃ z, z = h0.size := ⟨_, rfl⟩
    rw [← g91] at A91 D91 st91
    have g_b91 : n0 ≤ b91 := Nat.le_trans Z0 (Nat.le_of_eq g91.symm)
    have sz_b91 : h0.size ≤ b91 := Nat.le_trans K0.1 (Nat.le_of_eq g91.symm)
    have Zz91 := Nat.le_trans Z0 E91.1
    have Kk91 := K0.ext E91
    have E_b91 := A91
    have F_keys_b91 : Fld Z h91 b91 "com/example/modest_tree_automata/modesttreeautomata/LongIntMap" "keys" "[J" .null := D91 (Or.inl (hw _ (List.mem_of_getElem? (i := 11) rfl))) (ty := (.array .long)) (by decide)
    have F_values_b91 : Fld Z h91 b91 "com/example/modest_tree_automata/modesttreeautomata/LongIntMap" "values" "[I" .null := D91 (Or.inl (hw _ (List.mem_of_getElem? (i := 14) rfl))) (ty := (.array .int)) (by decide)
    have F_used_b91 : Fld Z h91 b91 "com/example/modest_tree_automata/modesttreeautomata/LongIntMap" "used" "[Z" .null := D91 (Or.inl (hw _ (List.mem_of_getElem? (i := 17) rfl))) (ty := (.array .boolean)) (by decide)
    have F_size_b91 : Fld Z h91 b91 "com/example/modest_tree_automata/modesttreeautomata/LongIntMap" "size" "I" (.int (0 : Int32)) := D91 (Or.inl (hw _ (List.mem_of_getElem? (i := 24) rfl))) (ty := .int) (by decide)
    refine go st91 ?_
    show Go p e below _ m T91 68 #[jv q0, .second, jv m1, .second, jv m7, .second, jv m9, .second, iv p4, iv (3 : Int32), .unset, .unset, .unset] [(.ref b91)]
    refine go (fun t kt => XS.dup X91.here hx rfl (hb hby at_68) rfl rfl kt) ?_
    show Go p e below _ m T91 69 #[jv q0, .second, jv m1, .second, jv m7, .second, jv m9, .second, iv p4, iv (3 : Int32), .unset, .unset, .unset] [(.ref b91), (.ref b91)]
    obtain ⟨_, _, ⟨T92, L92, k92, n92⟩, -, X92, ⟨Lc92, hQ92, l92, y92, z92⟩, st92⟩ := X91.specialBack hx (y := (⟨"com/example/modest_tree_automata/modesttreeautomata/LongIntMap", "<init>", "()V"⟩ : MethodName)) rfl hown (mvT hZ (hw _ (List.mem_of_getElem? (i := 3) rfl))) (mvT hZ (hw _ (List.mem_of_getElem? (i := 4) rfl))) (mvT hZ (hw _ (List.mem_of_getElem? (i := 5) rfl))) (by decide) (backOf (W := 1) (rm1 l Z a0 hw [] b91 .null .null .null (0 : Int32) h91 n0 Zz91 E_b91 F_keys_b91 F_values_b91 F_used_b91 F_size_b91 g_b91) hZ (hw _ (List.mem_of_getElem? (i := 5) rfl)) (hw _ (List.mem_of_getElem? (i := 2) rfl)) (by decide) (by decide)) (g := (mkF m 69 #[jv q0, .second, jv m1, .second, jv m7, .second, jv m9, .second, iv p4, iv (3 : Int32), .unset, .unset, .unset] [(.ref b91), (.ref b91)])) rfl (by rw [hml]; rfl) (Steps.refl _) (a := b91) (argsL := []) (rest := [(.ref b91)]) (lenOf pd_1 rfl) rfl (by show 2 * 0 + _ ≤ _; exact Nat.le_of_eq rfl) (hb hby at_69) (fun _ _ => ⟨rfl, e91, (by decide : 1 + 3 ≤ _), (by decide : 4 + 48 ≤ _)⟩)
    dsimp only [Pt.U, Pt.locs, Pt.cells, Pt.slots] at X92 l92 y92 z92 st92 hQ92
    subst l92 y92 z92
    obtain ⟨rfl, Nq92, Kq92, Eq92, ok92, ov92, ou92, kk92, kv92, ku92, l1, l2, l3, ne_ok92_ov92, ne_ok92_ou92, ne_ov92_ou92, G1, G2, G3, G4, G5, G6, G7⟩ := hQ92
    have ne_b91_ok92 : b91 ≠ ok92 := Nat.ne_of_lt (Nat.lt_of_lt_of_le E_b91.lt l1)
    have g_ok92 : n0 ≤ ok92 := Nat.le_trans Zz91 l1
    have sz_ok92 : h0.size ≤ ok92 := Nat.le_trans Kk91.1 l1
    have ne_b91_ov92 : b91 ≠ ov92 := Nat.ne_of_lt (Nat.lt_of_lt_of_le E_b91.lt l2)
    have g_ov92 : n0 ≤ ov92 := Nat.le_trans Zz91 l2
    have sz_ov92 : h0.size ≤ ov92 := Nat.le_trans Kk91.1 l2
    have ne_b91_ou92 : b91 ≠ ou92 := Nat.ne_of_lt (Nat.lt_of_lt_of_le E_b91.lt l3)
    have g_ou92 : n0 ≤ ou92 := Nat.le_trans Zz91 l3
    have sz_ou92 : h0.size ≤ ou92 := Nat.le_trans Kk91.1 l3
    replace E_b91 := E_b91.keep Kq92
    clear F_keys_b91
    clear F_values_b91
    clear F_used_b91
    clear F_size_b91
    have Zz92 := Nat.le_trans Zz91 Kq92.1
    have Kk92 := Kk91.trans Kq92 (allS (Or.inr sz_b91) all0)
    have E_b91 := Eq92
    have F_keys_b91 := G1
    have F_values_b91 := G2
    have F_used_b91 := G3
    have F_size_b91 := G4
    have V_ok92 := G5
    have V_ov92 := G6
    have V_ou92 := G7
    have N92 := Fr.app N0 Nq92
    refine go (fun t kt => st92.trans kt) ?_
    show Go p e below _ m T92 72 #[jv q0, .second, jv m1, .second, jv m7, .second, jv m9, .second, iv p4, iv (3 : Int32), .unset, .unset, .unset] [(.ref b91)]
    refine go (fun t kt => XS.astore X92.here hx rfl (hb hby at_72) rfl rfl (l' := #[jv q0, .second, jv m1, .second, jv m7, .second, jv m9, .second, iv p4, iv (3 : Int32), rv b91, .unset, .unset]) rfl kt) ?_
    show Go p e below _ m T92 74 #[jv q0, .second, jv m1, .second, jv m7, .second, jv m9, .second, iv p4, iv (3 : Int32), rv b91, .unset, .unset] []
    refine go (fun t kt => XS.iload X92.here hx rfl (hb hby at_74) rfl kt) ?_
    show Go p e below _ m T92 76 #[jv q0, .second, jv m1, .second, jv m7, .second, jv m9, .second, iv p4, iv (3 : Int32), rv b91, .unset, .unset] [(.int (3 : Int32))]
    refine go (fun t kt => XS.ifNo X92.here hx rfl (hb hby at_76) rfl ((if0 _ _).trans (tlt (by decide : ((0 : Int32) < (3 : Int32)))).2.2.2) kt) ?_
    show Go p e below _ m T92 79 #[jv q0, .second, jv m1, .second, jv m7, .second, jv m9, .second, iv p4, iv (3 : Int32), rv b91, .unset, .unset] []
    refine go (fun t kt => XS.aload X92.here hx rfl (hb hby at_79) rfl rfl kt) ?_
    show Go p e below _ m T92 81 #[jv q0, .second, jv m1, .second, jv m7, .second, jv m9, .second, iv p4, iv (3 : Int32), rv b91, .unset, .unset] [(.ref b91)]
    refine go (fun t kt => XS.lloadN X92.here hx rfl (hb hby at_81) rfl kt) ?_
    show Go p e below _ m T92 82 #[jv q0, .second, jv m1, .second, jv m7, .second, jv m9, .second, iv p4, iv (3 : Int32), rv b91, .unset, .unset] [(.long q0), (.ref b91)]
    refine go (fun t kt => XS.iconst X92.here hx rfl (hb hby at_82) kt) ?_
    show Go p e below _ m T92 83 #[jv q0, .second, jv m1, .second, jv m7, .second, jv m9, .second, iv p4, iv (3 : Int32), rv b91, .unset, .unset] [(.int (1 : Int32)), (.long q0), (.ref b91)]
    obtain ⟨cq93, kq93, q93a, q93b, q93c⟩ := isOf hZ rfl E_b91
    obtain ⟨_, _, ⟨T93, L93, k93, n93⟩, -, X93, ⟨Lc93, hQ93, l93, y93, z93⟩, st93⟩ := X92.virtualBack hx (y := (⟨"com/example/modest_tree_automata/modesttreeautomata/LongIntMap", "put", "(JI)V"⟩ : MethodName)) (z := (⟨"com/example/modest_tree_automata/modesttreeautomata/LongIntMap", "put", "(JI)V"⟩ : MethodName)) hown (mvT hZ (hw _ (List.mem_of_getElem? (i := 18) rfl))) (mvT hZ (hw _ (List.mem_of_getElem? (i := 19) rfl))) (notFace_of_selects (args := #[]) (mvT hZ (hw _ (List.mem_of_getElem? (i := 21) rfl)))) (mvT hZ (hw _ (List.mem_of_getElem? (i := 21) rfl))) (mvT hZ (hw _ (List.mem_of_getElem? (i := 20) rfl))) (by decide) (backOf (W := 0) (rm3 l Z a0 hw [] b91 q0 (1 : Int32) ok92 ov92 ou92 kk92 kv92 ku92 (List.replicate 16 (0 : Int64)) (List.replicate 16 (0 : Int32)) (List.replicate 16 (.int (0 : Int32))) (0 : Int32) T92.heap n0 Zz92 E_b91 F_keys_b91 F_values_b91 F_used_b91 F_size_b91 V_ok92 V_ov92 V_ou92 g_b91 g_ok92 g_ov92 g_ou92 ne_b91_ok92 ne_b91_ov92 ne_b91_ou92 ne_ok92_ov92 ne_ok92_ou92 ne_ov92_ou92 (own_inv0).2.1 (own_inv0).1 (by simp) (own_hsz own_inv0 (Nat.le_of_ble_eq_true rfl)) (own_inv_stop own_inv0 (Nat.le_of_ble_eq_true rfl) _)) hZ (hw _ (List.mem_of_getElem? (i := 22) rfl)) (hw _ (List.mem_of_getElem? (i := 2) rfl)) (by decide) (by decide)) q93a q93c (g := (mkF m 83 #[jv q0, .second, jv m1, .second, jv m7, .second, jv m9, .second, iv p4, iv (3 : Int32), rv b91, .unset, .unset] [(.int (1 : Int32)), (.long q0), (.ref b91)])) rfl (by rw [hml]; rfl) (Steps.refl _) (argsL := [(.long q0), (.int (1 : Int32))]) (rest := []) (lenOf pd_3 rfl) rfl (by show 2 * 0 + _ ≤ _; exact Nat.le_of_eq rfl) (hb hby at_83) (fun _ _ => ⟨rfl, rfl, (by decide : 4 + 0 ≤ _), (by decide : 52 + 0 ≤ _)⟩)
    dsimp only [Pt.U, Pt.locs, Pt.cells, Pt.slots] at X93 l93 y93 z93 st93 hQ93
    subst l93 y93 z93
    obtain ⟨rfl, Nq93, Kq93, G0, G1, G2, G3, G4, G5, G6, vv93, hvv93, G7⟩ := hQ93
    replace E_b91 := E_b91.keep Kq93
    clear F_keys_b91
    clear F_values_b91
    clear F_used_b91
    clear F_size_b91
    clear V_ok92
    clear V_ov92
    clear V_ou92
    have Zz93 := Nat.le_trans Zz92 Kq93.1
    have Kk93 := Kk92.trans Kq93 (allS (Or.inr sz_b91) (allS (Or.inr sz_ok92) (allS (Or.inr sz_ov92) (allS (Or.inr sz_ou92) all0))))
    have E_b91 := G0
    have F_keys_b91 := G1
    have F_values_b91 := G2
    have F_used_b91 := G3
    have F_size_b91 := G4
    have V_ok92 := G5
    have V_ou92 := G6
    have V_ov92 := G7
    have I93 := own_inv_put own_inv0 (Nat.le_of_ble_eq_true rfl) q0
    generalize hks93 : (own_ks (List.replicate 16 (0 : Int32)) (List.replicate 16 (0 : Int64)) q0) = ks93 at *
    generalize hus93 : (own_us (List.replicate 16 (0 : Int32)) (List.replicate 16 (0 : Int64)) q0) = us93 at *
    generalize hwz93 : (own_sz (List.replicate 16 (0 : Int32)) (List.replicate 16 (0 : Int64)) q0 (0 : Int32)) = wz93 at *
    have N93 := Fr.app N92 Nq93
    refine go (fun t kt => st93.trans kt) ?_
    show Go p e below _ m T93 86 #[jv q0, .second, jv m1, .second, jv m7, .second, jv m9, .second, iv p4, iv (3 : Int32), rv b91, .unset, .unset] []
    refine go (fun t kt => XS.iload X93.here hx rfl (hb hby at_86) rfl kt) ?_
    show Go p e below _ m T93 88 #[jv q0, .second, jv m1, .second, jv m7, .second, jv m9, .second, iv p4, iv (3 : Int32), rv b91, .unset, .unset] [(.int (3 : Int32))]
    refine go (fun t kt => XS.iconst X93.here hx rfl (hb hby at_88) kt) ?_
    show Go p e below _ m T93 89 #[jv q0, .second, jv m1, .second, jv m7, .second, jv m9, .second, iv p4, iv (3 : Int32), rv b91, .unset, .unset] [(.int (1 : Int32)), (.int (3 : Int32))]
    refine go (fun t kt => XS.icmpNo X93.here hx rfl (hb hby at_89) rfl (tlt (by decide : ((1 : Int32) < (3 : Int32)))).2.2.2 kt) ?_
    show Go p e below _ m T93 92 #[jv q0, .second, jv m1, .second, jv m7, .second, jv m9, .second, iv p4, iv (3 : Int32), rv b91, .unset, .unset] []
    refine go (fun t kt => XS.aload X93.here hx rfl (hb hby at_92) rfl rfl kt) ?_
    show Go p e below _ m T93 94 #[jv q0, .second, jv m1, .second, jv m7, .second, jv m9, .second, iv p4, iv (3 : Int32), rv b91, .unset, .unset] [(.ref b91)]
    refine go (fun t kt => XS.lloadN X93.here hx rfl (hb hby at_94) rfl kt) ?_
    show Go p e below _ m T93 95 #[jv q0, .second, jv m1, .second, jv m7, .second, jv m9, .second, iv p4, iv (3 : Int32), rv b91, .unset, .unset] [(.long m1), (.ref b91)]
    refine go (fun t kt => XS.iconst X93.here hx rfl (hb hby at_95) kt) ?_
    show Go p e below _ m T93 96 #[jv q0, .second, jv m1, .second, jv m7, .second, jv m9, .second, iv p4, iv (3 : Int32), rv b91, .unset, .unset] [(.int (2 : Int32)), (.long m1), (.ref b91)]
    obtain ⟨cq94, kq94, q94a, q94b, q94c⟩ := isOf hZ rfl E_b91
    obtain ⟨_, _, ⟨T94, L94, k94, n94⟩, -, X94, ⟨Lc94, hQ94, l94, y94, z94⟩, st94⟩ := X93.virtualBack hx (y := (⟨"com/example/modest_tree_automata/modesttreeautomata/LongIntMap", "put", "(JI)V"⟩ : MethodName)) (z := (⟨"com/example/modest_tree_automata/modesttreeautomata/LongIntMap", "put", "(JI)V"⟩ : MethodName)) hown (mvT hZ (hw _ (List.mem_of_getElem? (i := 18) rfl))) (mvT hZ (hw _ (List.mem_of_getElem? (i := 19) rfl))) (notFace_of_selects (args := #[]) (mvT hZ (hw _ (List.mem_of_getElem? (i := 21) rfl)))) (mvT hZ (hw _ (List.mem_of_getElem? (i := 21) rfl))) (mvT hZ (hw _ (List.mem_of_getElem? (i := 20) rfl))) (by decide) (backOf (W := 0) (rm3 l Z a0 hw [] b91 m1 (2 : Int32) ok92 ov92 ou92 kk92 kv92 ku92 ks93 us93 vv93 wz93 T93.heap n0 Zz93 E_b91 F_keys_b91 F_values_b91 F_used_b91 F_size_b91 V_ok92 V_ov92 V_ou92 g_b91 g_ok92 g_ov92 g_ou92 ne_b91_ok92 ne_b91_ov92 ne_b91_ou92 ne_ok92_ov92 ne_ok92_ou92 ne_ov92_ou92 (I93).2.1 (I93).1 hvv93 (own_hsz I93 (Nat.le_of_ble_eq_true rfl)) (own_inv_stop I93 (Nat.le_of_ble_eq_true rfl) _)) hZ (hw _ (List.mem_of_getElem? (i := 22) rfl)) (hw _ (List.mem_of_getElem? (i := 2) rfl)) (by decide) (by decide)) q94a q94c (g := (mkF m 96 #[jv q0, .second, jv m1, .second, jv m7, .second, jv m9, .second, iv p4, iv (3 : Int32), rv b91, .unset, .unset] [(.int (2 : Int32)), (.long m1), (.ref b91)])) rfl (by rw [hml]; rfl) (Steps.refl _) (argsL := [(.long m1), (.int (2 : Int32))]) (rest := []) (lenOf pd_3 rfl) rfl (by show 2 * 0 + _ ≤ _; exact Nat.le_of_eq rfl) (hb hby at_96) (fun _ _ => ⟨rfl, rfl, (by decide : 4 + 0 ≤ _), (by decide : 52 + 0 ≤ _)⟩)
    dsimp only [Pt.U, Pt.locs, Pt.cells, Pt.slots] at X94 l94 y94 z94 st94 hQ94
    subst l94 y94 z94
    obtain ⟨rfl, Nq94, Kq94, G0, G1, G2, G3, G4, G5, G6, vv94, hvv94, G7⟩ := hQ94
    replace E_b91 := E_b91.keep Kq94
    clear F_keys_b91
    clear F_values_b91
    clear F_used_b91
    clear F_size_b91
    clear V_ok92
    clear V_ou92
    clear V_ov92
    have Zz94 := Nat.le_trans Zz93 Kq94.1
    have Kk94 := Kk93.trans Kq94 (allS (Or.inr sz_b91) (allS (Or.inr sz_ok92) (allS (Or.inr sz_ov92) (allS (Or.inr sz_ou92) all0))))
    have E_b91 := G0
    have F_keys_b91 := G1
    have F_values_b91 := G2
    have F_used_b91 := G3
    have F_size_b91 := G4
    have V_ok92 := G5
    have V_ou92 := G6
    have V_ov92 := G7
    have I94 := own_inv_put I93 (Nat.le_of_ble_eq_true rfl) m1
    generalize hks94 : (own_ks us93 ks93 m1) = ks94 at *
    generalize hus94 : (own_us us93 ks93 m1) = us94 at *
    generalize hwz94 : (own_sz us93 ks93 m1 wz93) = wz94 at *
    have N94 := Fr.app N93 Nq94
    refine go (fun t kt => st94.trans kt) ?_
    show Go p e below _ m T94 99 #[jv q0, .second, jv m1, .second, jv m7, .second, jv m9, .second, iv p4, iv (3 : Int32), rv b91, .unset, .unset] []
    refine go (fun t kt => XS.iload X94.here hx rfl (hb hby at_99) rfl kt) ?_
    show Go p e below _ m T94 101 #[jv q0, .second, jv m1, .second, jv m7, .second, jv m9, .second, iv p4, iv (3 : Int32), rv b91, .unset, .unset] [(.int (3 : Int32))]
    refine go (fun t kt => XS.iconst X94.here hx rfl (hb hby at_101) kt) ?_
    show Go p e below _ m T94 102 #[jv q0, .second, jv m1, .second, jv m7, .second, jv m9, .second, iv p4, iv (3 : Int32), rv b91, .unset, .unset] [(.int (2 : Int32)), (.int (3 : Int32))]
    refine go (fun t kt => XS.icmpNo X94.here hx rfl (hb hby at_102) rfl (tlt (by decide : ((2 : Int32) < (3 : Int32)))).2.2.2 kt) ?_
    show Go p e below _ m T94 105 #[jv q0, .second, jv m1, .second, jv m7, .second, jv m9, .second, iv p4, iv (3 : Int32), rv b91, .unset, .unset] []
    refine go (fun t kt => XS.aload X94.here hx rfl (hb hby at_105) rfl rfl kt) ?_
    show Go p e below _ m T94 107 #[jv q0, .second, jv m1, .second, jv m7, .second, jv m9, .second, iv p4, iv (3 : Int32), rv b91, .unset, .unset] [(.ref b91)]
    refine go (fun t kt => XS.lload X94.here hx rfl (hb hby at_107) rfl kt) ?_
    show Go p e below _ m T94 109 #[jv q0, .second, jv m1, .second, jv m7, .second, jv m9, .second, iv p4, iv (3 : Int32), rv b91, .unset, .unset] [(.long m7), (.ref b91)]
    refine go (fun t kt => XS.iconst X94.here hx rfl (hb hby at_109) kt) ?_
    show Go p e below _ m T94 110 #[jv q0, .second, jv m1, .second, jv m7, .second, jv m9, .second, iv p4, iv (3 : Int32), rv b91, .unset, .unset] [(.int (3 : Int32)), (.long m7), (.ref b91)]
    obtain ⟨cq95, kq95, q95a, q95b, q95c⟩ := isOf hZ rfl E_b91
    obtain ⟨_, _, ⟨T95, L95, k95, n95⟩, -, X95, ⟨Lc95, hQ95, l95, y95, z95⟩, st95⟩ := X94.virtualBack hx (y := (⟨"com/example/modest_tree_automata/modesttreeautomata/LongIntMap", "put", "(JI)V"⟩ : MethodName)) (z := (⟨"com/example/modest_tree_automata/modesttreeautomata/LongIntMap", "put", "(JI)V"⟩ : MethodName)) hown (mvT hZ (hw _ (List.mem_of_getElem? (i := 18) rfl))) (mvT hZ (hw _ (List.mem_of_getElem? (i := 19) rfl))) (notFace_of_selects (args := #[]) (mvT hZ (hw _ (List.mem_of_getElem? (i := 21) rfl)))) (mvT hZ (hw _ (List.mem_of_getElem? (i := 21) rfl))) (mvT hZ (hw _ (List.mem_of_getElem? (i := 20) rfl))) (by decide) (backOf (W := 0) (rm3 l Z a0 hw [] b91 m7 (3 : Int32) ok92 ov92 ou92 kk92 kv92 ku92 ks94 us94 vv94 wz94 T94.heap n0 Zz94 E_b91 F_keys_b91 F_values_b91 F_used_b91 F_size_b91 V_ok92 V_ov92 V_ou92 g_b91 g_ok92 g_ov92 g_ou92 ne_b91_ok92 ne_b91_ov92 ne_b91_ou92 ne_ok92_ov92 ne_ok92_ou92 ne_ov92_ou92 (I94).2.1 (I94).1 hvv94 (own_hsz I94 (Nat.le_of_ble_eq_true rfl)) (own_inv_stop I94 (Nat.le_of_ble_eq_true rfl) _)) hZ (hw _ (List.mem_of_getElem? (i := 22) rfl)) (hw _ (List.mem_of_getElem? (i := 2) rfl)) (by decide) (by decide)) q95a q95c (g := (mkF m 110 #[jv q0, .second, jv m1, .second, jv m7, .second, jv m9, .second, iv p4, iv (3 : Int32), rv b91, .unset, .unset] [(.int (3 : Int32)), (.long m7), (.ref b91)])) rfl (by rw [hml]; rfl) (Steps.refl _) (argsL := [(.long m7), (.int (3 : Int32))]) (rest := []) (lenOf pd_3 rfl) rfl (by show 2 * 0 + _ ≤ _; exact Nat.le_of_eq rfl) (hb hby at_110) (fun _ _ => ⟨rfl, rfl, (by decide : 4 + 0 ≤ _), (by decide : 52 + 0 ≤ _)⟩)
    dsimp only [Pt.U, Pt.locs, Pt.cells, Pt.slots] at X95 l95 y95 z95 st95 hQ95
    subst l95 y95 z95
    obtain ⟨rfl, Nq95, Kq95, G0, G1, G2, G3, G4, G5, G6, vv95, hvv95, G7⟩ := hQ95
    replace E_b91 := E_b91.keep Kq95
    clear F_keys_b91
    clear F_values_b91
    clear F_used_b91
    clear F_size_b91
    clear V_ok92
    clear V_ou92
    clear V_ov92
    have Zz95 := Nat.le_trans Zz94 Kq95.1
    have Kk95 := Kk94.trans Kq95 (allS (Or.inr sz_b91) (allS (Or.inr sz_ok92) (allS (Or.inr sz_ov92) (allS (Or.inr sz_ou92) all0))))
    have E_b91 := G0
    have F_keys_b91 := G1
    have F_values_b91 := G2
    have F_used_b91 := G3
    have F_size_b91 := G4
    have V_ok92 := G5
    have V_ou92 := G6
    have V_ov92 := G7
    have I95 := own_inv_put I94 (Nat.le_of_ble_eq_true rfl) m7
    generalize hks95 : (own_ks us94 ks94 m7) = ks95 at *
    generalize hus95 : (own_us us94 ks94 m7) = us95 at *
    generalize hwz95 : (own_sz us94 ks94 m7 wz94) = wz95 at *
    have N95 := Fr.app N94 Nq95
    refine go (fun t kt => st95.trans kt) ?_
    show Go p e below _ m T95 113 #[jv q0, .second, jv m1, .second, jv m7, .second, jv m9, .second, iv p4, iv (3 : Int32), rv b91, .unset, .unset] []
    refine go (fun t kt => XS.iload X95.here hx rfl (hb hby at_113) rfl kt) ?_
    show Go p e below _ m T95 115 #[jv q0, .second, jv m1, .second, jv m7, .second, jv m9, .second, iv p4, iv (3 : Int32), rv b91, .unset, .unset] [(.int (3 : Int32))]
    refine go (fun t kt => XS.iconst X95.here hx rfl (hb hby at_115) kt) ?_
    show Go p e below _ m T95 116 #[jv q0, .second, jv m1, .second, jv m7, .second, jv m9, .second, iv p4, iv (3 : Int32), rv b91, .unset, .unset] [(.int (3 : Int32)), (.int (3 : Int32))]
    refine go (fun t kt => XS.icmpYes X95.here hx rfl (pc0 := 116) (pc' := 127) rfl (hb hby at_116) rfl (flt (by decide : ¬ ((3 : Int32) < (3 : Int32)))).2.2.2 (by decide) (by decide) kt) ?_
    show Go p e below _ m T95 127 #[jv q0, .second, jv m1, .second, jv m7, .second, jv m9, .second, iv p4, iv (3 : Int32), rv b91, .unset, .unset] []
    refine go (fun t kt => XS.aload X95.here hx rfl (hb hby at_127) rfl rfl kt) ?_
    show Go p e below _ m T95 129 #[jv q0, .second, jv m1, .second, jv m7, .second, jv m9, .second, iv p4, iv (3 : Int32), rv b91, .unset, .unset] [(.ref b91)]
    obtain ⟨cq96, kq96, q96a, q96b, q96c⟩ := isOf hZ rfl E_b91
    obtain ⟨_, _, ⟨T96, L96, k96, n96⟩, -, X96, ⟨Lc96, hQ96, l96, y96, z96⟩, st96⟩ := X95.virtualBack hx (y := (⟨"com/example/modest_tree_automata/modesttreeautomata/LongIntMap", "keys", "()[J"⟩ : MethodName)) (z := (⟨"com/example/modest_tree_automata/modesttreeautomata/LongIntMap", "keys", "()[J"⟩ : MethodName)) hown (mvT hZ (hw _ (List.mem_of_getElem? (i := 29) rfl))) (mvT hZ (hw _ (List.mem_of_getElem? (i := 30) rfl))) (notFace_of_selects (args := #[]) (mvT hZ (hw _ (List.mem_of_getElem? (i := 32) rfl)))) (mvT hZ (hw _ (List.mem_of_getElem? (i := 32) rfl))) (mvT hZ (hw _ (List.mem_of_getElem? (i := 31) rfl))) (by decide) (backOf (W := 0) (rm5 l Z a0 hw [] b91 ok92 ou92 kk92 ku92 ks95 us95 wz95 T95.heap n0 Zz95 F_keys_b91 F_used_b91 F_size_b91 V_ok92 V_ou92 (I95).2.1 (I95).1 (I95).2.2.1 (Nat.le_trans (I95).2.2.2.1 (Nat.le_of_ble_eq_true rfl))) hZ (hw _ (List.mem_of_getElem? (i := 33) rfl)) (hw _ (List.mem_of_getElem? (i := 2) rfl)) (by decide) (by decide)) q96a q96c (g := (mkF m 129 #[jv q0, .second, jv m1, .second, jv m7, .second, jv m9, .second, iv p4, iv (3 : Int32), rv b91, .unset, .unset] [(.ref b91)])) rfl (by rw [hml]; rfl) (Steps.refl _) (argsL := []) (rest := []) (lenOf pd_2 rfl) rfl (by show 2 * 0 + _ ≤ _; exact Nat.le_of_eq rfl) (hb hby at_129) (fun _ _ => ⟨rfl, rfl, (by decide : 4 + 1 ≤ _), (by decide : 52 + 4 ≤ _)⟩)
    dsimp only [Pt.U, Pt.locs, Pt.cells, Pt.slots] at X96 l96 y96 z96 st96 hQ96
    subst l96 y96 z96
    obtain ⟨b96, g96⟩ : ∃ z, z = T95.heap.size := ⟨_, rfl⟩
    have ne_b91_b96 : b91 ≠ b96 := Nat.ne_of_lt (Nat.lt_of_lt_of_le E_b91.lt (Nat.le_of_eq g96.symm))
    have ne_ok92_b96 : ok92 ≠ b96 := Nat.ne_of_lt (Nat.lt_of_lt_of_le V_ok92.lt (Nat.le_of_eq g96.symm))
    have ne_ou92_b96 : ou92 ≠ b96 := Nat.ne_of_lt (Nat.lt_of_lt_of_le V_ou92.lt (Nat.le_of_eq g96.symm))
    have ne_ov92_b96 : ov92 ≠ b96 := Nat.ne_of_lt (Nat.lt_of_lt_of_le V_ov92.lt (Nat.le_of_eq g96.symm))
    have g_b96 : n0 ≤ b96 := Nat.le_trans Zz95 (Nat.le_of_eq g96.symm)
    have sz_b96 : h0.size ≤ b96 := Nat.le_trans Kk95.1 (Nat.le_of_eq g96.symm)
    obtain ⟨rfl, Nq96, Kq96, k96_, Vq96⟩ := hQ96
    rw [← g96] at Vq96 st96
    replace E_b91 := E_b91.keep Kq96
    replace F_keys_b91 := F_keys_b91.keep Kq96 nin0
    replace F_values_b91 := F_values_b91.keep Kq96 nin0
    replace F_used_b91 := F_used_b91.keep Kq96 nin0
    replace F_size_b91 := F_size_b91.keep Kq96 nin0
    replace V_ok92 := V_ok92.keep Kq96 nin0
    replace V_ou92 := V_ou92.keep Kq96 nin0
    replace V_ov92 := V_ov92.keep Kq96 nin0
    have Zz96 := Nat.le_trans Zz95 Kq96.1
    have Kk96 := Kk95.trans Kq96 all0
    have hnd := own_inv_nodup I95
    have hmem := (I95).2.2.2.2.2
    have hwz := (I95).2.2.1
    have hlen := (I95).2.2.2.1
    generalize hL : own_Lp us95 ks95 16 = LL at *
    have V_b96 := Vq96
    have N96 := Fr.app N95 Nq96
    refine go (fun t kt => st96.trans kt) ?_
    show Go p e below _ m T96 132 #[jv q0, .second, jv m1, .second, jv m7, .second, jv m9, .second, iv p4, iv (3 : Int32), rv b91, .unset, .unset] [(.ref b96)]
    refine go (fun t kt => XS.astore X96.here hx rfl (hb hby at_132) rfl rfl (l' := #[jv q0, .second, jv m1, .second, jv m7, .second, jv m9, .second, iv p4, iv (3 : Int32), rv b91, rv b96, .unset]) rfl kt) ?_
    show Go p e below _ m T96 134 #[jv q0, .second, jv m1, .second, jv m7, .second, jv m9, .second, iv p4, iv (3 : Int32), rv b91, rv b96, .unset] []
    refine go (fun t kt => XS.iconst X96.here hx rfl (hb hby at_134) kt) ?_
    show Go p e below _ m T96 135 #[jv q0, .second, jv m1, .second, jv m7, .second, jv m9, .second, iv p4, iv (3 : Int32), rv b91, rv b96, .unset] [(.int (0 : Int32))]
    refine go (fun t kt => XS.istore X96.here hx rfl (hb hby at_135) rfl (l' := #[jv q0, .second, jv m1, .second, jv m7, .second, jv m9, .second, iv p4, iv (3 : Int32), rv b91, rv b96, iv (0 : Int32)]) rfl kt) ?_
    show Go p e below _ m T96 137 #[jv q0, .second, jv m1, .second, jv m7, .second, jv m9, .second, iv p4, iv (3 : Int32), rv b91, rv b96, iv (0 : Int32)] []
    refine go (fun t kt => XS.iload X96.here hx rfl (hb hby at_137) rfl kt) ?_
    show Go p e below _ m T96 139 #[jv q0, .second, jv m1, .second, jv m7, .second, jv m9, .second, iv p4, iv (3 : Int32), rv b91, rv b96, iv (0 : Int32)] [(.int (3 : Int32))]
    refine go (fun t kt => XS.ifNo X96.here hx rfl (hb hby at_139) rfl ((if0 _ _).trans (tlt (by decide : ((0 : Int32) < (3 : Int32)))).2.2.2) kt) ?_
    show Go p e below _ m T96 142 #[jv q0, .second, jv m1, .second, jv m7, .second, jv m9, .second, iv p4, iv (3 : Int32), rv b91, rv b96, iv (0 : Int32)] []
    refine go (fun t kt => XS.iinc X96.here hx rfl (hb hby at_142) rfl (l' := #[jv q0, .second, jv m1, .second, jv m7, .second, jv m9, .second, iv p4, iv (3 : Int32), rv b91, rv b96, iv ((0 : Int32) + (1 : Int32))]) rfl kt) ?_
    show Go p e below _ m T96 145 #[jv q0, .second, jv m1, .second, jv m7, .second, jv m9, .second, iv p4, iv (3 : Int32), rv b91, rv b96, iv ((0 : Int32) + (1 : Int32))] []
    refine go (fun t kt => XS.iload X96.here hx rfl (hb hby at_145) rfl kt) ?_
    show Go p e below _ m T96 147 #[jv q0, .second, jv m1, .second, jv m7, .second, jv m9, .second, iv p4, iv (3 : Int32), rv b91, rv b96, iv ((0 : Int32) + (1 : Int32))] [(.int (3 : Int32))]
    refine go (fun t kt => XS.iconst X96.here hx rfl (hb hby at_147) kt) ?_
    show Go p e below _ m T96 148 #[jv q0, .second, jv m1, .second, jv m7, .second, jv m9, .second, iv p4, iv (3 : Int32), rv b91, rv b96, iv ((0 : Int32) + (1 : Int32))] [(.int (1 : Int32)), (.int (3 : Int32))]
    refine go (fun t kt => XS.icmpNo X96.here hx rfl (hb hby at_148) rfl (tlt (by decide : ((1 : Int32) < (3 : Int32)))).2.2.2 kt) ?_
    show Go p e below _ m T96 151 #[jv q0, .second, jv m1, .second, jv m7, .second, jv m9, .second, iv p4, iv (3 : Int32), rv b91, rv b96, iv ((0 : Int32) + (1 : Int32))] []
    refine go (fun t kt => XS.lloadN X96.here hx rfl (hb hby at_151) rfl kt) ?_
    show Go p e below _ m T96 152 #[jv q0, .second, jv m1, .second, jv m7, .second, jv m9, .second, iv p4, iv (3 : Int32), rv b91, rv b96, iv ((0 : Int32) + (1 : Int32))] [(.long m1)]
    refine go (fun t kt => XS.lloadN X96.here hx rfl (hb hby at_152) rfl kt) ?_
    show Go p e below _ m T96 153 #[jv q0, .second, jv m1, .second, jv m7, .second, jv m9, .second, iv p4, iv (3 : Int32), rv b91, rv b96, iv ((0 : Int32) + (1 : Int32))] [(.long q0), (.long m1)]
    refine go (fun t kt => XS.lcmp X96.here hx rfl (hb hby at_153) rfl kt) ?_
    show Go p e below _ m T96 154 #[jv q0, .second, jv m1, .second, jv m7, .second, jv m9, .second, iv p4, iv (3 : Int32), rv b91, rv b96, iv ((0 : Int32) + (1 : Int32))] [(.int (lcmpW m1 q0))]
    suffices KK : ∀ (m97 : Int32), m97 = (if m1 = q0 then ((0 : Int32) + (1 : Int32)) else (((0 : Int32) + (1 : Int32)) + (1 : Int32))) → Goes p.tables e below (fun s₂ o => ∃ v L, o = .returned v ∧ Q0 Z q0 q1 q2 q3 p4 h0 n0 v s₂.heap L ∧ FrameEnd s o s₂ L 5 56) (T96.setTop (mkF m 160 #[jv q0, .second, jv m1, .second, jv m7, .second, jv m9, .second, iv p4, iv (3 : Int32), rv b91, rv b96, iv m97] [])) by
      by_cases hc98 : m1 = q0
      ·
        refine go (fun t kt => XS.ifYes X96.here hx rfl (pc0 := 154) (pc' := 160) rfl (hb hby at_154) rfl ((if0 _ _).trans (teq ((lw_eq m1 q0).mpr hc98)).1) (by decide) (by decide) kt) ?_
        show Go p e below _ m T96 160 #[jv q0, .second, jv m1, .second, jv m7, .second, jv m9, .second, iv p4, iv (3 : Int32), rv b91, rv b96, iv ((0 : Int32) + (1 : Int32))] []
        exact KK _ (by rw [if_pos hc98])
      ·
        refine go (fun t kt => XS.ifNo X96.here hx rfl (hb hby at_154) rfl ((if0 _ _).trans (feq (fun q => hc98 ((lw_eq m1 q0).mp q))).1) kt) ?_
        show Go p e below _ m T96 157 #[jv q0, .second, jv m1, .second, jv m7, .second, jv m9, .second, iv p4, iv (3 : Int32), rv b91, rv b96, iv ((0 : Int32) + (1 : Int32))] []
        refine go (fun t kt => XS.iinc X96.here hx rfl (hb hby at_157) rfl (l' := #[jv q0, .second, jv m1, .second, jv m7, .second, jv m9, .second, iv p4, iv (3 : Int32), rv b91, rv b96, iv (((0 : Int32) + (1 : Int32)) + (1 : Int32))]) rfl kt) ?_
        show Go p e below _ m T96 160 #[jv q0, .second, jv m1, .second, jv m7, .second, jv m9, .second, iv p4, iv (3 : Int32), rv b91, rv b96, iv (((0 : Int32) + (1 : Int32)) + (1 : Int32))] []
        exact KK _ (by rw [if_neg hc98])
    intro m97 hm97
    show Go p e below _ m T96 160 #[jv q0, .second, jv m1, .second, jv m7, .second, jv m9, .second, iv p4, iv (3 : Int32), rv b91, rv b96, iv m97] []
    refine go (fun t kt => XS.iload X96.here hx rfl (hb hby at_160) rfl kt) ?_
    show Go p e below _ m T96 162 #[jv q0, .second, jv m1, .second, jv m7, .second, jv m9, .second, iv p4, iv (3 : Int32), rv b91, rv b96, iv m97] [(.int (3 : Int32))]
    refine go (fun t kt => XS.iconst X96.here hx rfl (hb hby at_162) kt) ?_
    show Go p e below _ m T96 163 #[jv q0, .second, jv m1, .second, jv m7, .second, jv m9, .second, iv p4, iv (3 : Int32), rv b91, rv b96, iv m97] [(.int (2 : Int32)), (.int (3 : Int32))]
    refine go (fun t kt => XS.icmpNo X96.here hx rfl (hb hby at_163) rfl (tlt (by decide : ((2 : Int32) < (3 : Int32)))).2.2.2 kt) ?_
    show Go p e below _ m T96 166 #[jv q0, .second, jv m1, .second, jv m7, .second, jv m9, .second, iv p4, iv (3 : Int32), rv b91, rv b96, iv m97] []
    refine go (fun t kt => XS.lload X96.here hx rfl (hb hby at_166) rfl kt) ?_
    show Go p e below _ m T96 168 #[jv q0, .second, jv m1, .second, jv m7, .second, jv m9, .second, iv p4, iv (3 : Int32), rv b91, rv b96, iv m97] [(.long m7)]
    refine go (fun t kt => XS.lloadN X96.here hx rfl (hb hby at_168) rfl kt) ?_
    show Go p e below _ m T96 169 #[jv q0, .second, jv m1, .second, jv m7, .second, jv m9, .second, iv p4, iv (3 : Int32), rv b91, rv b96, iv m97] [(.long q0), (.long m7)]
    refine go (fun t kt => XS.lcmp X96.here hx rfl (hb hby at_169) rfl kt) ?_
    show Go p e below _ m T96 170 #[jv q0, .second, jv m1, .second, jv m7, .second, jv m9, .second, iv p4, iv (3 : Int32), rv b91, rv b96, iv m97] [(.int (lcmpW m7 q0))]
    suffices KK : ∀ (m99 : Int32), m99 = (if m7 = q0 then m97 else (if m7 = m1 then m97 else (m97 + (1 : Int32)))) → Goes p.tables e below (fun s₂ o => ∃ v L, o = .returned v ∧ Q0 Z q0 q1 q2 q3 p4 h0 n0 v s₂.heap L ∧ FrameEnd s o s₂ L 5 56) (T96.setTop (mkF m 183 #[jv q0, .second, jv m1, .second, jv m7, .second, jv m9, .second, iv p4, iv (3 : Int32), rv b91, rv b96, iv m99] [])) by
      by_cases hc100 : m7 = q0
      ·
        refine go (fun t kt => XS.ifYes X96.here hx rfl (pc0 := 170) (pc' := 183) rfl (hb hby at_170) rfl ((if0 _ _).trans (teq ((lw_eq m7 q0).mpr hc100)).1) (by decide) (by decide) kt) ?_
        show Go p e below _ m T96 183 #[jv q0, .second, jv m1, .second, jv m7, .second, jv m9, .second, iv p4, iv (3 : Int32), rv b91, rv b96, iv m97] []
        exact KK _ (by rw [if_pos hc100])
      ·
        refine go (fun t kt => XS.ifNo X96.here hx rfl (hb hby at_170) rfl ((if0 _ _).trans (feq (fun q => hc100 ((lw_eq m7 q0).mp q))).1) kt) ?_
        show Go p e below _ m T96 173 #[jv q0, .second, jv m1, .second, jv m7, .second, jv m9, .second, iv p4, iv (3 : Int32), rv b91, rv b96, iv m97] []
        refine go (fun t kt => XS.lload X96.here hx rfl (hb hby at_173) rfl kt) ?_
        show Go p e below _ m T96 175 #[jv q0, .second, jv m1, .second, jv m7, .second, jv m9, .second, iv p4, iv (3 : Int32), rv b91, rv b96, iv m97] [(.long m7)]
        refine go (fun t kt => XS.lloadN X96.here hx rfl (hb hby at_175) rfl kt) ?_
        show Go p e below _ m T96 176 #[jv q0, .second, jv m1, .second, jv m7, .second, jv m9, .second, iv p4, iv (3 : Int32), rv b91, rv b96, iv m97] [(.long m1), (.long m7)]
        refine go (fun t kt => XS.lcmp X96.here hx rfl (hb hby at_176) rfl kt) ?_
        show Go p e below _ m T96 177 #[jv q0, .second, jv m1, .second, jv m7, .second, jv m9, .second, iv p4, iv (3 : Int32), rv b91, rv b96, iv m97] [(.int (lcmpW m7 m1))]
        by_cases hc101 : m7 = m1
        ·
          refine go (fun t kt => XS.ifYes X96.here hx rfl (pc0 := 177) (pc' := 183) rfl (hb hby at_177) rfl ((if0 _ _).trans (teq ((lw_eq m7 m1).mpr hc101)).1) (by decide) (by decide) kt) ?_
          show Go p e below _ m T96 183 #[jv q0, .second, jv m1, .second, jv m7, .second, jv m9, .second, iv p4, iv (3 : Int32), rv b91, rv b96, iv m97] []
          exact KK _ (by rw [if_neg hc100, if_pos hc101])
        ·
          refine go (fun t kt => XS.ifNo X96.here hx rfl (hb hby at_177) rfl ((if0 _ _).trans (feq (fun q => hc101 ((lw_eq m7 m1).mp q))).1) kt) ?_
          show Go p e below _ m T96 180 #[jv q0, .second, jv m1, .second, jv m7, .second, jv m9, .second, iv p4, iv (3 : Int32), rv b91, rv b96, iv m97] []
          refine go (fun t kt => XS.iinc X96.here hx rfl (hb hby at_180) rfl (l' := #[jv q0, .second, jv m1, .second, jv m7, .second, jv m9, .second, iv p4, iv (3 : Int32), rv b91, rv b96, iv (m97 + (1 : Int32))]) rfl kt) ?_
          show Go p e below _ m T96 183 #[jv q0, .second, jv m1, .second, jv m7, .second, jv m9, .second, iv p4, iv (3 : Int32), rv b91, rv b96, iv (m97 + (1 : Int32))] []
          exact KK _ (by rw [if_neg hc100, if_neg hc101])
    intro m99 hm99
    show Go p e below _ m T96 183 #[jv q0, .second, jv m1, .second, jv m7, .second, jv m9, .second, iv p4, iv (3 : Int32), rv b91, rv b96, iv m99] []
    refine go (fun t kt => XS.iload X96.here hx rfl (hb hby at_183) rfl kt) ?_
    show Go p e below _ m T96 185 #[jv q0, .second, jv m1, .second, jv m7, .second, jv m9, .second, iv p4, iv (3 : Int32), rv b91, rv b96, iv m99] [(.int (3 : Int32))]
    refine go (fun t kt => XS.iconst X96.here hx rfl (hb hby at_185) kt) ?_
    show Go p e below _ m T96 186 #[jv q0, .second, jv m1, .second, jv m7, .second, jv m9, .second, iv p4, iv (3 : Int32), rv b91, rv b96, iv m99] [(.int (3 : Int32)), (.int (3 : Int32))]
    refine go (fun t kt => XS.icmpYes X96.here hx rfl (pc0 := 186) (pc' := 214) rfl (hb hby at_186) rfl (flt (by decide : ¬ ((3 : Int32) < (3 : Int32)))).2.2.2 (by decide) (by decide) kt) ?_
    show Go p e below _ m T96 214 #[jv q0, .second, jv m1, .second, jv m7, .second, jv m9, .second, iv p4, iv (3 : Int32), rv b91, rv b96, iv m99] []
    refine go (fun t kt => XS.aload X96.here hx rfl (hb hby at_214) rfl rfl kt) ?_
    show Go p e below _ m T96 216 #[jv q0, .second, jv m1, .second, jv m7, .second, jv m9, .second, iv p4, iv (3 : Int32), rv b91, rv b96, iv m99] [(.ref b96)]
    obtain ⟨cl102, Ar102, qc102, S102, M102, H102, G102⟩ := id V_b96
    refine go (X96.arraylength hx Ar102.1 (State.isArrayOf_alike hZ.alike Ar102.2.1) (g := (mkF m 216 #[jv q0, .second, jv m1, .second, jv m7, .second, jv m9, .second, iv p4, iv (3 : Int32), rv b91, rv b96, iv m99] [(.ref b96)])) rfl rfl (hb hby at_216)) ?_
    rw [len_of S102 M102]
    show Go p e below _ m T96 217 #[jv q0, .second, jv m1, .second, jv m7, .second, jv m9, .second, iv p4, iv (3 : Int32), rv b91, rv b96, iv m99] [(.int wz95)]
    refine go (fun t kt => XS.iload X96.here hx rfl (hb hby at_217) rfl kt) ?_
    show Go p e below _ m T96 219 #[jv q0, .second, jv m1, .second, jv m7, .second, jv m9, .second, iv p4, iv (3 : Int32), rv b91, rv b96, iv m99] [(.int m99), (.int wz95)]
    refine go (fun t kt => XS.icmpYes X96.here hx rfl (pc0 := 219) (pc' := 224) rfl (hb hby at_219) rfl (teq (own_cnt (own_q3 q0 m1 m7 _ _ (own_q2 q0 m1 _ hm97) hm99) hwz hnd hmem)).1 (by decide) (by decide) kt) ?_
    show Go p e below _ m T96 224 #[jv q0, .second, jv m1, .second, jv m7, .second, jv m9, .second, iv p4, iv (3 : Int32), rv b91, rv b96, iv m99] []
    refine go (fun t kt => XS.iload X96.here hx rfl (hb hby at_224) rfl kt) ?_
    show Go p e below _ m T96 226 #[jv q0, .second, jv m1, .second, jv m7, .second, jv m9, .second, iv p4, iv (3 : Int32), rv b91, rv b96, iv m99] [(.int (3 : Int32))]
    refine go (fun t kt => XS.ifNo X96.here hx rfl (hb hby at_226) rfl ((if0 _ _).trans (tlt (by decide : ((0 : Int32) < (3 : Int32)))).2.2.2) kt) ?_
    show Go p e below _ m T96 229 #[jv q0, .second, jv m1, .second, jv m7, .second, jv m9, .second, iv p4, iv (3 : Int32), rv b91, rv b96, iv m99] []
    refine go (fun t kt => XS.aload X96.here hx rfl (hb hby at_229) rfl rfl kt) ?_
    show Go p e below _ m T96 231 #[jv q0, .second, jv m1, .second, jv m7, .second, jv m9, .second, iv p4, iv (3 : Int32), rv b91, rv b96, iv m99] [(.ref b96)]
    refine go (fun t kt => XS.lloadN X96.here hx rfl (hb hby at_231) rfl kt) ?_
    show Go p e below _ m T96 232 #[jv q0, .second, jv m1, .second, jv m7, .second, jv m9, .second, iv p4, iv (3 : Int32), rv b91, rv b96, iv m99] [(.long q0), (.ref b96)]
    obtain ⟨_, _, ⟨T103, L103, k103, n103⟩, -, X103, ⟨Lc103, hQ103, l103, y103, z103⟩, st103⟩ := Jvm.LawKit.callS X96 hx (y := (⟨"com/example/modest_tree_automata/modesttreeautomata/LongIntMapKeysPinLaw", "has", "([JJ)Z"⟩ : MethodName)) hown (mvT hZ (hw _ (List.mem_of_getElem? (i := 34) rfl))) (mvT hZ (hw _ (List.mem_of_getElem? (i := 35) rfl))) (mvT hZ (hw _ (List.mem_of_getElem? (i := 36) rfl))) (mvT hZ (hw _ (List.mem_of_getElem? (i := 37) rfl))) (by decide) (backOf (W := 0) (rm6 l Z a0 hw [] b96 q0 k96_ wz95 LL (LL.getD 0 0) (LL.getD 1 0) (LL.getD 2 0) (LL.getD 3 0) T96.heap n0 Zz96 V_b96 (own_getJ LL 0) (own_getJ LL 1) (own_getJ LL 2) (own_getJ LL 3)) hZ (hw _ (List.mem_of_getElem? (i := 37) rfl)) (hw _ (List.mem_of_getElem? (i := 36) rfl)) (by decide) (by decide)) (g := (mkF m 232 #[jv q0, .second, jv m1, .second, jv m7, .second, jv m9, .second, iv p4, iv (3 : Int32), rv b91, rv b96, iv m99] [(.long q0), (.ref b96)])) rfl (by rw [hml]; rfl) (argsL := [(.ref b96), (.long q0)]) (rest := []) (lenOf pd_4 rfl) rfl (by show 2 * 0 + _ ≤ _; exact Nat.le_of_eq rfl) (hb hby at_232) (fun _ _ => ⟨rfl, rfl, (by decide : 5 + 0 ≤ _), (by decide : 56 + 0 ≤ _)⟩)
    dsimp only [Pt.U, Pt.locs, Pt.cells, Pt.slots] at X103 l103 y103 z103 st103 hQ103
    subst l103 y103 z103
    obtain ⟨rfl, Nq103, e103⟩ := hQ103
    have N103 := Fr.app N96 Nq103
    refine go st103 ?_
    show Go p e below _ m T103 235 #[jv q0, .second, jv m1, .second, jv m7, .second, jv m9, .second, iv p4, iv (3 : Int32), rv b91, rv b96, iv m99] [(.int (own_has q0 wz95 (LL.getD 0 0) (LL.getD 1 0) (LL.getD 2 0) (LL.getD 3 0)))]
    refine go (fun t kt => XS.ifYes X103.here hx rfl (pc0 := 235) (pc' := 240) rfl (hb hby at_235) rfl ((if0 _ _).trans (feq (own_has_in hwz (Nat.le_trans hlen (Nat.le_of_ble_eq_true rfl)) _ ((hmem _).mpr (by simp)))).2) (by decide) (by decide) kt) ?_
    show Go p e below _ m T103 240 #[jv q0, .second, jv m1, .second, jv m7, .second, jv m9, .second, iv p4, iv (3 : Int32), rv b91, rv b96, iv m99] []
    refine go (fun t kt => XS.iload X103.here hx rfl (hb hby at_240) rfl kt) ?_
    show Go p e below _ m T103 242 #[jv q0, .second, jv m1, .second, jv m7, .second, jv m9, .second, iv p4, iv (3 : Int32), rv b91, rv b96, iv m99] [(.int (3 : Int32))]
    refine go (fun t kt => XS.iconst X103.here hx rfl (hb hby at_242) kt) ?_
    show Go p e below _ m T103 243 #[jv q0, .second, jv m1, .second, jv m7, .second, jv m9, .second, iv p4, iv (3 : Int32), rv b91, rv b96, iv m99] [(.int (1 : Int32)), (.int (3 : Int32))]
    refine go (fun t kt => XS.icmpNo X103.here hx rfl (hb hby at_243) rfl (tlt (by decide : ((1 : Int32) < (3 : Int32)))).2.2.2 kt) ?_
    show Go p e below _ m T103 246 #[jv q0, .second, jv m1, .second, jv m7, .second, jv m9, .second, iv p4, iv (3 : Int32), rv b91, rv b96, iv m99] []
    refine go (fun t kt => XS.aload X103.here hx rfl (hb hby at_246) rfl rfl kt) ?_
    show Go p e below _ m T103 248 #[jv q0, .second, jv m1, .second, jv m7, .second, jv m9, .second, iv p4, iv (3 : Int32), rv b91, rv b96, iv m99] [(.ref b96)]
    refine go (fun t kt => XS.lloadN X103.here hx rfl (hb hby at_248) rfl kt) ?_
    show Go p e below _ m T103 249 #[jv q0, .second, jv m1, .second, jv m7, .second, jv m9, .second, iv p4, iv (3 : Int32), rv b91, rv b96, iv m99] [(.long m1), (.ref b96)]
    obtain ⟨_, _, ⟨T104, L104, k104, n104⟩, -, X104, ⟨Lc104, hQ104, l104, y104, z104⟩, st104⟩ := Jvm.LawKit.callS X103 hx (y := (⟨"com/example/modest_tree_automata/modesttreeautomata/LongIntMapKeysPinLaw", "has", "([JJ)Z"⟩ : MethodName)) hown (mvT hZ (hw _ (List.mem_of_getElem? (i := 34) rfl))) (mvT hZ (hw _ (List.mem_of_getElem? (i := 35) rfl))) (mvT hZ (hw _ (List.mem_of_getElem? (i := 36) rfl))) (mvT hZ (hw _ (List.mem_of_getElem? (i := 37) rfl))) (by decide) (backOf (W := 0) (rm6 l Z a0 hw [] b96 m1 k96_ wz95 LL (LL.getD 0 0) (LL.getD 1 0) (LL.getD 2 0) (LL.getD 3 0) T96.heap n0 Zz96 V_b96 (own_getJ LL 0) (own_getJ LL 1) (own_getJ LL 2) (own_getJ LL 3)) hZ (hw _ (List.mem_of_getElem? (i := 37) rfl)) (hw _ (List.mem_of_getElem? (i := 36) rfl)) (by decide) (by decide)) (g := (mkF m 249 #[jv q0, .second, jv m1, .second, jv m7, .second, jv m9, .second, iv p4, iv (3 : Int32), rv b91, rv b96, iv m99] [(.long m1), (.ref b96)])) rfl (by rw [hml]; rfl) (argsL := [(.ref b96), (.long m1)]) (rest := []) (lenOf pd_4 rfl) rfl (by show 2 * 0 + _ ≤ _; exact Nat.le_of_eq rfl) (hb hby at_249) (fun _ _ => ⟨rfl, e103, (by decide : 5 + 0 ≤ _), (by decide : 56 + 0 ≤ _)⟩)
    dsimp only [Pt.U, Pt.locs, Pt.cells, Pt.slots] at X104 l104 y104 z104 st104 hQ104
    subst l104 y104 z104
    obtain ⟨rfl, Nq104, e104⟩ := hQ104
    have N104 := Fr.app N103 Nq104
    refine go st104 ?_
    show Go p e below _ m T104 252 #[jv q0, .second, jv m1, .second, jv m7, .second, jv m9, .second, iv p4, iv (3 : Int32), rv b91, rv b96, iv m99] [(.int (own_has m1 wz95 (LL.getD 0 0) (LL.getD 1 0) (LL.getD 2 0) (LL.getD 3 0)))]
    refine go (fun t kt => XS.ifYes X104.here hx rfl (pc0 := 252) (pc' := 257) rfl (hb hby at_252) rfl ((if0 _ _).trans (feq (own_has_in hwz (Nat.le_trans hlen (Nat.le_of_ble_eq_true rfl)) _ ((hmem _).mpr (by simp)))).2) (by decide) (by decide) kt) ?_
    show Go p e below _ m T104 257 #[jv q0, .second, jv m1, .second, jv m7, .second, jv m9, .second, iv p4, iv (3 : Int32), rv b91, rv b96, iv m99] []
    refine go (fun t kt => XS.iload X104.here hx rfl (hb hby at_257) rfl kt) ?_
    show Go p e below _ m T104 259 #[jv q0, .second, jv m1, .second, jv m7, .second, jv m9, .second, iv p4, iv (3 : Int32), rv b91, rv b96, iv m99] [(.int (3 : Int32))]
    refine go (fun t kt => XS.iconst X104.here hx rfl (hb hby at_259) kt) ?_
    show Go p e below _ m T104 260 #[jv q0, .second, jv m1, .second, jv m7, .second, jv m9, .second, iv p4, iv (3 : Int32), rv b91, rv b96, iv m99] [(.int (2 : Int32)), (.int (3 : Int32))]
    refine go (fun t kt => XS.icmpNo X104.here hx rfl (hb hby at_260) rfl (tlt (by decide : ((2 : Int32) < (3 : Int32)))).2.2.2 kt) ?_
    show Go p e below _ m T104 263 #[jv q0, .second, jv m1, .second, jv m7, .second, jv m9, .second, iv p4, iv (3 : Int32), rv b91, rv b96, iv m99] []
    refine go (fun t kt => XS.aload X104.here hx rfl (hb hby at_263) rfl rfl kt) ?_
    show Go p e below _ m T104 265 #[jv q0, .second, jv m1, .second, jv m7, .second, jv m9, .second, iv p4, iv (3 : Int32), rv b91, rv b96, iv m99] [(.ref b96)]
    refine go (fun t kt => XS.lload X104.here hx rfl (hb hby at_265) rfl kt) ?_
    show Go p e below _ m T104 267 #[jv q0, .second, jv m1, .second, jv m7, .second, jv m9, .second, iv p4, iv (3 : Int32), rv b91, rv b96, iv m99] [(.long m7), (.ref b96)]
    obtain ⟨_, _, ⟨T105, L105, k105, n105⟩, -, X105, ⟨Lc105, hQ105, l105, y105, z105⟩, st105⟩ := Jvm.LawKit.callS X104 hx (y := (⟨"com/example/modest_tree_automata/modesttreeautomata/LongIntMapKeysPinLaw", "has", "([JJ)Z"⟩ : MethodName)) hown (mvT hZ (hw _ (List.mem_of_getElem? (i := 34) rfl))) (mvT hZ (hw _ (List.mem_of_getElem? (i := 35) rfl))) (mvT hZ (hw _ (List.mem_of_getElem? (i := 36) rfl))) (mvT hZ (hw _ (List.mem_of_getElem? (i := 37) rfl))) (by decide) (backOf (W := 0) (rm6 l Z a0 hw [] b96 m7 k96_ wz95 LL (LL.getD 0 0) (LL.getD 1 0) (LL.getD 2 0) (LL.getD 3 0) T96.heap n0 Zz96 V_b96 (own_getJ LL 0) (own_getJ LL 1) (own_getJ LL 2) (own_getJ LL 3)) hZ (hw _ (List.mem_of_getElem? (i := 37) rfl)) (hw _ (List.mem_of_getElem? (i := 36) rfl)) (by decide) (by decide)) (g := (mkF m 267 #[jv q0, .second, jv m1, .second, jv m7, .second, jv m9, .second, iv p4, iv (3 : Int32), rv b91, rv b96, iv m99] [(.long m7), (.ref b96)])) rfl (by rw [hml]; rfl) (argsL := [(.ref b96), (.long m7)]) (rest := []) (lenOf pd_4 rfl) rfl (by show 2 * 0 + _ ≤ _; exact Nat.le_of_eq rfl) (hb hby at_267) (fun _ _ => ⟨rfl, e104, (by decide : 5 + 0 ≤ _), (by decide : 56 + 0 ≤ _)⟩)
    dsimp only [Pt.U, Pt.locs, Pt.cells, Pt.slots] at X105 l105 y105 z105 st105 hQ105
    subst l105 y105 z105
    obtain ⟨rfl, Nq105, e105⟩ := hQ105
    have N105 := Fr.app N104 Nq105
    refine go st105 ?_
    show Go p e below _ m T105 270 #[jv q0, .second, jv m1, .second, jv m7, .second, jv m9, .second, iv p4, iv (3 : Int32), rv b91, rv b96, iv m99] [(.int (own_has m7 wz95 (LL.getD 0 0) (LL.getD 1 0) (LL.getD 2 0) (LL.getD 3 0)))]
    refine go (fun t kt => XS.ifYes X105.here hx rfl (pc0 := 270) (pc' := 275) rfl (hb hby at_270) rfl ((if0 _ _).trans (feq (own_has_in hwz (Nat.le_trans hlen (Nat.le_of_ble_eq_true rfl)) _ ((hmem _).mpr (by simp)))).2) (by decide) (by decide) kt) ?_
    show Go p e below _ m T105 275 #[jv q0, .second, jv m1, .second, jv m7, .second, jv m9, .second, iv p4, iv (3 : Int32), rv b91, rv b96, iv m99] []
    refine go (fun t kt => XS.iload X105.here hx rfl (hb hby at_275) rfl kt) ?_
    show Go p e below _ m T105 277 #[jv q0, .second, jv m1, .second, jv m7, .second, jv m9, .second, iv p4, iv (3 : Int32), rv b91, rv b96, iv m99] [(.int (3 : Int32))]
    refine go (fun t kt => XS.iconst X105.here hx rfl (hb hby at_277) kt) ?_
    show Go p e below _ m T105 278 #[jv q0, .second, jv m1, .second, jv m7, .second, jv m9, .second, iv p4, iv (3 : Int32), rv b91, rv b96, iv m99] [(.int (3 : Int32)), (.int (3 : Int32))]
    refine go (fun t kt => XS.icmpYes X105.here hx rfl (pc0 := 278) (pc' := 293) rfl (hb hby at_278) rfl (flt (by decide : ¬ ((3 : Int32) < (3 : Int32)))).2.2.2 (by decide) (by decide) kt) ?_
    show Go p e below _ m T105 293 #[jv q0, .second, jv m1, .second, jv m7, .second, jv m9, .second, iv p4, iv (3 : Int32), rv b91, rv b96, iv m99] []
    refine go (fun t kt => XS.aload X105.here hx rfl (hb hby at_293) rfl rfl kt) ?_
    show Go p e below _ m T105 295 #[jv q0, .second, jv m1, .second, jv m7, .second, jv m9, .second, iv p4, iv (3 : Int32), rv b91, rv b96, iv m99] [(.ref b96)]
    obtain ⟨cl106, Ar106, qc106, S106, M106, H106, G106⟩ := id V_b96
    refine go (X105.arraylength hx (by rw [e105]; exact Ar106.1) (State.isArrayOf_alike hZ.alike Ar106.2.1) (g := (mkF m 295 #[jv q0, .second, jv m1, .second, jv m7, .second, jv m9, .second, iv p4, iv (3 : Int32), rv b91, rv b96, iv m99] [(.ref b96)])) rfl rfl (hb hby at_295)) ?_
    rw [len_of S106 M106]
    show Go p e below _ m T105 296 #[jv q0, .second, jv m1, .second, jv m7, .second, jv m9, .second, iv p4, iv (3 : Int32), rv b91, rv b96, iv m99] [(.int wz95)]
    by_cases hc107 : (0 : Int32) < wz95
    ·
      refine go (fun t kt => XS.ifNo X105.here hx rfl (hb hby at_296) rfl ((if0 _ _).trans (tlt hc107).2.2.2) kt) ?_
      show Go p e below _ m T105 299 #[jv q0, .second, jv m1, .second, jv m7, .second, jv m9, .second, iv p4, iv (3 : Int32), rv b91, rv b96, iv m99] []
      refine go (fun t kt => XS.aload X105.here hx rfl (hb hby at_299) rfl rfl kt) ?_
      show Go p e below _ m T105 301 #[jv q0, .second, jv m1, .second, jv m7, .second, jv m9, .second, iv p4, iv (3 : Int32), rv b91, rv b96, iv m99] [(.ref b96)]
      refine go (fun t kt => XS.iconst X105.here hx rfl (hb hby at_301) kt) ?_
      show Go p e below _ m T105 302 #[jv q0, .second, jv m1, .second, jv m7, .second, jv m9, .second, iv p4, iv (3 : Int32), rv b91, rv b96, iv m99] [(.int (0 : Int32)), (.ref b96)]
      obtain ⟨cl108, Ar108, qc108, S108, M108, H108, G108⟩ := id V_b96
      have hin108 : ¬ ((0 : Int32) < 0 ∨ cl108.slots.size ≤ ((0 : Int32)).toNatClampNeg) := inb_of S108 ⟨by decide, hc107⟩
      have hat108 : cl108.slots[((0 : Int32)).toNatClampNeg]? = some (.long (LL.getD 0 0)) := H108.at hin108 (own_getJ LL 0)
      refine go (X105.laload hx (j := (0 : Int32)) (v := (.long (LL.getD 0 0))) (by rw [e105]; exact Ar108.1) (State.isArrayOf_alike hZ.alike Ar108.2.1) Ar108.2.2 hin108 hat108 (g := (mkF m 302 #[jv q0, .second, jv m1, .second, jv m7, .second, jv m9, .second, iv p4, iv (3 : Int32), rv b91, rv b96, iv m99] [(.int (0 : Int32)), (.ref b96)])) rfl rfl (hb hby at_302)) ?_
      show Go p e below _ m T105 303 #[jv q0, .second, jv m1, .second, jv m7, .second, jv m9, .second, iv p4, iv (3 : Int32), rv b91, rv b96, iv m99] [(.long (LL.getD 0 0))]
      refine go (fun t kt => XS.iload X105.here hx rfl (hb hby at_303) rfl kt) ?_
      show Go p e below _ m T105 305 #[jv q0, .second, jv m1, .second, jv m7, .second, jv m9, .second, iv p4, iv (3 : Int32), rv b91, rv b96, iv m99] [(.int (3 : Int32)), (.long (LL.getD 0 0))]
      refine go (fun t kt => XS.lloadN X105.here hx rfl (hb hby at_305) rfl kt) ?_
      show Go p e below _ m T105 306 #[jv q0, .second, jv m1, .second, jv m7, .second, jv m9, .second, iv p4, iv (3 : Int32), rv b91, rv b96, iv m99] [(.long q0), (.int (3 : Int32)), (.long (LL.getD 0 0))]
      refine go (fun t kt => XS.lloadN X105.here hx rfl (hb hby at_306) rfl kt) ?_
      show Go p e below _ m T105 307 #[jv q0, .second, jv m1, .second, jv m7, .second, jv m9, .second, iv p4, iv (3 : Int32), rv b91, rv b96, iv m99] [(.long m1), (.long q0), (.int (3 : Int32)), (.long (LL.getD 0 0))]
      refine go (fun t kt => XS.lload X105.here hx rfl (hb hby at_307) rfl kt) ?_
      show Go p e below _ m T105 309 #[jv q0, .second, jv m1, .second, jv m7, .second, jv m9, .second, iv p4, iv (3 : Int32), rv b91, rv b96, iv m99] [(.long m7), (.long m1), (.long q0), (.int (3 : Int32)), (.long (LL.getD 0 0))]
      refine go (fun t kt => XS.lload X105.here hx rfl (hb hby at_309) rfl kt) ?_
      show Go p e below _ m T105 311 #[jv q0, .second, jv m1, .second, jv m7, .second, jv m9, .second, iv p4, iv (3 : Int32), rv b91, rv b96, iv m99] [(.long m9), (.long m7), (.long m1), (.long q0), (.int (3 : Int32)), (.long (LL.getD 0 0))]
      obtain ⟨_, _, ⟨T109, L109, k109, n109⟩, -, X109, ⟨Lc109, hQ109, l109, y109, z109⟩, st109⟩ := Jvm.LawKit.callS X105 hx (y := (⟨"com/example/modest_tree_automata/modesttreeautomata/LongIntMapKeysPinLaw", "isInput", "(JIJJJJ)Z"⟩ : MethodName)) hown (mvT hZ (hw _ (List.mem_of_getElem? (i := 38) rfl))) (mvT hZ (hw _ (List.mem_of_getElem? (i := 39) rfl))) (mvT hZ (hw _ (List.mem_of_getElem? (i := 36) rfl))) (mvT hZ (hw _ (List.mem_of_getElem? (i := 40) rfl))) (by decide) (backOf (W := 0) (rm7 l Z a0 hw [] (LL.getD 0 0) (3 : Int32) q0 m1 m7 m9 T96.heap n0 Zz96 ) hZ (hw _ (List.mem_of_getElem? (i := 40) rfl)) (hw _ (List.mem_of_getElem? (i := 36) rfl)) (by decide) (by decide)) (g := (mkF m 311 #[jv q0, .second, jv m1, .second, jv m7, .second, jv m9, .second, iv p4, iv (3 : Int32), rv b91, rv b96, iv m99] [(.long m9), (.long m7), (.long m1), (.long q0), (.int (3 : Int32)), (.long (LL.getD 0 0))])) rfl (by rw [hml]; rfl) (argsL := [(.long (LL.getD 0 0)), (.int (3 : Int32)), (.long q0), (.long m1), (.long m7), (.long m9)]) (rest := []) (lenOf pd_5 rfl) rfl (by show 2 * 0 + _ ≤ _; exact Nat.le_of_eq rfl) (hb hby at_311) (fun _ _ => ⟨rfl, e105, (by decide : 5 + 0 ≤ _), (by decide : 56 + 0 ≤ _)⟩)
      dsimp only [Pt.U, Pt.locs, Pt.cells, Pt.slots] at X109 l109 y109 z109 st109 hQ109
      subst l109 y109 z109
      obtain ⟨rfl, Nq109, e109⟩ := hQ109
      have N109 := Fr.app N105 Nq109
      refine go st109 ?_
      show Go p e below _ m T109 314 #[jv q0, .second, jv m1, .second, jv m7, .second, jv m9, .second, iv p4, iv (3 : Int32), rv b91, rv b96, iv m99] [(.int (own_inp (LL.getD 0 0) (3 : Int32) q0 m1 m7 m9))]
      refine go (fun t kt => XS.ifYes X109.here hx rfl (pc0 := 314) (pc' := 319) rfl (hb hby at_314) rfl ((if0 _ _).trans (feq (own_in3 _ _ _ _ _ ((hmem _).mp (own_gm hwz (Nat.le_trans hlen (Nat.le_of_ble_eq_true rfl)) (0 : Int32) 0 rfl hc107)))).2) (by decide) (by decide) kt) ?_
      show Go p e below _ m T109 319 #[jv q0, .second, jv m1, .second, jv m7, .second, jv m9, .second, iv p4, iv (3 : Int32), rv b91, rv b96, iv m99] []
      refine go (fun t kt => XS.aload X109.here hx rfl (hb hby at_319) rfl rfl kt) ?_
      show Go p e below _ m T109 321 #[jv q0, .second, jv m1, .second, jv m7, .second, jv m9, .second, iv p4, iv (3 : Int32), rv b91, rv b96, iv m99] [(.ref b96)]
      obtain ⟨cl110, Ar110, qc110, S110, M110, H110, G110⟩ := id V_b96
      refine go (X109.arraylength hx (by rw [e109]; exact Ar110.1) (State.isArrayOf_alike hZ.alike Ar110.2.1) (g := (mkF m 321 #[jv q0, .second, jv m1, .second, jv m7, .second, jv m9, .second, iv p4, iv (3 : Int32), rv b91, rv b96, iv m99] [(.ref b96)])) rfl rfl (hb hby at_321)) ?_
      rw [len_of S110 M110]
      show Go p e below _ m T109 322 #[jv q0, .second, jv m1, .second, jv m7, .second, jv m9, .second, iv p4, iv (3 : Int32), rv b91, rv b96, iv m99] [(.int wz95)]
      refine go (fun t kt => XS.iconst X109.here hx rfl (hb hby at_322) kt) ?_
      show Go p e below _ m T109 323 #[jv q0, .second, jv m1, .second, jv m7, .second, jv m9, .second, iv p4, iv (3 : Int32), rv b91, rv b96, iv m99] [(.int (1 : Int32)), (.int wz95)]
      by_cases hc111 : (1 : Int32) < wz95
      ·
        refine go (fun t kt => XS.icmpNo X109.here hx rfl (hb hby at_323) rfl (tlt hc111).2.2.2 kt) ?_
        show Go p e below _ m T109 326 #[jv q0, .second, jv m1, .second, jv m7, .second, jv m9, .second, iv p4, iv (3 : Int32), rv b91, rv b96, iv m99] []
        refine go (fun t kt => XS.aload X109.here hx rfl (hb hby at_326) rfl rfl kt) ?_
        show Go p e below _ m T109 328 #[jv q0, .second, jv m1, .second, jv m7, .second, jv m9, .second, iv p4, iv (3 : Int32), rv b91, rv b96, iv m99] [(.ref b96)]
        refine go (fun t kt => XS.iconst X109.here hx rfl (hb hby at_328) kt) ?_
        show Go p e below _ m T109 329 #[jv q0, .second, jv m1, .second, jv m7, .second, jv m9, .second, iv p4, iv (3 : Int32), rv b91, rv b96, iv m99] [(.int (1 : Int32)), (.ref b96)]
        obtain ⟨cl112, Ar112, qc112, S112, M112, H112, G112⟩ := id V_b96
        have hin112 : ¬ ((1 : Int32) < 0 ∨ cl112.slots.size ≤ ((1 : Int32)).toNatClampNeg) := inb_of S112 ⟨by decide, hc111⟩
        have hat112 : cl112.slots[((1 : Int32)).toNatClampNeg]? = some (.long (LL.getD 1 0)) := H112.at hin112 (own_getJ LL 1)
        refine go (X109.laload hx (j := (1 : Int32)) (v := (.long (LL.getD 1 0))) (by rw [e109]; exact Ar112.1) (State.isArrayOf_alike hZ.alike Ar112.2.1) Ar112.2.2 hin112 hat112 (g := (mkF m 329 #[jv q0, .second, jv m1, .second, jv m7, .second, jv m9, .second, iv p4, iv (3 : Int32), rv b91, rv b96, iv m99] [(.int (1 : Int32)), (.ref b96)])) rfl rfl (hb hby at_329)) ?_
        show Go p e below _ m T109 330 #[jv q0, .second, jv m1, .second, jv m7, .second, jv m9, .second, iv p4, iv (3 : Int32), rv b91, rv b96, iv m99] [(.long (LL.getD 1 0))]
        refine go (fun t kt => XS.iload X109.here hx rfl (hb hby at_330) rfl kt) ?_
        show Go p e below _ m T109 332 #[jv q0, .second, jv m1, .second, jv m7, .second, jv m9, .second, iv p4, iv (3 : Int32), rv b91, rv b96, iv m99] [(.int (3 : Int32)), (.long (LL.getD 1 0))]
        refine go (fun t kt => XS.lloadN X109.here hx rfl (hb hby at_332) rfl kt) ?_
        show Go p e below _ m T109 333 #[jv q0, .second, jv m1, .second, jv m7, .second, jv m9, .second, iv p4, iv (3 : Int32), rv b91, rv b96, iv m99] [(.long q0), (.int (3 : Int32)), (.long (LL.getD 1 0))]
        refine go (fun t kt => XS.lloadN X109.here hx rfl (hb hby at_333) rfl kt) ?_
        show Go p e below _ m T109 334 #[jv q0, .second, jv m1, .second, jv m7, .second, jv m9, .second, iv p4, iv (3 : Int32), rv b91, rv b96, iv m99] [(.long m1), (.long q0), (.int (3 : Int32)), (.long (LL.getD 1 0))]
        refine go (fun t kt => XS.lload X109.here hx rfl (hb hby at_334) rfl kt) ?_
        show Go p e below _ m T109 336 #[jv q0, .second, jv m1, .second, jv m7, .second, jv m9, .second, iv p4, iv (3 : Int32), rv b91, rv b96, iv m99] [(.long m7), (.long m1), (.long q0), (.int (3 : Int32)), (.long (LL.getD 1 0))]
        refine go (fun t kt => XS.lload X109.here hx rfl (hb hby at_336) rfl kt) ?_
        show Go p e below _ m T109 338 #[jv q0, .second, jv m1, .second, jv m7, .second, jv m9, .second, iv p4, iv (3 : Int32), rv b91, rv b96, iv m99] [(.long m9), (.long m7), (.long m1), (.long q0), (.int (3 : Int32)), (.long (LL.getD 1 0))]
        obtain ⟨_, _, ⟨T113, L113, k113, n113⟩, -, X113, ⟨Lc113, hQ113, l113, y113, z113⟩, st113⟩ := Jvm.LawKit.callS X109 hx (y := (⟨"com/example/modest_tree_automata/modesttreeautomata/LongIntMapKeysPinLaw", "isInput", "(JIJJJJ)Z"⟩ : MethodName)) hown (mvT hZ (hw _ (List.mem_of_getElem? (i := 38) rfl))) (mvT hZ (hw _ (List.mem_of_getElem? (i := 39) rfl))) (mvT hZ (hw _ (List.mem_of_getElem? (i := 36) rfl))) (mvT hZ (hw _ (List.mem_of_getElem? (i := 40) rfl))) (by decide) (backOf (W := 0) (rm7 l Z a0 hw [] (LL.getD 1 0) (3 : Int32) q0 m1 m7 m9 T96.heap n0 Zz96 ) hZ (hw _ (List.mem_of_getElem? (i := 40) rfl)) (hw _ (List.mem_of_getElem? (i := 36) rfl)) (by decide) (by decide)) (g := (mkF m 338 #[jv q0, .second, jv m1, .second, jv m7, .second, jv m9, .second, iv p4, iv (3 : Int32), rv b91, rv b96, iv m99] [(.long m9), (.long m7), (.long m1), (.long q0), (.int (3 : Int32)), (.long (LL.getD 1 0))])) rfl (by rw [hml]; rfl) (argsL := [(.long (LL.getD 1 0)), (.int (3 : Int32)), (.long q0), (.long m1), (.long m7), (.long m9)]) (rest := []) (lenOf pd_5 rfl) rfl (by show 2 * 0 + _ ≤ _; exact Nat.le_of_eq rfl) (hb hby at_338) (fun _ _ => ⟨rfl, e109, (by decide : 5 + 0 ≤ _), (by decide : 56 + 0 ≤ _)⟩)
        dsimp only [Pt.U, Pt.locs, Pt.cells, Pt.slots] at X113 l113 y113 z113 st113 hQ113
        subst l113 y113 z113
        obtain ⟨rfl, Nq113, e113⟩ := hQ113
        have N113 := Fr.app N109 Nq113
        refine go st113 ?_
        show Go p e below _ m T113 341 #[jv q0, .second, jv m1, .second, jv m7, .second, jv m9, .second, iv p4, iv (3 : Int32), rv b91, rv b96, iv m99] [(.int (own_inp (LL.getD 1 0) (3 : Int32) q0 m1 m7 m9))]
        refine go (fun t kt => XS.ifYes X113.here hx rfl (pc0 := 341) (pc' := 346) rfl (hb hby at_341) rfl ((if0 _ _).trans (feq (own_in3 _ _ _ _ _ ((hmem _).mp (own_gm hwz (Nat.le_trans hlen (Nat.le_of_ble_eq_true rfl)) (1 : Int32) 1 rfl hc111)))).2) (by decide) (by decide) kt) ?_
        show Go p e below _ m T113 346 #[jv q0, .second, jv m1, .second, jv m7, .second, jv m9, .second, iv p4, iv (3 : Int32), rv b91, rv b96, iv m99] []
        refine go (fun t kt => XS.aload X113.here hx rfl (hb hby at_346) rfl rfl kt) ?_
        show Go p e below _ m T113 348 #[jv q0, .second, jv m1, .second, jv m7, .second, jv m9, .second, iv p4, iv (3 : Int32), rv b91, rv b96, iv m99] [(.ref b96)]
        obtain ⟨cl114, Ar114, qc114, S114, M114, H114, G114⟩ := id V_b96
        refine go (X113.arraylength hx (by rw [e113]; exact Ar114.1) (State.isArrayOf_alike hZ.alike Ar114.2.1) (g := (mkF m 348 #[jv q0, .second, jv m1, .second, jv m7, .second, jv m9, .second, iv p4, iv (3 : Int32), rv b91, rv b96, iv m99] [(.ref b96)])) rfl rfl (hb hby at_348)) ?_
        rw [len_of S114 M114]
        show Go p e below _ m T113 349 #[jv q0, .second, jv m1, .second, jv m7, .second, jv m9, .second, iv p4, iv (3 : Int32), rv b91, rv b96, iv m99] [(.int wz95)]
        refine go (fun t kt => XS.iconst X113.here hx rfl (hb hby at_349) kt) ?_
        show Go p e below _ m T113 350 #[jv q0, .second, jv m1, .second, jv m7, .second, jv m9, .second, iv p4, iv (3 : Int32), rv b91, rv b96, iv m99] [(.int (2 : Int32)), (.int wz95)]
        by_cases hc115 : (2 : Int32) < wz95
        ·
          refine go (fun t kt => XS.icmpNo X113.here hx rfl (hb hby at_350) rfl (tlt hc115).2.2.2 kt) ?_
          show Go p e below _ m T113 353 #[jv q0, .second, jv m1, .second, jv m7, .second, jv m9, .second, iv p4, iv (3 : Int32), rv b91, rv b96, iv m99] []
          refine go (fun t kt => XS.aload X113.here hx rfl (hb hby at_353) rfl rfl kt) ?_
          show Go p e below _ m T113 355 #[jv q0, .second, jv m1, .second, jv m7, .second, jv m9, .second, iv p4, iv (3 : Int32), rv b91, rv b96, iv m99] [(.ref b96)]
          refine go (fun t kt => XS.iconst X113.here hx rfl (hb hby at_355) kt) ?_
          show Go p e below _ m T113 356 #[jv q0, .second, jv m1, .second, jv m7, .second, jv m9, .second, iv p4, iv (3 : Int32), rv b91, rv b96, iv m99] [(.int (2 : Int32)), (.ref b96)]
          obtain ⟨cl116, Ar116, qc116, S116, M116, H116, G116⟩ := id V_b96
          have hin116 : ¬ ((2 : Int32) < 0 ∨ cl116.slots.size ≤ ((2 : Int32)).toNatClampNeg) := inb_of S116 ⟨by decide, hc115⟩
          have hat116 : cl116.slots[((2 : Int32)).toNatClampNeg]? = some (.long (LL.getD 2 0)) := H116.at hin116 (own_getJ LL 2)
          refine go (X113.laload hx (j := (2 : Int32)) (v := (.long (LL.getD 2 0))) (by rw [e113]; exact Ar116.1) (State.isArrayOf_alike hZ.alike Ar116.2.1) Ar116.2.2 hin116 hat116 (g := (mkF m 356 #[jv q0, .second, jv m1, .second, jv m7, .second, jv m9, .second, iv p4, iv (3 : Int32), rv b91, rv b96, iv m99] [(.int (2 : Int32)), (.ref b96)])) rfl rfl (hb hby at_356)) ?_
          show Go p e below _ m T113 357 #[jv q0, .second, jv m1, .second, jv m7, .second, jv m9, .second, iv p4, iv (3 : Int32), rv b91, rv b96, iv m99] [(.long (LL.getD 2 0))]
          refine go (fun t kt => XS.iload X113.here hx rfl (hb hby at_357) rfl kt) ?_
          show Go p e below _ m T113 359 #[jv q0, .second, jv m1, .second, jv m7, .second, jv m9, .second, iv p4, iv (3 : Int32), rv b91, rv b96, iv m99] [(.int (3 : Int32)), (.long (LL.getD 2 0))]
          refine go (fun t kt => XS.lloadN X113.here hx rfl (hb hby at_359) rfl kt) ?_
          show Go p e below _ m T113 360 #[jv q0, .second, jv m1, .second, jv m7, .second, jv m9, .second, iv p4, iv (3 : Int32), rv b91, rv b96, iv m99] [(.long q0), (.int (3 : Int32)), (.long (LL.getD 2 0))]
          refine go (fun t kt => XS.lloadN X113.here hx rfl (hb hby at_360) rfl kt) ?_
          show Go p e below _ m T113 361 #[jv q0, .second, jv m1, .second, jv m7, .second, jv m9, .second, iv p4, iv (3 : Int32), rv b91, rv b96, iv m99] [(.long m1), (.long q0), (.int (3 : Int32)), (.long (LL.getD 2 0))]
          refine go (fun t kt => XS.lload X113.here hx rfl (hb hby at_361) rfl kt) ?_
          show Go p e below _ m T113 363 #[jv q0, .second, jv m1, .second, jv m7, .second, jv m9, .second, iv p4, iv (3 : Int32), rv b91, rv b96, iv m99] [(.long m7), (.long m1), (.long q0), (.int (3 : Int32)), (.long (LL.getD 2 0))]
          refine go (fun t kt => XS.lload X113.here hx rfl (hb hby at_363) rfl kt) ?_
          show Go p e below _ m T113 365 #[jv q0, .second, jv m1, .second, jv m7, .second, jv m9, .second, iv p4, iv (3 : Int32), rv b91, rv b96, iv m99] [(.long m9), (.long m7), (.long m1), (.long q0), (.int (3 : Int32)), (.long (LL.getD 2 0))]
          obtain ⟨_, _, ⟨T117, L117, k117, n117⟩, -, X117, ⟨Lc117, hQ117, l117, y117, z117⟩, st117⟩ := Jvm.LawKit.callS X113 hx (y := (⟨"com/example/modest_tree_automata/modesttreeautomata/LongIntMapKeysPinLaw", "isInput", "(JIJJJJ)Z"⟩ : MethodName)) hown (mvT hZ (hw _ (List.mem_of_getElem? (i := 38) rfl))) (mvT hZ (hw _ (List.mem_of_getElem? (i := 39) rfl))) (mvT hZ (hw _ (List.mem_of_getElem? (i := 36) rfl))) (mvT hZ (hw _ (List.mem_of_getElem? (i := 40) rfl))) (by decide) (backOf (W := 0) (rm7 l Z a0 hw [] (LL.getD 2 0) (3 : Int32) q0 m1 m7 m9 T96.heap n0 Zz96 ) hZ (hw _ (List.mem_of_getElem? (i := 40) rfl)) (hw _ (List.mem_of_getElem? (i := 36) rfl)) (by decide) (by decide)) (g := (mkF m 365 #[jv q0, .second, jv m1, .second, jv m7, .second, jv m9, .second, iv p4, iv (3 : Int32), rv b91, rv b96, iv m99] [(.long m9), (.long m7), (.long m1), (.long q0), (.int (3 : Int32)), (.long (LL.getD 2 0))])) rfl (by rw [hml]; rfl) (argsL := [(.long (LL.getD 2 0)), (.int (3 : Int32)), (.long q0), (.long m1), (.long m7), (.long m9)]) (rest := []) (lenOf pd_5 rfl) rfl (by show 2 * 0 + _ ≤ _; exact Nat.le_of_eq rfl) (hb hby at_365) (fun _ _ => ⟨rfl, e113, (by decide : 5 + 0 ≤ _), (by decide : 56 + 0 ≤ _)⟩)
          dsimp only [Pt.U, Pt.locs, Pt.cells, Pt.slots] at X117 l117 y117 z117 st117 hQ117
          subst l117 y117 z117
          obtain ⟨rfl, Nq117, e117⟩ := hQ117
          have N117 := Fr.app N113 Nq117
          refine go st117 ?_
          show Go p e below _ m T117 368 #[jv q0, .second, jv m1, .second, jv m7, .second, jv m9, .second, iv p4, iv (3 : Int32), rv b91, rv b96, iv m99] [(.int (own_inp (LL.getD 2 0) (3 : Int32) q0 m1 m7 m9))]
          refine go (fun t kt => XS.ifYes X117.here hx rfl (pc0 := 368) (pc' := 373) rfl (hb hby at_368) rfl ((if0 _ _).trans (feq (own_in3 _ _ _ _ _ ((hmem _).mp (own_gm hwz (Nat.le_trans hlen (Nat.le_of_ble_eq_true rfl)) (2 : Int32) 2 rfl hc115)))).2) (by decide) (by decide) kt) ?_
          show Go p e below _ m T117 373 #[jv q0, .second, jv m1, .second, jv m7, .second, jv m9, .second, iv p4, iv (3 : Int32), rv b91, rv b96, iv m99] []
          refine go (fun t kt => XS.aload X117.here hx rfl (hb hby at_373) rfl rfl kt) ?_
          show Go p e below _ m T117 375 #[jv q0, .second, jv m1, .second, jv m7, .second, jv m9, .second, iv p4, iv (3 : Int32), rv b91, rv b96, iv m99] [(.ref b96)]
          obtain ⟨cl118, Ar118, qc118, S118, M118, H118, G118⟩ := id V_b96
          refine go (X117.arraylength hx (by rw [e117]; exact Ar118.1) (State.isArrayOf_alike hZ.alike Ar118.2.1) (g := (mkF m 375 #[jv q0, .second, jv m1, .second, jv m7, .second, jv m9, .second, iv p4, iv (3 : Int32), rv b91, rv b96, iv m99] [(.ref b96)])) rfl rfl (hb hby at_375)) ?_
          rw [len_of S118 M118]
          show Go p e below _ m T117 376 #[jv q0, .second, jv m1, .second, jv m7, .second, jv m9, .second, iv p4, iv (3 : Int32), rv b91, rv b96, iv m99] [(.int wz95)]
          refine go (fun t kt => XS.iconst X117.here hx rfl (hb hby at_376) kt) ?_
          show Go p e below _ m T117 377 #[jv q0, .second, jv m1, .second, jv m7, .second, jv m9, .second, iv p4, iv (3 : Int32), rv b91, rv b96, iv m99] [(.int (3 : Int32)), (.int wz95)]
          by_cases hc119 : (3 : Int32) < wz95
          ·
            refine go (fun t kt => XS.icmpNo X117.here hx rfl (hb hby at_377) rfl (tlt hc119).2.2.2 kt) ?_
            show Go p e below _ m T117 380 #[jv q0, .second, jv m1, .second, jv m7, .second, jv m9, .second, iv p4, iv (3 : Int32), rv b91, rv b96, iv m99] []
            refine go (fun t kt => XS.aload X117.here hx rfl (hb hby at_380) rfl rfl kt) ?_
            show Go p e below _ m T117 382 #[jv q0, .second, jv m1, .second, jv m7, .second, jv m9, .second, iv p4, iv (3 : Int32), rv b91, rv b96, iv m99] [(.ref b96)]
            refine go (fun t kt => XS.iconst X117.here hx rfl (hb hby at_382) kt) ?_
            show Go p e below _ m T117 383 #[jv q0, .second, jv m1, .second, jv m7, .second, jv m9, .second, iv p4, iv (3 : Int32), rv b91, rv b96, iv m99] [(.int (3 : Int32)), (.ref b96)]
            obtain ⟨cl120, Ar120, qc120, S120, M120, H120, G120⟩ := id V_b96
            have hin120 : ¬ ((3 : Int32) < 0 ∨ cl120.slots.size ≤ ((3 : Int32)).toNatClampNeg) := inb_of S120 ⟨by decide, hc119⟩
            have hat120 : cl120.slots[((3 : Int32)).toNatClampNeg]? = some (.long (LL.getD 3 0)) := H120.at hin120 (own_getJ LL 3)
            refine go (X117.laload hx (j := (3 : Int32)) (v := (.long (LL.getD 3 0))) (by rw [e117]; exact Ar120.1) (State.isArrayOf_alike hZ.alike Ar120.2.1) Ar120.2.2 hin120 hat120 (g := (mkF m 383 #[jv q0, .second, jv m1, .second, jv m7, .second, jv m9, .second, iv p4, iv (3 : Int32), rv b91, rv b96, iv m99] [(.int (3 : Int32)), (.ref b96)])) rfl rfl (hb hby at_383)) ?_
            show Go p e below _ m T117 384 #[jv q0, .second, jv m1, .second, jv m7, .second, jv m9, .second, iv p4, iv (3 : Int32), rv b91, rv b96, iv m99] [(.long (LL.getD 3 0))]
            refine go (fun t kt => XS.iload X117.here hx rfl (hb hby at_384) rfl kt) ?_
            show Go p e below _ m T117 386 #[jv q0, .second, jv m1, .second, jv m7, .second, jv m9, .second, iv p4, iv (3 : Int32), rv b91, rv b96, iv m99] [(.int (3 : Int32)), (.long (LL.getD 3 0))]
            refine go (fun t kt => XS.lloadN X117.here hx rfl (hb hby at_386) rfl kt) ?_
            show Go p e below _ m T117 387 #[jv q0, .second, jv m1, .second, jv m7, .second, jv m9, .second, iv p4, iv (3 : Int32), rv b91, rv b96, iv m99] [(.long q0), (.int (3 : Int32)), (.long (LL.getD 3 0))]
            refine go (fun t kt => XS.lloadN X117.here hx rfl (hb hby at_387) rfl kt) ?_
            show Go p e below _ m T117 388 #[jv q0, .second, jv m1, .second, jv m7, .second, jv m9, .second, iv p4, iv (3 : Int32), rv b91, rv b96, iv m99] [(.long m1), (.long q0), (.int (3 : Int32)), (.long (LL.getD 3 0))]
            refine go (fun t kt => XS.lload X117.here hx rfl (hb hby at_388) rfl kt) ?_
            show Go p e below _ m T117 390 #[jv q0, .second, jv m1, .second, jv m7, .second, jv m9, .second, iv p4, iv (3 : Int32), rv b91, rv b96, iv m99] [(.long m7), (.long m1), (.long q0), (.int (3 : Int32)), (.long (LL.getD 3 0))]
            refine go (fun t kt => XS.lload X117.here hx rfl (hb hby at_390) rfl kt) ?_
            show Go p e below _ m T117 392 #[jv q0, .second, jv m1, .second, jv m7, .second, jv m9, .second, iv p4, iv (3 : Int32), rv b91, rv b96, iv m99] [(.long m9), (.long m7), (.long m1), (.long q0), (.int (3 : Int32)), (.long (LL.getD 3 0))]
            obtain ⟨_, _, ⟨T121, L121, k121, n121⟩, -, X121, ⟨Lc121, hQ121, l121, y121, z121⟩, st121⟩ := Jvm.LawKit.callS X117 hx (y := (⟨"com/example/modest_tree_automata/modesttreeautomata/LongIntMapKeysPinLaw", "isInput", "(JIJJJJ)Z"⟩ : MethodName)) hown (mvT hZ (hw _ (List.mem_of_getElem? (i := 38) rfl))) (mvT hZ (hw _ (List.mem_of_getElem? (i := 39) rfl))) (mvT hZ (hw _ (List.mem_of_getElem? (i := 36) rfl))) (mvT hZ (hw _ (List.mem_of_getElem? (i := 40) rfl))) (by decide) (backOf (W := 0) (rm7 l Z a0 hw [] (LL.getD 3 0) (3 : Int32) q0 m1 m7 m9 T96.heap n0 Zz96 ) hZ (hw _ (List.mem_of_getElem? (i := 40) rfl)) (hw _ (List.mem_of_getElem? (i := 36) rfl)) (by decide) (by decide)) (g := (mkF m 392 #[jv q0, .second, jv m1, .second, jv m7, .second, jv m9, .second, iv p4, iv (3 : Int32), rv b91, rv b96, iv m99] [(.long m9), (.long m7), (.long m1), (.long q0), (.int (3 : Int32)), (.long (LL.getD 3 0))])) rfl (by rw [hml]; rfl) (argsL := [(.long (LL.getD 3 0)), (.int (3 : Int32)), (.long q0), (.long m1), (.long m7), (.long m9)]) (rest := []) (lenOf pd_5 rfl) rfl (by show 2 * 0 + _ ≤ _; exact Nat.le_of_eq rfl) (hb hby at_392) (fun _ _ => ⟨rfl, e117, (by decide : 5 + 0 ≤ _), (by decide : 56 + 0 ≤ _)⟩)
            dsimp only [Pt.U, Pt.locs, Pt.cells, Pt.slots] at X121 l121 y121 z121 st121 hQ121
            subst l121 y121 z121
            obtain ⟨rfl, Nq121, e121⟩ := hQ121
            have N121 := Fr.app N117 Nq121
            refine go st121 ?_
            show Go p e below _ m T121 395 #[jv q0, .second, jv m1, .second, jv m7, .second, jv m9, .second, iv p4, iv (3 : Int32), rv b91, rv b96, iv m99] [(.int (own_inp (LL.getD 3 0) (3 : Int32) q0 m1 m7 m9))]
            refine go (fun t kt => XS.ifYes X121.here hx rfl (pc0 := 395) (pc' := 400) rfl (hb hby at_395) rfl ((if0 _ _).trans (feq (own_in3 _ _ _ _ _ ((hmem _).mp (own_gm hwz (Nat.le_trans hlen (Nat.le_of_ble_eq_true rfl)) (3 : Int32) 3 rfl hc119)))).2) (by decide) (by decide) kt) ?_
            show Go p e below _ m T121 400 #[jv q0, .second, jv m1, .second, jv m7, .second, jv m9, .second, iv p4, iv (3 : Int32), rv b91, rv b96, iv m99] []
            refine go (fun t kt => XS.iconst X121.here hx rfl (hb hby at_400) kt) ?_
            show Go p e below _ m T121 401 #[jv q0, .second, jv m1, .second, jv m7, .second, jv m9, .second, iv p4, iv (3 : Int32), rv b91, rv b96, iv m99] [(.int (1 : Int32))]
            obtain ⟨fs, hr, hrun, hended, hW, hsame⟩ := X121.leave (v := some (.int (1 : Int32))) (fun h => by rw [Bd.returns] at h; cases h)
            refine ⟨_, _, retN X121 hx (t := .boolean) Bd.returns (by simp) (hb hby at_401) hr, hrun, hended, _, _, rfl, ?_, ⟨_, rfl⟩, hW, hsame.mono (by decide) (by decide)⟩
            show Q0 Z q0 q1 q2 q3 p4 h0 n0 _ T121.heap _
            rw [e121]
            exact ⟨rfl, N121⟩
          ·
            refine go (fun t kt => XS.icmpYes X117.here hx rfl (pc0 := 377) (pc' := 400) rfl (hb hby at_377) rfl (flt hc119).2.2.2 (by decide) (by decide) kt) ?_
            show Go p e below _ m T117 400 #[jv q0, .second, jv m1, .second, jv m7, .second, jv m9, .second, iv p4, iv (3 : Int32), rv b91, rv b96, iv m99] []
            refine go (fun t kt => XS.iconst X117.here hx rfl (hb hby at_400) kt) ?_
            show Go p e below _ m T117 401 #[jv q0, .second, jv m1, .second, jv m7, .second, jv m9, .second, iv p4, iv (3 : Int32), rv b91, rv b96, iv m99] [(.int (1 : Int32))]
            obtain ⟨fs, hr, hrun, hended, hW, hsame⟩ := X117.leave (v := some (.int (1 : Int32))) (fun h => by rw [Bd.returns] at h; cases h)
            refine ⟨_, _, retN X117 hx (t := .boolean) Bd.returns (by simp) (hb hby at_401) hr, hrun, hended, _, _, rfl, ?_, ⟨_, rfl⟩, hW, hsame.mono (by decide) (by decide)⟩
            show Q0 Z q0 q1 q2 q3 p4 h0 n0 _ T117.heap _
            rw [e117]
            exact ⟨rfl, N117⟩
        ·
          refine go (fun t kt => XS.icmpYes X113.here hx rfl (pc0 := 350) (pc' := 373) rfl (hb hby at_350) rfl (flt hc115).2.2.2 (by decide) (by decide) kt) ?_
          show Go p e below _ m T113 373 #[jv q0, .second, jv m1, .second, jv m7, .second, jv m9, .second, iv p4, iv (3 : Int32), rv b91, rv b96, iv m99] []
          refine go (fun t kt => XS.aload X113.here hx rfl (hb hby at_373) rfl rfl kt) ?_
          show Go p e below _ m T113 375 #[jv q0, .second, jv m1, .second, jv m7, .second, jv m9, .second, iv p4, iv (3 : Int32), rv b91, rv b96, iv m99] [(.ref b96)]
          obtain ⟨cl124, Ar124, qc124, S124, M124, H124, G124⟩ := id V_b96
          refine go (X113.arraylength hx (by rw [e113]; exact Ar124.1) (State.isArrayOf_alike hZ.alike Ar124.2.1) (g := (mkF m 375 #[jv q0, .second, jv m1, .second, jv m7, .second, jv m9, .second, iv p4, iv (3 : Int32), rv b91, rv b96, iv m99] [(.ref b96)])) rfl rfl (hb hby at_375)) ?_
          rw [len_of S124 M124]
          show Go p e below _ m T113 376 #[jv q0, .second, jv m1, .second, jv m7, .second, jv m9, .second, iv p4, iv (3 : Int32), rv b91, rv b96, iv m99] [(.int wz95)]
          refine go (fun t kt => XS.iconst X113.here hx rfl (hb hby at_376) kt) ?_
          show Go p e below _ m T113 377 #[jv q0, .second, jv m1, .second, jv m7, .second, jv m9, .second, iv p4, iv (3 : Int32), rv b91, rv b96, iv m99] [(.int (3 : Int32)), (.int wz95)]
          refine go (fun t kt => XS.icmpYes X113.here hx rfl (pc0 := 377) (pc' := 400) rfl (hb hby at_377) rfl (flt (own_nl hc115 (by decide))).2.2.2 (by decide) (by decide) kt) ?_
          show Go p e below _ m T113 400 #[jv q0, .second, jv m1, .second, jv m7, .second, jv m9, .second, iv p4, iv (3 : Int32), rv b91, rv b96, iv m99] []
          refine go (fun t kt => XS.iconst X113.here hx rfl (hb hby at_400) kt) ?_
          show Go p e below _ m T113 401 #[jv q0, .second, jv m1, .second, jv m7, .second, jv m9, .second, iv p4, iv (3 : Int32), rv b91, rv b96, iv m99] [(.int (1 : Int32))]
          obtain ⟨fs, hr, hrun, hended, hW, hsame⟩ := X113.leave (v := some (.int (1 : Int32))) (fun h => by rw [Bd.returns] at h; cases h)
          refine ⟨_, _, retN X113 hx (t := .boolean) Bd.returns (by simp) (hb hby at_401) hr, hrun, hended, _, _, rfl, ?_, ⟨_, rfl⟩, hW, hsame.mono (by decide) (by decide)⟩
          show Q0 Z q0 q1 q2 q3 p4 h0 n0 _ T113.heap _
          rw [e113]
          exact ⟨rfl, N113⟩
      ·
        refine go (fun t kt => XS.icmpYes X109.here hx rfl (pc0 := 323) (pc' := 346) rfl (hb hby at_323) rfl (flt hc111).2.2.2 (by decide) (by decide) kt) ?_
        show Go p e below _ m T109 346 #[jv q0, .second, jv m1, .second, jv m7, .second, jv m9, .second, iv p4, iv (3 : Int32), rv b91, rv b96, iv m99] []
        refine go (fun t kt => XS.aload X109.here hx rfl (hb hby at_346) rfl rfl kt) ?_
        show Go p e below _ m T109 348 #[jv q0, .second, jv m1, .second, jv m7, .second, jv m9, .second, iv p4, iv (3 : Int32), rv b91, rv b96, iv m99] [(.ref b96)]
        obtain ⟨cl126, Ar126, qc126, S126, M126, H126, G126⟩ := id V_b96
        refine go (X109.arraylength hx (by rw [e109]; exact Ar126.1) (State.isArrayOf_alike hZ.alike Ar126.2.1) (g := (mkF m 348 #[jv q0, .second, jv m1, .second, jv m7, .second, jv m9, .second, iv p4, iv (3 : Int32), rv b91, rv b96, iv m99] [(.ref b96)])) rfl rfl (hb hby at_348)) ?_
        rw [len_of S126 M126]
        show Go p e below _ m T109 349 #[jv q0, .second, jv m1, .second, jv m7, .second, jv m9, .second, iv p4, iv (3 : Int32), rv b91, rv b96, iv m99] [(.int wz95)]
        refine go (fun t kt => XS.iconst X109.here hx rfl (hb hby at_349) kt) ?_
        show Go p e below _ m T109 350 #[jv q0, .second, jv m1, .second, jv m7, .second, jv m9, .second, iv p4, iv (3 : Int32), rv b91, rv b96, iv m99] [(.int (2 : Int32)), (.int wz95)]
        refine go (fun t kt => XS.icmpYes X109.here hx rfl (pc0 := 350) (pc' := 373) rfl (hb hby at_350) rfl (flt (own_nl hc111 (by decide))).2.2.2 (by decide) (by decide) kt) ?_
        show Go p e below _ m T109 373 #[jv q0, .second, jv m1, .second, jv m7, .second, jv m9, .second, iv p4, iv (3 : Int32), rv b91, rv b96, iv m99] []
        refine go (fun t kt => XS.aload X109.here hx rfl (hb hby at_373) rfl rfl kt) ?_
        show Go p e below _ m T109 375 #[jv q0, .second, jv m1, .second, jv m7, .second, jv m9, .second, iv p4, iv (3 : Int32), rv b91, rv b96, iv m99] [(.ref b96)]
        obtain ⟨cl127, Ar127, qc127, S127, M127, H127, G127⟩ := id V_b96
        refine go (X109.arraylength hx (by rw [e109]; exact Ar127.1) (State.isArrayOf_alike hZ.alike Ar127.2.1) (g := (mkF m 375 #[jv q0, .second, jv m1, .second, jv m7, .second, jv m9, .second, iv p4, iv (3 : Int32), rv b91, rv b96, iv m99] [(.ref b96)])) rfl rfl (hb hby at_375)) ?_
        rw [len_of S127 M127]
        show Go p e below _ m T109 376 #[jv q0, .second, jv m1, .second, jv m7, .second, jv m9, .second, iv p4, iv (3 : Int32), rv b91, rv b96, iv m99] [(.int wz95)]
        refine go (fun t kt => XS.iconst X109.here hx rfl (hb hby at_376) kt) ?_
        show Go p e below _ m T109 377 #[jv q0, .second, jv m1, .second, jv m7, .second, jv m9, .second, iv p4, iv (3 : Int32), rv b91, rv b96, iv m99] [(.int (3 : Int32)), (.int wz95)]
        refine go (fun t kt => XS.icmpYes X109.here hx rfl (pc0 := 377) (pc' := 400) rfl (hb hby at_377) rfl (flt (own_nl hc111 (by decide))).2.2.2 (by decide) (by decide) kt) ?_
        show Go p e below _ m T109 400 #[jv q0, .second, jv m1, .second, jv m7, .second, jv m9, .second, iv p4, iv (3 : Int32), rv b91, rv b96, iv m99] []
        refine go (fun t kt => XS.iconst X109.here hx rfl (hb hby at_400) kt) ?_
        show Go p e below _ m T109 401 #[jv q0, .second, jv m1, .second, jv m7, .second, jv m9, .second, iv p4, iv (3 : Int32), rv b91, rv b96, iv m99] [(.int (1 : Int32))]
        obtain ⟨fs, hr, hrun, hended, hW, hsame⟩ := X109.leave (v := some (.int (1 : Int32))) (fun h => by rw [Bd.returns] at h; cases h)
        refine ⟨_, _, retN X109 hx (t := .boolean) Bd.returns (by simp) (hb hby at_401) hr, hrun, hended, _, _, rfl, ?_, ⟨_, rfl⟩, hW, hsame.mono (by decide) (by decide)⟩
        show Q0 Z q0 q1 q2 q3 p4 h0 n0 _ T109.heap _
        rw [e109]
        exact ⟨rfl, N109⟩
    ·
      refine go (fun t kt => XS.ifYes X105.here hx rfl (pc0 := 296) (pc' := 319) rfl (hb hby at_296) rfl ((if0 _ _).trans (flt hc107).2.2.2) (by decide) (by decide) kt) ?_
      show Go p e below _ m T105 319 #[jv q0, .second, jv m1, .second, jv m7, .second, jv m9, .second, iv p4, iv (3 : Int32), rv b91, rv b96, iv m99] []
      refine go (fun t kt => XS.aload X105.here hx rfl (hb hby at_319) rfl rfl kt) ?_
      show Go p e below _ m T105 321 #[jv q0, .second, jv m1, .second, jv m7, .second, jv m9, .second, iv p4, iv (3 : Int32), rv b91, rv b96, iv m99] [(.ref b96)]
      obtain ⟨cl129, Ar129, qc129, S129, M129, H129, G129⟩ := id V_b96
      refine go (X105.arraylength hx (by rw [e105]; exact Ar129.1) (State.isArrayOf_alike hZ.alike Ar129.2.1) (g := (mkF m 321 #[jv q0, .second, jv m1, .second, jv m7, .second, jv m9, .second, iv p4, iv (3 : Int32), rv b91, rv b96, iv m99] [(.ref b96)])) rfl rfl (hb hby at_321)) ?_
      rw [len_of S129 M129]
      show Go p e below _ m T105 322 #[jv q0, .second, jv m1, .second, jv m7, .second, jv m9, .second, iv p4, iv (3 : Int32), rv b91, rv b96, iv m99] [(.int wz95)]
      refine go (fun t kt => XS.iconst X105.here hx rfl (hb hby at_322) kt) ?_
      show Go p e below _ m T105 323 #[jv q0, .second, jv m1, .second, jv m7, .second, jv m9, .second, iv p4, iv (3 : Int32), rv b91, rv b96, iv m99] [(.int (1 : Int32)), (.int wz95)]
      refine go (fun t kt => XS.icmpYes X105.here hx rfl (pc0 := 323) (pc' := 346) rfl (hb hby at_323) rfl (flt (own_nl hc107 (by decide))).2.2.2 (by decide) (by decide) kt) ?_
      show Go p e below _ m T105 346 #[jv q0, .second, jv m1, .second, jv m7, .second, jv m9, .second, iv p4, iv (3 : Int32), rv b91, rv b96, iv m99] []
      refine go (fun t kt => XS.aload X105.here hx rfl (hb hby at_346) rfl rfl kt) ?_
      show Go p e below _ m T105 348 #[jv q0, .second, jv m1, .second, jv m7, .second, jv m9, .second, iv p4, iv (3 : Int32), rv b91, rv b96, iv m99] [(.ref b96)]
      obtain ⟨cl130, Ar130, qc130, S130, M130, H130, G130⟩ := id V_b96
      refine go (X105.arraylength hx (by rw [e105]; exact Ar130.1) (State.isArrayOf_alike hZ.alike Ar130.2.1) (g := (mkF m 348 #[jv q0, .second, jv m1, .second, jv m7, .second, jv m9, .second, iv p4, iv (3 : Int32), rv b91, rv b96, iv m99] [(.ref b96)])) rfl rfl (hb hby at_348)) ?_
      rw [len_of S130 M130]
      show Go p e below _ m T105 349 #[jv q0, .second, jv m1, .second, jv m7, .second, jv m9, .second, iv p4, iv (3 : Int32), rv b91, rv b96, iv m99] [(.int wz95)]
      refine go (fun t kt => XS.iconst X105.here hx rfl (hb hby at_349) kt) ?_
      show Go p e below _ m T105 350 #[jv q0, .second, jv m1, .second, jv m7, .second, jv m9, .second, iv p4, iv (3 : Int32), rv b91, rv b96, iv m99] [(.int (2 : Int32)), (.int wz95)]
      refine go (fun t kt => XS.icmpYes X105.here hx rfl (pc0 := 350) (pc' := 373) rfl (hb hby at_350) rfl (flt (own_nl hc107 (by decide))).2.2.2 (by decide) (by decide) kt) ?_
      show Go p e below _ m T105 373 #[jv q0, .second, jv m1, .second, jv m7, .second, jv m9, .second, iv p4, iv (3 : Int32), rv b91, rv b96, iv m99] []
      refine go (fun t kt => XS.aload X105.here hx rfl (hb hby at_373) rfl rfl kt) ?_
      show Go p e below _ m T105 375 #[jv q0, .second, jv m1, .second, jv m7, .second, jv m9, .second, iv p4, iv (3 : Int32), rv b91, rv b96, iv m99] [(.ref b96)]
      obtain ⟨cl131, Ar131, qc131, S131, M131, H131, G131⟩ := id V_b96
      refine go (X105.arraylength hx (by rw [e105]; exact Ar131.1) (State.isArrayOf_alike hZ.alike Ar131.2.1) (g := (mkF m 375 #[jv q0, .second, jv m1, .second, jv m7, .second, jv m9, .second, iv p4, iv (3 : Int32), rv b91, rv b96, iv m99] [(.ref b96)])) rfl rfl (hb hby at_375)) ?_
      rw [len_of S131 M131]
      show Go p e below _ m T105 376 #[jv q0, .second, jv m1, .second, jv m7, .second, jv m9, .second, iv p4, iv (3 : Int32), rv b91, rv b96, iv m99] [(.int wz95)]
      refine go (fun t kt => XS.iconst X105.here hx rfl (hb hby at_376) kt) ?_
      show Go p e below _ m T105 377 #[jv q0, .second, jv m1, .second, jv m7, .second, jv m9, .second, iv p4, iv (3 : Int32), rv b91, rv b96, iv m99] [(.int (3 : Int32)), (.int wz95)]
      refine go (fun t kt => XS.icmpYes X105.here hx rfl (pc0 := 377) (pc' := 400) rfl (hb hby at_377) rfl (flt (own_nl hc107 (by decide))).2.2.2 (by decide) (by decide) kt) ?_
      show Go p e below _ m T105 400 #[jv q0, .second, jv m1, .second, jv m7, .second, jv m9, .second, iv p4, iv (3 : Int32), rv b91, rv b96, iv m99] []
      refine go (fun t kt => XS.iconst X105.here hx rfl (hb hby at_400) kt) ?_
      show Go p e below _ m T105 401 #[jv q0, .second, jv m1, .second, jv m7, .second, jv m9, .second, iv p4, iv (3 : Int32), rv b91, rv b96, iv m99] [(.int (1 : Int32))]
      obtain ⟨fs, hr, hrun, hended, hW, hsame⟩ := X105.leave (v := some (.int (1 : Int32))) (fun h => by rw [Bd.returns] at h; cases h)
      refine ⟨_, _, retN X105 hx (t := .boolean) Bd.returns (by simp) (hb hby at_401) hr, hrun, hended, _, _, rfl, ?_, ⟨_, rfl⟩, hW, hsame.mono (by decide) (by decide)⟩
      show Q0 Z q0 q1 q2 q3 p4 h0 n0 _ T105.heap _
      rw [e105]
      exact ⟨rfl, N105⟩
  ·
    rw [hk11]
    show Go p e below _ m s₁ 65 #[jv q0, .second, jv m1, .second, jv m7, .second, jv m9, .second, iv p4, iv (4 : Int32), .unset, .unset, .unset] []
    obtain ⟨T133, h133, X133, e133, E133, A133, D133, -, st133⟩ := newO X0 hx hZ hown (hw _ (List.mem_of_getElem? (i := 0) rfl)) (hw _ (List.mem_of_getElem? (i := 1) rfl)) (hw _ (List.mem_of_getElem? (i := 2) rfl)) e0 (g := (mkF m 65 #[jv q0, .second, jv m1, .second, jv m7, .second, jv m9, .second, iv p4, iv (4 : Int32), .unset, .unset, .unset] [])) rfl (hb hby at_65) (by decide) (by decide)
    obtain ⟨b133, g133⟩ : ∃ z, z = h0.size := ⟨_, rfl⟩
    rw [← g133] at A133 D133 st133
    have g_b133 : n0 ≤ b133 := Nat.le_trans Z0 (Nat.le_of_eq g133.symm)
    have sz_b133 : h0.size ≤ b133 := Nat.le_trans K0.1 (Nat.le_of_eq g133.symm)
    have Zz133 := Nat.le_trans Z0 E133.1
    have Kk133 := K0.ext E133
    have E_b133 := A133
    have F_keys_b133 : Fld Z h133 b133 "com/example/modest_tree_automata/modesttreeautomata/LongIntMap" "keys" "[J" .null := D133 (Or.inl (hw _ (List.mem_of_getElem? (i := 11) rfl))) (ty := (.array .long)) (by decide)
    have F_values_b133 : Fld Z h133 b133 "com/example/modest_tree_automata/modesttreeautomata/LongIntMap" "values" "[I" .null := D133 (Or.inl (hw _ (List.mem_of_getElem? (i := 14) rfl))) (ty := (.array .int)) (by decide)
    have F_used_b133 : Fld Z h133 b133 "com/example/modest_tree_automata/modesttreeautomata/LongIntMap" "used" "[Z" .null := D133 (Or.inl (hw _ (List.mem_of_getElem? (i := 17) rfl))) (ty := (.array .boolean)) (by decide)
    have F_size_b133 : Fld Z h133 b133 "com/example/modest_tree_automata/modesttreeautomata/LongIntMap" "size" "I" (.int (0 : Int32)) := D133 (Or.inl (hw _ (List.mem_of_getElem? (i := 24) rfl))) (ty := .int) (by decide)
    refine go st133 ?_
    show Go p e below _ m T133 68 #[jv q0, .second, jv m1, .second, jv m7, .second, jv m9, .second, iv p4, iv (4 : Int32), .unset, .unset, .unset] [(.ref b133)]
    refine go (fun t kt => XS.dup X133.here hx rfl (hb hby at_68) rfl rfl kt) ?_
    show Go p e below _ m T133 69 #[jv q0, .second, jv m1, .second, jv m7, .second, jv m9, .second, iv p4, iv (4 : Int32), .unset, .unset, .unset] [(.ref b133), (.ref b133)]
    obtain ⟨_, _, ⟨T134, L134, k134, n134⟩, -, X134, ⟨Lc134, hQ134, l134, y134, z134⟩, st134⟩ := X133.specialBack hx (y := (⟨"com/example/modest_tree_automata/modesttreeautomata/LongIntMap", "<init>", "()V"⟩ : MethodName)) rfl hown (mvT hZ (hw _ (List.mem_of_getElem? (i := 3) rfl))) (mvT hZ (hw _ (List.mem_of_getElem? (i := 4) rfl))) (mvT hZ (hw _ (List.mem_of_getElem? (i := 5) rfl))) (by decide) (backOf (W := 1) (rm1 l Z a0 hw [] b133 .null .null .null (0 : Int32) h133 n0 Zz133 E_b133 F_keys_b133 F_values_b133 F_used_b133 F_size_b133 g_b133) hZ (hw _ (List.mem_of_getElem? (i := 5) rfl)) (hw _ (List.mem_of_getElem? (i := 2) rfl)) (by decide) (by decide)) (g := (mkF m 69 #[jv q0, .second, jv m1, .second, jv m7, .second, jv m9, .second, iv p4, iv (4 : Int32), .unset, .unset, .unset] [(.ref b133), (.ref b133)])) rfl (by rw [hml]; rfl) (Steps.refl _) (a := b133) (argsL := []) (rest := [(.ref b133)]) (lenOf pd_1 rfl) rfl (by show 2 * 0 + _ ≤ _; exact Nat.le_of_eq rfl) (hb hby at_69) (fun _ _ => ⟨rfl, e133, (by decide : 1 + 3 ≤ _), (by decide : 4 + 48 ≤ _)⟩)
    dsimp only [Pt.U, Pt.locs, Pt.cells, Pt.slots] at X134 l134 y134 z134 st134 hQ134
    subst l134 y134 z134
    obtain ⟨rfl, Nq134, Kq134, Eq134, ok134, ov134, ou134, kk134, kv134, ku134, l1, l2, l3, ne_ok134_ov134, ne_ok134_ou134, ne_ov134_ou134, G1, G2, G3, G4, G5, G6, G7⟩ := hQ134
    have ne_b133_ok134 : b133 ≠ ok134 := Nat.ne_of_lt (Nat.lt_of_lt_of_le E_b133.lt l1)
    have g_ok134 : n0 ≤ ok134 := Nat.le_trans Zz133 l1
    have sz_ok134 : h0.size ≤ ok134 := Nat.le_trans Kk133.1 l1
    have ne_b133_ov134 : b133 ≠ ov134 := Nat.ne_of_lt (Nat.lt_of_lt_of_le E_b133.lt l2)
    have g_ov134 : n0 ≤ ov134 := Nat.le_trans Zz133 l2
    have sz_ov134 : h0.size ≤ ov134 := Nat.le_trans Kk133.1 l2
    have ne_b133_ou134 : b133 ≠ ou134 := Nat.ne_of_lt (Nat.lt_of_lt_of_le E_b133.lt l3)
    have g_ou134 : n0 ≤ ou134 := Nat.le_trans Zz133 l3
    have sz_ou134 : h0.size ≤ ou134 := Nat.le_trans Kk133.1 l3
    replace E_b133 := E_b133.keep Kq134
    clear F_keys_b133
    clear F_values_b133
    clear F_used_b133
    clear F_size_b133
    have Zz134 := Nat.le_trans Zz133 Kq134.1
    have Kk134 := Kk133.trans Kq134 (allS (Or.inr sz_b133) all0)
    have E_b133 := Eq134
    have F_keys_b133 := G1
    have F_values_b133 := G2
    have F_used_b133 := G3
    have F_size_b133 := G4
    have V_ok134 := G5
    have V_ov134 := G6
    have V_ou134 := G7
    have N134 := Fr.app N0 Nq134
    refine go (fun t kt => st134.trans kt) ?_
    show Go p e below _ m T134 72 #[jv q0, .second, jv m1, .second, jv m7, .second, jv m9, .second, iv p4, iv (4 : Int32), .unset, .unset, .unset] [(.ref b133)]
    refine go (fun t kt => XS.astore X134.here hx rfl (hb hby at_72) rfl rfl (l' := #[jv q0, .second, jv m1, .second, jv m7, .second, jv m9, .second, iv p4, iv (4 : Int32), rv b133, .unset, .unset]) rfl kt) ?_
    show Go p e below _ m T134 74 #[jv q0, .second, jv m1, .second, jv m7, .second, jv m9, .second, iv p4, iv (4 : Int32), rv b133, .unset, .unset] []
    refine go (fun t kt => XS.iload X134.here hx rfl (hb hby at_74) rfl kt) ?_
    show Go p e below _ m T134 76 #[jv q0, .second, jv m1, .second, jv m7, .second, jv m9, .second, iv p4, iv (4 : Int32), rv b133, .unset, .unset] [(.int (4 : Int32))]
    refine go (fun t kt => XS.ifNo X134.here hx rfl (hb hby at_76) rfl ((if0 _ _).trans (tlt (by decide : ((0 : Int32) < (4 : Int32)))).2.2.2) kt) ?_
    show Go p e below _ m T134 79 #[jv q0, .second, jv m1, .second, jv m7, .second, jv m9, .second, iv p4, iv (4 : Int32), rv b133, .unset, .unset] []
    refine go (fun t kt => XS.aload X134.here hx rfl (hb hby at_79) rfl rfl kt) ?_
    show Go p e below _ m T134 81 #[jv q0, .second, jv m1, .second, jv m7, .second, jv m9, .second, iv p4, iv (4 : Int32), rv b133, .unset, .unset] [(.ref b133)]
    refine go (fun t kt => XS.lloadN X134.here hx rfl (hb hby at_81) rfl kt) ?_
    show Go p e below _ m T134 82 #[jv q0, .second, jv m1, .second, jv m7, .second, jv m9, .second, iv p4, iv (4 : Int32), rv b133, .unset, .unset] [(.long q0), (.ref b133)]
    refine go (fun t kt => XS.iconst X134.here hx rfl (hb hby at_82) kt) ?_
    show Go p e below _ m T134 83 #[jv q0, .second, jv m1, .second, jv m7, .second, jv m9, .second, iv p4, iv (4 : Int32), rv b133, .unset, .unset] [(.int (1 : Int32)), (.long q0), (.ref b133)]
    obtain ⟨cq135, kq135, q135a, q135b, q135c⟩ := isOf hZ rfl E_b133
    obtain ⟨_, _, ⟨T135, L135, k135, n135⟩, -, X135, ⟨Lc135, hQ135, l135, y135, z135⟩, st135⟩ := X134.virtualBack hx (y := (⟨"com/example/modest_tree_automata/modesttreeautomata/LongIntMap", "put", "(JI)V"⟩ : MethodName)) (z := (⟨"com/example/modest_tree_automata/modesttreeautomata/LongIntMap", "put", "(JI)V"⟩ : MethodName)) hown (mvT hZ (hw _ (List.mem_of_getElem? (i := 18) rfl))) (mvT hZ (hw _ (List.mem_of_getElem? (i := 19) rfl))) (notFace_of_selects (args := #[]) (mvT hZ (hw _ (List.mem_of_getElem? (i := 21) rfl)))) (mvT hZ (hw _ (List.mem_of_getElem? (i := 21) rfl))) (mvT hZ (hw _ (List.mem_of_getElem? (i := 20) rfl))) (by decide) (backOf (W := 0) (rm3 l Z a0 hw [] b133 q0 (1 : Int32) ok134 ov134 ou134 kk134 kv134 ku134 (List.replicate 16 (0 : Int64)) (List.replicate 16 (0 : Int32)) (List.replicate 16 (.int (0 : Int32))) (0 : Int32) T134.heap n0 Zz134 E_b133 F_keys_b133 F_values_b133 F_used_b133 F_size_b133 V_ok134 V_ov134 V_ou134 g_b133 g_ok134 g_ov134 g_ou134 ne_b133_ok134 ne_b133_ov134 ne_b133_ou134 ne_ok134_ov134 ne_ok134_ou134 ne_ov134_ou134 (own_inv0).2.1 (own_inv0).1 (by simp) (own_hsz own_inv0 (Nat.le_of_ble_eq_true rfl)) (own_inv_stop own_inv0 (Nat.le_of_ble_eq_true rfl) _)) hZ (hw _ (List.mem_of_getElem? (i := 22) rfl)) (hw _ (List.mem_of_getElem? (i := 2) rfl)) (by decide) (by decide)) q135a q135c (g := (mkF m 83 #[jv q0, .second, jv m1, .second, jv m7, .second, jv m9, .second, iv p4, iv (4 : Int32), rv b133, .unset, .unset] [(.int (1 : Int32)), (.long q0), (.ref b133)])) rfl (by rw [hml]; rfl) (Steps.refl _) (argsL := [(.long q0), (.int (1 : Int32))]) (rest := []) (lenOf pd_3 rfl) rfl (by show 2 * 0 + _ ≤ _; exact Nat.le_of_eq rfl) (hb hby at_83) (fun _ _ => ⟨rfl, rfl, (by decide : 4 + 0 ≤ _), (by decide : 52 + 0 ≤ _)⟩)
    dsimp only [Pt.U, Pt.locs, Pt.cells, Pt.slots] at X135 l135 y135 z135 st135 hQ135
    subst l135 y135 z135
    obtain ⟨rfl, Nq135, Kq135, G0, G1, G2, G3, G4, G5, G6, vv135, hvv135, G7⟩ := hQ135
    replace E_b133 := E_b133.keep Kq135
    clear F_keys_b133
    clear F_values_b133
    clear F_used_b133
    clear F_size_b133
    clear V_ok134
    clear V_ov134
    clear V_ou134
    have Zz135 := Nat.le_trans Zz134 Kq135.1
    have Kk135 := Kk134.trans Kq135 (allS (Or.inr sz_b133) (allS (Or.inr sz_ok134) (allS (Or.inr sz_ov134) (allS (Or.inr sz_ou134) all0))))
    have E_b133 := G0
    have F_keys_b133 := G1
    have F_values_b133 := G2
    have F_used_b133 := G3
    have F_size_b133 := G4
    have V_ok134 := G5
    have V_ou134 := G6
    have V_ov134 := G7
    have I135 := own_inv_put own_inv0 (Nat.le_of_ble_eq_true rfl) q0
    generalize hks135 : (own_ks (List.replicate 16 (0 : Int32)) (List.replicate 16 (0 : Int64)) q0) = ks135 at *
    generalize hus135 : (own_us (List.replicate 16 (0 : Int32)) (List.replicate 16 (0 : Int64)) q0) = us135 at *
    generalize hwz135 : (own_sz (List.replicate 16 (0 : Int32)) (List.replicate 16 (0 : Int64)) q0 (0 : Int32)) = wz135 at *
    have N135 := Fr.app N134 Nq135
    refine go (fun t kt => st135.trans kt) ?_
    show Go p e below _ m T135 86 #[jv q0, .second, jv m1, .second, jv m7, .second, jv m9, .second, iv p4, iv (4 : Int32), rv b133, .unset, .unset] []
    refine go (fun t kt => XS.iload X135.here hx rfl (hb hby at_86) rfl kt) ?_
    show Go p e below _ m T135 88 #[jv q0, .second, jv m1, .second, jv m7, .second, jv m9, .second, iv p4, iv (4 : Int32), rv b133, .unset, .unset] [(.int (4 : Int32))]
    refine go (fun t kt => XS.iconst X135.here hx rfl (hb hby at_88) kt) ?_
    show Go p e below _ m T135 89 #[jv q0, .second, jv m1, .second, jv m7, .second, jv m9, .second, iv p4, iv (4 : Int32), rv b133, .unset, .unset] [(.int (1 : Int32)), (.int (4 : Int32))]
    refine go (fun t kt => XS.icmpNo X135.here hx rfl (hb hby at_89) rfl (tlt (by decide : ((1 : Int32) < (4 : Int32)))).2.2.2 kt) ?_
    show Go p e below _ m T135 92 #[jv q0, .second, jv m1, .second, jv m7, .second, jv m9, .second, iv p4, iv (4 : Int32), rv b133, .unset, .unset] []
    refine go (fun t kt => XS.aload X135.here hx rfl (hb hby at_92) rfl rfl kt) ?_
    show Go p e below _ m T135 94 #[jv q0, .second, jv m1, .second, jv m7, .second, jv m9, .second, iv p4, iv (4 : Int32), rv b133, .unset, .unset] [(.ref b133)]
    refine go (fun t kt => XS.lloadN X135.here hx rfl (hb hby at_94) rfl kt) ?_
    show Go p e below _ m T135 95 #[jv q0, .second, jv m1, .second, jv m7, .second, jv m9, .second, iv p4, iv (4 : Int32), rv b133, .unset, .unset] [(.long m1), (.ref b133)]
    refine go (fun t kt => XS.iconst X135.here hx rfl (hb hby at_95) kt) ?_
    show Go p e below _ m T135 96 #[jv q0, .second, jv m1, .second, jv m7, .second, jv m9, .second, iv p4, iv (4 : Int32), rv b133, .unset, .unset] [(.int (2 : Int32)), (.long m1), (.ref b133)]
    obtain ⟨cq136, kq136, q136a, q136b, q136c⟩ := isOf hZ rfl E_b133
    obtain ⟨_, _, ⟨T136, L136, k136, n136⟩, -, X136, ⟨Lc136, hQ136, l136, y136, z136⟩, st136⟩ := X135.virtualBack hx (y := (⟨"com/example/modest_tree_automata/modesttreeautomata/LongIntMap", "put", "(JI)V"⟩ : MethodName)) (z := (⟨"com/example/modest_tree_automata/modesttreeautomata/LongIntMap", "put", "(JI)V"⟩ : MethodName)) hown (mvT hZ (hw _ (List.mem_of_getElem? (i := 18) rfl))) (mvT hZ (hw _ (List.mem_of_getElem? (i := 19) rfl))) (notFace_of_selects (args := #[]) (mvT hZ (hw _ (List.mem_of_getElem? (i := 21) rfl)))) (mvT hZ (hw _ (List.mem_of_getElem? (i := 21) rfl))) (mvT hZ (hw _ (List.mem_of_getElem? (i := 20) rfl))) (by decide) (backOf (W := 0) (rm3 l Z a0 hw [] b133 m1 (2 : Int32) ok134 ov134 ou134 kk134 kv134 ku134 ks135 us135 vv135 wz135 T135.heap n0 Zz135 E_b133 F_keys_b133 F_values_b133 F_used_b133 F_size_b133 V_ok134 V_ov134 V_ou134 g_b133 g_ok134 g_ov134 g_ou134 ne_b133_ok134 ne_b133_ov134 ne_b133_ou134 ne_ok134_ov134 ne_ok134_ou134 ne_ov134_ou134 (I135).2.1 (I135).1 hvv135 (own_hsz I135 (Nat.le_of_ble_eq_true rfl)) (own_inv_stop I135 (Nat.le_of_ble_eq_true rfl) _)) hZ (hw _ (List.mem_of_getElem? (i := 22) rfl)) (hw _ (List.mem_of_getElem? (i := 2) rfl)) (by decide) (by decide)) q136a q136c (g := (mkF m 96 #[jv q0, .second, jv m1, .second, jv m7, .second, jv m9, .second, iv p4, iv (4 : Int32), rv b133, .unset, .unset] [(.int (2 : Int32)), (.long m1), (.ref b133)])) rfl (by rw [hml]; rfl) (Steps.refl _) (argsL := [(.long m1), (.int (2 : Int32))]) (rest := []) (lenOf pd_3 rfl) rfl (by show 2 * 0 + _ ≤ _; exact Nat.le_of_eq rfl) (hb hby at_96) (fun _ _ => ⟨rfl, rfl, (by decide : 4 + 0 ≤ _), (by decide : 52 + 0 ≤ _)⟩)
    dsimp only [Pt.U, Pt.locs, Pt.cells, Pt.slots] at X136 l136 y136 z136 st136 hQ136
    subst l136 y136 z136
    obtain ⟨rfl, Nq136, Kq136, G0, G1, G2, G3, G4, G5, G6, vv136, hvv136, G7⟩ := hQ136
    replace E_b133 := E_b133.keep Kq136
    clear F_keys_b133
    clear F_values_b133
    clear F_used_b133
    clear F_size_b133
    clear V_ok134
    clear V_ou134
    clear V_ov134
    have Zz136 := Nat.le_trans Zz135 Kq136.1
    have Kk136 := Kk135.trans Kq136 (allS (Or.inr sz_b133) (allS (Or.inr sz_ok134) (allS (Or.inr sz_ov134) (allS (Or.inr sz_ou134) all0))))
    have E_b133 := G0
    have F_keys_b133 := G1
    have F_values_b133 := G2
    have F_used_b133 := G3
    have F_size_b133 := G4
    have V_ok134 := G5
    have V_ou134 := G6
    have V_ov134 := G7
    have I136 := own_inv_put I135 (Nat.le_of_ble_eq_true rfl) m1
    generalize hks136 : (own_ks us135 ks135 m1) = ks136 at *
    generalize hus136 : (own_us us135 ks135 m1) = us136 at *
    generalize hwz136 : (own_sz us135 ks135 m1 wz135) = wz136 at *
    have N136 := Fr.app N135 Nq136
    refine go (fun t kt => st136.trans kt) ?_
    show Go p e below _ m T136 99 #[jv q0, .second, jv m1, .second, jv m7, .second, jv m9, .second, iv p4, iv (4 : Int32), rv b133, .unset, .unset] []
    refine go (fun t kt => XS.iload X136.here hx rfl (hb hby at_99) rfl kt) ?_
    show Go p e below _ m T136 101 #[jv q0, .second, jv m1, .second, jv m7, .second, jv m9, .second, iv p4, iv (4 : Int32), rv b133, .unset, .unset] [(.int (4 : Int32))]
    refine go (fun t kt => XS.iconst X136.here hx rfl (hb hby at_101) kt) ?_
    show Go p e below _ m T136 102 #[jv q0, .second, jv m1, .second, jv m7, .second, jv m9, .second, iv p4, iv (4 : Int32), rv b133, .unset, .unset] [(.int (2 : Int32)), (.int (4 : Int32))]
    refine go (fun t kt => XS.icmpNo X136.here hx rfl (hb hby at_102) rfl (tlt (by decide : ((2 : Int32) < (4 : Int32)))).2.2.2 kt) ?_
    show Go p e below _ m T136 105 #[jv q0, .second, jv m1, .second, jv m7, .second, jv m9, .second, iv p4, iv (4 : Int32), rv b133, .unset, .unset] []
    refine go (fun t kt => XS.aload X136.here hx rfl (hb hby at_105) rfl rfl kt) ?_
    show Go p e below _ m T136 107 #[jv q0, .second, jv m1, .second, jv m7, .second, jv m9, .second, iv p4, iv (4 : Int32), rv b133, .unset, .unset] [(.ref b133)]
    refine go (fun t kt => XS.lload X136.here hx rfl (hb hby at_107) rfl kt) ?_
    show Go p e below _ m T136 109 #[jv q0, .second, jv m1, .second, jv m7, .second, jv m9, .second, iv p4, iv (4 : Int32), rv b133, .unset, .unset] [(.long m7), (.ref b133)]
    refine go (fun t kt => XS.iconst X136.here hx rfl (hb hby at_109) kt) ?_
    show Go p e below _ m T136 110 #[jv q0, .second, jv m1, .second, jv m7, .second, jv m9, .second, iv p4, iv (4 : Int32), rv b133, .unset, .unset] [(.int (3 : Int32)), (.long m7), (.ref b133)]
    obtain ⟨cq137, kq137, q137a, q137b, q137c⟩ := isOf hZ rfl E_b133
    obtain ⟨_, _, ⟨T137, L137, k137, n137⟩, -, X137, ⟨Lc137, hQ137, l137, y137, z137⟩, st137⟩ := X136.virtualBack hx (y := (⟨"com/example/modest_tree_automata/modesttreeautomata/LongIntMap", "put", "(JI)V"⟩ : MethodName)) (z := (⟨"com/example/modest_tree_automata/modesttreeautomata/LongIntMap", "put", "(JI)V"⟩ : MethodName)) hown (mvT hZ (hw _ (List.mem_of_getElem? (i := 18) rfl))) (mvT hZ (hw _ (List.mem_of_getElem? (i := 19) rfl))) (notFace_of_selects (args := #[]) (mvT hZ (hw _ (List.mem_of_getElem? (i := 21) rfl)))) (mvT hZ (hw _ (List.mem_of_getElem? (i := 21) rfl))) (mvT hZ (hw _ (List.mem_of_getElem? (i := 20) rfl))) (by decide) (backOf (W := 0) (rm3 l Z a0 hw [] b133 m7 (3 : Int32) ok134 ov134 ou134 kk134 kv134 ku134 ks136 us136 vv136 wz136 T136.heap n0 Zz136 E_b133 F_keys_b133 F_values_b133 F_used_b133 F_size_b133 V_ok134 V_ov134 V_ou134 g_b133 g_ok134 g_ov134 g_ou134 ne_b133_ok134 ne_b133_ov134 ne_b133_ou134 ne_ok134_ov134 ne_ok134_ou134 ne_ov134_ou134 (I136).2.1 (I136).1 hvv136 (own_hsz I136 (Nat.le_of_ble_eq_true rfl)) (own_inv_stop I136 (Nat.le_of_ble_eq_true rfl) _)) hZ (hw _ (List.mem_of_getElem? (i := 22) rfl)) (hw _ (List.mem_of_getElem? (i := 2) rfl)) (by decide) (by decide)) q137a q137c (g := (mkF m 110 #[jv q0, .second, jv m1, .second, jv m7, .second, jv m9, .second, iv p4, iv (4 : Int32), rv b133, .unset, .unset] [(.int (3 : Int32)), (.long m7), (.ref b133)])) rfl (by rw [hml]; rfl) (Steps.refl _) (argsL := [(.long m7), (.int (3 : Int32))]) (rest := []) (lenOf pd_3 rfl) rfl (by show 2 * 0 + _ ≤ _; exact Nat.le_of_eq rfl) (hb hby at_110) (fun _ _ => ⟨rfl, rfl, (by decide : 4 + 0 ≤ _), (by decide : 52 + 0 ≤ _)⟩)
    dsimp only [Pt.U, Pt.locs, Pt.cells, Pt.slots] at X137 l137 y137 z137 st137 hQ137
    subst l137 y137 z137
    obtain ⟨rfl, Nq137, Kq137, G0, G1, G2, G3, G4, G5, G6, vv137, hvv137, G7⟩ := hQ137
    replace E_b133 := E_b133.keep Kq137
    clear F_keys_b133
    clear F_values_b133
    clear F_used_b133
    clear F_size_b133
    clear V_ok134
    clear V_ou134
    clear V_ov134
    have Zz137 := Nat.le_trans Zz136 Kq137.1
    have Kk137 := Kk136.trans Kq137 (allS (Or.inr sz_b133) (allS (Or.inr sz_ok134) (allS (Or.inr sz_ov134) (allS (Or.inr sz_ou134) all0))))
    have E_b133 := G0
    have F_keys_b133 := G1
    have F_values_b133 := G2
    have F_used_b133 := G3
    have F_size_b133 := G4
    have V_ok134 := G5
    have V_ou134 := G6
    have V_ov134 := G7
    have I137 := own_inv_put I136 (Nat.le_of_ble_eq_true rfl) m7
    generalize hks137 : (own_ks us136 ks136 m7) = ks137 at *
    generalize hus137 : (own_us us136 ks136 m7) = us137 at *
    generalize hwz137 : (own_sz us136 ks136 m7 wz136) = wz137 at *
    have N137 := Fr.app N136 Nq137
    refine go (fun t kt => st137.trans kt) ?_
    show Go p e below _ m T137 113 #[jv q0, .second, jv m1, .second, jv m7, .second, jv m9, .second, iv p4, iv (4 : Int32), rv b133, .unset, .unset] []
    refine go (fun t kt => XS.iload X137.here hx rfl (hb hby at_113) rfl kt) ?_
    show Go p e below _ m T137 115 #[jv q0, .second, jv m1, .second, jv m7, .second, jv m9, .second, iv p4, iv (4 : Int32), rv b133, .unset, .unset] [(.int (4 : Int32))]
    refine go (fun t kt => XS.iconst X137.here hx rfl (hb hby at_115) kt) ?_
    show Go p e below _ m T137 116 #[jv q0, .second, jv m1, .second, jv m7, .second, jv m9, .second, iv p4, iv (4 : Int32), rv b133, .unset, .unset] [(.int (3 : Int32)), (.int (4 : Int32))]
    refine go (fun t kt => XS.icmpNo X137.here hx rfl (hb hby at_116) rfl (tlt (by decide : ((3 : Int32) < (4 : Int32)))).2.2.2 kt) ?_
    show Go p e below _ m T137 119 #[jv q0, .second, jv m1, .second, jv m7, .second, jv m9, .second, iv p4, iv (4 : Int32), rv b133, .unset, .unset] []
    refine go (fun t kt => XS.aload X137.here hx rfl (hb hby at_119) rfl rfl kt) ?_
    show Go p e below _ m T137 121 #[jv q0, .second, jv m1, .second, jv m7, .second, jv m9, .second, iv p4, iv (4 : Int32), rv b133, .unset, .unset] [(.ref b133)]
    refine go (fun t kt => XS.lload X137.here hx rfl (hb hby at_121) rfl kt) ?_
    show Go p e below _ m T137 123 #[jv q0, .second, jv m1, .second, jv m7, .second, jv m9, .second, iv p4, iv (4 : Int32), rv b133, .unset, .unset] [(.long m9), (.ref b133)]
    refine go (fun t kt => XS.iconst X137.here hx rfl (hb hby at_123) kt) ?_
    show Go p e below _ m T137 124 #[jv q0, .second, jv m1, .second, jv m7, .second, jv m9, .second, iv p4, iv (4 : Int32), rv b133, .unset, .unset] [(.int (4 : Int32)), (.long m9), (.ref b133)]
    obtain ⟨cq138, kq138, q138a, q138b, q138c⟩ := isOf hZ rfl E_b133
    obtain ⟨_, _, ⟨T138, L138, k138, n138⟩, -, X138, ⟨Lc138, hQ138, l138, y138, z138⟩, st138⟩ := X137.virtualBack hx (y := (⟨"com/example/modest_tree_automata/modesttreeautomata/LongIntMap", "put", "(JI)V"⟩ : MethodName)) (z := (⟨"com/example/modest_tree_automata/modesttreeautomata/LongIntMap", "put", "(JI)V"⟩ : MethodName)) hown (mvT hZ (hw _ (List.mem_of_getElem? (i := 18) rfl))) (mvT hZ (hw _ (List.mem_of_getElem? (i := 19) rfl))) (notFace_of_selects (args := #[]) (mvT hZ (hw _ (List.mem_of_getElem? (i := 21) rfl)))) (mvT hZ (hw _ (List.mem_of_getElem? (i := 21) rfl))) (mvT hZ (hw _ (List.mem_of_getElem? (i := 20) rfl))) (by decide) (backOf (W := 0) (rm3 l Z a0 hw [] b133 m9 (4 : Int32) ok134 ov134 ou134 kk134 kv134 ku134 ks137 us137 vv137 wz137 T137.heap n0 Zz137 E_b133 F_keys_b133 F_values_b133 F_used_b133 F_size_b133 V_ok134 V_ov134 V_ou134 g_b133 g_ok134 g_ov134 g_ou134 ne_b133_ok134 ne_b133_ov134 ne_b133_ou134 ne_ok134_ov134 ne_ok134_ou134 ne_ov134_ou134 (I137).2.1 (I137).1 hvv137 (own_hsz I137 (Nat.le_of_ble_eq_true rfl)) (own_inv_stop I137 (Nat.le_of_ble_eq_true rfl) _)) hZ (hw _ (List.mem_of_getElem? (i := 22) rfl)) (hw _ (List.mem_of_getElem? (i := 2) rfl)) (by decide) (by decide)) q138a q138c (g := (mkF m 124 #[jv q0, .second, jv m1, .second, jv m7, .second, jv m9, .second, iv p4, iv (4 : Int32), rv b133, .unset, .unset] [(.int (4 : Int32)), (.long m9), (.ref b133)])) rfl (by rw [hml]; rfl) (Steps.refl _) (argsL := [(.long m9), (.int (4 : Int32))]) (rest := []) (lenOf pd_3 rfl) rfl (by show 2 * 0 + _ ≤ _; exact Nat.le_of_eq rfl) (hb hby at_124) (fun _ _ => ⟨rfl, rfl, (by decide : 4 + 0 ≤ _), (by decide : 52 + 0 ≤ _)⟩)
    dsimp only [Pt.U, Pt.locs, Pt.cells, Pt.slots] at X138 l138 y138 z138 st138 hQ138
    subst l138 y138 z138
    obtain ⟨rfl, Nq138, Kq138, G0, G1, G2, G3, G4, G5, G6, vv138, hvv138, G7⟩ := hQ138
    replace E_b133 := E_b133.keep Kq138
    clear F_keys_b133
    clear F_values_b133
    clear F_used_b133
    clear F_size_b133
    clear V_ok134
    clear V_ou134
    clear V_ov134
    have Zz138 := Nat.le_trans Zz137 Kq138.1
    have Kk138 := Kk137.trans Kq138 (allS (Or.inr sz_b133) (allS (Or.inr sz_ok134) (allS (Or.inr sz_ov134) (allS (Or.inr sz_ou134) all0))))
    have E_b133 := G0
    have F_keys_b133 := G1
    have F_values_b133 := G2
    have F_used_b133 := G3
    have F_size_b133 := G4
    have V_ok134 := G5
    have V_ou134 := G6
    have V_ov134 := G7
    have I138 := own_inv_put I137 (Nat.le_of_ble_eq_true rfl) m9
    generalize hks138 : (own_ks us137 ks137 m9) = ks138 at *
    generalize hus138 : (own_us us137 ks137 m9) = us138 at *
    generalize hwz138 : (own_sz us137 ks137 m9 wz137) = wz138 at *
    have N138 := Fr.app N137 Nq138
    refine go (fun t kt => st138.trans kt) ?_
    show Go p e below _ m T138 127 #[jv q0, .second, jv m1, .second, jv m7, .second, jv m9, .second, iv p4, iv (4 : Int32), rv b133, .unset, .unset] []
    refine go (fun t kt => XS.aload X138.here hx rfl (hb hby at_127) rfl rfl kt) ?_
    show Go p e below _ m T138 129 #[jv q0, .second, jv m1, .second, jv m7, .second, jv m9, .second, iv p4, iv (4 : Int32), rv b133, .unset, .unset] [(.ref b133)]
    obtain ⟨cq139, kq139, q139a, q139b, q139c⟩ := isOf hZ rfl E_b133
    obtain ⟨_, _, ⟨T139, L139, k139, n139⟩, -, X139, ⟨Lc139, hQ139, l139, y139, z139⟩, st139⟩ := X138.virtualBack hx (y := (⟨"com/example/modest_tree_automata/modesttreeautomata/LongIntMap", "keys", "()[J"⟩ : MethodName)) (z := (⟨"com/example/modest_tree_automata/modesttreeautomata/LongIntMap", "keys", "()[J"⟩ : MethodName)) hown (mvT hZ (hw _ (List.mem_of_getElem? (i := 29) rfl))) (mvT hZ (hw _ (List.mem_of_getElem? (i := 30) rfl))) (notFace_of_selects (args := #[]) (mvT hZ (hw _ (List.mem_of_getElem? (i := 32) rfl)))) (mvT hZ (hw _ (List.mem_of_getElem? (i := 32) rfl))) (mvT hZ (hw _ (List.mem_of_getElem? (i := 31) rfl))) (by decide) (backOf (W := 0) (rm5 l Z a0 hw [] b133 ok134 ou134 kk134 ku134 ks138 us138 wz138 T138.heap n0 Zz138 F_keys_b133 F_used_b133 F_size_b133 V_ok134 V_ou134 (I138).2.1 (I138).1 (I138).2.2.1 (Nat.le_trans (I138).2.2.2.1 (Nat.le_of_ble_eq_true rfl))) hZ (hw _ (List.mem_of_getElem? (i := 33) rfl)) (hw _ (List.mem_of_getElem? (i := 2) rfl)) (by decide) (by decide)) q139a q139c (g := (mkF m 129 #[jv q0, .second, jv m1, .second, jv m7, .second, jv m9, .second, iv p4, iv (4 : Int32), rv b133, .unset, .unset] [(.ref b133)])) rfl (by rw [hml]; rfl) (Steps.refl _) (argsL := []) (rest := []) (lenOf pd_2 rfl) rfl (by show 2 * 0 + _ ≤ _; exact Nat.le_of_eq rfl) (hb hby at_129) (fun _ _ => ⟨rfl, rfl, (by decide : 4 + 1 ≤ _), (by decide : 52 + 4 ≤ _)⟩)
    dsimp only [Pt.U, Pt.locs, Pt.cells, Pt.slots] at X139 l139 y139 z139 st139 hQ139
    subst l139 y139 z139
    obtain ⟨b139, g139⟩ : ∃ z, z = T138.heap.size := ⟨_, rfl⟩
    have ne_b133_b139 : b133 ≠ b139 := Nat.ne_of_lt (Nat.lt_of_lt_of_le E_b133.lt (Nat.le_of_eq g139.symm))
    have ne_ok134_b139 : ok134 ≠ b139 := Nat.ne_of_lt (Nat.lt_of_lt_of_le V_ok134.lt (Nat.le_of_eq g139.symm))
    have ne_ou134_b139 : ou134 ≠ b139 := Nat.ne_of_lt (Nat.lt_of_lt_of_le V_ou134.lt (Nat.le_of_eq g139.symm))
    have ne_ov134_b139 : ov134 ≠ b139 := Nat.ne_of_lt (Nat.lt_of_lt_of_le V_ov134.lt (Nat.le_of_eq g139.symm))
    have g_b139 : n0 ≤ b139 := Nat.le_trans Zz138 (Nat.le_of_eq g139.symm)
    have sz_b139 : h0.size ≤ b139 := Nat.le_trans Kk138.1 (Nat.le_of_eq g139.symm)
    obtain ⟨rfl, Nq139, Kq139, k139_, Vq139⟩ := hQ139
    rw [← g139] at Vq139 st139
    replace E_b133 := E_b133.keep Kq139
    replace F_keys_b133 := F_keys_b133.keep Kq139 nin0
    replace F_values_b133 := F_values_b133.keep Kq139 nin0
    replace F_used_b133 := F_used_b133.keep Kq139 nin0
    replace F_size_b133 := F_size_b133.keep Kq139 nin0
    replace V_ok134 := V_ok134.keep Kq139 nin0
    replace V_ou134 := V_ou134.keep Kq139 nin0
    replace V_ov134 := V_ov134.keep Kq139 nin0
    have Zz139 := Nat.le_trans Zz138 Kq139.1
    have Kk139 := Kk138.trans Kq139 all0
    have hnd := own_inv_nodup I138
    have hmem := (I138).2.2.2.2.2
    have hwz := (I138).2.2.1
    have hlen := (I138).2.2.2.1
    generalize hL : own_Lp us138 ks138 16 = LL at *
    have V_b139 := Vq139
    have N139 := Fr.app N138 Nq139
    refine go (fun t kt => st139.trans kt) ?_
    show Go p e below _ m T139 132 #[jv q0, .second, jv m1, .second, jv m7, .second, jv m9, .second, iv p4, iv (4 : Int32), rv b133, .unset, .unset] [(.ref b139)]
    refine go (fun t kt => XS.astore X139.here hx rfl (hb hby at_132) rfl rfl (l' := #[jv q0, .second, jv m1, .second, jv m7, .second, jv m9, .second, iv p4, iv (4 : Int32), rv b133, rv b139, .unset]) rfl kt) ?_
    show Go p e below _ m T139 134 #[jv q0, .second, jv m1, .second, jv m7, .second, jv m9, .second, iv p4, iv (4 : Int32), rv b133, rv b139, .unset] []
    refine go (fun t kt => XS.iconst X139.here hx rfl (hb hby at_134) kt) ?_
    show Go p e below _ m T139 135 #[jv q0, .second, jv m1, .second, jv m7, .second, jv m9, .second, iv p4, iv (4 : Int32), rv b133, rv b139, .unset] [(.int (0 : Int32))]
    refine go (fun t kt => XS.istore X139.here hx rfl (hb hby at_135) rfl (l' := #[jv q0, .second, jv m1, .second, jv m7, .second, jv m9, .second, iv p4, iv (4 : Int32), rv b133, rv b139, iv (0 : Int32)]) rfl kt) ?_
    show Go p e below _ m T139 137 #[jv q0, .second, jv m1, .second, jv m7, .second, jv m9, .second, iv p4, iv (4 : Int32), rv b133, rv b139, iv (0 : Int32)] []
    refine go (fun t kt => XS.iload X139.here hx rfl (hb hby at_137) rfl kt) ?_
    show Go p e below _ m T139 139 #[jv q0, .second, jv m1, .second, jv m7, .second, jv m9, .second, iv p4, iv (4 : Int32), rv b133, rv b139, iv (0 : Int32)] [(.int (4 : Int32))]
    refine go (fun t kt => XS.ifNo X139.here hx rfl (hb hby at_139) rfl ((if0 _ _).trans (tlt (by decide : ((0 : Int32) < (4 : Int32)))).2.2.2) kt) ?_
    show Go p e below _ m T139 142 #[jv q0, .second, jv m1, .second, jv m7, .second, jv m9, .second, iv p4, iv (4 : Int32), rv b133, rv b139, iv (0 : Int32)] []
    refine go (fun t kt => XS.iinc X139.here hx rfl (hb hby at_142) rfl (l' := #[jv q0, .second, jv m1, .second, jv m7, .second, jv m9, .second, iv p4, iv (4 : Int32), rv b133, rv b139, iv ((0 : Int32) + (1 : Int32))]) rfl kt) ?_
    show Go p e below _ m T139 145 #[jv q0, .second, jv m1, .second, jv m7, .second, jv m9, .second, iv p4, iv (4 : Int32), rv b133, rv b139, iv ((0 : Int32) + (1 : Int32))] []
    refine go (fun t kt => XS.iload X139.here hx rfl (hb hby at_145) rfl kt) ?_
    show Go p e below _ m T139 147 #[jv q0, .second, jv m1, .second, jv m7, .second, jv m9, .second, iv p4, iv (4 : Int32), rv b133, rv b139, iv ((0 : Int32) + (1 : Int32))] [(.int (4 : Int32))]
    refine go (fun t kt => XS.iconst X139.here hx rfl (hb hby at_147) kt) ?_
    show Go p e below _ m T139 148 #[jv q0, .second, jv m1, .second, jv m7, .second, jv m9, .second, iv p4, iv (4 : Int32), rv b133, rv b139, iv ((0 : Int32) + (1 : Int32))] [(.int (1 : Int32)), (.int (4 : Int32))]
    refine go (fun t kt => XS.icmpNo X139.here hx rfl (hb hby at_148) rfl (tlt (by decide : ((1 : Int32) < (4 : Int32)))).2.2.2 kt) ?_
    show Go p e below _ m T139 151 #[jv q0, .second, jv m1, .second, jv m7, .second, jv m9, .second, iv p4, iv (4 : Int32), rv b133, rv b139, iv ((0 : Int32) + (1 : Int32))] []
    refine go (fun t kt => XS.lloadN X139.here hx rfl (hb hby at_151) rfl kt) ?_
    show Go p e below _ m T139 152 #[jv q0, .second, jv m1, .second, jv m7, .second, jv m9, .second, iv p4, iv (4 : Int32), rv b133, rv b139, iv ((0 : Int32) + (1 : Int32))] [(.long m1)]
    refine go (fun t kt => XS.lloadN X139.here hx rfl (hb hby at_152) rfl kt) ?_
    show Go p e below _ m T139 153 #[jv q0, .second, jv m1, .second, jv m7, .second, jv m9, .second, iv p4, iv (4 : Int32), rv b133, rv b139, iv ((0 : Int32) + (1 : Int32))] [(.long q0), (.long m1)]
    refine go (fun t kt => XS.lcmp X139.here hx rfl (hb hby at_153) rfl kt) ?_
    show Go p e below _ m T139 154 #[jv q0, .second, jv m1, .second, jv m7, .second, jv m9, .second, iv p4, iv (4 : Int32), rv b133, rv b139, iv ((0 : Int32) + (1 : Int32))] [(.int (lcmpW m1 q0))]
    suffices KK : ∀ (m140 : Int32), m140 = (if m1 = q0 then ((0 : Int32) + (1 : Int32)) else (((0 : Int32) + (1 : Int32)) + (1 : Int32))) → Goes p.tables e below (fun s₂ o => ∃ v L, o = .returned v ∧ Q0 Z q0 q1 q2 q3 p4 h0 n0 v s₂.heap L ∧ FrameEnd s o s₂ L 5 56) (T139.setTop (mkF m 160 #[jv q0, .second, jv m1, .second, jv m7, .second, jv m9, .second, iv p4, iv (4 : Int32), rv b133, rv b139, iv m140] [])) by
      by_cases hc141 : m1 = q0
      ·
        refine go (fun t kt => XS.ifYes X139.here hx rfl (pc0 := 154) (pc' := 160) rfl (hb hby at_154) rfl ((if0 _ _).trans (teq ((lw_eq m1 q0).mpr hc141)).1) (by decide) (by decide) kt) ?_
        show Go p e below _ m T139 160 #[jv q0, .second, jv m1, .second, jv m7, .second, jv m9, .second, iv p4, iv (4 : Int32), rv b133, rv b139, iv ((0 : Int32) + (1 : Int32))] []
        exact KK _ (by rw [if_pos hc141])
      ·
        refine go (fun t kt => XS.ifNo X139.here hx rfl (hb hby at_154) rfl ((if0 _ _).trans (feq (fun q => hc141 ((lw_eq m1 q0).mp q))).1) kt) ?_
        show Go p e below _ m T139 157 #[jv q0, .second, jv m1, .second, jv m7, .second, jv m9, .second, iv p4, iv (4 : Int32), rv b133, rv b139, iv ((0 : Int32) + (1 : Int32))] []
        refine go (fun t kt => XS.iinc X139.here hx rfl (hb hby at_157) rfl (l' := #[jv q0, .second, jv m1, .second, jv m7, .second, jv m9, .second, iv p4, iv (4 : Int32), rv b133, rv b139, iv (((0 : Int32) + (1 : Int32)) + (1 : Int32))]) rfl kt) ?_
        show Go p e below _ m T139 160 #[jv q0, .second, jv m1, .second, jv m7, .second, jv m9, .second, iv p4, iv (4 : Int32), rv b133, rv b139, iv (((0 : Int32) + (1 : Int32)) + (1 : Int32))] []
        exact KK _ (by rw [if_neg hc141])
    intro m140 hm140
    show Go p e below _ m T139 160 #[jv q0, .second, jv m1, .second, jv m7, .second, jv m9, .second, iv p4, iv (4 : Int32), rv b133, rv b139, iv m140] []
    refine go (fun t kt => XS.iload X139.here hx rfl (hb hby at_160) rfl kt) ?_
    show Go p e below _ m T139 162 #[jv q0, .second, jv m1, .second, jv m7, .second, jv m9, .second, iv p4, iv (4 : Int32), rv b133, rv b139, iv m140] [(.int (4 : Int32))]
    refine go (fun t kt => XS.iconst X139.here hx rfl (hb hby at_162) kt) ?_
    show Go p e below _ m T139 163 #[jv q0, .second, jv m1, .second, jv m7, .second, jv m9, .second, iv p4, iv (4 : Int32), rv b133, rv b139, iv m140] [(.int (2 : Int32)), (.int (4 : Int32))]
    refine go (fun t kt => XS.icmpNo X139.here hx rfl (hb hby at_163) rfl (tlt (by decide : ((2 : Int32) < (4 : Int32)))).2.2.2 kt) ?_
    show Go p e below _ m T139 166 #[jv q0, .second, jv m1, .second, jv m7, .second, jv m9, .second, iv p4, iv (4 : Int32), rv b133, rv b139, iv m140] []
    refine go (fun t kt => XS.lload X139.here hx rfl (hb hby at_166) rfl kt) ?_
    show Go p e below _ m T139 168 #[jv q0, .second, jv m1, .second, jv m7, .second, jv m9, .second, iv p4, iv (4 : Int32), rv b133, rv b139, iv m140] [(.long m7)]
    refine go (fun t kt => XS.lloadN X139.here hx rfl (hb hby at_168) rfl kt) ?_
    show Go p e below _ m T139 169 #[jv q0, .second, jv m1, .second, jv m7, .second, jv m9, .second, iv p4, iv (4 : Int32), rv b133, rv b139, iv m140] [(.long q0), (.long m7)]
    refine go (fun t kt => XS.lcmp X139.here hx rfl (hb hby at_169) rfl kt) ?_
    show Go p e below _ m T139 170 #[jv q0, .second, jv m1, .second, jv m7, .second, jv m9, .second, iv p4, iv (4 : Int32), rv b133, rv b139, iv m140] [(.int (lcmpW m7 q0))]
    suffices KK : ∀ (m142 : Int32), m142 = (if m7 = q0 then m140 else (if m7 = m1 then m140 else (m140 + (1 : Int32)))) → Goes p.tables e below (fun s₂ o => ∃ v L, o = .returned v ∧ Q0 Z q0 q1 q2 q3 p4 h0 n0 v s₂.heap L ∧ FrameEnd s o s₂ L 5 56) (T139.setTop (mkF m 183 #[jv q0, .second, jv m1, .second, jv m7, .second, jv m9, .second, iv p4, iv (4 : Int32), rv b133, rv b139, iv m142] [])) by
      by_cases hc143 : m7 = q0
      ·
        refine go (fun t kt => XS.ifYes X139.here hx rfl (pc0 := 170) (pc' := 183) rfl (hb hby at_170) rfl ((if0 _ _).trans (teq ((lw_eq m7 q0).mpr hc143)).1) (by decide) (by decide) kt) ?_
        show Go p e below _ m T139 183 #[jv q0, .second, jv m1, .second, jv m7, .second, jv m9, .second, iv p4, iv (4 : Int32), rv b133, rv b139, iv m140] []
        exact KK _ (by rw [if_pos hc143])
      ·
        refine go (fun t kt => XS.ifNo X139.here hx rfl (hb hby at_170) rfl ((if0 _ _).trans (feq (fun q => hc143 ((lw_eq m7 q0).mp q))).1) kt) ?_
        show Go p e below _ m T139 173 #[jv q0, .second, jv m1, .second, jv m7, .second, jv m9, .second, iv p4, iv (4 : Int32), rv b133, rv b139, iv m140] []
        refine go (fun t kt => XS.lload X139.here hx rfl (hb hby at_173) rfl kt) ?_
        show Go p e below _ m T139 175 #[jv q0, .second, jv m1, .second, jv m7, .second, jv m9, .second, iv p4, iv (4 : Int32), rv b133, rv b139, iv m140] [(.long m7)]
        refine go (fun t kt => XS.lloadN X139.here hx rfl (hb hby at_175) rfl kt) ?_
        show Go p e below _ m T139 176 #[jv q0, .second, jv m1, .second, jv m7, .second, jv m9, .second, iv p4, iv (4 : Int32), rv b133, rv b139, iv m140] [(.long m1), (.long m7)]
        refine go (fun t kt => XS.lcmp X139.here hx rfl (hb hby at_176) rfl kt) ?_
        show Go p e below _ m T139 177 #[jv q0, .second, jv m1, .second, jv m7, .second, jv m9, .second, iv p4, iv (4 : Int32), rv b133, rv b139, iv m140] [(.int (lcmpW m7 m1))]
        by_cases hc144 : m7 = m1
        ·
          refine go (fun t kt => XS.ifYes X139.here hx rfl (pc0 := 177) (pc' := 183) rfl (hb hby at_177) rfl ((if0 _ _).trans (teq ((lw_eq m7 m1).mpr hc144)).1) (by decide) (by decide) kt) ?_
          show Go p e below _ m T139 183 #[jv q0, .second, jv m1, .second, jv m7, .second, jv m9, .second, iv p4, iv (4 : Int32), rv b133, rv b139, iv m140] []
          exact KK _ (by rw [if_neg hc143, if_pos hc144])
        ·
          refine go (fun t kt => XS.ifNo X139.here hx rfl (hb hby at_177) rfl ((if0 _ _).trans (feq (fun q => hc144 ((lw_eq m7 m1).mp q))).1) kt) ?_
          show Go p e below _ m T139 180 #[jv q0, .second, jv m1, .second, jv m7, .second, jv m9, .second, iv p4, iv (4 : Int32), rv b133, rv b139, iv m140] []
          refine go (fun t kt => XS.iinc X139.here hx rfl (hb hby at_180) rfl (l' := #[jv q0, .second, jv m1, .second, jv m7, .second, jv m9, .second, iv p4, iv (4 : Int32), rv b133, rv b139, iv (m140 + (1 : Int32))]) rfl kt) ?_
          show Go p e below _ m T139 183 #[jv q0, .second, jv m1, .second, jv m7, .second, jv m9, .second, iv p4, iv (4 : Int32), rv b133, rv b139, iv (m140 + (1 : Int32))] []
          exact KK _ (by rw [if_neg hc143, if_neg hc144])
    intro m142 hm142
    show Go p e below _ m T139 183 #[jv q0, .second, jv m1, .second, jv m7, .second, jv m9, .second, iv p4, iv (4 : Int32), rv b133, rv b139, iv m142] []
    refine go (fun t kt => XS.iload X139.here hx rfl (hb hby at_183) rfl kt) ?_
    show Go p e below _ m T139 185 #[jv q0, .second, jv m1, .second, jv m7, .second, jv m9, .second, iv p4, iv (4 : Int32), rv b133, rv b139, iv m142] [(.int (4 : Int32))]
    refine go (fun t kt => XS.iconst X139.here hx rfl (hb hby at_185) kt) ?_
    show Go p e below _ m T139 186 #[jv q0, .second, jv m1, .second, jv m7, .second, jv m9, .second, iv p4, iv (4 : Int32), rv b133, rv b139, iv m142] [(.int (3 : Int32)), (.int (4 : Int32))]
    refine go (fun t kt => XS.icmpNo X139.here hx rfl (hb hby at_186) rfl (tlt (by decide : ((3 : Int32) < (4 : Int32)))).2.2.2 kt) ?_
    show Go p e below _ m T139 189 #[jv q0, .second, jv m1, .second, jv m7, .second, jv m9, .second, iv p4, iv (4 : Int32), rv b133, rv b139, iv m142] []
    refine go (fun t kt => XS.lload X139.here hx rfl (hb hby at_189) rfl kt) ?_
    show Go p e below _ m T139 191 #[jv q0, .second, jv m1, .second, jv m7, .second, jv m9, .second, iv p4, iv (4 : Int32), rv b133, rv b139, iv m142] [(.long m9)]
    refine go (fun t kt => XS.lloadN X139.here hx rfl (hb hby at_191) rfl kt) ?_
    show Go p e below _ m T139 192 #[jv q0, .second, jv m1, .second, jv m7, .second, jv m9, .second, iv p4, iv (4 : Int32), rv b133, rv b139, iv m142] [(.long q0), (.long m9)]
    refine go (fun t kt => XS.lcmp X139.here hx rfl (hb hby at_192) rfl kt) ?_
    show Go p e below _ m T139 193 #[jv q0, .second, jv m1, .second, jv m7, .second, jv m9, .second, iv p4, iv (4 : Int32), rv b133, rv b139, iv m142] [(.int (lcmpW m9 q0))]
    suffices KK : ∀ (m145 : Int32), m145 = (if m9 = q0 then m142 else (if m9 = m1 then m142 else (if m9 = m7 then m142 else (m142 + (1 : Int32))))) → Goes p.tables e below (fun s₂ o => ∃ v L, o = .returned v ∧ Q0 Z q0 q1 q2 q3 p4 h0 n0 v s₂.heap L ∧ FrameEnd s o s₂ L 5 56) (T139.setTop (mkF m 214 #[jv q0, .second, jv m1, .second, jv m7, .second, jv m9, .second, iv p4, iv (4 : Int32), rv b133, rv b139, iv m145] [])) by
      by_cases hc146 : m9 = q0
      ·
        refine go (fun t kt => XS.ifYes X139.here hx rfl (pc0 := 193) (pc' := 214) rfl (hb hby at_193) rfl ((if0 _ _).trans (teq ((lw_eq m9 q0).mpr hc146)).1) (by decide) (by decide) kt) ?_
        show Go p e below _ m T139 214 #[jv q0, .second, jv m1, .second, jv m7, .second, jv m9, .second, iv p4, iv (4 : Int32), rv b133, rv b139, iv m142] []
        exact KK _ (by rw [if_pos hc146])
      ·
        refine go (fun t kt => XS.ifNo X139.here hx rfl (hb hby at_193) rfl ((if0 _ _).trans (feq (fun q => hc146 ((lw_eq m9 q0).mp q))).1) kt) ?_
        show Go p e below _ m T139 196 #[jv q0, .second, jv m1, .second, jv m7, .second, jv m9, .second, iv p4, iv (4 : Int32), rv b133, rv b139, iv m142] []
        refine go (fun t kt => XS.lload X139.here hx rfl (hb hby at_196) rfl kt) ?_
        show Go p e below _ m T139 198 #[jv q0, .second, jv m1, .second, jv m7, .second, jv m9, .second, iv p4, iv (4 : Int32), rv b133, rv b139, iv m142] [(.long m9)]
        refine go (fun t kt => XS.lloadN X139.here hx rfl (hb hby at_198) rfl kt) ?_
        show Go p e below _ m T139 199 #[jv q0, .second, jv m1, .second, jv m7, .second, jv m9, .second, iv p4, iv (4 : Int32), rv b133, rv b139, iv m142] [(.long m1), (.long m9)]
        refine go (fun t kt => XS.lcmp X139.here hx rfl (hb hby at_199) rfl kt) ?_
        show Go p e below _ m T139 200 #[jv q0, .second, jv m1, .second, jv m7, .second, jv m9, .second, iv p4, iv (4 : Int32), rv b133, rv b139, iv m142] [(.int (lcmpW m9 m1))]
        by_cases hc147 : m9 = m1
        ·
          refine go (fun t kt => XS.ifYes X139.here hx rfl (pc0 := 200) (pc' := 214) rfl (hb hby at_200) rfl ((if0 _ _).trans (teq ((lw_eq m9 m1).mpr hc147)).1) (by decide) (by decide) kt) ?_
          show Go p e below _ m T139 214 #[jv q0, .second, jv m1, .second, jv m7, .second, jv m9, .second, iv p4, iv (4 : Int32), rv b133, rv b139, iv m142] []
          exact KK _ (by rw [if_neg hc146, if_pos hc147])
        ·
          refine go (fun t kt => XS.ifNo X139.here hx rfl (hb hby at_200) rfl ((if0 _ _).trans (feq (fun q => hc147 ((lw_eq m9 m1).mp q))).1) kt) ?_
          show Go p e below _ m T139 203 #[jv q0, .second, jv m1, .second, jv m7, .second, jv m9, .second, iv p4, iv (4 : Int32), rv b133, rv b139, iv m142] []
          refine go (fun t kt => XS.lload X139.here hx rfl (hb hby at_203) rfl kt) ?_
          show Go p e below _ m T139 205 #[jv q0, .second, jv m1, .second, jv m7, .second, jv m9, .second, iv p4, iv (4 : Int32), rv b133, rv b139, iv m142] [(.long m9)]
          refine go (fun t kt => XS.lload X139.here hx rfl (hb hby at_205) rfl kt) ?_
          show Go p e below _ m T139 207 #[jv q0, .second, jv m1, .second, jv m7, .second, jv m9, .second, iv p4, iv (4 : Int32), rv b133, rv b139, iv m142] [(.long m7), (.long m9)]
          refine go (fun t kt => XS.lcmp X139.here hx rfl (hb hby at_207) rfl kt) ?_
          show Go p e below _ m T139 208 #[jv q0, .second, jv m1, .second, jv m7, .second, jv m9, .second, iv p4, iv (4 : Int32), rv b133, rv b139, iv m142] [(.int (lcmpW m9 m7))]
          by_cases hc148 : m9 = m7
          ·
            refine go (fun t kt => XS.ifYes X139.here hx rfl (pc0 := 208) (pc' := 214) rfl (hb hby at_208) rfl ((if0 _ _).trans (teq ((lw_eq m9 m7).mpr hc148)).1) (by decide) (by decide) kt) ?_
            show Go p e below _ m T139 214 #[jv q0, .second, jv m1, .second, jv m7, .second, jv m9, .second, iv p4, iv (4 : Int32), rv b133, rv b139, iv m142] []
            exact KK _ (by rw [if_neg hc146, if_neg hc147, if_pos hc148])
          ·
            refine go (fun t kt => XS.ifNo X139.here hx rfl (hb hby at_208) rfl ((if0 _ _).trans (feq (fun q => hc148 ((lw_eq m9 m7).mp q))).1) kt) ?_
            show Go p e below _ m T139 211 #[jv q0, .second, jv m1, .second, jv m7, .second, jv m9, .second, iv p4, iv (4 : Int32), rv b133, rv b139, iv m142] []
            refine go (fun t kt => XS.iinc X139.here hx rfl (hb hby at_211) rfl (l' := #[jv q0, .second, jv m1, .second, jv m7, .second, jv m9, .second, iv p4, iv (4 : Int32), rv b133, rv b139, iv (m142 + (1 : Int32))]) rfl kt) ?_
            show Go p e below _ m T139 214 #[jv q0, .second, jv m1, .second, jv m7, .second, jv m9, .second, iv p4, iv (4 : Int32), rv b133, rv b139, iv (m142 + (1 : Int32))] []
            exact KK _ (by rw [if_neg hc146, if_neg hc147, if_neg hc148])
    intro m145 hm145
    show Go p e below _ m T139 214 #[jv q0, .second, jv m1, .second, jv m7, .second, jv m9, .second, iv p4, iv (4 : Int32), rv b133, rv b139, iv m145] []
    refine go (fun t kt => XS.aload X139.here hx rfl (hb hby at_214) rfl rfl kt) ?_
    show Go p e below _ m T139 216 #[jv q0, .second, jv m1, .second, jv m7, .second, jv m9, .second, iv p4, iv (4 : Int32), rv b133, rv b139, iv m145] [(.ref b139)]
    obtain ⟨cl149, Ar149, qc149, S149, M149, H149, G149⟩ := id V_b139
    refine go (X139.arraylength hx Ar149.1 (State.isArrayOf_alike hZ.alike Ar149.2.1) (g := (mkF m 216 #[jv q0, .second, jv m1, .second, jv m7, .second, jv m9, .second, iv p4, iv (4 : Int32), rv b133, rv b139, iv m145] [(.ref b139)])) rfl rfl (hb hby at_216)) ?_
    rw [len_of S149 M149]
    show Go p e below _ m T139 217 #[jv q0, .second, jv m1, .second, jv m7, .second, jv m9, .second, iv p4, iv (4 : Int32), rv b133, rv b139, iv m145] [(.int wz138)]
    refine go (fun t kt => XS.iload X139.here hx rfl (hb hby at_217) rfl kt) ?_
    show Go p e below _ m T139 219 #[jv q0, .second, jv m1, .second, jv m7, .second, jv m9, .second, iv p4, iv (4 : Int32), rv b133, rv b139, iv m145] [(.int m145), (.int wz138)]
    refine go (fun t kt => XS.icmpYes X139.here hx rfl (pc0 := 219) (pc' := 224) rfl (hb hby at_219) rfl (teq (own_cnt (own_q4 q0 m1 m7 m9 _ _ (own_q3 q0 m1 m7 _ _ (own_q2 q0 m1 _ hm140) hm142) hm145) hwz hnd hmem)).1 (by decide) (by decide) kt) ?_
    show Go p e below _ m T139 224 #[jv q0, .second, jv m1, .second, jv m7, .second, jv m9, .second, iv p4, iv (4 : Int32), rv b133, rv b139, iv m145] []
    refine go (fun t kt => XS.iload X139.here hx rfl (hb hby at_224) rfl kt) ?_
    show Go p e below _ m T139 226 #[jv q0, .second, jv m1, .second, jv m7, .second, jv m9, .second, iv p4, iv (4 : Int32), rv b133, rv b139, iv m145] [(.int (4 : Int32))]
    refine go (fun t kt => XS.ifNo X139.here hx rfl (hb hby at_226) rfl ((if0 _ _).trans (tlt (by decide : ((0 : Int32) < (4 : Int32)))).2.2.2) kt) ?_
    show Go p e below _ m T139 229 #[jv q0, .second, jv m1, .second, jv m7, .second, jv m9, .second, iv p4, iv (4 : Int32), rv b133, rv b139, iv m145] []
    refine go (fun t kt => XS.aload X139.here hx rfl (hb hby at_229) rfl rfl kt) ?_
    show Go p e below _ m T139 231 #[jv q0, .second, jv m1, .second, jv m7, .second, jv m9, .second, iv p4, iv (4 : Int32), rv b133, rv b139, iv m145] [(.ref b139)]
    refine go (fun t kt => XS.lloadN X139.here hx rfl (hb hby at_231) rfl kt) ?_
    show Go p e below _ m T139 232 #[jv q0, .second, jv m1, .second, jv m7, .second, jv m9, .second, iv p4, iv (4 : Int32), rv b133, rv b139, iv m145] [(.long q0), (.ref b139)]
    obtain ⟨_, _, ⟨T150, L150, k150, n150⟩, -, X150, ⟨Lc150, hQ150, l150, y150, z150⟩, st150⟩ := Jvm.LawKit.callS X139 hx (y := (⟨"com/example/modest_tree_automata/modesttreeautomata/LongIntMapKeysPinLaw", "has", "([JJ)Z"⟩ : MethodName)) hown (mvT hZ (hw _ (List.mem_of_getElem? (i := 34) rfl))) (mvT hZ (hw _ (List.mem_of_getElem? (i := 35) rfl))) (mvT hZ (hw _ (List.mem_of_getElem? (i := 36) rfl))) (mvT hZ (hw _ (List.mem_of_getElem? (i := 37) rfl))) (by decide) (backOf (W := 0) (rm6 l Z a0 hw [] b139 q0 k139_ wz138 LL (LL.getD 0 0) (LL.getD 1 0) (LL.getD 2 0) (LL.getD 3 0) T139.heap n0 Zz139 V_b139 (own_getJ LL 0) (own_getJ LL 1) (own_getJ LL 2) (own_getJ LL 3)) hZ (hw _ (List.mem_of_getElem? (i := 37) rfl)) (hw _ (List.mem_of_getElem? (i := 36) rfl)) (by decide) (by decide)) (g := (mkF m 232 #[jv q0, .second, jv m1, .second, jv m7, .second, jv m9, .second, iv p4, iv (4 : Int32), rv b133, rv b139, iv m145] [(.long q0), (.ref b139)])) rfl (by rw [hml]; rfl) (argsL := [(.ref b139), (.long q0)]) (rest := []) (lenOf pd_4 rfl) rfl (by show 2 * 0 + _ ≤ _; exact Nat.le_of_eq rfl) (hb hby at_232) (fun _ _ => ⟨rfl, rfl, (by decide : 5 + 0 ≤ _), (by decide : 56 + 0 ≤ _)⟩)
    dsimp only [Pt.U, Pt.locs, Pt.cells, Pt.slots] at X150 l150 y150 z150 st150 hQ150
    subst l150 y150 z150
    obtain ⟨rfl, Nq150, e150⟩ := hQ150
    have N150 := Fr.app N139 Nq150
    refine go st150 ?_
    show Go p e below _ m T150 235 #[jv q0, .second, jv m1, .second, jv m7, .second, jv m9, .second, iv p4, iv (4 : Int32), rv b133, rv b139, iv m145] [(.int (own_has q0 wz138 (LL.getD 0 0) (LL.getD 1 0) (LL.getD 2 0) (LL.getD 3 0)))]
    refine go (fun t kt => XS.ifYes X150.here hx rfl (pc0 := 235) (pc' := 240) rfl (hb hby at_235) rfl ((if0 _ _).trans (feq (own_has_in hwz (Nat.le_trans hlen (Nat.le_of_ble_eq_true rfl)) _ ((hmem _).mpr (by simp)))).2) (by decide) (by decide) kt) ?_
    show Go p e below _ m T150 240 #[jv q0, .second, jv m1, .second, jv m7, .second, jv m9, .second, iv p4, iv (4 : Int32), rv b133, rv b139, iv m145] []
    refine go (fun t kt => XS.iload X150.here hx rfl (hb hby at_240) rfl kt) ?_
    show Go p e below _ m T150 242 #[jv q0, .second, jv m1, .second, jv m7, .second, jv m9, .second, iv p4, iv (4 : Int32), rv b133, rv b139, iv m145] [(.int (4 : Int32))]
    refine go (fun t kt => XS.iconst X150.here hx rfl (hb hby at_242) kt) ?_
    show Go p e below _ m T150 243 #[jv q0, .second, jv m1, .second, jv m7, .second, jv m9, .second, iv p4, iv (4 : Int32), rv b133, rv b139, iv m145] [(.int (1 : Int32)), (.int (4 : Int32))]
    refine go (fun t kt => XS.icmpNo X150.here hx rfl (hb hby at_243) rfl (tlt (by decide : ((1 : Int32) < (4 : Int32)))).2.2.2 kt) ?_
    show Go p e below _ m T150 246 #[jv q0, .second, jv m1, .second, jv m7, .second, jv m9, .second, iv p4, iv (4 : Int32), rv b133, rv b139, iv m145] []
    refine go (fun t kt => XS.aload X150.here hx rfl (hb hby at_246) rfl rfl kt) ?_
    show Go p e below _ m T150 248 #[jv q0, .second, jv m1, .second, jv m7, .second, jv m9, .second, iv p4, iv (4 : Int32), rv b133, rv b139, iv m145] [(.ref b139)]
    refine go (fun t kt => XS.lloadN X150.here hx rfl (hb hby at_248) rfl kt) ?_
    show Go p e below _ m T150 249 #[jv q0, .second, jv m1, .second, jv m7, .second, jv m9, .second, iv p4, iv (4 : Int32), rv b133, rv b139, iv m145] [(.long m1), (.ref b139)]
    obtain ⟨_, _, ⟨T151, L151, k151, n151⟩, -, X151, ⟨Lc151, hQ151, l151, y151, z151⟩, st151⟩ := Jvm.LawKit.callS X150 hx (y := (⟨"com/example/modest_tree_automata/modesttreeautomata/LongIntMapKeysPinLaw", "has", "([JJ)Z"⟩ : MethodName)) hown (mvT hZ (hw _ (List.mem_of_getElem? (i := 34) rfl))) (mvT hZ (hw _ (List.mem_of_getElem? (i := 35) rfl))) (mvT hZ (hw _ (List.mem_of_getElem? (i := 36) rfl))) (mvT hZ (hw _ (List.mem_of_getElem? (i := 37) rfl))) (by decide) (backOf (W := 0) (rm6 l Z a0 hw [] b139 m1 k139_ wz138 LL (LL.getD 0 0) (LL.getD 1 0) (LL.getD 2 0) (LL.getD 3 0) T139.heap n0 Zz139 V_b139 (own_getJ LL 0) (own_getJ LL 1) (own_getJ LL 2) (own_getJ LL 3)) hZ (hw _ (List.mem_of_getElem? (i := 37) rfl)) (hw _ (List.mem_of_getElem? (i := 36) rfl)) (by decide) (by decide)) (g := (mkF m 249 #[jv q0, .second, jv m1, .second, jv m7, .second, jv m9, .second, iv p4, iv (4 : Int32), rv b133, rv b139, iv m145] [(.long m1), (.ref b139)])) rfl (by rw [hml]; rfl) (argsL := [(.ref b139), (.long m1)]) (rest := []) (lenOf pd_4 rfl) rfl (by show 2 * 0 + _ ≤ _; exact Nat.le_of_eq rfl) (hb hby at_249) (fun _ _ => ⟨rfl, e150, (by decide : 5 + 0 ≤ _), (by decide : 56 + 0 ≤ _)⟩)
    dsimp only [Pt.U, Pt.locs, Pt.cells, Pt.slots] at X151 l151 y151 z151 st151 hQ151
    subst l151 y151 z151
    obtain ⟨rfl, Nq151, e151⟩ := hQ151
    have N151 := Fr.app N150 Nq151
    refine go st151 ?_
    show Go p e below _ m T151 252 #[jv q0, .second, jv m1, .second, jv m7, .second, jv m9, .second, iv p4, iv (4 : Int32), rv b133, rv b139, iv m145] [(.int (own_has m1 wz138 (LL.getD 0 0) (LL.getD 1 0) (LL.getD 2 0) (LL.getD 3 0)))]
    refine go (fun t kt => XS.ifYes X151.here hx rfl (pc0 := 252) (pc' := 257) rfl (hb hby at_252) rfl ((if0 _ _).trans (feq (own_has_in hwz (Nat.le_trans hlen (Nat.le_of_ble_eq_true rfl)) _ ((hmem _).mpr (by simp)))).2) (by decide) (by decide) kt) ?_
    show Go p e below _ m T151 257 #[jv q0, .second, jv m1, .second, jv m7, .second, jv m9, .second, iv p4, iv (4 : Int32), rv b133, rv b139, iv m145] []
    refine go (fun t kt => XS.iload X151.here hx rfl (hb hby at_257) rfl kt) ?_
    show Go p e below _ m T151 259 #[jv q0, .second, jv m1, .second, jv m7, .second, jv m9, .second, iv p4, iv (4 : Int32), rv b133, rv b139, iv m145] [(.int (4 : Int32))]
    refine go (fun t kt => XS.iconst X151.here hx rfl (hb hby at_259) kt) ?_
    show Go p e below _ m T151 260 #[jv q0, .second, jv m1, .second, jv m7, .second, jv m9, .second, iv p4, iv (4 : Int32), rv b133, rv b139, iv m145] [(.int (2 : Int32)), (.int (4 : Int32))]
    refine go (fun t kt => XS.icmpNo X151.here hx rfl (hb hby at_260) rfl (tlt (by decide : ((2 : Int32) < (4 : Int32)))).2.2.2 kt) ?_
    show Go p e below _ m T151 263 #[jv q0, .second, jv m1, .second, jv m7, .second, jv m9, .second, iv p4, iv (4 : Int32), rv b133, rv b139, iv m145] []
    refine go (fun t kt => XS.aload X151.here hx rfl (hb hby at_263) rfl rfl kt) ?_
    show Go p e below _ m T151 265 #[jv q0, .second, jv m1, .second, jv m7, .second, jv m9, .second, iv p4, iv (4 : Int32), rv b133, rv b139, iv m145] [(.ref b139)]
    refine go (fun t kt => XS.lload X151.here hx rfl (hb hby at_265) rfl kt) ?_
    show Go p e below _ m T151 267 #[jv q0, .second, jv m1, .second, jv m7, .second, jv m9, .second, iv p4, iv (4 : Int32), rv b133, rv b139, iv m145] [(.long m7), (.ref b139)]
    obtain ⟨_, _, ⟨T152, L152, k152, n152⟩, -, X152, ⟨Lc152, hQ152, l152, y152, z152⟩, st152⟩ := Jvm.LawKit.callS X151 hx (y := (⟨"com/example/modest_tree_automata/modesttreeautomata/LongIntMapKeysPinLaw", "has", "([JJ)Z"⟩ : MethodName)) hown (mvT hZ (hw _ (List.mem_of_getElem? (i := 34) rfl))) (mvT hZ (hw _ (List.mem_of_getElem? (i := 35) rfl))) (mvT hZ (hw _ (List.mem_of_getElem? (i := 36) rfl))) (mvT hZ (hw _ (List.mem_of_getElem? (i := 37) rfl))) (by decide) (backOf (W := 0) (rm6 l Z a0 hw [] b139 m7 k139_ wz138 LL (LL.getD 0 0) (LL.getD 1 0) (LL.getD 2 0) (LL.getD 3 0) T139.heap n0 Zz139 V_b139 (own_getJ LL 0) (own_getJ LL 1) (own_getJ LL 2) (own_getJ LL 3)) hZ (hw _ (List.mem_of_getElem? (i := 37) rfl)) (hw _ (List.mem_of_getElem? (i := 36) rfl)) (by decide) (by decide)) (g := (mkF m 267 #[jv q0, .second, jv m1, .second, jv m7, .second, jv m9, .second, iv p4, iv (4 : Int32), rv b133, rv b139, iv m145] [(.long m7), (.ref b139)])) rfl (by rw [hml]; rfl) (argsL := [(.ref b139), (.long m7)]) (rest := []) (lenOf pd_4 rfl) rfl (by show 2 * 0 + _ ≤ _; exact Nat.le_of_eq rfl) (hb hby at_267) (fun _ _ => ⟨rfl, e151, (by decide : 5 + 0 ≤ _), (by decide : 56 + 0 ≤ _)⟩)
    dsimp only [Pt.U, Pt.locs, Pt.cells, Pt.slots] at X152 l152 y152 z152 st152 hQ152
    subst l152 y152 z152
    obtain ⟨rfl, Nq152, e152⟩ := hQ152
    have N152 := Fr.app N151 Nq152
    refine go st152 ?_
    show Go p e below _ m T152 270 #[jv q0, .second, jv m1, .second, jv m7, .second, jv m9, .second, iv p4, iv (4 : Int32), rv b133, rv b139, iv m145] [(.int (own_has m7 wz138 (LL.getD 0 0) (LL.getD 1 0) (LL.getD 2 0) (LL.getD 3 0)))]
    refine go (fun t kt => XS.ifYes X152.here hx rfl (pc0 := 270) (pc' := 275) rfl (hb hby at_270) rfl ((if0 _ _).trans (feq (own_has_in hwz (Nat.le_trans hlen (Nat.le_of_ble_eq_true rfl)) _ ((hmem _).mpr (by simp)))).2) (by decide) (by decide) kt) ?_
    show Go p e below _ m T152 275 #[jv q0, .second, jv m1, .second, jv m7, .second, jv m9, .second, iv p4, iv (4 : Int32), rv b133, rv b139, iv m145] []
    refine go (fun t kt => XS.iload X152.here hx rfl (hb hby at_275) rfl kt) ?_
    show Go p e below _ m T152 277 #[jv q0, .second, jv m1, .second, jv m7, .second, jv m9, .second, iv p4, iv (4 : Int32), rv b133, rv b139, iv m145] [(.int (4 : Int32))]
    refine go (fun t kt => XS.iconst X152.here hx rfl (hb hby at_277) kt) ?_
    show Go p e below _ m T152 278 #[jv q0, .second, jv m1, .second, jv m7, .second, jv m9, .second, iv p4, iv (4 : Int32), rv b133, rv b139, iv m145] [(.int (3 : Int32)), (.int (4 : Int32))]
    refine go (fun t kt => XS.icmpNo X152.here hx rfl (hb hby at_278) rfl (tlt (by decide : ((3 : Int32) < (4 : Int32)))).2.2.2 kt) ?_
    show Go p e below _ m T152 281 #[jv q0, .second, jv m1, .second, jv m7, .second, jv m9, .second, iv p4, iv (4 : Int32), rv b133, rv b139, iv m145] []
    refine go (fun t kt => XS.aload X152.here hx rfl (hb hby at_281) rfl rfl kt) ?_
    show Go p e below _ m T152 283 #[jv q0, .second, jv m1, .second, jv m7, .second, jv m9, .second, iv p4, iv (4 : Int32), rv b133, rv b139, iv m145] [(.ref b139)]
    refine go (fun t kt => XS.lload X152.here hx rfl (hb hby at_283) rfl kt) ?_
    show Go p e below _ m T152 285 #[jv q0, .second, jv m1, .second, jv m7, .second, jv m9, .second, iv p4, iv (4 : Int32), rv b133, rv b139, iv m145] [(.long m9), (.ref b139)]
    obtain ⟨_, _, ⟨T153, L153, k153, n153⟩, -, X153, ⟨Lc153, hQ153, l153, y153, z153⟩, st153⟩ := Jvm.LawKit.callS X152 hx (y := (⟨"com/example/modest_tree_automata/modesttreeautomata/LongIntMapKeysPinLaw", "has", "([JJ)Z"⟩ : MethodName)) hown (mvT hZ (hw _ (List.mem_of_getElem? (i := 34) rfl))) (mvT hZ (hw _ (List.mem_of_getElem? (i := 35) rfl))) (mvT hZ (hw _ (List.mem_of_getElem? (i := 36) rfl))) (mvT hZ (hw _ (List.mem_of_getElem? (i := 37) rfl))) (by decide) (backOf (W := 0) (rm6 l Z a0 hw [] b139 m9 k139_ wz138 LL (LL.getD 0 0) (LL.getD 1 0) (LL.getD 2 0) (LL.getD 3 0) T139.heap n0 Zz139 V_b139 (own_getJ LL 0) (own_getJ LL 1) (own_getJ LL 2) (own_getJ LL 3)) hZ (hw _ (List.mem_of_getElem? (i := 37) rfl)) (hw _ (List.mem_of_getElem? (i := 36) rfl)) (by decide) (by decide)) (g := (mkF m 285 #[jv q0, .second, jv m1, .second, jv m7, .second, jv m9, .second, iv p4, iv (4 : Int32), rv b133, rv b139, iv m145] [(.long m9), (.ref b139)])) rfl (by rw [hml]; rfl) (argsL := [(.ref b139), (.long m9)]) (rest := []) (lenOf pd_4 rfl) rfl (by show 2 * 0 + _ ≤ _; exact Nat.le_of_eq rfl) (hb hby at_285) (fun _ _ => ⟨rfl, e152, (by decide : 5 + 0 ≤ _), (by decide : 56 + 0 ≤ _)⟩)
    dsimp only [Pt.U, Pt.locs, Pt.cells, Pt.slots] at X153 l153 y153 z153 st153 hQ153
    subst l153 y153 z153
    obtain ⟨rfl, Nq153, e153⟩ := hQ153
    have N153 := Fr.app N152 Nq153
    refine go st153 ?_
    show Go p e below _ m T153 288 #[jv q0, .second, jv m1, .second, jv m7, .second, jv m9, .second, iv p4, iv (4 : Int32), rv b133, rv b139, iv m145] [(.int (own_has m9 wz138 (LL.getD 0 0) (LL.getD 1 0) (LL.getD 2 0) (LL.getD 3 0)))]
    refine go (fun t kt => XS.ifYes X153.here hx rfl (pc0 := 288) (pc' := 293) rfl (hb hby at_288) rfl ((if0 _ _).trans (feq (own_has_in hwz (Nat.le_trans hlen (Nat.le_of_ble_eq_true rfl)) _ ((hmem _).mpr (by simp)))).2) (by decide) (by decide) kt) ?_
    show Go p e below _ m T153 293 #[jv q0, .second, jv m1, .second, jv m7, .second, jv m9, .second, iv p4, iv (4 : Int32), rv b133, rv b139, iv m145] []
    refine go (fun t kt => XS.aload X153.here hx rfl (hb hby at_293) rfl rfl kt) ?_
    show Go p e below _ m T153 295 #[jv q0, .second, jv m1, .second, jv m7, .second, jv m9, .second, iv p4, iv (4 : Int32), rv b133, rv b139, iv m145] [(.ref b139)]
    obtain ⟨cl154, Ar154, qc154, S154, M154, H154, G154⟩ := id V_b139
    refine go (X153.arraylength hx (by rw [e153]; exact Ar154.1) (State.isArrayOf_alike hZ.alike Ar154.2.1) (g := (mkF m 295 #[jv q0, .second, jv m1, .second, jv m7, .second, jv m9, .second, iv p4, iv (4 : Int32), rv b133, rv b139, iv m145] [(.ref b139)])) rfl rfl (hb hby at_295)) ?_
    rw [len_of S154 M154]
    show Go p e below _ m T153 296 #[jv q0, .second, jv m1, .second, jv m7, .second, jv m9, .second, iv p4, iv (4 : Int32), rv b133, rv b139, iv m145] [(.int wz138)]
    by_cases hc155 : (0 : Int32) < wz138
    ·
      refine go (fun t kt => XS.ifNo X153.here hx rfl (hb hby at_296) rfl ((if0 _ _).trans (tlt hc155).2.2.2) kt) ?_
      show Go p e below _ m T153 299 #[jv q0, .second, jv m1, .second, jv m7, .second, jv m9, .second, iv p4, iv (4 : Int32), rv b133, rv b139, iv m145] []
      refine go (fun t kt => XS.aload X153.here hx rfl (hb hby at_299) rfl rfl kt) ?_
      show Go p e below _ m T153 301 #[jv q0, .second, jv m1, .second, jv m7, .second, jv m9, .second, iv p4, iv (4 : Int32), rv b133, rv b139, iv m145] [(.ref b139)]
      refine go (fun t kt => XS.iconst X153.here hx rfl (hb hby at_301) kt) ?_
      show Go p e below _ m T153 302 #[jv q0, .second, jv m1, .second, jv m7, .second, jv m9, .second, iv p4, iv (4 : Int32), rv b133, rv b139, iv m145] [(.int (0 : Int32)), (.ref b139)]
      obtain ⟨cl156, Ar156, qc156, S156, M156, H156, G156⟩ := id V_b139
      have hin156 : ¬ ((0 : Int32) < 0 ∨ cl156.slots.size ≤ ((0 : Int32)).toNatClampNeg) := inb_of S156 ⟨by decide, hc155⟩
      have hat156 : cl156.slots[((0 : Int32)).toNatClampNeg]? = some (.long (LL.getD 0 0)) := H156.at hin156 (own_getJ LL 0)
      refine go (X153.laload hx (j := (0 : Int32)) (v := (.long (LL.getD 0 0))) (by rw [e153]; exact Ar156.1) (State.isArrayOf_alike hZ.alike Ar156.2.1) Ar156.2.2 hin156 hat156 (g := (mkF m 302 #[jv q0, .second, jv m1, .second, jv m7, .second, jv m9, .second, iv p4, iv (4 : Int32), rv b133, rv b139, iv m145] [(.int (0 : Int32)), (.ref b139)])) rfl rfl (hb hby at_302)) ?_
      show Go p e below _ m T153 303 #[jv q0, .second, jv m1, .second, jv m7, .second, jv m9, .second, iv p4, iv (4 : Int32), rv b133, rv b139, iv m145] [(.long (LL.getD 0 0))]
      refine go (fun t kt => XS.iload X153.here hx rfl (hb hby at_303) rfl kt) ?_
      show Go p e below _ m T153 305 #[jv q0, .second, jv m1, .second, jv m7, .second, jv m9, .second, iv p4, iv (4 : Int32), rv b133, rv b139, iv m145] [(.int (4 : Int32)), (.long (LL.getD 0 0))]
      refine go (fun t kt => XS.lloadN X153.here hx rfl (hb hby at_305) rfl kt) ?_
      show Go p e below _ m T153 306 #[jv q0, .second, jv m1, .second, jv m7, .second, jv m9, .second, iv p4, iv (4 : Int32), rv b133, rv b139, iv m145] [(.long q0), (.int (4 : Int32)), (.long (LL.getD 0 0))]
      refine go (fun t kt => XS.lloadN X153.here hx rfl (hb hby at_306) rfl kt) ?_
      show Go p e below _ m T153 307 #[jv q0, .second, jv m1, .second, jv m7, .second, jv m9, .second, iv p4, iv (4 : Int32), rv b133, rv b139, iv m145] [(.long m1), (.long q0), (.int (4 : Int32)), (.long (LL.getD 0 0))]
      refine go (fun t kt => XS.lload X153.here hx rfl (hb hby at_307) rfl kt) ?_
      show Go p e below _ m T153 309 #[jv q0, .second, jv m1, .second, jv m7, .second, jv m9, .second, iv p4, iv (4 : Int32), rv b133, rv b139, iv m145] [(.long m7), (.long m1), (.long q0), (.int (4 : Int32)), (.long (LL.getD 0 0))]
      refine go (fun t kt => XS.lload X153.here hx rfl (hb hby at_309) rfl kt) ?_
      show Go p e below _ m T153 311 #[jv q0, .second, jv m1, .second, jv m7, .second, jv m9, .second, iv p4, iv (4 : Int32), rv b133, rv b139, iv m145] [(.long m9), (.long m7), (.long m1), (.long q0), (.int (4 : Int32)), (.long (LL.getD 0 0))]
      obtain ⟨_, _, ⟨T157, L157, k157, n157⟩, -, X157, ⟨Lc157, hQ157, l157, y157, z157⟩, st157⟩ := Jvm.LawKit.callS X153 hx (y := (⟨"com/example/modest_tree_automata/modesttreeautomata/LongIntMapKeysPinLaw", "isInput", "(JIJJJJ)Z"⟩ : MethodName)) hown (mvT hZ (hw _ (List.mem_of_getElem? (i := 38) rfl))) (mvT hZ (hw _ (List.mem_of_getElem? (i := 39) rfl))) (mvT hZ (hw _ (List.mem_of_getElem? (i := 36) rfl))) (mvT hZ (hw _ (List.mem_of_getElem? (i := 40) rfl))) (by decide) (backOf (W := 0) (rm7 l Z a0 hw [] (LL.getD 0 0) (4 : Int32) q0 m1 m7 m9 T139.heap n0 Zz139 ) hZ (hw _ (List.mem_of_getElem? (i := 40) rfl)) (hw _ (List.mem_of_getElem? (i := 36) rfl)) (by decide) (by decide)) (g := (mkF m 311 #[jv q0, .second, jv m1, .second, jv m7, .second, jv m9, .second, iv p4, iv (4 : Int32), rv b133, rv b139, iv m145] [(.long m9), (.long m7), (.long m1), (.long q0), (.int (4 : Int32)), (.long (LL.getD 0 0))])) rfl (by rw [hml]; rfl) (argsL := [(.long (LL.getD 0 0)), (.int (4 : Int32)), (.long q0), (.long m1), (.long m7), (.long m9)]) (rest := []) (lenOf pd_5 rfl) rfl (by show 2 * 0 + _ ≤ _; exact Nat.le_of_eq rfl) (hb hby at_311) (fun _ _ => ⟨rfl, e153, (by decide : 5 + 0 ≤ _), (by decide : 56 + 0 ≤ _)⟩)
      dsimp only [Pt.U, Pt.locs, Pt.cells, Pt.slots] at X157 l157 y157 z157 st157 hQ157
      subst l157 y157 z157
      obtain ⟨rfl, Nq157, e157⟩ := hQ157
      have N157 := Fr.app N153 Nq157
      refine go st157 ?_
      show Go p e below _ m T157 314 #[jv q0, .second, jv m1, .second, jv m7, .second, jv m9, .second, iv p4, iv (4 : Int32), rv b133, rv b139, iv m145] [(.int (own_inp (LL.getD 0 0) (4 : Int32) q0 m1 m7 m9))]
      refine go (fun t kt => XS.ifYes X157.here hx rfl (pc0 := 314) (pc' := 319) rfl (hb hby at_314) rfl ((if0 _ _).trans (feq (own_in4 _ _ _ _ _ ((hmem _).mp (own_gm hwz (Nat.le_trans hlen (Nat.le_of_ble_eq_true rfl)) (0 : Int32) 0 rfl hc155)))).2) (by decide) (by decide) kt) ?_
      show Go p e below _ m T157 319 #[jv q0, .second, jv m1, .second, jv m7, .second, jv m9, .second, iv p4, iv (4 : Int32), rv b133, rv b139, iv m145] []
      refine go (fun t kt => XS.aload X157.here hx rfl (hb hby at_319) rfl rfl kt) ?_
      show Go p e below _ m T157 321 #[jv q0, .second, jv m1, .second, jv m7, .second, jv m9, .second, iv p4, iv (4 : Int32), rv b133, rv b139, iv m145] [(.ref b139)]
      obtain ⟨cl158, Ar158, qc158, S158, M158, H158, G158⟩ := id V_b139
      refine go (X157.arraylength hx (by rw [e157]; exact Ar158.1) (State.isArrayOf_alike hZ.alike Ar158.2.1) (g := (mkF m 321 #[jv q0, .second, jv m1, .second, jv m7, .second, jv m9, .second, iv p4, iv (4 : Int32), rv b133, rv b139, iv m145] [(.ref b139)])) rfl rfl (hb hby at_321)) ?_
      rw [len_of S158 M158]
      show Go p e below _ m T157 322 #[jv q0, .second, jv m1, .second, jv m7, .second, jv m9, .second, iv p4, iv (4 : Int32), rv b133, rv b139, iv m145] [(.int wz138)]
      refine go (fun t kt => XS.iconst X157.here hx rfl (hb hby at_322) kt) ?_
      show Go p e below _ m T157 323 #[jv q0, .second, jv m1, .second, jv m7, .second, jv m9, .second, iv p4, iv (4 : Int32), rv b133, rv b139, iv m145] [(.int (1 : Int32)), (.int wz138)]
      by_cases hc159 : (1 : Int32) < wz138
      ·
        refine go (fun t kt => XS.icmpNo X157.here hx rfl (hb hby at_323) rfl (tlt hc159).2.2.2 kt) ?_
        show Go p e below _ m T157 326 #[jv q0, .second, jv m1, .second, jv m7, .second, jv m9, .second, iv p4, iv (4 : Int32), rv b133, rv b139, iv m145] []
        refine go (fun t kt => XS.aload X157.here hx rfl (hb hby at_326) rfl rfl kt) ?_
        show Go p e below _ m T157 328 #[jv q0, .second, jv m1, .second, jv m7, .second, jv m9, .second, iv p4, iv (4 : Int32), rv b133, rv b139, iv m145] [(.ref b139)]
        refine go (fun t kt => XS.iconst X157.here hx rfl (hb hby at_328) kt) ?_
        show Go p e below _ m T157 329 #[jv q0, .second, jv m1, .second, jv m7, .second, jv m9, .second, iv p4, iv (4 : Int32), rv b133, rv b139, iv m145] [(.int (1 : Int32)), (.ref b139)]
        obtain ⟨cl160, Ar160, qc160, S160, M160, H160, G160⟩ := id V_b139
        have hin160 : ¬ ((1 : Int32) < 0 ∨ cl160.slots.size ≤ ((1 : Int32)).toNatClampNeg) := inb_of S160 ⟨by decide, hc159⟩
        have hat160 : cl160.slots[((1 : Int32)).toNatClampNeg]? = some (.long (LL.getD 1 0)) := H160.at hin160 (own_getJ LL 1)
        refine go (X157.laload hx (j := (1 : Int32)) (v := (.long (LL.getD 1 0))) (by rw [e157]; exact Ar160.1) (State.isArrayOf_alike hZ.alike Ar160.2.1) Ar160.2.2 hin160 hat160 (g := (mkF m 329 #[jv q0, .second, jv m1, .second, jv m7, .second, jv m9, .second, iv p4, iv (4 : Int32), rv b133, rv b139, iv m145] [(.int (1 : Int32)), (.ref b139)])) rfl rfl (hb hby at_329)) ?_
        show Go p e below _ m T157 330 #[jv q0, .second, jv m1, .second, jv m7, .second, jv m9, .second, iv p4, iv (4 : Int32), rv b133, rv b139, iv m145] [(.long (LL.getD 1 0))]
        refine go (fun t kt => XS.iload X157.here hx rfl (hb hby at_330) rfl kt) ?_
        show Go p e below _ m T157 332 #[jv q0, .second, jv m1, .second, jv m7, .second, jv m9, .second, iv p4, iv (4 : Int32), rv b133, rv b139, iv m145] [(.int (4 : Int32)), (.long (LL.getD 1 0))]
        refine go (fun t kt => XS.lloadN X157.here hx rfl (hb hby at_332) rfl kt) ?_
        show Go p e below _ m T157 333 #[jv q0, .second, jv m1, .second, jv m7, .second, jv m9, .second, iv p4, iv (4 : Int32), rv b133, rv b139, iv m145] [(.long q0), (.int (4 : Int32)), (.long (LL.getD 1 0))]
        refine go (fun t kt => XS.lloadN X157.here hx rfl (hb hby at_333) rfl kt) ?_
        show Go p e below _ m T157 334 #[jv q0, .second, jv m1, .second, jv m7, .second, jv m9, .second, iv p4, iv (4 : Int32), rv b133, rv b139, iv m145] [(.long m1), (.long q0), (.int (4 : Int32)), (.long (LL.getD 1 0))]
        refine go (fun t kt => XS.lload X157.here hx rfl (hb hby at_334) rfl kt) ?_
        show Go p e below _ m T157 336 #[jv q0, .second, jv m1, .second, jv m7, .second, jv m9, .second, iv p4, iv (4 : Int32), rv b133, rv b139, iv m145] [(.long m7), (.long m1), (.long q0), (.int (4 : Int32)), (.long (LL.getD 1 0))]
        refine go (fun t kt => XS.lload X157.here hx rfl (hb hby at_336) rfl kt) ?_
        show Go p e below _ m T157 338 #[jv q0, .second, jv m1, .second, jv m7, .second, jv m9, .second, iv p4, iv (4 : Int32), rv b133, rv b139, iv m145] [(.long m9), (.long m7), (.long m1), (.long q0), (.int (4 : Int32)), (.long (LL.getD 1 0))]
        obtain ⟨_, _, ⟨T161, L161, k161, n161⟩, -, X161, ⟨Lc161, hQ161, l161, y161, z161⟩, st161⟩ := Jvm.LawKit.callS X157 hx (y := (⟨"com/example/modest_tree_automata/modesttreeautomata/LongIntMapKeysPinLaw", "isInput", "(JIJJJJ)Z"⟩ : MethodName)) hown (mvT hZ (hw _ (List.mem_of_getElem? (i := 38) rfl))) (mvT hZ (hw _ (List.mem_of_getElem? (i := 39) rfl))) (mvT hZ (hw _ (List.mem_of_getElem? (i := 36) rfl))) (mvT hZ (hw _ (List.mem_of_getElem? (i := 40) rfl))) (by decide) (backOf (W := 0) (rm7 l Z a0 hw [] (LL.getD 1 0) (4 : Int32) q0 m1 m7 m9 T139.heap n0 Zz139 ) hZ (hw _ (List.mem_of_getElem? (i := 40) rfl)) (hw _ (List.mem_of_getElem? (i := 36) rfl)) (by decide) (by decide)) (g := (mkF m 338 #[jv q0, .second, jv m1, .second, jv m7, .second, jv m9, .second, iv p4, iv (4 : Int32), rv b133, rv b139, iv m145] [(.long m9), (.long m7), (.long m1), (.long q0), (.int (4 : Int32)), (.long (LL.getD 1 0))])) rfl (by rw [hml]; rfl) (argsL := [(.long (LL.getD 1 0)), (.int (4 : Int32)), (.long q0), (.long m1), (.long m7), (.long m9)]) (rest := []) (lenOf pd_5 rfl) rfl (by show 2 * 0 + _ ≤ _; exact Nat.le_of_eq rfl) (hb hby at_338) (fun _ _ => ⟨rfl, e157, (by decide : 5 + 0 ≤ _), (by decide : 56 + 0 ≤ _)⟩)
        dsimp only [Pt.U, Pt.locs, Pt.cells, Pt.slots] at X161 l161 y161 z161 st161 hQ161
        subst l161 y161 z161
        obtain ⟨rfl, Nq161, e161⟩ := hQ161
        have N161 := Fr.app N157 Nq161
        refine go st161 ?_
        show Go p e below _ m T161 341 #[jv q0, .second, jv m1, .second, jv m7, .second, jv m9, .second, iv p4, iv (4 : Int32), rv b133, rv b139, iv m145] [(.int (own_inp (LL.getD 1 0) (4 : Int32) q0 m1 m7 m9))]
        refine go (fun t kt => XS.ifYes X161.here hx rfl (pc0 := 341) (pc' := 346) rfl (hb hby at_341) rfl ((if0 _ _).trans (feq (own_in4 _ _ _ _ _ ((hmem _).mp (own_gm hwz (Nat.le_trans hlen (Nat.le_of_ble_eq_true rfl)) (1 : Int32) 1 rfl hc159)))).2) (by decide) (by decide) kt) ?_
        show Go p e below _ m T161 346 #[jv q0, .second, jv m1, .second, jv m7, .second, jv m9, .second, iv p4, iv (4 : Int32), rv b133, rv b139, iv m145] []
        refine go (fun t kt => XS.aload X161.here hx rfl (hb hby at_346) rfl rfl kt) ?_
        show Go p e below _ m T161 348 #[jv q0, .second, jv m1, .second, jv m7, .second, jv m9, .second, iv p4, iv (4 : Int32), rv b133, rv b139, iv m145] [(.ref b139)]
        obtain ⟨cl162, Ar162, qc162, S162, M162, H162, G162⟩ := id V_b139
        refine go (X161.arraylength hx (by rw [e161]; exact Ar162.1) (State.isArrayOf_alike hZ.alike Ar162.2.1) (g := (mkF m 348 #[jv q0, .second, jv m1, .second, jv m7, .second, jv m9, .second, iv p4, iv (4 : Int32), rv b133, rv b139, iv m145] [(.ref b139)])) rfl rfl (hb hby at_348)) ?_
        rw [len_of S162 M162]
        show Go p e below _ m T161 349 #[jv q0, .second, jv m1, .second, jv m7, .second, jv m9, .second, iv p4, iv (4 : Int32), rv b133, rv b139, iv m145] [(.int wz138)]
        refine go (fun t kt => XS.iconst X161.here hx rfl (hb hby at_349) kt) ?_
        show Go p e below _ m T161 350 #[jv q0, .second, jv m1, .second, jv m7, .second, jv m9, .second, iv p4, iv (4 : Int32), rv b133, rv b139, iv m145] [(.int (2 : Int32)), (.int wz138)]
        by_cases hc163 : (2 : Int32) < wz138
        ·
          refine go (fun t kt => XS.icmpNo X161.here hx rfl (hb hby at_350) rfl (tlt hc163).2.2.2 kt) ?_
          show Go p e below _ m T161 353 #[jv q0, .second, jv m1, .second, jv m7, .second, jv m9, .second, iv p4, iv (4 : Int32), rv b133, rv b139, iv m145] []
          refine go (fun t kt => XS.aload X161.here hx rfl (hb hby at_353) rfl rfl kt) ?_
          show Go p e below _ m T161 355 #[jv q0, .second, jv m1, .second, jv m7, .second, jv m9, .second, iv p4, iv (4 : Int32), rv b133, rv b139, iv m145] [(.ref b139)]
          refine go (fun t kt => XS.iconst X161.here hx rfl (hb hby at_355) kt) ?_
          show Go p e below _ m T161 356 #[jv q0, .second, jv m1, .second, jv m7, .second, jv m9, .second, iv p4, iv (4 : Int32), rv b133, rv b139, iv m145] [(.int (2 : Int32)), (.ref b139)]
          obtain ⟨cl164, Ar164, qc164, S164, M164, H164, G164⟩ := id V_b139
          have hin164 : ¬ ((2 : Int32) < 0 ∨ cl164.slots.size ≤ ((2 : Int32)).toNatClampNeg) := inb_of S164 ⟨by decide, hc163⟩
          have hat164 : cl164.slots[((2 : Int32)).toNatClampNeg]? = some (.long (LL.getD 2 0)) := H164.at hin164 (own_getJ LL 2)
          refine go (X161.laload hx (j := (2 : Int32)) (v := (.long (LL.getD 2 0))) (by rw [e161]; exact Ar164.1) (State.isArrayOf_alike hZ.alike Ar164.2.1) Ar164.2.2 hin164 hat164 (g := (mkF m 356 #[jv q0, .second, jv m1, .second, jv m7, .second, jv m9, .second, iv p4, iv (4 : Int32), rv b133, rv b139, iv m145] [(.int (2 : Int32)), (.ref b139)])) rfl rfl (hb hby at_356)) ?_
          show Go p e below _ m T161 357 #[jv q0, .second, jv m1, .second, jv m7, .second, jv m9, .second, iv p4, iv (4 : Int32), rv b133, rv b139, iv m145] [(.long (LL.getD 2 0))]
          refine go (fun t kt => XS.iload X161.here hx rfl (hb hby at_357) rfl kt) ?_
          show Go p e below _ m T161 359 #[jv q0, .second, jv m1, .second, jv m7, .second, jv m9, .second, iv p4, iv (4 : Int32), rv b133, rv b139, iv m145] [(.int (4 : Int32)), (.long (LL.getD 2 0))]
          refine go (fun t kt => XS.lloadN X161.here hx rfl (hb hby at_359) rfl kt) ?_
          show Go p e below _ m T161 360 #[jv q0, .second, jv m1, .second, jv m7, .second, jv m9, .second, iv p4, iv (4 : Int32), rv b133, rv b139, iv m145] [(.long q0), (.int (4 : Int32)), (.long (LL.getD 2 0))]
          refine go (fun t kt => XS.lloadN X161.here hx rfl (hb hby at_360) rfl kt) ?_
          show Go p e below _ m T161 361 #[jv q0, .second, jv m1, .second, jv m7, .second, jv m9, .second, iv p4, iv (4 : Int32), rv b133, rv b139, iv m145] [(.long m1), (.long q0), (.int (4 : Int32)), (.long (LL.getD 2 0))]
          refine go (fun t kt => XS.lload X161.here hx rfl (hb hby at_361) rfl kt) ?_
          show Go p e below _ m T161 363 #[jv q0, .second, jv m1, .second, jv m7, .second, jv m9, .second, iv p4, iv (4 : Int32), rv b133, rv b139, iv m145] [(.long m7), (.long m1), (.long q0), (.int (4 : Int32)), (.long (LL.getD 2 0))]
          refine go (fun t kt => XS.lload X161.here hx rfl (hb hby at_363) rfl kt) ?_
          show Go p e below _ m T161 365 #[jv q0, .second, jv m1, .second, jv m7, .second, jv m9, .second, iv p4, iv (4 : Int32), rv b133, rv b139, iv m145] [(.long m9), (.long m7), (.long m1), (.long q0), (.int (4 : Int32)), (.long (LL.getD 2 0))]
          obtain ⟨_, _, ⟨T165, L165, k165, n165⟩, -, X165, ⟨Lc165, hQ165, l165, y165, z165⟩, st165⟩ := Jvm.LawKit.callS X161 hx (y := (⟨"com/example/modest_tree_automata/modesttreeautomata/LongIntMapKeysPinLaw", "isInput", "(JIJJJJ)Z"⟩ : MethodName)) hown (mvT hZ (hw _ (List.mem_of_getElem? (i := 38) rfl))) (mvT hZ (hw _ (List.mem_of_getElem? (i := 39) rfl))) (mvT hZ (hw _ (List.mem_of_getElem? (i := 36) rfl))) (mvT hZ (hw _ (List.mem_of_getElem? (i := 40) rfl))) (by decide) (backOf (W := 0) (rm7 l Z a0 hw [] (LL.getD 2 0) (4 : Int32) q0 m1 m7 m9 T139.heap n0 Zz139 ) hZ (hw _ (List.mem_of_getElem? (i := 40) rfl)) (hw _ (List.mem_of_getElem? (i := 36) rfl)) (by decide) (by decide)) (g := (mkF m 365 #[jv q0, .second, jv m1, .second, jv m7, .second, jv m9, .second, iv p4, iv (4 : Int32), rv b133, rv b139, iv m145] [(.long m9), (.long m7), (.long m1), (.long q0), (.int (4 : Int32)), (.long (LL.getD 2 0))])) rfl (by rw [hml]; rfl) (argsL := [(.long (LL.getD 2 0)), (.int (4 : Int32)), (.long q0), (.long m1), (.long m7), (.long m9)]) (rest := []) (lenOf pd_5 rfl) rfl (by show 2 * 0 + _ ≤ _; exact Nat.le_of_eq rfl) (hb hby at_365) (fun _ _ => ⟨rfl, e161, (by decide : 5 + 0 ≤ _), (by decide : 56 + 0 ≤ _)⟩)
          dsimp only [Pt.U, Pt.locs, Pt.cells, Pt.slots] at X165 l165 y165 z165 st165 hQ165
          subst l165 y165 z165
          obtain ⟨rfl, Nq165, e165⟩ := hQ165
          have N165 := Fr.app N161 Nq165
          refine go st165 ?_
          show Go p e below _ m T165 368 #[jv q0, .second, jv m1, .second, jv m7, .second, jv m9, .second, iv p4, iv (4 : Int32), rv b133, rv b139, iv m145] [(.int (own_inp (LL.getD 2 0) (4 : Int32) q0 m1 m7 m9))]
          refine go (fun t kt => XS.ifYes X165.here hx rfl (pc0 := 368) (pc' := 373) rfl (hb hby at_368) rfl ((if0 _ _).trans (feq (own_in4 _ _ _ _ _ ((hmem _).mp (own_gm hwz (Nat.le_trans hlen (Nat.le_of_ble_eq_true rfl)) (2 : Int32) 2 rfl hc163)))).2) (by decide) (by decide) kt) ?_
          show Go p e below _ m T165 373 #[jv q0, .second, jv m1, .second, jv m7, .second, jv m9, .second, iv p4, iv (4 : Int32), rv b133, rv b139, iv m145] []
          refine go (fun t kt => XS.aload X165.here hx rfl (hb hby at_373) rfl rfl kt) ?_
          show Go p e below _ m T165 375 #[jv q0, .second, jv m1, .second, jv m7, .second, jv m9, .second, iv p4, iv (4 : Int32), rv b133, rv b139, iv m145] [(.ref b139)]
          obtain ⟨cl166, Ar166, qc166, S166, M166, H166, G166⟩ := id V_b139
          refine go (X165.arraylength hx (by rw [e165]; exact Ar166.1) (State.isArrayOf_alike hZ.alike Ar166.2.1) (g := (mkF m 375 #[jv q0, .second, jv m1, .second, jv m7, .second, jv m9, .second, iv p4, iv (4 : Int32), rv b133, rv b139, iv m145] [(.ref b139)])) rfl rfl (hb hby at_375)) ?_
          rw [len_of S166 M166]
          show Go p e below _ m T165 376 #[jv q0, .second, jv m1, .second, jv m7, .second, jv m9, .second, iv p4, iv (4 : Int32), rv b133, rv b139, iv m145] [(.int wz138)]
          refine go (fun t kt => XS.iconst X165.here hx rfl (hb hby at_376) kt) ?_
          show Go p e below _ m T165 377 #[jv q0, .second, jv m1, .second, jv m7, .second, jv m9, .second, iv p4, iv (4 : Int32), rv b133, rv b139, iv m145] [(.int (3 : Int32)), (.int wz138)]
          by_cases hc167 : (3 : Int32) < wz138
          ·
            refine go (fun t kt => XS.icmpNo X165.here hx rfl (hb hby at_377) rfl (tlt hc167).2.2.2 kt) ?_
            show Go p e below _ m T165 380 #[jv q0, .second, jv m1, .second, jv m7, .second, jv m9, .second, iv p4, iv (4 : Int32), rv b133, rv b139, iv m145] []
            refine go (fun t kt => XS.aload X165.here hx rfl (hb hby at_380) rfl rfl kt) ?_
            show Go p e below _ m T165 382 #[jv q0, .second, jv m1, .second, jv m7, .second, jv m9, .second, iv p4, iv (4 : Int32), rv b133, rv b139, iv m145] [(.ref b139)]
            refine go (fun t kt => XS.iconst X165.here hx rfl (hb hby at_382) kt) ?_
            show Go p e below _ m T165 383 #[jv q0, .second, jv m1, .second, jv m7, .second, jv m9, .second, iv p4, iv (4 : Int32), rv b133, rv b139, iv m145] [(.int (3 : Int32)), (.ref b139)]
            obtain ⟨cl168, Ar168, qc168, S168, M168, H168, G168⟩ := id V_b139
            have hin168 : ¬ ((3 : Int32) < 0 ∨ cl168.slots.size ≤ ((3 : Int32)).toNatClampNeg) := inb_of S168 ⟨by decide, hc167⟩
            have hat168 : cl168.slots[((3 : Int32)).toNatClampNeg]? = some (.long (LL.getD 3 0)) := H168.at hin168 (own_getJ LL 3)
            refine go (X165.laload hx (j := (3 : Int32)) (v := (.long (LL.getD 3 0))) (by rw [e165]; exact Ar168.1) (State.isArrayOf_alike hZ.alike Ar168.2.1) Ar168.2.2 hin168 hat168 (g := (mkF m 383 #[jv q0, .second, jv m1, .second, jv m7, .second, jv m9, .second, iv p4, iv (4 : Int32), rv b133, rv b139, iv m145] [(.int (3 : Int32)), (.ref b139)])) rfl rfl (hb hby at_383)) ?_
            show Go p e below _ m T165 384 #[jv q0, .second, jv m1, .second, jv m7, .second, jv m9, .second, iv p4, iv (4 : Int32), rv b133, rv b139, iv m145] [(.long (LL.getD 3 0))]
            refine go (fun t kt => XS.iload X165.here hx rfl (hb hby at_384) rfl kt) ?_
            show Go p e below _ m T165 386 #[jv q0, .second, jv m1, .second, jv m7, .second, jv m9, .second, iv p4, iv (4 : Int32), rv b133, rv b139, iv m145] [(.int (4 : Int32)), (.long (LL.getD 3 0))]
            refine go (fun t kt => XS.lloadN X165.here hx rfl (hb hby at_386) rfl kt) ?_
            show Go p e below _ m T165 387 #[jv q0, .second, jv m1, .second, jv m7, .second, jv m9, .second, iv p4, iv (4 : Int32), rv b133, rv b139, iv m145] [(.long q0), (.int (4 : Int32)), (.long (LL.getD 3 0))]
            refine go (fun t kt => XS.lloadN X165.here hx rfl (hb hby at_387) rfl kt) ?_
            show Go p e below _ m T165 388 #[jv q0, .second, jv m1, .second, jv m7, .second, jv m9, .second, iv p4, iv (4 : Int32), rv b133, rv b139, iv m145] [(.long m1), (.long q0), (.int (4 : Int32)), (.long (LL.getD 3 0))]
            refine go (fun t kt => XS.lload X165.here hx rfl (hb hby at_388) rfl kt) ?_
            show Go p e below _ m T165 390 #[jv q0, .second, jv m1, .second, jv m7, .second, jv m9, .second, iv p4, iv (4 : Int32), rv b133, rv b139, iv m145] [(.long m7), (.long m1), (.long q0), (.int (4 : Int32)), (.long (LL.getD 3 0))]
            refine go (fun t kt => XS.lload X165.here hx rfl (hb hby at_390) rfl kt) ?_
            show Go p e below _ m T165 392 #[jv q0, .second, jv m1, .second, jv m7, .second, jv m9, .second, iv p4, iv (4 : Int32), rv b133, rv b139, iv m145] [(.long m9), (.long m7), (.long m1), (.long q0), (.int (4 : Int32)), (.long (LL.getD 3 0))]
            obtain ⟨_, _, ⟨T169, L169, k169, n169⟩, -, X169, ⟨Lc169, hQ169, l169, y169, z169⟩, st169⟩ := Jvm.LawKit.callS X165 hx (y := (⟨"com/example/modest_tree_automata/modesttreeautomata/LongIntMapKeysPinLaw", "isInput", "(JIJJJJ)Z"⟩ : MethodName)) hown (mvT hZ (hw _ (List.mem_of_getElem? (i := 38) rfl))) (mvT hZ (hw _ (List.mem_of_getElem? (i := 39) rfl))) (mvT hZ (hw _ (List.mem_of_getElem? (i := 36) rfl))) (mvT hZ (hw _ (List.mem_of_getElem? (i := 40) rfl))) (by decide) (backOf (W := 0) (rm7 l Z a0 hw [] (LL.getD 3 0) (4 : Int32) q0 m1 m7 m9 T139.heap n0 Zz139 ) hZ (hw _ (List.mem_of_getElem? (i := 40) rfl)) (hw _ (List.mem_of_getElem? (i := 36) rfl)) (by decide) (by decide)) (g := (mkF m 392 #[jv q0, .second, jv m1, .second, jv m7, .second, jv m9, .second, iv p4, iv (4 : Int32), rv b133, rv b139, iv m145] [(.long m9), (.long m7), (.long m1), (.long q0), (.int (4 : Int32)), (.long (LL.getD 3 0))])) rfl (by rw [hml]; rfl) (argsL := [(.long (LL.getD 3 0)), (.int (4 : Int32)), (.long q0), (.long m1), (.long m7), (.long m9)]) (rest := []) (lenOf pd_5 rfl) rfl (by show 2 * 0 + _ ≤ _; exact Nat.le_of_eq rfl) (hb hby at_392) (fun _ _ => ⟨rfl, e165, (by decide : 5 + 0 ≤ _), (by decide : 56 + 0 ≤ _)⟩)
            dsimp only [Pt.U, Pt.locs, Pt.cells, Pt.slots] at X169 l169 y169 z169 st169 hQ169
            subst l169 y169 z169
            obtain ⟨rfl, Nq169, e169⟩ := hQ169
            have N169 := Fr.app N165 Nq169
            refine go st169 ?_
            show Go p e below _ m T169 395 #[jv q0, .second, jv m1, .second, jv m7, .second, jv m9, .second, iv p4, iv (4 : Int32), rv b133, rv b139, iv m145] [(.int (own_inp (LL.getD 3 0) (4 : Int32) q0 m1 m7 m9))]
            refine go (fun t kt => XS.ifYes X169.here hx rfl (pc0 := 395) (pc' := 400) rfl (hb hby at_395) rfl ((if0 _ _).trans (feq (own_in4 _ _ _ _ _ ((hmem _).mp (own_gm hwz (Nat.le_trans hlen (Nat.le_of_ble_eq_true rfl)) (3 : Int32) 3 rfl hc167)))).2) (by decide) (by decide) kt) ?_
            show Go p e below _ m T169 400 #[jv q0, .second, jv m1, .second, jv m7, .second, jv m9, .second, iv p4, iv (4 : Int32), rv b133, rv b139, iv m145] []
            refine go (fun t kt => XS.iconst X169.here hx rfl (hb hby at_400) kt) ?_
            show Go p e below _ m T169 401 #[jv q0, .second, jv m1, .second, jv m7, .second, jv m9, .second, iv p4, iv (4 : Int32), rv b133, rv b139, iv m145] [(.int (1 : Int32))]
            obtain ⟨fs, hr, hrun, hended, hW, hsame⟩ := X169.leave (v := some (.int (1 : Int32))) (fun h => by rw [Bd.returns] at h; cases h)
            refine ⟨_, _, retN X169 hx (t := .boolean) Bd.returns (by simp) (hb hby at_401) hr, hrun, hended, _, _, rfl, ?_, ⟨_, rfl⟩, hW, hsame.mono (by decide) (by decide)⟩
            show Q0 Z q0 q1 q2 q3 p4 h0 n0 _ T169.heap _
            rw [e169]
            exact ⟨rfl, N169⟩
          ·
            refine go (fun t kt => XS.icmpYes X165.here hx rfl (pc0 := 377) (pc' := 400) rfl (hb hby at_377) rfl (flt hc167).2.2.2 (by decide) (by decide) kt) ?_
            show Go p e below _ m T165 400 #[jv q0, .second, jv m1, .second, jv m7, .second, jv m9, .second, iv p4, iv (4 : Int32), rv b133, rv b139, iv m145] []
            refine go (fun t kt => XS.iconst X165.here hx rfl (hb hby at_400) kt) ?_
            show Go p e below _ m T165 401 #[jv q0, .second, jv m1, .second, jv m7, .second, jv m9, .second, iv p4, iv (4 : Int32), rv b133, rv b139, iv m145] [(.int (1 : Int32))]
            obtain ⟨fs, hr, hrun, hended, hW, hsame⟩ := X165.leave (v := some (.int (1 : Int32))) (fun h => by rw [Bd.returns] at h; cases h)
            refine ⟨_, _, retN X165 hx (t := .boolean) Bd.returns (by simp) (hb hby at_401) hr, hrun, hended, _, _, rfl, ?_, ⟨_, rfl⟩, hW, hsame.mono (by decide) (by decide)⟩
            show Q0 Z q0 q1 q2 q3 p4 h0 n0 _ T165.heap _
            rw [e165]
            exact ⟨rfl, N165⟩
        ·
          refine go (fun t kt => XS.icmpYes X161.here hx rfl (pc0 := 350) (pc' := 373) rfl (hb hby at_350) rfl (flt hc163).2.2.2 (by decide) (by decide) kt) ?_
          show Go p e below _ m T161 373 #[jv q0, .second, jv m1, .second, jv m7, .second, jv m9, .second, iv p4, iv (4 : Int32), rv b133, rv b139, iv m145] []
          refine go (fun t kt => XS.aload X161.here hx rfl (hb hby at_373) rfl rfl kt) ?_
          show Go p e below _ m T161 375 #[jv q0, .second, jv m1, .second, jv m7, .second, jv m9, .second, iv p4, iv (4 : Int32), rv b133, rv b139, iv m145] [(.ref b139)]
          obtain ⟨cl172, Ar172, qc172, S172, M172, H172, G172⟩ := id V_b139
          refine go (X161.arraylength hx (by rw [e161]; exact Ar172.1) (State.isArrayOf_alike hZ.alike Ar172.2.1) (g := (mkF m 375 #[jv q0, .second, jv m1, .second, jv m7, .second, jv m9, .second, iv p4, iv (4 : Int32), rv b133, rv b139, iv m145] [(.ref b139)])) rfl rfl (hb hby at_375)) ?_
          rw [len_of S172 M172]
          show Go p e below _ m T161 376 #[jv q0, .second, jv m1, .second, jv m7, .second, jv m9, .second, iv p4, iv (4 : Int32), rv b133, rv b139, iv m145] [(.int wz138)]
          refine go (fun t kt => XS.iconst X161.here hx rfl (hb hby at_376) kt) ?_
          show Go p e below _ m T161 377 #[jv q0, .second, jv m1, .second, jv m7, .second, jv m9, .second, iv p4, iv (4 : Int32), rv b133, rv b139, iv m145] [(.int (3 : Int32)), (.int wz138)]
          refine go (fun t kt => XS.icmpYes X161.here hx rfl (pc0 := 377) (pc' := 400) rfl (hb hby at_377) rfl (flt (own_nl hc163 (by decide))).2.2.2 (by decide) (by decide) kt) ?_
          show Go p e below _ m T161 400 #[jv q0, .second, jv m1, .second, jv m7, .second, jv m9, .second, iv p4, iv (4 : Int32), rv b133, rv b139, iv m145] []
          refine go (fun t kt => XS.iconst X161.here hx rfl (hb hby at_400) kt) ?_
          show Go p e below _ m T161 401 #[jv q0, .second, jv m1, .second, jv m7, .second, jv m9, .second, iv p4, iv (4 : Int32), rv b133, rv b139, iv m145] [(.int (1 : Int32))]
          obtain ⟨fs, hr, hrun, hended, hW, hsame⟩ := X161.leave (v := some (.int (1 : Int32))) (fun h => by rw [Bd.returns] at h; cases h)
          refine ⟨_, _, retN X161 hx (t := .boolean) Bd.returns (by simp) (hb hby at_401) hr, hrun, hended, _, _, rfl, ?_, ⟨_, rfl⟩, hW, hsame.mono (by decide) (by decide)⟩
          show Q0 Z q0 q1 q2 q3 p4 h0 n0 _ T161.heap _
          rw [e161]
          exact ⟨rfl, N161⟩
      ·
        refine go (fun t kt => XS.icmpYes X157.here hx rfl (pc0 := 323) (pc' := 346) rfl (hb hby at_323) rfl (flt hc159).2.2.2 (by decide) (by decide) kt) ?_
        show Go p e below _ m T157 346 #[jv q0, .second, jv m1, .second, jv m7, .second, jv m9, .second, iv p4, iv (4 : Int32), rv b133, rv b139, iv m145] []
        refine go (fun t kt => XS.aload X157.here hx rfl (hb hby at_346) rfl rfl kt) ?_
        show Go p e below _ m T157 348 #[jv q0, .second, jv m1, .second, jv m7, .second, jv m9, .second, iv p4, iv (4 : Int32), rv b133, rv b139, iv m145] [(.ref b139)]
        obtain ⟨cl174, Ar174, qc174, S174, M174, H174, G174⟩ := id V_b139
        refine go (X157.arraylength hx (by rw [e157]; exact Ar174.1) (State.isArrayOf_alike hZ.alike Ar174.2.1) (g := (mkF m 348 #[jv q0, .second, jv m1, .second, jv m7, .second, jv m9, .second, iv p4, iv (4 : Int32), rv b133, rv b139, iv m145] [(.ref b139)])) rfl rfl (hb hby at_348)) ?_
        rw [len_of S174 M174]
        show Go p e below _ m T157 349 #[jv q0, .second, jv m1, .second, jv m7, .second, jv m9, .second, iv p4, iv (4 : Int32), rv b133, rv b139, iv m145] [(.int wz138)]
        refine go (fun t kt => XS.iconst X157.here hx rfl (hb hby at_349) kt) ?_
        show Go p e below _ m T157 350 #[jv q0, .second, jv m1, .second, jv m7, .second, jv m9, .second, iv p4, iv (4 : Int32), rv b133, rv b139, iv m145] [(.int (2 : Int32)), (.int wz138)]
        refine go (fun t kt => XS.icmpYes X157.here hx rfl (pc0 := 350) (pc' := 373) rfl (hb hby at_350) rfl (flt (own_nl hc159 (by decide))).2.2.2 (by decide) (by decide) kt) ?_
        show Go p e below _ m T157 373 #[jv q0, .second, jv m1, .second, jv m7, .second, jv m9, .second, iv p4, iv (4 : Int32), rv b133, rv b139, iv m145] []
        refine go (fun t kt => XS.aload X157.here hx rfl (hb hby at_373) rfl rfl kt) ?_
        show Go p e below _ m T157 375 #[jv q0, .second, jv m1, .second, jv m7, .second, jv m9, .second, iv p4, iv (4 : Int32), rv b133, rv b139, iv m145] [(.ref b139)]
        obtain ⟨cl175, Ar175, qc175, S175, M175, H175, G175⟩ := id V_b139
        refine go (X157.arraylength hx (by rw [e157]; exact Ar175.1) (State.isArrayOf_alike hZ.alike Ar175.2.1) (g := (mkF m 375 #[jv q0, .second, jv m1, .second, jv m7, .second, jv m9, .second, iv p4, iv (4 : Int32), rv b133, rv b139, iv m145] [(.ref b139)])) rfl rfl (hb hby at_375)) ?_
        rw [len_of S175 M175]
        show Go p e below _ m T157 376 #[jv q0, .second, jv m1, .second, jv m7, .second, jv m9, .second, iv p4, iv (4 : Int32), rv b133, rv b139, iv m145] [(.int wz138)]
        refine go (fun t kt => XS.iconst X157.here hx rfl (hb hby at_376) kt) ?_
        show Go p e below _ m T157 377 #[jv q0, .second, jv m1, .second, jv m7, .second, jv m9, .second, iv p4, iv (4 : Int32), rv b133, rv b139, iv m145] [(.int (3 : Int32)), (.int wz138)]
        refine go (fun t kt => XS.icmpYes X157.here hx rfl (pc0 := 377) (pc' := 400) rfl (hb hby at_377) rfl (flt (own_nl hc159 (by decide))).2.2.2 (by decide) (by decide) kt) ?_
        show Go p e below _ m T157 400 #[jv q0, .second, jv m1, .second, jv m7, .second, jv m9, .second, iv p4, iv (4 : Int32), rv b133, rv b139, iv m145] []
        refine go (fun t kt => XS.iconst X157.here hx rfl (hb hby at_400) kt) ?_
        show Go p e below _ m T157 401 #[jv q0, .second, jv m1, .second, jv m7, .second, jv m9, .second, iv p4, iv (4 : Int32), rv b133, rv b139, iv m145] [(.int (1 : Int32))]
        obtain ⟨fs, hr, hrun, hended, hW, hsame⟩ := X157.leave (v := some (.int (1 : Int32))) (fun h => by rw [Bd.returns] at h; cases h)
        refine ⟨_, _, retN X157 hx (t := .boolean) Bd.returns (by simp) (hb hby at_401) hr, hrun, hended, _, _, rfl, ?_, ⟨_, rfl⟩, hW, hsame.mono (by decide) (by decide)⟩
        show Q0 Z q0 q1 q2 q3 p4 h0 n0 _ T157.heap _
        rw [e157]
        exact ⟨rfl, N157⟩
    ·
      refine go (fun t kt => XS.ifYes X153.here hx rfl (pc0 := 296) (pc' := 319) rfl (hb hby at_296) rfl ((if0 _ _).trans (flt hc155).2.2.2) (by decide) (by decide) kt) ?_
      show Go p e below _ m T153 319 #[jv q0, .second, jv m1, .second, jv m7, .second, jv m9, .second, iv p4, iv (4 : Int32), rv b133, rv b139, iv m145] []
      refine go (fun t kt => XS.aload X153.here hx rfl (hb hby at_319) rfl rfl kt) ?_
      show Go p e below _ m T153 321 #[jv q0, .second, jv m1, .second, jv m7, .second, jv m9, .second, iv p4, iv (4 : Int32), rv b133, rv b139, iv m145] [(.ref b139)]
      obtain ⟨cl177, Ar177, qc177, S177, M177, H177, G177⟩ := id V_b139
      refine go (X153.arraylength hx (by rw [e153]; exact Ar177.1) (State.isArrayOf_alike hZ.alike Ar177.2.1) (g := (mkF m 321 #[jv q0, .second, jv m1, .second, jv m7, .second, jv m9, .second, iv p4, iv (4 : Int32), rv b133, rv b139, iv m145] [(.ref b139)])) rfl rfl (hb hby at_321)) ?_
      rw [len_of S177 M177]
      show Go p e below _ m T153 322 #[jv q0, .second, jv m1, .second, jv m7, .second, jv m9, .second, iv p4, iv (4 : Int32), rv b133, rv b139, iv m145] [(.int wz138)]
      refine go (fun t kt => XS.iconst X153.here hx rfl (hb hby at_322) kt) ?_
      show Go p e below _ m T153 323 #[jv q0, .second, jv m1, .second, jv m7, .second, jv m9, .second, iv p4, iv (4 : Int32), rv b133, rv b139, iv m145] [(.int (1 : Int32)), (.int wz138)]
      refine go (fun t kt => XS.icmpYes X153.here hx rfl (pc0 := 323) (pc' := 346) rfl (hb hby at_323) rfl (flt (own_nl hc155 (by decide))).2.2.2 (by decide) (by decide) kt) ?_
      show Go p e below _ m T153 346 #[jv q0, .second, jv m1, .second, jv m7, .second, jv m9, .second, iv p4, iv (4 : Int32), rv b133, rv b139, iv m145] []
      refine go (fun t kt => XS.aload X153.here hx rfl (hb hby at_346) rfl rfl kt) ?_
      show Go p e below _ m T153 348 #[jv q0, .second, jv m1, .second, jv m7, .second, jv m9, .second, iv p4, iv (4 : Int32), rv b133, rv b139, iv m145] [(.ref b139)]
      obtain ⟨cl178, Ar178, qc178, S178, M178, H178, G178⟩ := id V_b139
      refine go (X153.arraylength hx (by rw [e153]; exact Ar178.1) (State.isArrayOf_alike hZ.alike Ar178.2.1) (g := (mkF m 348 #[jv q0, .second, jv m1, .second, jv m7, .second, jv m9, .second, iv p4, iv (4 : Int32), rv b133, rv b139, iv m145] [(.ref b139)])) rfl rfl (hb hby at_348)) ?_
      rw [len_of S178 M178]
      show Go p e below _ m T153 349 #[jv q0, .second, jv m1, .second, jv m7, .second, jv m9, .second, iv p4, iv (4 : Int32), rv b133, rv b139, iv m145] [(.int wz138)]
      refine go (fun t kt => XS.iconst X153.here hx rfl (hb hby at_349) kt) ?_
      show Go p e below _ m T153 350 #[jv q0, .second, jv m1, .second, jv m7, .second, jv m9, .second, iv p4, iv (4 : Int32), rv b133, rv b139, iv m145] [(.int (2 : Int32)), (.int wz138)]
      refine go (fun t kt => XS.icmpYes X153.here hx rfl (pc0 := 350) (pc' := 373) rfl (hb hby at_350) rfl (flt (own_nl hc155 (by decide))).2.2.2 (by decide) (by decide) kt) ?_
      show Go p e below _ m T153 373 #[jv q0, .second, jv m1, .second, jv m7, .second, jv m9, .second, iv p4, iv (4 : Int32), rv b133, rv b139, iv m145] []
      refine go (fun t kt => XS.aload X153.here hx rfl (hb hby at_373) rfl rfl kt) ?_
      show Go p e below _ m T153 375 #[jv q0, .second, jv m1, .second, jv m7, .second, jv m9, .second, iv p4, iv (4 : Int32), rv b133, rv b139, iv m145] [(.ref b139)]
      obtain ⟨cl179, Ar179, qc179, S179, M179, H179, G179⟩ := id V_b139
      refine go (X153.arraylength hx (by rw [e153]; exact Ar179.1) (State.isArrayOf_alike hZ.alike Ar179.2.1) (g := (mkF m 375 #[jv q0, .second, jv m1, .second, jv m7, .second, jv m9, .second, iv p4, iv (4 : Int32), rv b133, rv b139, iv m145] [(.ref b139)])) rfl rfl (hb hby at_375)) ?_
      rw [len_of S179 M179]
      show Go p e below _ m T153 376 #[jv q0, .second, jv m1, .second, jv m7, .second, jv m9, .second, iv p4, iv (4 : Int32), rv b133, rv b139, iv m145] [(.int wz138)]
      refine go (fun t kt => XS.iconst X153.here hx rfl (hb hby at_376) kt) ?_
      show Go p e below _ m T153 377 #[jv q0, .second, jv m1, .second, jv m7, .second, jv m9, .second, iv p4, iv (4 : Int32), rv b133, rv b139, iv m145] [(.int (3 : Int32)), (.int wz138)]
      refine go (fun t kt => XS.icmpYes X153.here hx rfl (pc0 := 377) (pc' := 400) rfl (hb hby at_377) rfl (flt (own_nl hc155 (by decide))).2.2.2 (by decide) (by decide) kt) ?_
      show Go p e below _ m T153 400 #[jv q0, .second, jv m1, .second, jv m7, .second, jv m9, .second, iv p4, iv (4 : Int32), rv b133, rv b139, iv m145] []
      refine go (fun t kt => XS.iconst X153.here hx rfl (hb hby at_400) kt) ?_
      show Go p e below _ m T153 401 #[jv q0, .second, jv m1, .second, jv m7, .second, jv m9, .second, iv p4, iv (4 : Int32), rv b133, rv b139, iv m145] [(.int (1 : Int32))]
      obtain ⟨fs, hr, hrun, hended, hW, hsame⟩ := X153.leave (v := some (.int (1 : Int32))) (fun h => by rw [Bd.returns] at h; cases h)
      refine ⟨_, _, retN X153 hx (t := .boolean) Bd.returns (by simp) (hb hby at_401) hr, hrun, hended, _, _, rfl, ?_, ⟨_, rfl⟩, hW, hsame.mono (by decide) (by decide)⟩
      show Q0 Z q0 q1 q2 q3 p4 h0 n0 _ T153.heap _
      rw [e153]
      exact ⟨rfl, N153⟩
set_option maxRecDepth 65536 in
set_option maxHeartbeats 40000000 in
theorem comes_1 {Post : Tables → Env → Array Value → State → Outcome → State → Prop} (hpost : ∀ tb e args s v u, (limb_1_1.after args s (.returned v) u = true ∧ limb_1_2.after args s (.returned v) u = true ∧ True) → FrameEnd s (.returned v) u (Jvm.fieldLocs frame_1_writes args s ++ Jvm.arrayLocs frame_1_arrays args s ++ Jvm.staticLocs frame_1_statics s) 24 192 → Post tb e args s (.returned v) u) :
    ArmFor flags0 classFile x code maxLocals ret World_1 tables_1 room_1 Calls_1 rest_1 Pre_1 Post := by
  intro l hfl _ _ p e ha hc hk s m args below hf hA hF happ hP
  obtain ⟨hcalls, hrest, hpre⟩ := hP
  obtain ⟨-, -, -, hnamed, -, -, -, hat⟩ := (Spec.applies_iff hf).mp happ
  obtain ⟨hg, hn⟩ := and_e (Cond.before_iff.mp (show (Jvm.Cond.and given_1 narrow_1).before args s = true from hpre))
  obtain ⟨u1, u2⟩ := and_e hg
  obtain ⟨u3, u4⟩ := and_e u2
  obtain ⟨u5, u6⟩ := and_e u4
  obtain ⟨u7, u8⟩ := and_e u6
  obtain ⟨u9, u10⟩ := and_e u8
  obtain ⟨w0, w1, w2, w3, w4, rfl⟩ : ∃ w0 w1 w2 w3 w4 : Value, args = #[w0, w1, w2, w3, w4] := by
    have hs : args.size = 5 := by simpa [Cond.value, given_1] using u1
    obtain ⟨L⟩ := args
    match L, hs with
    | [w0, w1, w2, w3, w4], _ => exact ⟨w0, w1, w2, w3, w4, rfl⟩
  have hw := fun d (hd : d ∈ tables_1) => atoms_spec (ws := Jvm.Cond.code x code maxLocals ret :: tables_1) hat d (List.mem_cons_of_mem _ hd)
  obtain ⟨i0, ei0⟩ := isL_v u3
  obtain rfl : w0 = (.long i0) := Option.some.inj ei0
  obtain ⟨i1, ei1⟩ := isL_v u5
  obtain rfl : w1 = (.long i1) := Option.some.inj ei1
  obtain ⟨i2, ei2⟩ := isL_v u7
  obtain rfl : w2 = (.long i2) := Option.some.inj ei2
  obtain ⟨i3, ei3⟩ := isL_v u9
  obtain rfl : w3 = (.long i3) := Option.some.inj ei3
  obtain ⟨i4, ei4⟩ := is_v u10
  obtain rfl : w4 = (.int i4) := Option.some.inj ei4
  obtain ⟨n, o, h1, h2, h3, _, L, rfl, ⟨rfl, N⟩, hq⟩ := rm0 l s _ hw tables_1 i0 i1 i2 i3 i4  s.heap s.heap.size (Nat.le_refl _)  p e ha hc hk s m _ below hf ((Spec.applies_iff_loose hf).mp happ).1 ⟨rfl, State.Warmed39.refl s, rfl⟩ trivial
  refine ⟨n, _, h1, h2, h3, hpost _ _ _ _ _ _ ⟨Cond.after_iff.mpr rfl, Cond.after_iff.mpr (eq_i res_at (Term.int_eval (1)) rfl), trivial⟩ ⟨hq.1, hq.2.1, (hq.2.2.sift fun y hy => Or.inr (N y hy)).mono (by decide) (by decide)⟩⟩
theorem main_1_1 : Claimed_1_1 := comes_1 fun _ _ _ _ _ _ h hF => ⟨h.1, hF⟩
theorem main_1_2 : Claimed_1_2 := comes_1 fun _ _ _ _ _ _ h hF => ⟨h.2.1, hF⟩
end Jvm.Pilot.@@N@@
namespace Jvm.Pilot.@@N@@
open Jvm Jvm.ClassFile Sem Op Lib Jvm.Free Jvm.Stand Jvm.Pilot.@@N@@.Jvm.D
/-! MADE BY PROGRAM (witnessworld.py) out of the Statement's table words and the real class files: 13 classes; the members and pool entries that the words name. The judged class is class 1, her method 3. -/
namespace start1
open Jvm.ClassFile
def u (s : String) : CpInfo := .utf8 (stringToUtf16 s)
/-- a pool by its gaps: so many unusable entries, then the entry; so many at the end -/
def gap : Nat → List CpInfo → List CpInfo
  | 0, r => r
  | n + 1, r => .unusable :: gap n r
def poolList (es : List (Nat × CpInfo)) (last : Nat) : List CpInfo := es.foldr (fun e r => gap e.1 (e.2 :: r)) (gap last [])
def pool (es : List (Nat × CpInfo)) (last : Nat) : Array CpInfo := ⟨poolList es last⟩
def fileOf (pool : Array CpInfo) (this : Nat) (attrs : Array Attribute := #[]) (ms : Array MethodInfo := #[]) (fl : Nat := 33) (sup : Nat := 0) (ifs : Array Nat := #[]) (fds : Array FieldInfo := #[]) : ClassFile where
  minorVersion := 0
  majorVersion := 65
  constantPool := pool
  accessFlags := fl
  thisClass := this
  superClass := sup
  interfaces := ifs
  fields := fds
  methods := ms
  attributes := attrs
def plain (name : String) (sup : Option ClassId) : Class where
  name := name
  kind := .ordinary
  loader := none
  accessFlags := 33
  super := sup
  interfaces := #[]
  cf := none
  fields := #[]
  methods := #[]
  instanceTypes := #[]
  staticTypes := #[]
  resolved := #[]
  callSites := []
  init := .initialized
  statics := none
  mirror := none

def pool0 : Array CpInfo := pool [(5, u "<init>"), (0, u "()V"), (1, .class_ 10), (1, u "java/lang/Object")] 113

def k0c0 : Code := { maxStack := 0, maxLocals := 1, code := object_method_1_code, exceptionTable := #[], attributes := #[] }
def k0m0 : Method := { name := "<init>", desc := "()V", sig := { parameters := [], returnType := none }, accessFlags := 1, code := some k0c0 }
/-- java/lang/Object -/
def k0 : Class := { plain "java/lang/Object" none with
  accessFlags := 33
  interfaces := #[]
  cf := some (fileOf pool0 8 #[] #[{ accessFlags := 1, nameIndex := 5, descriptorIndex := 6, attributes := #[] }] 33 0 #[] #[])
  fields := #[]
  methods := #[k0m0]
  instanceTypes := #[]
  staticTypes := #[]
  resolved := Array.replicate 124 none
  statics := none }

def pool1 : Array CpInfo := pool [(2, .class_ 4), (0, .nameAndType 5 6), (0, u "java/lang/Object"), (0, u "<init>"), (0, u "()V"), (0, .class_ 8), (0, u "com/example/modest_tree_automata/modesttreeautomata/LongIntMap"), (0, .methodref 7 3), (0, .methodref 7 11), (0, .nameAndType 12 13), (0, u "put"), (0, u "(JI)V"), (0, .methodref 7 15), (0, .nameAndType 16 17), (0, u "keys"), (0, u "()[J"), (0, .methodref 19 20), (0, .class_ 21), (0, .nameAndType 22 23), (0, u "com/example/modest_tree_automata/modesttreeautomata/LongIntMapKeysPinLaw"), (0, u "has"), (0, u "([JJ)Z"), (0, .methodref 19 25), (0, .nameAndType 26 27), (0, u "isInput"), (0, u "(JIJJJJ)Z"), (3, u "law"), (0, u "(JJJJI)Z")] 4

def k1m0 : Method := { name := "<init>", desc := "()V", sig := { parameters := [], returnType := none }, accessFlags := 1, code := none }
def k1c1 : Code := { maxStack := 4, maxLocals := 3, code := method_2_code, exceptionTable := #[], attributes := #[] }
def k1m1 : Method := { name := "has", desc := "([JJ)Z", sig := { parameters := [(.array .long), .long], returnType := some .boolean }, accessFlags := 10, code := some k1c1 }
def k1c2 : Code := { maxStack := 4, maxLocals := 11, code := method_3_code, exceptionTable := #[], attributes := #[] }
def k1m2 : Method := { name := "isInput", desc := "(JIJJJJ)Z", sig := { parameters := [.long, .int, .long, .long, .long, .long], returnType := some .boolean }, accessFlags := 10, code := some k1c2 }
def k1c3 : Code := { maxStack := 11, maxLocals := 13, code := code, exceptionTable := #[], attributes := #[] }
def k1m3 : Method := { name := "law", desc := "(JJJJI)Z", sig := { parameters := [.long, .long, .long, .long, .int], returnType := some .boolean }, accessFlags := 9, code := some k1c3 }
/-- com/example/modest_tree_automata/modesttreeautomata/LongIntMapKeysPinLaw -/
def k1 : Class := { plain "com/example/modest_tree_automata/modesttreeautomata/LongIntMapKeysPinLaw" (some 0) with
  accessFlags := 49
  interfaces := #[]
  cf := some (fileOf pool1 19 #[] #[{ accessFlags := 1, nameIndex := 5, descriptorIndex := 6, attributes := #[] }, { accessFlags := 10, nameIndex := 22, descriptorIndex := 23, attributes := #[] }, { accessFlags := 10, nameIndex := 26, descriptorIndex := 27, attributes := #[] }, { accessFlags := 9, nameIndex := 31, descriptorIndex := 32, attributes := #[] }] 49 2 #[] #[])
  fields := #[]
  methods := #[k1m0, k1m1, k1m2, k1m3]
  instanceTypes := #[]
  staticTypes := #[]
  resolved := Array.replicate 37 none
  statics := none }

def pool2 : Array CpInfo := pool [(1, .methodref 2 3), (0, .class_ 4), (0, .nameAndType 5 6), (0, u "java/lang/Object"), (0, u "<init>"), (0, u "()V"), (0, .fieldref 8 9), (0, .class_ 10), (0, .nameAndType 11 12), (0, u "com/example/modest_tree_automata/modesttreeautomata/LongIntMap"), (0, u "keys"), (0, u "[J"), (0, .fieldref 8 14), (0, .nameAndType 15 16), (0, u "values"), (0, u "[I"), (0, .fieldref 8 18), (0, .nameAndType 19 20), (0, u "used"), (0, u "[Z"), (2, .fieldref 8 24), (0, .nameAndType 25 26), (0, u "size"), (0, u "I"), (0, .methodref 8 28), (0, .nameAndType 29 30), (0, u "slot"), (0, u "(JI)I"), (5, u "put"), (0, u "(JI)V"), (0, .long 11400714819323198485), (6, u "()[J")] 7

def k2c0 : Code := { maxStack := 2, maxLocals := 1, code := prog_35_method_1_code, exceptionTable := #[], attributes := #[] }
def k2m0 : Method := { name := "<init>", desc := "()V", sig := { parameters := [], returnType := none }, accessFlags := 0, code := some k2c0 }
def k2c1 : Code := { maxStack := 4, maxLocals := 4, code := prog_35_method_4_code, exceptionTable := #[], attributes := #[] }
def k2m1 : Method := { name := "keys", desc := "()[J", sig := { parameters := [], returnType := some (.array .long) }, accessFlags := 0, code := some k2c1 }
def k2c2 : Code := { maxStack := 4, maxLocals := 6, code := prog_35_method_6_code, exceptionTable := #[], attributes := #[] }
def k2m2 : Method := { name := "put", desc := "(JI)V", sig := { parameters := [.long, .int], returnType := none }, accessFlags := 0, code := some k2c2 }
def k2c3 : Code := { maxStack := 5, maxLocals := 5, code := prog_35_method_8_code, exceptionTable := #[], attributes := #[] }
def k2m3 : Method := { name := "slot", desc := "(JI)I", sig := { parameters := [.long, .int], returnType := some .int }, accessFlags := 10, code := some k2c3 }
/-- com/example/modest_tree_automata/modesttreeautomata/LongIntMap -/
def k2 : Class := { plain "com/example/modest_tree_automata/modesttreeautomata/LongIntMap" (some 0) with
  accessFlags := 32
  interfaces := #[]
  cf := some (fileOf pool2 8 #[] #[{ accessFlags := 0, nameIndex := 5, descriptorIndex := 6, attributes := #[] }, { accessFlags := 0, nameIndex := 11, descriptorIndex := 45, attributes := #[] }, { accessFlags := 0, nameIndex := 36, descriptorIndex := 37, attributes := #[] }, { accessFlags := 10, nameIndex := 29, descriptorIndex := 30, attributes := #[] }] 32 2 #[] #[{ accessFlags := 2, nameIndex := 11, descriptorIndex := 12, attributes := #[] }, { accessFlags := 2, nameIndex := 15, descriptorIndex := 16, attributes := #[] }, { accessFlags := 2, nameIndex := 19, descriptorIndex := 20, attributes := #[] }, { accessFlags := 2, nameIndex := 25, descriptorIndex := 26, attributes := #[] }])
  fields := #[{ name := "keys", type := (.array .long), accessFlags := 2, slot := 0, constantValue := 0 }, { name := "values", type := (.array .int), accessFlags := 2, slot := 1, constantValue := 0 }, { name := "used", type := (.array .boolean), accessFlags := 2, slot := 2, constantValue := 0 }, { name := "size", type := .int, accessFlags := 2, slot := 3, constantValue := 0 }]
  methods := #[k2m0, k2m1, k2m2, k2m3]
  instanceTypes := #[(.array .long), (.array .int), (.array .boolean), .int]
  staticTypes := #[]
  resolved := Array.replicate 53 none
  statics := none }

def pool3 : Array CpInfo := pool [(1, u "java/lang/Cloneable"), (0, .class_ 1), (0, u "java/lang/Object"), (0, .class_ 3)] 3

/-- java/lang/Cloneable -/
def k3 : Class := { plain "java/lang/Cloneable" (some 0) with
  accessFlags := 1537
  interfaces := #[]
  cf := some (fileOf pool3 2 #[] #[] 1537 4 #[] #[])
  fields := #[]
  methods := #[]
  instanceTypes := #[]
  staticTypes := #[]
  resolved := Array.replicate 8 none
  statics := none }

def pool4 : Array CpInfo := pool [(1, u "java/io/Serializable"), (0, .class_ 1), (0, u "java/lang/Object"), (0, .class_ 3)] 3

/-- java/io/Serializable -/
def k4 : Class := { plain "java/io/Serializable" (some 0) with
  accessFlags := 1537
  interfaces := #[]
  cf := some (fileOf pool4 2 #[] #[] 1537 4 #[] #[])
  fields := #[]
  methods := #[]
  instanceTypes := #[]
  staticTypes := #[]
  resolved := Array.replicate 8 none
  statics := none }

/-- the primitive boolean -/
def k5 : Class := { plain "boolean" none with kind := .primitive 'Z', accessFlags := 0x411 }
/-- [Z -/
def k6 : Class := { plain "[Z" (some 0) with kind := .array 5 .boolean, interfaces := #[3, 4], accessFlags := 1041 }

/-- the primitive byte -/
def k7 : Class := { plain "byte" none with kind := .primitive 'B', accessFlags := 0x411 }
/-- [B -/
def k8 : Class := { plain "[B" (some 0) with kind := .array 7 .byte, interfaces := #[3, 4], accessFlags := 1041 }

/-- the primitive int -/
def k9 : Class := { plain "int" none with kind := .primitive 'I', accessFlags := 0x411 }
/-- [I -/
def k10 : Class := { plain "[I" (some 0) with kind := .array 9 .int, interfaces := #[3, 4], accessFlags := 1041 }

/-- the primitive long -/
def k11 : Class := { plain "long" none with kind := .primitive 'J', accessFlags := 0x411 }
/-- [J -/
def k12 : Class := { plain "[J" (some 0) with kind := .array 11 .long, interfaces := #[3, 4], accessFlags := 1041 }

def heap : Heap := #[]
def classes : Array Class := #[k0, k1, k2, k3, k4, k5, k6, k7, k8, k9, k10, k11, k12]
def interned : List (Array UInt16 × Addr) := []
def slotsUsed : Nat := 0
def theMethod : MethodId := ⟨1, 3⟩
def args0 : Array Value := #[.long 5, .long 7, .long 6, .long 1, .int 2]
def aboutOver (below : List Frame) : State where
  vm := { classes := classes, interned := interned.toArray }
  heap := heap
  slotsUsed := slotsUsed
  threads := #[{ frames := .invoking theMethod args0 :: below }]
def below0 : List Frame := [.native { method := ⟨0, 0⟩, args := #[] }]
def about1 : State := aboutOver below0
def p0 : Program := .bare "" "" ""
def e0 : Env := launch0.env 0 0 0
theorem w_frames : about1.frames = Frame.invoking theMethod args0 :: below0 := rfl
set_option maxRecDepth 65536 in
theorem w_args : argsFit about1.vm theMethod args0 = true := by decide +kernel
set_option maxRecDepth 65536 in
theorem w_heap : heapFits about1 = true := by decide +kernel
set_option maxRecDepth 65536 in
theorem w_runnable : about1.curStatus? = some .runnable := by decide +kernel
set_option maxRecDepth 65536 in
theorem w_alone : about1.alone = true := by decide +kernel
set_option maxRecDepth 65536 in
theorem w_named : about1.methodNamed? x = some theMethod := by decide +kernel
set_option maxRecDepth 65536 in
theorem w_hears : about1.hears theMethod below0 = true := by decide +kernel
set_option maxRecDepth 65536 in
theorem w_ripe : about1.ripe theMethod args0 below0 = true := by decide +kernel
theorem w_running : about1.status = .running := rfl
set_option maxRecDepth 65536 in
theorem w_room : about1.hasRoom e0.platform room_1 = true :=
  launch0.hasRoom_least _ room_1 (by decide +kernel) (by decide +kernel) (by decide +kernel) (by decide +kernel) (by decide +kernel) (by decide +kernel)
theorem allAtoms_all (ts : List Jvm.Cond) (a : Array Jvm.Value) (st : Jvm.State) : (allAtoms ts).before a st = ts.all (fun c => c.before a st) := by
  induction ts with
  | nil => rfl
  | cons c t ih =>
    show (Jvm.Cond.and c (allAtoms t)).before a st = _
    rw [Jvm.Cond.before_and, ih, List.all_cons]
def words1 : List Jvm.Cond := Jvm.Cond.code x code maxLocals ret :: tables_1
/-- a 'code' word, met by the world's own term for the bytes: nothing is compared byte by byte -/
theorem code_word {y : MethodName} {bytes : ByteArray} {mx : Nat} {rt : Option FieldType} {a : Array Value} {s : State} {m : MethodId} {meth : Method} {c : Code} (h1 : s.methodNamed? y = some m) (h2 : s.vm.method? m = some meth) (h3 : meth.code = some c) (h4 : c.code = bytes)
    (h5 : (c.maxLocals == mx && c.exceptionTable.isEmpty && decide (c.maxStack ≤ mostOperands) && decide (meth.sig.returnType = rt) && !meth.locks && decide (parseMethodDescriptor y.desc = some meth.sig)) = true) : (Jvm.Cond.code y bytes mx rt).before a s = true := by
  simp only [Bool.and_eq_true, beq_iff_eq, Bool.not_eq_true', decide_eq_true_eq] at h5
  obtain ⟨⟨⟨⟨⟨g1, g2⟩, g3⟩, g4⟩, g5⟩, g6⟩ := h5
  simp [Cond.before, Cond.holds, Cond.value, h1, h2, h3, h4, g1, g2, g3, g4, g5, g6]
def isCode : Jvm.Cond → Bool
  | .code _ _ _ _ => true
  | _ => false
theorem all_split {L : List Jvm.Cond} {P : Jvm.Cond → Bool} (h1 : L.all (fun c => isCode c || P c) = true) (h2 : ∀ c ∈ L.filter isCode, P c = true) : L.all P = true := by
  refine List.all_eq_true.mpr fun c hc => ?_
  have h := List.all_eq_true.mp h1 c hc
  rcases Bool.eq_false_or_eq_true (isCode c) with hi | hi
  · exact h2 c (List.mem_filter.mpr ⟨hc, hi⟩)
  · simpa [hi] using h
set_option maxRecDepth 65536 in
theorem w_c0 : (Jvm.Cond.code x code maxLocals ret).before args0 about1 = true := code_word (m := ⟨1, 3⟩) (meth := k1m3) (c := k1c3) (by decide +kernel) rfl rfl rfl (by decide +kernel)
set_option maxRecDepth 65536 in
theorem w_c1 : (Jvm.Cond.code ({ cls := "com/example/modest_tree_automata/modesttreeautomata/LongIntMap", name := "<init>", desc := "()V" } : Jvm.MethodName) prog_35_method_1_code (1 : Nat) (Option.none : Option Jvm.ClassFile.FieldType)).before args0 about1 = true := code_word (m := ⟨2, 0⟩) (meth := k2m0) (c := k2c0) (by decide +kernel) rfl rfl rfl (by decide +kernel)
set_option maxRecDepth 65536 in
theorem w_c2 : (Jvm.Cond.code ({ cls := "java/lang/Object", name := "<init>", desc := "()V" } : Jvm.MethodName) object_method_1_code (1 : Nat) (Option.none : Option Jvm.ClassFile.FieldType)).before args0 about1 = true := code_word (m := ⟨0, 0⟩) (meth := k0m0) (c := k0c0) (by decide +kernel) rfl rfl rfl (by decide +kernel)
set_option maxRecDepth 65536 in
theorem w_c3 : (Jvm.Cond.code ({ cls := "com/example/modest_tree_automata/modesttreeautomata/LongIntMap", name := "put", desc := "(JI)V" } : Jvm.MethodName) prog_35_method_6_code (6 : Nat) (Option.none : Option Jvm.ClassFile.FieldType)).before args0 about1 = true := code_word (m := ⟨2, 2⟩) (meth := k2m2) (c := k2c2) (by decide +kernel) rfl rfl rfl (by decide +kernel)
set_option maxRecDepth 65536 in
theorem w_c4 : (Jvm.Cond.code ({ cls := "com/example/modest_tree_automata/modesttreeautomata/LongIntMap", name := "slot", desc := "(JI)I" } : Jvm.MethodName) prog_35_method_8_code (5 : Nat) (Option.some Jvm.ClassFile.FieldType.int)).before args0 about1 = true := code_word (m := ⟨2, 3⟩) (meth := k2m3) (c := k2c3) (by decide +kernel) rfl rfl rfl (by decide +kernel)
set_option maxRecDepth 65536 in
theorem w_c5 : (Jvm.Cond.code ({ cls := "com/example/modest_tree_automata/modesttreeautomata/LongIntMap", name := "keys", desc := "()[J" } : Jvm.MethodName) prog_35_method_4_code (4 : Nat) (Option.some (Jvm.ClassFile.FieldType.array Jvm.ClassFile.FieldType.long))).before args0 about1 = true := code_word (m := ⟨2, 1⟩) (meth := k2m1) (c := k2c1) (by decide +kernel) rfl rfl rfl (by decide +kernel)
set_option maxRecDepth 65536 in
theorem w_c6 : (Jvm.Cond.code ({ cls := "com/example/modest_tree_automata/modesttreeautomata/LongIntMapKeysPinLaw", name := "has", desc := "([JJ)Z" } : Jvm.MethodName) method_2_code (3 : Nat) (Option.some Jvm.ClassFile.FieldType.boolean)).before args0 about1 = true := code_word (m := ⟨1, 1⟩) (meth := k1m1) (c := k1c1) (by decide +kernel) rfl rfl rfl (by decide +kernel)
set_option maxRecDepth 65536 in
theorem w_c7 : (Jvm.Cond.code ({ cls := "com/example/modest_tree_automata/modesttreeautomata/LongIntMapKeysPinLaw", name := "isInput", desc := "(JIJJJJ)Z" } : Jvm.MethodName) method_3_code (11 : Nat) (Option.some Jvm.ClassFile.FieldType.boolean)).before args0 about1 = true := code_word (m := ⟨1, 2⟩) (meth := k1m2) (c := k1c2) (by decide +kernel) rfl rfl rfl (by decide +kernel)
def codes1 : List Jvm.Cond := [Jvm.Cond.code x code maxLocals ret, Jvm.Cond.code ({ cls := "com/example/modest_tree_automata/modesttreeautomata/LongIntMap", name := "<init>", desc := "()V" } : Jvm.MethodName) prog_35_method_1_code (1 : Nat) (Option.none : Option Jvm.ClassFile.FieldType), Jvm.Cond.code ({ cls := "java/lang/Object", name := "<init>", desc := "()V" } : Jvm.MethodName) object_method_1_code (1 : Nat) (Option.none : Option Jvm.ClassFile.FieldType), Jvm.Cond.code ({ cls := "com/example/modest_tree_automata/modesttreeautomata/LongIntMap", name := "put", desc := "(JI)V" } : Jvm.MethodName) prog_35_method_6_code (6 : Nat) (Option.none : Option Jvm.ClassFile.FieldType), Jvm.Cond.code ({ cls := "com/example/modest_tree_automata/modesttreeautomata/LongIntMap", name := "slot", desc := "(JI)I" } : Jvm.MethodName) prog_35_method_8_code (5 : Nat) (Option.some Jvm.ClassFile.FieldType.int), Jvm.Cond.code ({ cls := "com/example/modest_tree_automata/modesttreeautomata/LongIntMap", name := "keys", desc := "()[J" } : Jvm.MethodName) prog_35_method_4_code (4 : Nat) (Option.some (Jvm.ClassFile.FieldType.array Jvm.ClassFile.FieldType.long)), Jvm.Cond.code ({ cls := "com/example/modest_tree_automata/modesttreeautomata/LongIntMapKeysPinLaw", name := "has", desc := "([JJ)Z" } : Jvm.MethodName) method_2_code (3 : Nat) (Option.some Jvm.ClassFile.FieldType.boolean), Jvm.Cond.code ({ cls := "com/example/modest_tree_automata/modesttreeautomata/LongIntMapKeysPinLaw", name := "isInput", desc := "(JIJJJJ)Z" } : Jvm.MethodName) method_3_code (11 : Nat) (Option.some Jvm.ClassFile.FieldType.boolean)]
set_option maxRecDepth 65536 in
theorem codes_eq : words1.filter isCode = codes1 := rfl
theorem w_codes : ∀ c ∈ words1.filter isCode, c.before args0 about1 = true := by
  rw [codes_eq]
  intro c hc
  simp only [codes1, List.mem_cons, List.not_mem_nil, or_false] at hc
  rcases hc with rfl | rfl | rfl | rfl | rfl | rfl | rfl | rfl
  · exact w_c0
  · exact w_c1
  · exact w_c2
  · exact w_c3
  · exact w_c4
  · exact w_c5
  · exact w_c6
  · exact w_c7
set_option maxRecDepth 65536 in
theorem w_t1 : (words1.take 24).all (fun c => isCode c || c.before args0 about1) = true := by decide +kernel
set_option maxRecDepth 65536 in
theorem w_t2 : (words1.drop 24).all (fun c => isCode c || c.before args0 about1) = true := by decide +kernel
theorem w_tables : (allAtoms (Jvm.Cond.code x code maxLocals ret :: tables_1)).before args0 about1 = true := by
  rw [allAtoms_all]
  show words1.all (fun c => c.before args0 about1) = true
  refine all_split ?_ w_codes
  rw [← List.take_append_drop 24 words1, List.all_append, w_t1, w_t2]
  rfl
set_option maxRecDepth 65536 in
theorem w_case : (Jvm.Cond.and given_1 narrow_1).before args0 about1 = true := by decide +kernel
theorem w_applies : (headSpec (Jvm.Cond.code x code maxLocals ret :: tables_1) room_1).applies x e0.platform about1 = true :=
  (Spec.applies_iff w_frames).mpr ⟨w_running, w_runnable, w_alone, w_named, w_hears, w_ripe, w_room, w_tables⟩
theorem atStart : AtStart classFile x code maxLocals ret World_1 tables_1 room_1 Calls_1 rest_1 Pre_1 launch0 p0 e0 about1 theMethod args0 below0 :=
  ⟨lists_1, trivial, launch0.admits_env _ _ _, launch0.least_env, fairChoices_fair.cas, fairChoices_fair.clock, w_frames, w_args, w_heap, w_applies, trivial, trivial, w_case⟩
end start1
theorem witness_1 : WitnessClaimed_1 := ⟨start1.p0, start1.e0, start1.about1, start1.theMethod, start1.args0, start1.below0, start1.atStart⟩
end Jvm.Pilot.@@N@@
