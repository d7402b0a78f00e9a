import JvmDerived
import JvmDerived.Pilot.@@N@@Statement
import JvmDerived.Pilot.@@N@@Code
set_option linter.unusedVariables false
set_option linter.unusedSimpArgs false
namespace Jvm.Pilot.@@N@@
open Jvm Jvm.ClassFile Sem Op Lib Jvm.Free Jvm.Stand Jvm.LawKit Jvm.RoadKit Bundle Jvm.Pilot.@@N@@.Jvm.D
section Own
/-- from the state U the body comes to its end, and P holds there of what it returns, of the heap and of the places that were written -/
def own_G (tb : Tables) (e : Env) (below : List Frame) (s : State) (P : Option Value → Heap → List Loc → Prop) (k n : Nat) (U : State) : Prop :=
  ∃ s₂ o, Steps tb e below U s₂ ∧ s₂.status = .running ∧ Ended s₂ below o ∧ ∃ v L, o = .returned v ∧ P v s₂.heap L ∧ FrameEnd s o s₂ L k n
theorem own_up {tb : Tables} {e : Env} {below : List Frame} {s : State} {P : Option Value → Heap → List Loc → Prop} {k n : Nat} {U U' : State} (h : own_G tb e below s P k n U') (q : ∀ t, Steps tb e below U' t → Steps tb e below U t) : own_G tb e below s P k n U := by
  obtain ⟨s₂, o, h1, r⟩ := h
  exact ⟨s₂, o, q _ h1, r⟩
variable {p : Program} {l : Launch} {e : Env} {R : Room} {s : State} {m : MethodId} {args : Array Value} {below : List Frame} {meth : Method} {c : Code} {T : State} {locs : List Loc} {cells slots : Nat} {P : Option Value → Heap → List Loc → Prop} {k n : Nat}
theorem own_retI (X : Stand p l e R s m args below meth c T locs cells slots) (hx : p.tables.exec = Jvm.exec) (hlk : meth.locks = false) {t : FieldType} (hret : meth.sig.returnType = some t) (hti : t = .int ∨ t = .boolean ∨ t = .byte ∨ t = .char ∨ t = .short) {pc : Nat} {Ls : Array Slot} {w : Int32} (hn : narrow t (.int w) = .int w) (hd : decode c.code pc = .ok (.ireturn, 1)) (hP : P (some (.int w)) T.heap locs) (hk : cells ≤ k) (hs : slots ≤ n) : own_G p.tables e below s P k n (T.setTop (mkF m pc Ls [.int w])) := by
  obtain ⟨fs, hr, hrun, hended, hW, hsame⟩ := X.leave (v := some (.int w)) (fun h => by rw [hret] at h; cases h) hlk
  exact ⟨_, _, X.ireturnOut hx hret hn hti hd hr, hrun, hended, _, _, rfl, hP, ⟨_, rfl⟩, hW, hsame.mono hk hs⟩
theorem own_retJ (X : Stand p l e R s m args below meth c T locs cells slots) (hx : p.tables.exec = Jvm.exec) (hlk : meth.locks = false) (hret : meth.sig.returnType = some .long) {pc : Nat} {Ls : Array Slot} {w : Int64} (hd : decode c.code pc = .ok (.lreturn, 1)) (hP : P (some (.long w)) T.heap locs) (hk : cells ≤ k) (hs : slots ≤ n) : own_G p.tables e below s P k n (T.setTop (mkF m pc Ls [.long w])) := by
  obtain ⟨fs, hr, hrun, hended, hW, hsame⟩ := X.leave (v := some (.long w)) (fun h => by rw [hret] at h; cases h) hlk
  exact ⟨_, _, X.lreturnOut hx hret hd hr, hrun, hended, _, _, rfl, hP, ⟨_, rfl⟩, hW, hsame.mono hk hs⟩
theorem own_retA (X : Stand p l e R s m args below meth c T locs cells slots) (hx : p.tables.exec = Jvm.exec) (hlk : meth.locks = false) {t : FieldType} (hret : meth.sig.returnType = some t) (ht : t.isReference = true) {pc : Nat} {Ls : Array Slot} {w : Value} (hw : w.isRef = true) (hd : decode c.code pc = .ok (.areturn, 1)) (hP : P (some w) T.heap locs) (hk : cells ≤ k) (hs : slots ≤ n) : own_G p.tables e below s P k n (T.setTop (mkF m pc Ls [w])) := by
  obtain ⟨fs, hr, hrun, hended, hW, hsame⟩ := X.leave (v := some w) (fun h => by rw [hret] at h; cases h) hlk
  exact ⟨_, _, X.areturnOut hx hw hret ht hd hr, hrun, hended, _, _, rfl, hP, ⟨_, rfl⟩, hW, hsame.mono hk hs⟩
theorem own_retV (X : Stand p l e R s m args below meth c T locs cells slots) (hx : p.tables.exec = Jvm.exec) (hlk : meth.locks = false) (hret : meth.sig.returnType = none) {pc : Nat} {Ls : Array Slot} (hd : decode c.code pc = .ok (.return_, 1)) (hP : P none T.heap locs) (hk : cells ≤ k) (hs : slots ≤ n) : own_G p.tables e below s P k n (T.setTop (mkF m pc Ls [])) := by
  obtain ⟨fs, hr, hrun, hended, hW, hsame⟩ := X.leave (v := none) (fun _ => rfl) hlk
  exact ⟨_, _, X.returnOut hx hret hd hr, hrun, hended, _, _, rfl, hP, ⟨_, rfl⟩, hW, hsame.mono hk hs⟩
end Own
def own_of (aB aR aS : Addr) (q : Int64) : Addr := if (600 : Int64) < q then (if q < (3600 : Int64) then aR else aS) else aB
def own_rank (aB aR aS : Addr) (c : Addr) : Int32 := if c = aB then 0 else if c = aR then 1 else if c = aS then 2 else 3
def own_cls (q : Int64) : Int32 := if (600 : Int64) < q then (if q < (3600 : Int64) then 1 else 2) else 0
theorem own_rk {aB aR aS : Addr} (h1 : aB ≠ aR) (h2 : aB ≠ aS) (h3 : aR ≠ aS) (q : Int64) : own_rank aB aR aS (own_of aB aR aS q) = own_cls q := by
  unfold own_rank own_of own_cls
  by_cases c1 : (600 : Int64) < q
  · by_cases c2 : q < (3600 : Int64)
    · rw [if_pos c1, if_pos c2, if_pos c1, if_pos c2, if_neg (Ne.symm h1), if_pos rfl]
    · rw [if_pos c1, if_neg c2, if_pos c1, if_neg c2, if_neg (Ne.symm h2), if_neg (Ne.symm h3), if_pos rfl]
  · rw [if_neg c1, if_neg c1, if_pos rfl]
theorem own_le2 {ra : Int32} {q : Int64} (h : ra = own_cls q) : ¬ ((2 : Int32) < ra) := by
  rw [h]; unfold own_cls
  by_cases c1 : (600 : Int64) < q
  · by_cases c2 : q < (3600 : Int64)
    · rw [if_pos c1, if_pos c2]; decide
    · rw [if_pos c1, if_neg c2]; decide
  · rw [if_neg c1]; decide
theorem own_mono {ra rb : Int32} {a b : Int64} (h : ra = own_cls a) (h' : rb = own_cls b) (hab : ¬ b < a) : ¬ (rb < ra) := by
  rw [h, h']; unfold own_cls
  rw [Int64.lt_iff_toInt_lt] at hab
  have k1 : (600 : Int64).toInt = 600 := rfl
  have k2 : (3600 : Int64).toInt = 3600 := rfl
  by_cases c1 : (600 : Int64) < a
  · have c3 : (600 : Int64) < b := by rw [Int64.lt_iff_toInt_lt] at c1 ⊢; omega
    by_cases c2 : a < (3600 : Int64)
    · by_cases c4 : b < (3600 : Int64)
      · rw [if_pos c1, if_pos c2, if_pos c3, if_pos c4]; decide
      · rw [if_pos c1, if_pos c2, if_pos c3, if_neg c4]; decide
    · have c4 : ¬ b < (3600 : Int64) := by rw [Int64.lt_iff_toInt_lt] at c2 ⊢; omega
      rw [if_pos c1, if_neg c2, if_pos c3, if_neg c4]; decide
  · by_cases c3 : (600 : Int64) < b
    · by_cases c4 : b < (3600 : Int64)
      · rw [if_neg c1, if_pos c3, if_pos c4]; decide
      · rw [if_neg c1, if_pos c3, if_neg c4]; decide
    · rw [if_neg c1, if_neg c3]; decide
theorem own_600 (aB aR aS : Addr) : own_of aB aR aS (600 : Int64) = aB := by unfold own_of; rw [if_neg (by decide)]
theorem own_601 (aB aR aS : Addr) : own_of aB aR aS (601 : Int64) = aR := by unfold own_of; rw [if_pos (by decide), if_pos (by decide)]
theorem own_3599 (aB aR aS : Addr) : own_of aB aR aS (3599 : Int64) = aR := by unfold own_of; rw [if_pos (by decide), if_pos (by decide)]
theorem own_3600 (aB aR aS : Addr) : own_of aB aR aS (3600 : Int64) = aS := by unfold own_of; rw [if_pos (by decide), if_neg (by decide)]
theorem own_at {args : Array Value} {s : State} {t : Term} {C n d : String} {k : Int32} {a : Addr} (ht : t.eval args s none [] s = some (.ref a)) (h : (Jvm.Cond.eq (Term.field t C n d) (Term.int k)).value args s none s [] = some true) : s.fieldOf? a C n d = some (.int k) := by
  obtain ⟨x, y, ex, ey, kx, -⟩ := cmp_v (Or.inl h)
  rw [Term.int_eval] at ey
  cases ey
  rw [fld_at ht] at ex
  have hx : ∃ z, x = .int z := by cases x <;> simp_all [Kin, Value.isRef]
  obtain ⟨z, rfl⟩ := hx
  have hz : z = k := gotT (Cond.eq_ints (by rw [fld_at ht]; exact ex) (Term.int_eval k)) h
  rw [ex, hz]
theorem own_ne {s : State} {C n d : String} {k k' : Int32} {a b : Addr} (h1 : s.fieldOf? a C n d = some (.int k)) (h2 : s.fieldOf? b C n d = some (.int k')) (hk : k ≠ k') : a ≠ b := fun q => by
  subst q
  rw [h1] at h2
  cases h2
  exact hk rfl
theorem own_pd0 : parseMethodDescriptor "(J)Lcom/example/touchmove/touchmove/arbiter/Category;" = some ⟨[.long], some (.object "com/example/touchmove/touchmove/arbiter/Category")⟩ := by decide +kernel
theorem own_pd1 : parseMethodDescriptor "(Lcom/example/touchmove/touchmove/arbiter/Category;)I" = some ⟨[(.object "com/example/touchmove/touchmove/arbiter/Category")], some .int⟩ := by decide +kernel
theorem own_d1_0 : decode prog_12_method_4_code 0 = .ok (.lload_n 0, 1) := by decide +kernel
theorem own_d1_1 : decode prog_12_method_4_code 1 = .ok (.ldc2_w 32, 3) := by decide +kernel
theorem own_d1_4 : decode prog_12_method_4_code 4 = .ok (.lcmp, 1) := by decide +kernel
theorem own_d1_5 : decode prog_12_method_4_code 5 = .ok (.ifCond .gt 10, 3) := by decide +kernel
theorem own_d1_8 : decode prog_12_method_4_code 8 = .ok (.getstatic 3, 3) := by decide +kernel
theorem own_d1_11 : decode prog_12_method_4_code 11 = .ok (.astore_n 2, 1) := by decide +kernel
theorem own_d1_12 : decode prog_12_method_4_code 12 = .ok (.goto 22, 3) := by decide +kernel
theorem own_d1_15 : decode prog_12_method_4_code 15 = .ok (.lload_n 0, 1) := by decide +kernel
theorem own_d1_16 : decode prog_12_method_4_code 16 = .ok (.ldc2_w 34, 3) := by decide +kernel
theorem own_d1_19 : decode prog_12_method_4_code 19 = .ok (.lcmp, 1) := by decide +kernel
theorem own_d1_20 : decode prog_12_method_4_code 20 = .ok (.ifCond .ge 10, 3) := by decide +kernel
theorem own_d1_23 : decode prog_12_method_4_code 23 = .ok (.getstatic 7, 3) := by decide +kernel
theorem own_d1_26 : decode prog_12_method_4_code 26 = .ok (.astore_n 2, 1) := by decide +kernel
theorem own_d1_27 : decode prog_12_method_4_code 27 = .ok (.goto 7, 3) := by decide +kernel
theorem own_d1_30 : decode prog_12_method_4_code 30 = .ok (.getstatic 10, 3) := by decide +kernel
theorem own_d1_33 : decode prog_12_method_4_code 33 = .ok (.astore_n 2, 1) := by decide +kernel
theorem own_d1_34 : decode prog_12_method_4_code 34 = .ok (.aload_n 2, 1) := by decide +kernel
theorem own_d1_35 : decode prog_12_method_4_code 35 = .ok (.areturn, 1) := by decide +kernel
theorem own_pn0 : plainName "com/example/touchmove/touchmove/arbiter/Category" = true := by first | (simp [plainName, overriddenIn]; done) | decide +kernel
theorem own_ef_rm1 (m : MethodId) (x0 : Int64) : entryFrame m #[(.long x0)] 3 = mkF m 0 #[.val (.long x0), .second, .unset] [] := by first | (simp [entryFrame, mkF, argsToLocals, Value.category]; done) | rfl
def own_Q_rm1 (Z : State) (q : Int64) (aB : Addr) (aR : Addr) (aS : Addr) (h0 : Heap) (n0 : Nat) (v : Option Value) (h : Heap) (L : List Loc) : Prop := v = some (.ref (own_of aB aR aS q)) ∧ Fr n0 L ∧ h = h0
set_option maxRecDepth 65536 in
set_option maxHeartbeats 40000000 in
theorem rm1 (l : Launch) (Z : State) (a0 : Array Value) (hw : ∀ d ∈ tables_1, d.before a0 Z = true) (ws : List Jvm.Cond) (q : Int64) (aB : Addr) (aR : Addr) (aS : Addr) (h0 : Heap) (n0 : Nat) (Z0 : n0 ≤ h0.size) (S_aB : Sta Z h0 "com/example/touchmove/touchmove/arbiter/Category" "BLITZ" "Lcom/example/touchmove/touchmove/arbiter/Category;" (.ref aB)) (S_aR : Sta Z h0 "com/example/touchmove/touchmove/arbiter/Category" "RAPID" "Lcom/example/touchmove/touchmove/arbiter/Category;" (.ref aR)) (S_aS : Sta Z h0 "com/example/touchmove/touchmove/arbiter/Category" "STANDARD" "Lcom/example/touchmove/touchmove/arbiter/Category;" (.ref aS)) :
    MetFree l (⟨"com/example/touchmove/touchmove/arbiter/Category", "of", "(J)Lcom/example/touchmove/touchmove/arbiter/Category;"⟩ : MethodName) (head1 (Jvm.Cond.code (⟨"com/example/touchmove/touchmove/arbiter/Category", "of", "(J)Lcom/example/touchmove/touchmove/arbiter/Category;"⟩ : MethodName) prog_12_method_4_code 3 (some (.object "com/example/touchmove/touchmove/arbiter/Category")) :: ws) ({ frames := 0, cells := 0, slots := 0, locals := 0 } : Room)) (fun aa UU => aa = #[(.long q)] ∧ Z.Warmed39 UU.vm ∧ UU.heap = h0) (fun _ _ _ _ _ => True) (fun _ UU oo UU' => ∃ vv LL, oo = .returned vv ∧ own_Q_rm1 Z q aB aR aS h0 n0 vv UU'.heap LL ∧ FrameEnd UU oo UU' LL ({ frames := 0, cells := 0, slots := 0, locals := 0 } : Room).cells ({ frames := 0, cells := 0, slots := 0, locals := 0 } : Room).slots) := by
  refine MetFree.of_bodySF (plainFor_of_name own_pn0) hisR ?_
  intro p e s m args below meth c s₁ Bd hml0 hP hK
  obtain ⟨rfl, hZ, hh⟩ := hP
  have hx := Bd.exec
  have hby := Bd.bytes
  have hlk := Bd.notSynchronized
  have hml : c.maxLocals = 3 := hml0
  have hown : s.vm.findClass "com/example/touchmove/touchmove/arbiter/Category" = some m.cls := findClass_of_methodNamed Bd.named
  have hnm := (name_of_methodNamed Bd.named Bd.method).1
  have X0 : Stand p l e ({ frames := 0, cells := 0, slots := 0, locals := 0 } : Room) s m #[(.long q)] below meth c s₁ [] 0 0 := Stand.of_body Bd
  have e0 : s₁.heap = h0 := by rw [← hh, Bd.state]; rfl
  have N0 := Fr.nil n0
  show own_G p.tables e below s (own_Q_rm1 Z q aB aR aS h0 n0) ({ frames := 0, cells := 0, slots := 0, locals := 0 } : Room).cells ({ frames := 0, cells := 0, slots := 0, locals := 0 } : Room).slots (s₁.setTop (entryFrame m #[(.long q)] 3))
  refine own_up (U' := s₁.setTop (mkF m 0 #[.val (.long q), .second, .unset] [])) ?_ (fun t k => castTop (own_ef_rm1 m q) k)
  refine own_up ?_ fun t k => XS.lloadN X0.here hx rfl (hb hby own_d1_0) rfl k
  show own_G p.tables e below s _ _ _ (s₁.setTop (mkF m 1 #[.val (.long q), .second, .unset] [(.long q)]))
  refine own_up ?_ fun t k => X0.ldc2Long hx hown (mvT hZ (hw _ (List.mem_of_getElem? (i := 5) rfl))) (g := (mkF m 1 #[.val (.long q), .second, .unset] [(.long q)])) rfl (hb hby own_d1_1) _ k
  show own_G p.tables e below s _ _ _ (s₁.setTop (mkF m 4 #[.val (.long q), .second, .unset] [(.long (600 : Int64)), (.long q)]))
  refine own_up ?_ fun t k => XS.lcmp X0.here hx rfl (hb hby own_d1_4) rfl k
  show own_G p.tables e below s _ _ _ (s₁.setTop (mkF m 5 #[.val (.long q), .second, .unset] [(.int (lcmpW q (600 : Int64)))]))
  by_cases hc5_1 : (600 : Int64) < q
  · refine own_up ?_ fun t k => XS.ifYes X0.here hx rfl (pc0 := 5) (pc' := 15) rfl (hb hby own_d1_5) rfl ((if0 _ _).trans (tlt ((lw_gt _ _).mpr hc5_1)).2.2.1) (by decide) (by decide) k
    show own_G p.tables e below s _ _ _ (s₁.setTop (mkF m 15 #[.val (.long q), .second, .unset] []))
    refine own_up ?_ fun t k => XS.lloadN X0.here hx rfl (hb hby own_d1_15) rfl k
    show own_G p.tables e below s _ _ _ (s₁.setTop (mkF m 16 #[.val (.long q), .second, .unset] [(.long q)]))
    refine own_up ?_ fun t k => X0.ldc2Long hx hown (mvT hZ (hw _ (List.mem_of_getElem? (i := 10) rfl))) (g := (mkF m 16 #[.val (.long q), .second, .unset] [(.long q)])) rfl (hb hby own_d1_16) _ k
    show own_G p.tables e below s _ _ _ (s₁.setTop (mkF m 19 #[.val (.long q), .second, .unset] [(.long (3600 : Int64)), (.long q)]))
    refine own_up ?_ fun t k => XS.lcmp X0.here hx rfl (hb hby own_d1_19) rfl k
    show own_G p.tables e below s _ _ _ (s₁.setTop (mkF m 20 #[.val (.long q), .second, .unset] [(.int (lcmpW q (3600 : Int64)))]))
    by_cases hc20_2 : q < (3600 : Int64)
    · refine own_up ?_ fun t k => XS.ifNo X0.here hx rfl (hb hby own_d1_20) rfl ((if0 _ _).trans (tlt ((lw_lt _ _).mpr hc20_2)).2.1) k
      show own_G p.tables e below s _ _ _ (s₁.setTop (mkF m 23 #[.val (.long q), .second, .unset] []))
      obtain ⟨T3, X3, e3, st3⟩ := getS2 X0 hx hZ hown (host := "") (Or.inl (hw _ (List.mem_of_getElem? (i := 11) rfl))) Via.refl e0 S_aR (g := (mkF m 23 #[.val (.long q), .second, .unset] [])) rfl (hb hby own_d1_23)
      refine own_up ?_ st3
      show own_G p.tables e below s _ _ _ (T3.setTop (mkF m 26 #[.val (.long q), .second, .unset] [(.ref aR)]))
      refine own_up ?_ fun t k => XS.astoreN X3.here hx rfl (hb hby own_d1_26) rfl rfl (l' := #[.val (.long q), .second, .val (.ref aR)]) rfl k
      show own_G p.tables e below s _ _ _ (T3.setTop (mkF m 27 #[.val (.long q), .second, .val (.ref aR)] []))
      refine own_up ?_ fun t k => XS.goto X3.here hx rfl (pc0 := 27) (pc' := 34) rfl (hb hby own_d1_27) (by decide) (by decide) k
      show own_G p.tables e below s _ _ _ (T3.setTop (mkF m 34 #[.val (.long q), .second, .val (.ref aR)] []))
      refine own_up ?_ fun t k => XS.aloadN X3.here hx rfl (hb hby own_d1_34) rfl rfl k
      show own_G p.tables e below s _ _ _ (T3.setTop (mkF m 35 #[.val (.long q), .second, .val (.ref aR)] [(.ref aR)]))
      exact own_retA X3 hx hlk Bd.returns rfl rfl (hb hby own_d1_35) ⟨congrArg (fun z => some (Value.ref z)) (by simp only [own_of, if_pos hc5_1, if_pos hc20_2]), N0, e3⟩ (by decide) (by decide)
    · refine own_up ?_ fun t k => XS.ifYes X0.here hx rfl (pc0 := 20) (pc' := 30) rfl (hb hby own_d1_20) rfl ((if0 _ _).trans (flt (fun q => hc20_2 ((lw_lt _ _).mp q))).2.1) (by decide) (by decide) k
      show own_G p.tables e below s _ _ _ (s₁.setTop (mkF m 30 #[.val (.long q), .second, .unset] []))
      obtain ⟨T4, X4, e4, st4⟩ := getS2 X0 hx hZ hown (host := "") (Or.inl (hw _ (List.mem_of_getElem? (i := 16) rfl))) Via.refl e0 S_aS (g := (mkF m 30 #[.val (.long q), .second, .unset] [])) rfl (hb hby own_d1_30)
      refine own_up ?_ st4
      show own_G p.tables e below s _ _ _ (T4.setTop (mkF m 33 #[.val (.long q), .second, .unset] [(.ref aS)]))
      refine own_up ?_ fun t k => XS.astoreN X4.here hx rfl (hb hby own_d1_33) rfl rfl (l' := #[.val (.long q), .second, .val (.ref aS)]) rfl k
      show own_G p.tables e below s _ _ _ (T4.setTop (mkF m 34 #[.val (.long q), .second, .val (.ref aS)] []))
      refine own_up ?_ fun t k => XS.aloadN X4.here hx rfl (hb hby own_d1_34) rfl rfl k
      show own_G p.tables e below s _ _ _ (T4.setTop (mkF m 35 #[.val (.long q), .second, .val (.ref aS)] [(.ref aS)]))
      exact own_retA X4 hx hlk Bd.returns rfl rfl (hb hby own_d1_35) ⟨congrArg (fun z => some (Value.ref z)) (by simp only [own_of, if_pos hc5_1, if_neg hc20_2]), N0, e4⟩ (by decide) (by decide)
  · refine own_up ?_ fun t k => XS.ifNo X0.here hx rfl (hb hby own_d1_5) rfl ((if0 _ _).trans (flt (fun q => hc5_1 ((lw_gt _ _).mp q))).2.2.1) k
    show own_G p.tables e below s _ _ _ (s₁.setTop (mkF m 8 #[.val (.long q), .second, .unset] []))
    obtain ⟨T5, X5, e5, st5⟩ := getS2 X0 hx hZ hown (host := "") (Or.inl (hw _ (List.mem_of_getElem? (i := 6) rfl))) Via.refl e0 S_aB (g := (mkF m 8 #[.val (.long q), .second, .unset] [])) rfl (hb hby own_d1_8)
    refine own_up ?_ st5
    show own_G p.tables e below s _ _ _ (T5.setTop (mkF m 11 #[.val (.long q), .second, .unset] [(.ref aB)]))
    refine own_up ?_ fun t k => XS.astoreN X5.here hx rfl (hb hby own_d1_11) rfl rfl (l' := #[.val (.long q), .second, .val (.ref aB)]) rfl k
    show own_G p.tables e below s _ _ _ (T5.setTop (mkF m 12 #[.val (.long q), .second, .val (.ref aB)] []))
    refine own_up ?_ fun t k => XS.goto X5.here hx rfl (pc0 := 12) (pc' := 34) rfl (hb hby own_d1_12) (by decide) (by decide) k
    show own_G p.tables e below s _ _ _ (T5.setTop (mkF m 34 #[.val (.long q), .second, .val (.ref aB)] []))
    refine own_up ?_ fun t k => XS.aloadN X5.here hx rfl (hb hby own_d1_34) rfl rfl k
    show own_G p.tables e below s _ _ _ (T5.setTop (mkF m 35 #[.val (.long q), .second, .val (.ref aB)] [(.ref aB)]))
    exact own_retA X5 hx hlk Bd.returns rfl rfl (hb hby own_d1_35) ⟨congrArg (fun z => some (Value.ref z)) (by simp only [own_of, if_neg hc5_1]), N0, e5⟩ (by decide) (by decide)
theorem own_d2_0 : decode method_2_code 0 = .ok (.aload_n 0, 1) := by decide +kernel
theorem own_d2_1 : decode method_2_code 1 = .ok (.getstatic 7, 3) := by decide +kernel
theorem own_d2_4 : decode method_2_code 4 = .ok (.if_acmp .ne 5, 3) := by decide +kernel
theorem own_d2_7 : decode method_2_code 7 = .ok (.iconst 0, 1) := by decide +kernel
theorem own_d2_8 : decode method_2_code 8 = .ok (.ireturn, 1) := by decide +kernel
theorem own_d2_9 : decode method_2_code 9 = .ok (.aload_n 0, 1) := by decide +kernel
theorem own_d2_10 : decode method_2_code 10 = .ok (.getstatic 13, 3) := by decide +kernel
theorem own_d2_13 : decode method_2_code 13 = .ok (.if_acmp .ne 5, 3) := by decide +kernel
theorem own_d2_16 : decode method_2_code 16 = .ok (.iconst 1, 1) := by decide +kernel
theorem own_d2_17 : decode method_2_code 17 = .ok (.ireturn, 1) := by decide +kernel
theorem own_d2_18 : decode method_2_code 18 = .ok (.aload_n 0, 1) := by decide +kernel
theorem own_d2_19 : decode method_2_code 19 = .ok (.getstatic 16, 3) := by decide +kernel
theorem own_d2_22 : decode method_2_code 22 = .ok (.if_acmp .ne 5, 3) := by decide +kernel
theorem own_d2_25 : decode method_2_code 25 = .ok (.iconst 2, 1) := by decide +kernel
theorem own_d2_26 : decode method_2_code 26 = .ok (.ireturn, 1) := by decide +kernel
theorem own_d2_27 : decode method_2_code 27 = .ok (.iconst 3, 1) := by decide +kernel
theorem own_d2_28 : decode method_2_code 28 = .ok (.ireturn, 1) := by decide +kernel
theorem own_pn1 : plainName "com/example/touchmove/touchmove/arbiter/CategoryOfPinLaw" = true := by first | (simp [plainName, overriddenIn]; done) | decide +kernel
theorem own_ef_rm2 (m : MethodId) (x0 : Addr) : entryFrame m #[(.ref x0)] 1 = mkF m 0 #[.val (.ref x0)] [] := by first | (simp [entryFrame, mkF, argsToLocals, Value.category]; done) | rfl
def own_Q_rm2 (Z : State) (c1 : Addr) (aB : Addr) (aR : Addr) (aS : Addr) (h0 : Heap) (n0 : Nat) (v : Option Value) (h : Heap) (L : List Loc) : Prop := v = some (.int (own_rank aB aR aS c1)) ∧ Fr n0 L ∧ h = h0
set_option maxRecDepth 65536 in
set_option maxHeartbeats 40000000 in
theorem rm2 (l : Launch) (Z : State) (a0 : Array Value) (hw : ∀ d ∈ tables_1, d.before a0 Z = true) (ws : List Jvm.Cond) (c1 : Addr) (aB : Addr) (aR : Addr) (aS : Addr) (h0 : Heap) (n0 : Nat) (Z0 : n0 ≤ h0.size) (S_aB : Sta Z h0 "com/example/touchmove/touchmove/arbiter/Category" "BLITZ" "Lcom/example/touchmove/touchmove/arbiter/Category;" (.ref aB)) (S_aR : Sta Z h0 "com/example/touchmove/touchmove/arbiter/Category" "RAPID" "Lcom/example/touchmove/touchmove/arbiter/Category;" (.ref aR)) (S_aS : Sta Z h0 "com/example/touchmove/touchmove/arbiter/Category" "STANDARD" "Lcom/example/touchmove/touchmove/arbiter/Category;" (.ref aS)) :
    MetFree l (⟨"com/example/touchmove/touchmove/arbiter/CategoryOfPinLaw", "rank", "(Lcom/example/touchmove/touchmove/arbiter/Category;)I"⟩ : MethodName) (head1 (Jvm.Cond.code (⟨"com/example/touchmove/touchmove/arbiter/CategoryOfPinLaw", "rank", "(Lcom/example/touchmove/touchmove/arbiter/Category;)I"⟩ : MethodName) method_2_code 1 (some .int) :: ws) ({ frames := 0, cells := 0, slots := 0, locals := 0 } : Room)) (fun aa UU => aa = #[(.ref c1)] ∧ Z.Warmed39 UU.vm ∧ UU.heap = h0) (fun _ _ _ _ _ => True) (fun _ UU oo UU' => ∃ vv LL, oo = .returned vv ∧ own_Q_rm2 Z c1 aB aR aS h0 n0 vv UU'.heap LL ∧ FrameEnd UU oo UU' LL ({ frames := 0, cells := 0, slots := 0, locals := 0 } : Room).cells ({ frames := 0, cells := 0, slots := 0, locals := 0 } : Room).slots) := by
  refine MetFree.of_bodySF (plainFor_of_name own_pn1) hisR ?_
  intro p e s m args below meth c s₁ Bd hml0 hP hK
  obtain ⟨rfl, hZ, hh⟩ := hP
  have hx := Bd.exec
  have hby := Bd.bytes
  have hlk := Bd.notSynchronized
  have hml : c.maxLocals = 1 := hml0
  have hown : s.vm.findClass "com/example/touchmove/touchmove/arbiter/CategoryOfPinLaw" = some m.cls := findClass_of_methodNamed Bd.named
  have hnm := (name_of_methodNamed Bd.named Bd.method).1
  have X0 : Stand p l e ({ frames := 0, cells := 0, slots := 0, locals := 0 } : Room) s m #[(.ref c1)] below meth c s₁ [] 0 0 := Stand.of_body Bd
  have e0 : s₁.heap = h0 := by rw [← hh, Bd.state]; rfl
  have N0 := Fr.nil n0
  show own_G p.tables e below s (own_Q_rm2 Z c1 aB aR aS h0 n0) ({ frames := 0, cells := 0, slots := 0, locals := 0 } : Room).cells ({ frames := 0, cells := 0, slots := 0, locals := 0 } : Room).slots (s₁.setTop (entryFrame m #[(.ref c1)] 1))
  refine own_up (U' := s₁.setTop (mkF m 0 #[.val (.ref c1)] [])) ?_ (fun t k => castTop (own_ef_rm2 m c1) k)
  refine own_up ?_ fun t k => XS.aloadN X0.here hx rfl (hb hby own_d2_0) rfl rfl k
  show own_G p.tables e below s _ _ _ (s₁.setTop (mkF m 1 #[.val (.ref c1)] [(.ref c1)]))
  obtain ⟨T6, X6, e6, st6⟩ := getS2 X0 hx hZ hown (host := "") (Or.inl (hw _ (List.mem_of_getElem? (i := 8) rfl))) Via.refl e0 S_aB (g := (mkF m 1 #[.val (.ref c1)] [(.ref c1)])) rfl (hb hby own_d2_1)
  refine own_up ?_ st6
  show own_G p.tables e below s _ _ _ (T6.setTop (mkF m 4 #[.val (.ref c1)] [(.ref aB), (.ref c1)]))
  by_cases ha4_7 : c1 = aB
  · refine own_up ?_ fun t k => Jvm.RoadKit.acmp (g := (mkF m 4 #[.val (.ref c1)] [(.ref aB), (.ref c1)])) X6 hx rfl rfl rfl (pc0 := 4) (pc' := 7) (same := true) rfl (hb hby own_d2_4) rfl (decide_eq_true (congrArg Value.ref ha4_7)) (by decide) (by decide) k
    show own_G p.tables e below s _ _ _ (T6.setTop (mkF m 7 #[.val (.ref c1)] []))
    refine own_up ?_ fun t k => XS.iconst X6.here hx rfl (hb hby own_d2_7) k
    show own_G p.tables e below s _ _ _ (T6.setTop (mkF m 8 #[.val (.ref c1)] [(.int (0 : Int32))]))
    exact own_retI X6 hx hlk Bd.returns (by simp) rfl (hb hby own_d2_8) ⟨congrArg (fun z => some (Value.int z)) (by simp only [own_rank, if_pos ha4_7]), N0, e6⟩ (by decide) (by decide)
  · refine own_up ?_ fun t k => Jvm.RoadKit.acmp (g := (mkF m 4 #[.val (.ref c1)] [(.ref aB), (.ref c1)])) X6 hx rfl rfl rfl (pc0 := 4) (pc' := 9) (same := false) rfl (hb hby own_d2_4) rfl (decide_eq_false fun q => ha4_7 (Value.ref.inj q)) (by decide) (by decide) k
    show own_G p.tables e below s _ _ _ (T6.setTop (mkF m 9 #[.val (.ref c1)] []))
    refine own_up ?_ fun t k => XS.aloadN X6.here hx rfl (hb hby own_d2_9) rfl rfl k
    show own_G p.tables e below s _ _ _ (T6.setTop (mkF m 10 #[.val (.ref c1)] [(.ref c1)]))
    obtain ⟨T8, X8, e8, st8⟩ := getS2 X6 hx hZ hown (host := "") (Or.inl (hw _ (List.mem_of_getElem? (i := 13) rfl))) Via.refl e6 S_aR (g := (mkF m 10 #[.val (.ref c1)] [(.ref c1)])) rfl (hb hby own_d2_10)
    refine own_up ?_ st8
    show own_G p.tables e below s _ _ _ (T8.setTop (mkF m 13 #[.val (.ref c1)] [(.ref aR), (.ref c1)]))
    by_cases ha13_9 : c1 = aR
    · refine own_up ?_ fun t k => Jvm.RoadKit.acmp (g := (mkF m 13 #[.val (.ref c1)] [(.ref aR), (.ref c1)])) X8 hx rfl rfl rfl (pc0 := 13) (pc' := 16) (same := true) rfl (hb hby own_d2_13) rfl (decide_eq_true (congrArg Value.ref ha13_9)) (by decide) (by decide) k
      show own_G p.tables e below s _ _ _ (T8.setTop (mkF m 16 #[.val (.ref c1)] []))
      refine own_up ?_ fun t k => XS.iconst X8.here hx rfl (hb hby own_d2_16) k
      show own_G p.tables e below s _ _ _ (T8.setTop (mkF m 17 #[.val (.ref c1)] [(.int (1 : Int32))]))
      exact own_retI X8 hx hlk Bd.returns (by simp) rfl (hb hby own_d2_17) ⟨congrArg (fun z => some (Value.int z)) (by simp only [own_rank, if_neg ha4_7, if_pos ha13_9]), N0, e8⟩ (by decide) (by decide)
    · refine own_up ?_ fun t k => Jvm.RoadKit.acmp (g := (mkF m 13 #[.val (.ref c1)] [(.ref aR), (.ref c1)])) X8 hx rfl rfl rfl (pc0 := 13) (pc' := 18) (same := false) rfl (hb hby own_d2_13) rfl (decide_eq_false fun q => ha13_9 (Value.ref.inj q)) (by decide) (by decide) k
      show own_G p.tables e below s _ _ _ (T8.setTop (mkF m 18 #[.val (.ref c1)] []))
      refine own_up ?_ fun t k => XS.aloadN X8.here hx rfl (hb hby own_d2_18) rfl rfl k
      show own_G p.tables e below s _ _ _ (T8.setTop (mkF m 19 #[.val (.ref c1)] [(.ref c1)]))
      obtain ⟨T10, X10, e10, st10⟩ := getS2 X8 hx hZ hown (host := "") (Or.inl (hw _ (List.mem_of_getElem? (i := 18) rfl))) Via.refl e8 S_aS (g := (mkF m 19 #[.val (.ref c1)] [(.ref c1)])) rfl (hb hby own_d2_19)
      refine own_up ?_ st10
      show own_G p.tables e below s _ _ _ (T10.setTop (mkF m 22 #[.val (.ref c1)] [(.ref aS), (.ref c1)]))
      by_cases ha22_11 : c1 = aS
      · refine own_up ?_ fun t k => Jvm.RoadKit.acmp (g := (mkF m 22 #[.val (.ref c1)] [(.ref aS), (.ref c1)])) X10 hx rfl rfl rfl (pc0 := 22) (pc' := 25) (same := true) rfl (hb hby own_d2_22) rfl (decide_eq_true (congrArg Value.ref ha22_11)) (by decide) (by decide) k
        show own_G p.tables e below s _ _ _ (T10.setTop (mkF m 25 #[.val (.ref c1)] []))
        refine own_up ?_ fun t k => XS.iconst X10.here hx rfl (hb hby own_d2_25) k
        show own_G p.tables e below s _ _ _ (T10.setTop (mkF m 26 #[.val (.ref c1)] [(.int (2 : Int32))]))
        exact own_retI X10 hx hlk Bd.returns (by simp) rfl (hb hby own_d2_26) ⟨congrArg (fun z => some (Value.int z)) (by simp only [own_rank, if_neg ha4_7, if_neg ha13_9, if_pos ha22_11]), N0, e10⟩ (by decide) (by decide)
      · refine own_up ?_ fun t k => Jvm.RoadKit.acmp (g := (mkF m 22 #[.val (.ref c1)] [(.ref aS), (.ref c1)])) X10 hx rfl rfl rfl (pc0 := 22) (pc' := 27) (same := false) rfl (hb hby own_d2_22) rfl (decide_eq_false fun q => ha22_11 (Value.ref.inj q)) (by decide) (by decide) k
        show own_G p.tables e below s _ _ _ (T10.setTop (mkF m 27 #[.val (.ref c1)] []))
        refine own_up ?_ fun t k => XS.iconst X10.here hx rfl (hb hby own_d2_27) k
        show own_G p.tables e below s _ _ _ (T10.setTop (mkF m 28 #[.val (.ref c1)] [(.int (3 : Int32))]))
        exact own_retI X10 hx hlk Bd.returns (by simp) rfl (hb hby own_d2_28) ⟨congrArg (fun z => some (Value.int z)) (by simp only [own_rank, if_neg ha4_7, if_neg ha13_9, if_neg ha22_11]), N0, e10⟩ (by decide) (by decide)
theorem own_ef_rm0 (m : MethodId) (x0 : Int64) (x1 : Int64) : entryFrame m #[(.long x0), (.long x1)] maxLocals = mkF m 0 #[.val (.long x0), .second, .val (.long x1), .second, .unset, .unset, .unset, .unset, .unset] [] := by first | (simp [entryFrame, mkF, argsToLocals, Value.category, maxLocals]; done) | rfl
def own_Q_rm0 (Z : State) (q1 : Int64) (q2 : Int64) (aB : Addr) (aR : Addr) (aS : Addr) (h0 : Heap) (n0 : Nat) (v : Option Value) (h : Heap) (L : List Loc) : Prop := v = some (.int (1 : Int32)) ∧ Fr n0 L
set_option maxRecDepth 65536 in
set_option maxHeartbeats 40000000 in
theorem rm0 (l : Launch) (Z : State) (a0 : Array Value) (hw : ∀ d ∈ tables_1, d.before a0 Z = true) (ws : List Jvm.Cond) (q1 : Int64) (q2 : Int64) (aB : Addr) (aR : Addr) (aS : Addr) (h0 : Heap) (n0 : Nat) (Z0 : n0 ≤ h0.size) (S_aB : Sta Z h0 "com/example/touchmove/touchmove/arbiter/Category" "BLITZ" "Lcom/example/touchmove/touchmove/arbiter/Category;" (.ref aB)) (S_aR : Sta Z h0 "com/example/touchmove/touchmove/arbiter/Category" "RAPID" "Lcom/example/touchmove/touchmove/arbiter/Category;" (.ref aR)) (S_aS : Sta Z h0 "com/example/touchmove/touchmove/arbiter/Category" "STANDARD" "Lcom/example/touchmove/touchmove/arbiter/Category;" (.ref aS)) (n1 : aB ≠ aR) (n2 : aB ≠ aS) (n3 : aR ≠ aS) :
    MetFree l x (head1 (Jvm.Cond.code x code maxLocals ret :: ws) room_1) (fun aa UU => aa = #[(.long q1), (.long q2)] ∧ Z.Warmed39 UU.vm ∧ UU.heap = h0) (fun _ _ _ _ _ => True) (fun _ UU oo UU' => ∃ vv LL, oo = .returned vv ∧ own_Q_rm0 Z q1 q2 aB aR aS h0 n0 vv UU'.heap LL ∧ FrameEnd UU oo UU' LL room_1.cells room_1.slots) := by
  refine MetFree.of_bodySF (plainFor_of_name own_pn1) hisR ?_
  intro p e s m args below meth c s₁ Bd hml0 hP hK
  obtain ⟨rfl, hZ, hh⟩ := hP
  have hx := Bd.exec
  have hby := Bd.bytes
  have hlk := Bd.notSynchronized
  have hml : c.maxLocals = 9 := hml0
  have hown : s.vm.findClass "com/example/touchmove/touchmove/arbiter/CategoryOfPinLaw" = some m.cls := findClass_of_methodNamed Bd.named
  have hnm := (name_of_methodNamed Bd.named Bd.method).1
  have X0 : Stand p l e room_1 s m #[(.long q1), (.long q2)] below meth c s₁ [] 0 0 := Stand.of_body Bd
  have e0 : s₁.heap = h0 := by rw [← hh, Bd.state]; rfl
  have N0 := Fr.nil n0
  show own_G p.tables e below s (own_Q_rm0 Z q1 q2 aB aR aS h0 n0) room_1.cells room_1.slots (s₁.setTop (entryFrame m #[(.long q1), (.long q2)] maxLocals))
  refine own_up (U' := s₁.setTop (mkF m 0 #[.val (.long q1), .second, .val (.long q2), .second, .unset, .unset, .unset, .unset, .unset] [])) ?_ (fun t k => castTop (own_ef_rm0 m q1 q2) k)
  refine own_up ?_ fun t k => X0.ldc2Long hx hown (mvT hZ (hw _ (List.mem_of_getElem? (i := 0) rfl))) (g := (mkF m 0 #[.val (.long q1), .second, .val (.long q2), .second, .unset, .unset, .unset, .unset, .unset] [])) rfl (hb hby at_0) _ k
  show own_G p.tables e below s _ _ _ (s₁.setTop (mkF m 3 #[.val (.long q1), .second, .val (.long q2), .second, .unset, .unset, .unset, .unset, .unset] [(.long (600 : Int64))]))
  obtain ⟨_, _, ⟨T12, L12, k12, n12⟩, -, X12, ⟨Lc12, hQ12, l12, y12, z12⟩, st12⟩ := Jvm.LawKit.callS X0 hx (y := (⟨"com/example/touchmove/touchmove/arbiter/Category", "of", "(J)Lcom/example/touchmove/touchmove/arbiter/Category;"⟩ : MethodName)) hown (mvT hZ (hw _ (List.mem_of_getElem? (i := 1) rfl))) (mvT hZ (hw _ (List.mem_of_getElem? (i := 2) rfl))) (mvT hZ (hw _ (List.mem_of_getElem? (i := 3) rfl))) (mvT hZ (hw _ (List.mem_of_getElem? (i := 4) rfl))) (by decide) (backOf (W := 0) (rm1 l Z a0 hw [] (600 : Int64) aB aR aS h0 n0 Z0 S_aB S_aR S_aS) hZ (hw _ (List.mem_of_getElem? (i := 4) rfl)) (hw _ (List.mem_of_getElem? (i := 3) rfl)) (by decide) (by decide)) (g := (mkF m 3 #[.val (.long q1), .second, .val (.long q2), .second, .unset, .unset, .unset, .unset, .unset] [(.long (600 : Int64))])) rfl (by rw [hml]; rfl) (argsL := [(.long (600 : Int64))]) (rest := []) (lenOf own_pd0 rfl) rfl (by show 2 * 0 + _ ≤ _; exact Nat.le_of_eq rfl) (hb hby at_3) (fun _ _ => ⟨rfl, e0, (by decide : 0 + 0 ≤ _), (by decide : 0 + 0 ≤ _)⟩)
  dsimp only [Pt.U, Pt.locs, Pt.cells, Pt.slots] at X12 l12 y12 z12 st12 hQ12
  subst l12 y12 z12
  obtain ⟨rfl, Nq12, e12⟩ := hQ12
  have N12 := Fr.app N0 Nq12
  refine own_up ?_ (st12)
  show own_G p.tables e below s _ _ _ (T12.setTop (mkF m 6 #[.val (.long q1), .second, .val (.long q2), .second, .unset, .unset, .unset, .unset, .unset] [(.ref (own_of aB aR aS (600 : Int64)))]))
  obtain ⟨T13, X13, e13, st13⟩ := getS2 X12 hx hZ hown (host := "") (Or.inl (hw _ (List.mem_of_getElem? (i := 8) rfl))) Via.refl e12 S_aB (g := (mkF m 6 #[.val (.long q1), .second, .val (.long q2), .second, .unset, .unset, .unset, .unset, .unset] [(.ref (own_of aB aR aS (600 : Int64)))])) rfl (hb hby at_6)
  refine own_up ?_ st13
  show own_G p.tables e below s _ _ _ (T13.setTop (mkF m 9 #[.val (.long q1), .second, .val (.long q2), .second, .unset, .unset, .unset, .unset, .unset] [(.ref aB), (.ref (own_of aB aR aS (600 : Int64)))]))
  refine own_up ?_ fun t k => Jvm.RoadKit.acmp (g := (mkF m 9 #[.val (.long q1), .second, .val (.long q2), .second, .unset, .unset, .unset, .unset, .unset] [(.ref aB), (.ref (own_of aB aR aS (600 : Int64)))])) X13 hx rfl rfl rfl (pc0 := 9) (pc' := 12) (same := true) rfl (hb hby at_9) rfl (decide_eq_true (congrArg Value.ref (own_600 aB aR aS))) (by decide) (by decide) k
  show own_G p.tables e below s _ _ _ (T13.setTop (mkF m 12 #[.val (.long q1), .second, .val (.long q2), .second, .unset, .unset, .unset, .unset, .unset] []))
  refine own_up ?_ fun t k => X13.ldc2Long hx hown (mvT hZ (hw _ (List.mem_of_getElem? (i := 9) rfl))) (g := (mkF m 12 #[.val (.long q1), .second, .val (.long q2), .second, .unset, .unset, .unset, .unset, .unset] [])) rfl (hb hby at_12) _ k
  show own_G p.tables e below s _ _ _ (T13.setTop (mkF m 15 #[.val (.long q1), .second, .val (.long q2), .second, .unset, .unset, .unset, .unset, .unset] [(.long (601 : Int64))]))
  obtain ⟨_, _, ⟨T14, L14, k14, n14⟩, -, X14, ⟨Lc14, hQ14, l14, y14, z14⟩, st14⟩ := Jvm.LawKit.callS X13 hx (y := (⟨"com/example/touchmove/touchmove/arbiter/Category", "of", "(J)Lcom/example/touchmove/touchmove/arbiter/Category;"⟩ : MethodName)) hown (mvT hZ (hw _ (List.mem_of_getElem? (i := 1) rfl))) (mvT hZ (hw _ (List.mem_of_getElem? (i := 2) rfl))) (mvT hZ (hw _ (List.mem_of_getElem? (i := 3) rfl))) (mvT hZ (hw _ (List.mem_of_getElem? (i := 4) rfl))) (by decide) (backOf (W := 0) (rm1 l Z a0 hw [] (601 : Int64) aB aR aS h0 n0 Z0 S_aB S_aR S_aS) hZ (hw _ (List.mem_of_getElem? (i := 4) rfl)) (hw _ (List.mem_of_getElem? (i := 3) rfl)) (by decide) (by decide)) (g := (mkF m 15 #[.val (.long q1), .second, .val (.long q2), .second, .unset, .unset, .unset, .unset, .unset] [(.long (601 : Int64))])) rfl (by rw [hml]; rfl) (argsL := [(.long (601 : Int64))]) (rest := []) (lenOf own_pd0 rfl) rfl (by show 2 * 0 + _ ≤ _; exact Nat.le_of_eq rfl) (hb hby at_15) (fun _ _ => ⟨rfl, e13, (by decide : 0 + 0 ≤ _), (by decide : 0 + 0 ≤ _)⟩)
  dsimp only [Pt.U, Pt.locs, Pt.cells, Pt.slots] at X14 l14 y14 z14 st14 hQ14
  subst l14 y14 z14
  obtain ⟨rfl, Nq14, e14⟩ := hQ14
  have N14 := Fr.app N12 Nq14
  refine own_up ?_ (st14)
  show own_G p.tables e below s _ _ _ (T14.setTop (mkF m 18 #[.val (.long q1), .second, .val (.long q2), .second, .unset, .unset, .unset, .unset, .unset] [(.ref (own_of aB aR aS (601 : Int64)))]))
  obtain ⟨T15, X15, e15, st15⟩ := getS2 X14 hx hZ hown (host := "") (Or.inl (hw _ (List.mem_of_getElem? (i := 13) rfl))) Via.refl e14 S_aR (g := (mkF m 18 #[.val (.long q1), .second, .val (.long q2), .second, .unset, .unset, .unset, .unset, .unset] [(.ref (own_of aB aR aS (601 : Int64)))])) rfl (hb hby at_18)
  refine own_up ?_ st15
  show own_G p.tables e below s _ _ _ (T15.setTop (mkF m 21 #[.val (.long q1), .second, .val (.long q2), .second, .unset, .unset, .unset, .unset, .unset] [(.ref aR), (.ref (own_of aB aR aS (601 : Int64)))]))
  refine own_up ?_ fun t k => Jvm.RoadKit.acmp (g := (mkF m 21 #[.val (.long q1), .second, .val (.long q2), .second, .unset, .unset, .unset, .unset, .unset] [(.ref aR), (.ref (own_of aB aR aS (601 : Int64)))])) X15 hx rfl rfl rfl (pc0 := 21) (pc' := 24) (same := true) rfl (hb hby at_21) rfl (decide_eq_true (congrArg Value.ref (own_601 aB aR aS))) (by decide) (by decide) k
  show own_G p.tables e below s _ _ _ (T15.setTop (mkF m 24 #[.val (.long q1), .second, .val (.long q2), .second, .unset, .unset, .unset, .unset, .unset] []))
  refine own_up ?_ fun t k => X15.ldc2Long hx hown (mvT hZ (hw _ (List.mem_of_getElem? (i := 14) rfl))) (g := (mkF m 24 #[.val (.long q1), .second, .val (.long q2), .second, .unset, .unset, .unset, .unset, .unset] [])) rfl (hb hby at_24) _ k
  show own_G p.tables e below s _ _ _ (T15.setTop (mkF m 27 #[.val (.long q1), .second, .val (.long q2), .second, .unset, .unset, .unset, .unset, .unset] [(.long (3599 : Int64))]))
  obtain ⟨_, _, ⟨T16, L16, k16, n16⟩, -, X16, ⟨Lc16, hQ16, l16, y16, z16⟩, st16⟩ := Jvm.LawKit.callS X15 hx (y := (⟨"com/example/touchmove/touchmove/arbiter/Category", "of", "(J)Lcom/example/touchmove/touchmove/arbiter/Category;"⟩ : MethodName)) hown (mvT hZ (hw _ (List.mem_of_getElem? (i := 1) rfl))) (mvT hZ (hw _ (List.mem_of_getElem? (i := 2) rfl))) (mvT hZ (hw _ (List.mem_of_getElem? (i := 3) rfl))) (mvT hZ (hw _ (List.mem_of_getElem? (i := 4) rfl))) (by decide) (backOf (W := 0) (rm1 l Z a0 hw [] (3599 : Int64) aB aR aS h0 n0 Z0 S_aB S_aR S_aS) hZ (hw _ (List.mem_of_getElem? (i := 4) rfl)) (hw _ (List.mem_of_getElem? (i := 3) rfl)) (by decide) (by decide)) (g := (mkF m 27 #[.val (.long q1), .second, .val (.long q2), .second, .unset, .unset, .unset, .unset, .unset] [(.long (3599 : Int64))])) rfl (by rw [hml]; rfl) (argsL := [(.long (3599 : Int64))]) (rest := []) (lenOf own_pd0 rfl) rfl (by show 2 * 0 + _ ≤ _; exact Nat.le_of_eq rfl) (hb hby at_27) (fun _ _ => ⟨rfl, e15, (by decide : 0 + 0 ≤ _), (by decide : 0 + 0 ≤ _)⟩)
  dsimp only [Pt.U, Pt.locs, Pt.cells, Pt.slots] at X16 l16 y16 z16 st16 hQ16
  subst l16 y16 z16
  obtain ⟨rfl, Nq16, e16⟩ := hQ16
  have N16 := Fr.app N14 Nq16
  refine own_up ?_ (st16)
  show own_G p.tables e below s _ _ _ (T16.setTop (mkF m 30 #[.val (.long q1), .second, .val (.long q2), .second, .unset, .unset, .unset, .unset, .unset] [(.ref (own_of aB aR aS (3599 : Int64)))]))
  obtain ⟨T17, X17, e17, st17⟩ := getS2 X16 hx hZ hown (host := "") (Or.inl (hw _ (List.mem_of_getElem? (i := 13) rfl))) Via.refl e16 S_aR (g := (mkF m 30 #[.val (.long q1), .second, .val (.long q2), .second, .unset, .unset, .unset, .unset, .unset] [(.ref (own_of aB aR aS (3599 : Int64)))])) rfl (hb hby at_30)
  refine own_up ?_ st17
  show own_G p.tables e below s _ _ _ (T17.setTop (mkF m 33 #[.val (.long q1), .second, .val (.long q2), .second, .unset, .unset, .unset, .unset, .unset] [(.ref aR), (.ref (own_of aB aR aS (3599 : Int64)))]))
  refine own_up ?_ fun t k => Jvm.RoadKit.acmp (g := (mkF m 33 #[.val (.long q1), .second, .val (.long q2), .second, .unset, .unset, .unset, .unset, .unset] [(.ref aR), (.ref (own_of aB aR aS (3599 : Int64)))])) X17 hx rfl rfl rfl (pc0 := 33) (pc' := 36) (same := true) rfl (hb hby at_33) rfl (decide_eq_true (congrArg Value.ref (own_3599 aB aR aS))) (by decide) (by decide) k
  show own_G p.tables e below s _ _ _ (T17.setTop (mkF m 36 #[.val (.long q1), .second, .val (.long q2), .second, .unset, .unset, .unset, .unset, .unset] []))
  refine own_up ?_ fun t k => X17.ldc2Long hx hown (mvT hZ (hw _ (List.mem_of_getElem? (i := 15) rfl))) (g := (mkF m 36 #[.val (.long q1), .second, .val (.long q2), .second, .unset, .unset, .unset, .unset, .unset] [])) rfl (hb hby at_36) _ k
  show own_G p.tables e below s _ _ _ (T17.setTop (mkF m 39 #[.val (.long q1), .second, .val (.long q2), .second, .unset, .unset, .unset, .unset, .unset] [(.long (3600 : Int64))]))
  obtain ⟨_, _, ⟨T18, L18, k18, n18⟩, -, X18, ⟨Lc18, hQ18, l18, y18, z18⟩, st18⟩ := Jvm.LawKit.callS X17 hx (y := (⟨"com/example/touchmove/touchmove/arbiter/Category", "of", "(J)Lcom/example/touchmove/touchmove/arbiter/Category;"⟩ : MethodName)) hown (mvT hZ (hw _ (List.mem_of_getElem? (i := 1) rfl))) (mvT hZ (hw _ (List.mem_of_getElem? (i := 2) rfl))) (mvT hZ (hw _ (List.mem_of_getElem? (i := 3) rfl))) (mvT hZ (hw _ (List.mem_of_getElem? (i := 4) rfl))) (by decide) (backOf (W := 0) (rm1 l Z a0 hw [] (3600 : Int64) aB aR aS h0 n0 Z0 S_aB S_aR S_aS) hZ (hw _ (List.mem_of_getElem? (i := 4) rfl)) (hw _ (List.mem_of_getElem? (i := 3) rfl)) (by decide) (by decide)) (g := (mkF m 39 #[.val (.long q1), .second, .val (.long q2), .second, .unset, .unset, .unset, .unset, .unset] [(.long (3600 : Int64))])) rfl (by rw [hml]; rfl) (argsL := [(.long (3600 : Int64))]) (rest := []) (lenOf own_pd0 rfl) rfl (by show 2 * 0 + _ ≤ _; exact Nat.le_of_eq rfl) (hb hby at_39) (fun _ _ => ⟨rfl, e17, (by decide : 0 + 0 ≤ _), (by decide : 0 + 0 ≤ _)⟩)
  dsimp only [Pt.U, Pt.locs, Pt.cells, Pt.slots] at X18 l18 y18 z18 st18 hQ18
  subst l18 y18 z18
  obtain ⟨rfl, Nq18, e18⟩ := hQ18
  have N18 := Fr.app N16 Nq18
  refine own_up ?_ (st18)
  show own_G p.tables e below s _ _ _ (T18.setTop (mkF m 42 #[.val (.long q1), .second, .val (.long q2), .second, .unset, .unset, .unset, .unset, .unset] [(.ref (own_of aB aR aS (3600 : Int64)))]))
  obtain ⟨T19, X19, e19, st19⟩ := getS2 X18 hx hZ hown (host := "") (Or.inl (hw _ (List.mem_of_getElem? (i := 18) rfl))) Via.refl e18 S_aS (g := (mkF m 42 #[.val (.long q1), .second, .val (.long q2), .second, .unset, .unset, .unset, .unset, .unset] [(.ref (own_of aB aR aS (3600 : Int64)))])) rfl (hb hby at_42)
  refine own_up ?_ st19
  show own_G p.tables e below s _ _ _ (T19.setTop (mkF m 45 #[.val (.long q1), .second, .val (.long q2), .second, .unset, .unset, .unset, .unset, .unset] [(.ref aS), (.ref (own_of aB aR aS (3600 : Int64)))]))
  refine own_up ?_ fun t k => Jvm.RoadKit.acmp (g := (mkF m 45 #[.val (.long q1), .second, .val (.long q2), .second, .unset, .unset, .unset, .unset, .unset] [(.ref aS), (.ref (own_of aB aR aS (3600 : Int64)))])) X19 hx rfl rfl rfl (pc0 := 45) (pc' := 48) (same := true) rfl (hb hby at_45) rfl (decide_eq_true (congrArg Value.ref (own_3600 aB aR aS))) (by decide) (by decide) k
  show own_G p.tables e below s _ _ _ (T19.setTop (mkF m 48 #[.val (.long q1), .second, .val (.long q2), .second, .unset, .unset, .unset, .unset, .unset] []))
  refine own_up ?_ fun t k => XS.iconst X19.here hx rfl (hb hby at_48) k
  show own_G p.tables e below s _ _ _ (T19.setTop (mkF m 49 #[.val (.long q1), .second, .val (.long q2), .second, .unset, .unset, .unset, .unset, .unset] [(.int (1 : Int32))]))
  refine own_up ?_ fun t k => XS.goto X19.here hx rfl (pc0 := 49) (pc' := 53) rfl (hb hby at_49) (by decide) (by decide) k
  show own_G p.tables e below s _ _ _ (T19.setTop (mkF m 53 #[.val (.long q1), .second, .val (.long q2), .second, .unset, .unset, .unset, .unset, .unset] [(.int (1 : Int32))]))
  refine own_up ?_ fun t k => XS.istore X19.here hx rfl (hb hby at_53) rfl (l' := #[.val (.long q1), .second, .val (.long q2), .second, .val (.int (1 : Int32)), .unset, .unset, .unset, .unset]) rfl k
  show own_G p.tables e below s _ _ _ (T19.setTop (mkF m 55 #[.val (.long q1), .second, .val (.long q2), .second, .val (.int (1 : Int32)), .unset, .unset, .unset, .unset] []))
  refine own_up ?_ fun t k => XS.lloadN X19.here hx rfl (hb hby at_55) rfl k
  show own_G p.tables e below s _ _ _ (T19.setTop (mkF m 56 #[.val (.long q1), .second, .val (.long q2), .second, .val (.int (1 : Int32)), .unset, .unset, .unset, .unset] [(.long q1)]))
  obtain ⟨_, _, ⟨T20, L20, k20, n20⟩, -, X20, ⟨Lc20, hQ20, l20, y20, z20⟩, st20⟩ := Jvm.LawKit.callS X19 hx (y := (⟨"com/example/touchmove/touchmove/arbiter/Category", "of", "(J)Lcom/example/touchmove/touchmove/arbiter/Category;"⟩ : MethodName)) hown (mvT hZ (hw _ (List.mem_of_getElem? (i := 1) rfl))) (mvT hZ (hw _ (List.mem_of_getElem? (i := 2) rfl))) (mvT hZ (hw _ (List.mem_of_getElem? (i := 3) rfl))) (mvT hZ (hw _ (List.mem_of_getElem? (i := 4) rfl))) (by decide) (backOf (W := 0) (rm1 l Z a0 hw [] q1 aB aR aS h0 n0 Z0 S_aB S_aR S_aS) hZ (hw _ (List.mem_of_getElem? (i := 4) rfl)) (hw _ (List.mem_of_getElem? (i := 3) rfl)) (by decide) (by decide)) (g := (mkF m 56 #[.val (.long q1), .second, .val (.long q2), .second, .val (.int (1 : Int32)), .unset, .unset, .unset, .unset] [(.long q1)])) rfl (by rw [hml]; rfl) (argsL := [(.long q1)]) (rest := []) (lenOf own_pd0 rfl) rfl (by show 2 * 0 + _ ≤ _; exact Nat.le_of_eq rfl) (hb hby at_56) (fun _ _ => ⟨rfl, e19, (by decide : 0 + 0 ≤ _), (by decide : 0 + 0 ≤ _)⟩)
  dsimp only [Pt.U, Pt.locs, Pt.cells, Pt.slots] at X20 l20 y20 z20 st20 hQ20
  subst l20 y20 z20
  obtain ⟨rfl, Nq20, e20⟩ := hQ20
  have N20 := Fr.app N18 Nq20
  refine own_up ?_ (st20)
  show own_G p.tables e below s _ _ _ (T20.setTop (mkF m 59 #[.val (.long q1), .second, .val (.long q2), .second, .val (.int (1 : Int32)), .unset, .unset, .unset, .unset] [(.ref (own_of aB aR aS q1))]))
  obtain ⟨_, _, ⟨T21, L21, k21, n21⟩, -, X21, ⟨Lc21, hQ21, l21, y21, z21⟩, st21⟩ := Jvm.LawKit.callS X20 hx (y := (⟨"com/example/touchmove/touchmove/arbiter/CategoryOfPinLaw", "rank", "(Lcom/example/touchmove/touchmove/arbiter/Category;)I"⟩ : MethodName)) hown (mvT hZ (hw _ (List.mem_of_getElem? (i := 19) rfl))) (mvT hZ (hw _ (List.mem_of_getElem? (i := 20) rfl))) (mvT hZ (hw _ (List.mem_of_getElem? (i := 21) rfl))) (mvT hZ (hw _ (List.mem_of_getElem? (i := 22) rfl))) (by decide) (backOf (W := 0) (rm2 l Z a0 hw [] (own_of aB aR aS q1) aB aR aS h0 n0 Z0 S_aB S_aR S_aS) hZ (hw _ (List.mem_of_getElem? (i := 22) rfl)) (hw _ (List.mem_of_getElem? (i := 21) rfl)) (by decide) (by decide)) (g := (mkF m 59 #[.val (.long q1), .second, .val (.long q2), .second, .val (.int (1 : Int32)), .unset, .unset, .unset, .unset] [(.ref (own_of aB aR aS q1))])) rfl (by rw [hml]; rfl) (argsL := [(.ref (own_of aB aR aS q1))]) (rest := []) (lenOf own_pd1 rfl) rfl (by show 2 * 0 + _ ≤ _; exact Nat.le_of_eq rfl) (hb hby at_59) (fun _ _ => ⟨rfl, e20, (by decide : 0 + 0 ≤ _), (by decide : 0 + 0 ≤ _)⟩)
  dsimp only [Pt.U, Pt.locs, Pt.cells, Pt.slots] at X21 l21 y21 z21 st21 hQ21
  subst l21 y21 z21
  obtain ⟨rfl, Nq21, e21⟩ := hQ21
  have N21 := Fr.app N20 Nq21
  refine own_up ?_ (st21)
  show own_G p.tables e below s _ _ _ (T21.setTop (mkF m 62 #[.val (.long q1), .second, .val (.long q2), .second, .val (.int (1 : Int32)), .unset, .unset, .unset, .unset] [(.int (own_rank aB aR aS (own_of aB aR aS q1)))]))
  refine own_up ?_ fun t k => XS.istore X21.here hx rfl (hb hby at_62) rfl (l' := #[.val (.long q1), .second, .val (.long q2), .second, .val (.int (1 : Int32)), .val (.int (own_rank aB aR aS (own_of aB aR aS q1))), .unset, .unset, .unset]) rfl k
  show own_G p.tables e below s _ _ _ (T21.setTop (mkF m 64 #[.val (.long q1), .second, .val (.long q2), .second, .val (.int (1 : Int32)), .val (.int (own_rank aB aR aS (own_of aB aR aS q1))), .unset, .unset, .unset] []))
  obtain ⟨ra, h_ra⟩ : ∃ z, z = (own_rank aB aR aS (own_of aB aR aS q1)) := ⟨_, rfl⟩
  rw [← h_ra]
  show own_G p.tables e below s _ _ _ (T21.setTop (mkF m 64 #[.val (.long q1), .second, .val (.long q2), .second, .val (.int (1 : Int32)), .val (.int ra), .unset, .unset, .unset] []))
  refine own_up ?_ fun t k => XS.lloadN X21.here hx rfl (hb hby at_64) rfl k
  show own_G p.tables e below s _ _ _ (T21.setTop (mkF m 65 #[.val (.long q1), .second, .val (.long q2), .second, .val (.int (1 : Int32)), .val (.int ra), .unset, .unset, .unset] [(.long q2)]))
  obtain ⟨_, _, ⟨T22, L22, k22, n22⟩, -, X22, ⟨Lc22, hQ22, l22, y22, z22⟩, st22⟩ := Jvm.LawKit.callS X21 hx (y := (⟨"com/example/touchmove/touchmove/arbiter/Category", "of", "(J)Lcom/example/touchmove/touchmove/arbiter/Category;"⟩ : MethodName)) hown (mvT hZ (hw _ (List.mem_of_getElem? (i := 1) rfl))) (mvT hZ (hw _ (List.mem_of_getElem? (i := 2) rfl))) (mvT hZ (hw _ (List.mem_of_getElem? (i := 3) rfl))) (mvT hZ (hw _ (List.mem_of_getElem? (i := 4) rfl))) (by decide) (backOf (W := 0) (rm1 l Z a0 hw [] q2 aB aR aS h0 n0 Z0 S_aB S_aR S_aS) hZ (hw _ (List.mem_of_getElem? (i := 4) rfl)) (hw _ (List.mem_of_getElem? (i := 3) rfl)) (by decide) (by decide)) (g := (mkF m 65 #[.val (.long q1), .second, .val (.long q2), .second, .val (.int (1 : Int32)), .val (.int ra), .unset, .unset, .unset] [(.long q2)])) rfl (by rw [hml]; rfl) (argsL := [(.long q2)]) (rest := []) (lenOf own_pd0 rfl) rfl (by show 2 * 0 + _ ≤ _; exact Nat.le_of_eq rfl) (hb hby at_65) (fun _ _ => ⟨rfl, e21, (by decide : 0 + 0 ≤ _), (by decide : 0 + 0 ≤ _)⟩)
  dsimp only [Pt.U, Pt.locs, Pt.cells, Pt.slots] at X22 l22 y22 z22 st22 hQ22
  subst l22 y22 z22
  obtain ⟨rfl, Nq22, e22⟩ := hQ22
  have N22 := Fr.app N21 Nq22
  refine own_up ?_ (st22)
  show own_G p.tables e below s _ _ _ (T22.setTop (mkF m 68 #[.val (.long q1), .second, .val (.long q2), .second, .val (.int (1 : Int32)), .val (.int ra), .unset, .unset, .unset] [(.ref (own_of aB aR aS q2))]))
  obtain ⟨_, _, ⟨T23, L23, k23, n23⟩, -, X23, ⟨Lc23, hQ23, l23, y23, z23⟩, st23⟩ := Jvm.LawKit.callS X22 hx (y := (⟨"com/example/touchmove/touchmove/arbiter/CategoryOfPinLaw", "rank", "(Lcom/example/touchmove/touchmove/arbiter/Category;)I"⟩ : MethodName)) hown (mvT hZ (hw _ (List.mem_of_getElem? (i := 19) rfl))) (mvT hZ (hw _ (List.mem_of_getElem? (i := 20) rfl))) (mvT hZ (hw _ (List.mem_of_getElem? (i := 21) rfl))) (mvT hZ (hw _ (List.mem_of_getElem? (i := 22) rfl))) (by decide) (backOf (W := 0) (rm2 l Z a0 hw [] (own_of aB aR aS q2) aB aR aS h0 n0 Z0 S_aB S_aR S_aS) hZ (hw _ (List.mem_of_getElem? (i := 22) rfl)) (hw _ (List.mem_of_getElem? (i := 21) rfl)) (by decide) (by decide)) (g := (mkF m 68 #[.val (.long q1), .second, .val (.long q2), .second, .val (.int (1 : Int32)), .val (.int ra), .unset, .unset, .unset] [(.ref (own_of aB aR aS q2))])) rfl (by rw [hml]; rfl) (argsL := [(.ref (own_of aB aR aS q2))]) (rest := []) (lenOf own_pd1 rfl) rfl (by show 2 * 0 + _ ≤ _; exact Nat.le_of_eq rfl) (hb hby at_68) (fun _ _ => ⟨rfl, e22, (by decide : 0 + 0 ≤ _), (by decide : 0 + 0 ≤ _)⟩)
  dsimp only [Pt.U, Pt.locs, Pt.cells, Pt.slots] at X23 l23 y23 z23 st23 hQ23
  subst l23 y23 z23
  obtain ⟨rfl, Nq23, e23⟩ := hQ23
  have N23 := Fr.app N22 Nq23
  refine own_up ?_ (st23)
  show own_G p.tables e below s _ _ _ (T23.setTop (mkF m 71 #[.val (.long q1), .second, .val (.long q2), .second, .val (.int (1 : Int32)), .val (.int ra), .unset, .unset, .unset] [(.int (own_rank aB aR aS (own_of aB aR aS q2)))]))
  refine own_up ?_ fun t k => XS.istore X23.here hx rfl (hb hby at_71) rfl (l' := #[.val (.long q1), .second, .val (.long q2), .second, .val (.int (1 : Int32)), .val (.int ra), .val (.int (own_rank aB aR aS (own_of aB aR aS q2))), .unset, .unset]) rfl k
  show own_G p.tables e below s _ _ _ (T23.setTop (mkF m 73 #[.val (.long q1), .second, .val (.long q2), .second, .val (.int (1 : Int32)), .val (.int ra), .val (.int (own_rank aB aR aS (own_of aB aR aS q2))), .unset, .unset] []))
  obtain ⟨rb, h_rb⟩ : ∃ z, z = (own_rank aB aR aS (own_of aB aR aS q2)) := ⟨_, rfl⟩
  rw [← h_rb]
  show own_G p.tables e below s _ _ _ (T23.setTop (mkF m 73 #[.val (.long q1), .second, .val (.long q2), .second, .val (.int (1 : Int32)), .val (.int ra), .val (.int rb), .unset, .unset] []))
  refine own_up ?_ fun t k => XS.iload X23.here hx rfl (hb hby at_73) rfl k
  show own_G p.tables e below s _ _ _ (T23.setTop (mkF m 75 #[.val (.long q1), .second, .val (.long q2), .second, .val (.int (1 : Int32)), .val (.int ra), .val (.int rb), .unset, .unset] [(.int ra)]))
  refine own_up ?_ fun t k => XS.iconst X23.here hx rfl (hb hby at_75) k
  show own_G p.tables e below s _ _ _ (T23.setTop (mkF m 76 #[.val (.long q1), .second, .val (.long q2), .second, .val (.int (1 : Int32)), .val (.int ra), .val (.int rb), .unset, .unset] [(.int (2 : Int32)), (.int ra)]))
  refine own_up ?_ fun t k => XS.icmpNo X23.here hx rfl (hb hby at_76) rfl (flt (own_le2 (h_ra.trans (own_rk n1 n2 n3 q1)) : ¬ ((2 : Int32) < ra))).2.2.1 k
  show own_G p.tables e below s _ _ _ (T23.setTop (mkF m 79 #[.val (.long q1), .second, .val (.long q2), .second, .val (.int (1 : Int32)), .val (.int ra), .val (.int rb), .unset, .unset] []))
  refine own_up ?_ fun t k => XS.iload X23.here hx rfl (hb hby at_79) rfl k
  show own_G p.tables e below s _ _ _ (T23.setTop (mkF m 81 #[.val (.long q1), .second, .val (.long q2), .second, .val (.int (1 : Int32)), .val (.int ra), .val (.int rb), .unset, .unset] [(.int rb)]))
  refine own_up ?_ fun t k => XS.iconst X23.here hx rfl (hb hby at_81) k
  show own_G p.tables e below s _ _ _ (T23.setTop (mkF m 82 #[.val (.long q1), .second, .val (.long q2), .second, .val (.int (1 : Int32)), .val (.int ra), .val (.int rb), .unset, .unset] [(.int (2 : Int32)), (.int rb)]))
  refine own_up ?_ fun t k => XS.icmpNo X23.here hx rfl (hb hby at_82) rfl (flt (own_le2 (h_rb.trans (own_rk n1 n2 n3 q2)) : ¬ ((2 : Int32) < rb))).2.2.1 k
  show own_G p.tables e below s _ _ _ (T23.setTop (mkF m 85 #[.val (.long q1), .second, .val (.long q2), .second, .val (.int (1 : Int32)), .val (.int ra), .val (.int rb), .unset, .unset] []))
  refine own_up ?_ fun t k => XS.iconst X23.here hx rfl (hb hby at_85) k
  show own_G p.tables e below s _ _ _ (T23.setTop (mkF m 86 #[.val (.long q1), .second, .val (.long q2), .second, .val (.int (1 : Int32)), .val (.int ra), .val (.int rb), .unset, .unset] [(.int (1 : Int32))]))
  refine own_up ?_ fun t k => XS.goto X23.here hx rfl (pc0 := 86) (pc' := 90) rfl (hb hby at_86) (by decide) (by decide) k
  show own_G p.tables e below s _ _ _ (T23.setTop (mkF m 90 #[.val (.long q1), .second, .val (.long q2), .second, .val (.int (1 : Int32)), .val (.int ra), .val (.int rb), .unset, .unset] [(.int (1 : Int32))]))
  refine own_up ?_ fun t k => XS.istore X23.here hx rfl (hb hby at_90) rfl (l' := #[.val (.long q1), .second, .val (.long q2), .second, .val (.int (1 : Int32)), .val (.int ra), .val (.int rb), .val (.int (1 : Int32)), .unset]) rfl k
  show own_G p.tables e below s _ _ _ (T23.setTop (mkF m 92 #[.val (.long q1), .second, .val (.long q2), .second, .val (.int (1 : Int32)), .val (.int ra), .val (.int rb), .val (.int (1 : Int32)), .unset] []))
  refine own_up ?_ fun t k => XS.lloadN X23.here hx rfl (hb hby at_92) rfl k
  show own_G p.tables e below s _ _ _ (T23.setTop (mkF m 93 #[.val (.long q1), .second, .val (.long q2), .second, .val (.int (1 : Int32)), .val (.int ra), .val (.int rb), .val (.int (1 : Int32)), .unset] [(.long q1)]))
  refine own_up ?_ fun t k => XS.lloadN X23.here hx rfl (hb hby at_93) rfl k
  show own_G p.tables e below s _ _ _ (T23.setTop (mkF m 94 #[.val (.long q1), .second, .val (.long q2), .second, .val (.int (1 : Int32)), .val (.int ra), .val (.int rb), .val (.int (1 : Int32)), .unset] [(.long q2), (.long q1)]))
  refine own_up ?_ fun t k => XS.lcmp X23.here hx rfl (hb hby at_94) rfl k
  show own_G p.tables e below s _ _ _ (T23.setTop (mkF m 95 #[.val (.long q1), .second, .val (.long q2), .second, .val (.int (1 : Int32)), .val (.int ra), .val (.int rb), .val (.int (1 : Int32)), .unset] [(.int (lcmpW q1 q2))]))
  by_cases hc95_24 : q2 < q1
  · refine own_up ?_ fun t k => XS.ifYes X23.here hx rfl (pc0 := 95) (pc' := 105) rfl (hb hby at_95) rfl ((if0 _ _).trans (tlt ((lw_gt _ _).mpr hc95_24)).2.2.1) (by decide) (by decide) k
    show own_G p.tables e below s _ _ _ (T23.setTop (mkF m 105 #[.val (.long q1), .second, .val (.long q2), .second, .val (.int (1 : Int32)), .val (.int ra), .val (.int rb), .val (.int (1 : Int32)), .unset] []))
    refine own_up ?_ fun t k => XS.iconst X23.here hx rfl (hb hby at_105) k
    show own_G p.tables e below s _ _ _ (T23.setTop (mkF m 106 #[.val (.long q1), .second, .val (.long q2), .second, .val (.int (1 : Int32)), .val (.int ra), .val (.int rb), .val (.int (1 : Int32)), .unset] [(.int (1 : Int32))]))
    refine own_up ?_ fun t k => XS.goto X23.here hx rfl (pc0 := 106) (pc' := 110) rfl (hb hby at_106) (by decide) (by decide) k
    show own_G p.tables e below s _ _ _ (T23.setTop (mkF m 110 #[.val (.long q1), .second, .val (.long q2), .second, .val (.int (1 : Int32)), .val (.int ra), .val (.int rb), .val (.int (1 : Int32)), .unset] [(.int (1 : Int32))]))
    refine own_up ?_ fun t k => XS.istore X23.here hx rfl (hb hby at_110) rfl (l' := #[.val (.long q1), .second, .val (.long q2), .second, .val (.int (1 : Int32)), .val (.int ra), .val (.int rb), .val (.int (1 : Int32)), .val (.int (1 : Int32))]) rfl k
    show own_G p.tables e below s _ _ _ (T23.setTop (mkF m 112 #[.val (.long q1), .second, .val (.long q2), .second, .val (.int (1 : Int32)), .val (.int ra), .val (.int rb), .val (.int (1 : Int32)), .val (.int (1 : Int32))] []))
    refine own_up ?_ fun t k => XS.iload X23.here hx rfl (hb hby at_112) rfl k
    show own_G p.tables e below s _ _ _ (T23.setTop (mkF m 114 #[.val (.long q1), .second, .val (.long q2), .second, .val (.int (1 : Int32)), .val (.int ra), .val (.int rb), .val (.int (1 : Int32)), .val (.int (1 : Int32))] [(.int (1 : Int32))]))
    refine own_up ?_ fun t k => XS.ifNo X23.here hx rfl (hb hby at_114) rfl ((if0 _ _).trans (feq (by decide : ¬ ((1 : Int32) = (0 : Int32)))).1) k
    show own_G p.tables e below s _ _ _ (T23.setTop (mkF m 117 #[.val (.long q1), .second, .val (.long q2), .second, .val (.int (1 : Int32)), .val (.int ra), .val (.int rb), .val (.int (1 : Int32)), .val (.int (1 : Int32))] []))
    refine own_up ?_ fun t k => XS.iload X23.here hx rfl (hb hby at_117) rfl k
    show own_G p.tables e below s _ _ _ (T23.setTop (mkF m 119 #[.val (.long q1), .second, .val (.long q2), .second, .val (.int (1 : Int32)), .val (.int ra), .val (.int rb), .val (.int (1 : Int32)), .val (.int (1 : Int32))] [(.int (1 : Int32))]))
    refine own_up ?_ fun t k => XS.ifNo X23.here hx rfl (hb hby at_119) rfl ((if0 _ _).trans (feq (by decide : ¬ ((1 : Int32) = (0 : Int32)))).1) k
    show own_G p.tables e below s _ _ _ (T23.setTop (mkF m 122 #[.val (.long q1), .second, .val (.long q2), .second, .val (.int (1 : Int32)), .val (.int ra), .val (.int rb), .val (.int (1 : Int32)), .val (.int (1 : Int32))] []))
    refine own_up ?_ fun t k => XS.iload X23.here hx rfl (hb hby at_122) rfl k
    show own_G p.tables e below s _ _ _ (T23.setTop (mkF m 124 #[.val (.long q1), .second, .val (.long q2), .second, .val (.int (1 : Int32)), .val (.int ra), .val (.int rb), .val (.int (1 : Int32)), .val (.int (1 : Int32))] [(.int (1 : Int32))]))
    refine own_up ?_ fun t k => XS.ifNo X23.here hx rfl (hb hby at_124) rfl ((if0 _ _).trans (feq (by decide : ¬ ((1 : Int32) = (0 : Int32)))).1) k
    show own_G p.tables e below s _ _ _ (T23.setTop (mkF m 127 #[.val (.long q1), .second, .val (.long q2), .second, .val (.int (1 : Int32)), .val (.int ra), .val (.int rb), .val (.int (1 : Int32)), .val (.int (1 : Int32))] []))
    refine own_up ?_ fun t k => XS.iconst X23.here hx rfl (hb hby at_127) k
    show own_G p.tables e below s _ _ _ (T23.setTop (mkF m 128 #[.val (.long q1), .second, .val (.long q2), .second, .val (.int (1 : Int32)), .val (.int ra), .val (.int rb), .val (.int (1 : Int32)), .val (.int (1 : Int32))] [(.int (1 : Int32))]))
    refine own_up ?_ fun t k => XS.goto X23.here hx rfl (pc0 := 128) (pc' := 132) rfl (hb hby at_128) (by decide) (by decide) k
    show own_G p.tables e below s _ _ _ (T23.setTop (mkF m 132 #[.val (.long q1), .second, .val (.long q2), .second, .val (.int (1 : Int32)), .val (.int ra), .val (.int rb), .val (.int (1 : Int32)), .val (.int (1 : Int32))] [(.int (1 : Int32))]))
    exact own_retI X23 hx hlk Bd.returns (by simp) rfl (hb hby at_132) ⟨rfl, N23⟩ (by decide) (by decide)
  · refine own_up ?_ fun t k => XS.ifNo X23.here hx rfl (hb hby at_95) rfl ((if0 _ _).trans (flt (fun q => hc95_24 ((lw_gt _ _).mp q))).2.2.1) k
    show own_G p.tables e below s _ _ _ (T23.setTop (mkF m 98 #[.val (.long q1), .second, .val (.long q2), .second, .val (.int (1 : Int32)), .val (.int ra), .val (.int rb), .val (.int (1 : Int32)), .unset] []))
    refine own_up ?_ fun t k => XS.iload X23.here hx rfl (hb hby at_98) rfl k
    show own_G p.tables e below s _ _ _ (T23.setTop (mkF m 100 #[.val (.long q1), .second, .val (.long q2), .second, .val (.int (1 : Int32)), .val (.int ra), .val (.int rb), .val (.int (1 : Int32)), .unset] [(.int ra)]))
    refine own_up ?_ fun t k => XS.iload X23.here hx rfl (hb hby at_100) rfl k
    show own_G p.tables e below s _ _ _ (T23.setTop (mkF m 102 #[.val (.long q1), .second, .val (.long q2), .second, .val (.int (1 : Int32)), .val (.int ra), .val (.int rb), .val (.int (1 : Int32)), .unset] [(.int rb), (.int ra)]))
    refine own_up ?_ fun t k => XS.icmpNo X23.here hx rfl (hb hby at_102) rfl (flt (own_mono (h_ra.trans (own_rk n1 n2 n3 q1)) (h_rb.trans (own_rk n1 n2 n3 q2)) hc95_24 : ¬ (rb < ra))).2.2.1 k
    show own_G p.tables e below s _ _ _ (T23.setTop (mkF m 105 #[.val (.long q1), .second, .val (.long q2), .second, .val (.int (1 : Int32)), .val (.int ra), .val (.int rb), .val (.int (1 : Int32)), .unset] []))
    refine own_up ?_ fun t k => XS.iconst X23.here hx rfl (hb hby at_105) k
    show own_G p.tables e below s _ _ _ (T23.setTop (mkF m 106 #[.val (.long q1), .second, .val (.long q2), .second, .val (.int (1 : Int32)), .val (.int ra), .val (.int rb), .val (.int (1 : Int32)), .unset] [(.int (1 : Int32))]))
    refine own_up ?_ fun t k => XS.goto X23.here hx rfl (pc0 := 106) (pc' := 110) rfl (hb hby at_106) (by decide) (by decide) k
    show own_G p.tables e below s _ _ _ (T23.setTop (mkF m 110 #[.val (.long q1), .second, .val (.long q2), .second, .val (.int (1 : Int32)), .val (.int ra), .val (.int rb), .val (.int (1 : Int32)), .unset] [(.int (1 : Int32))]))
    refine own_up ?_ fun t k => XS.istore X23.here hx rfl (hb hby at_110) rfl (l' := #[.val (.long q1), .second, .val (.long q2), .second, .val (.int (1 : Int32)), .val (.int ra), .val (.int rb), .val (.int (1 : Int32)), .val (.int (1 : Int32))]) rfl k
    show own_G p.tables e below s _ _ _ (T23.setTop (mkF m 112 #[.val (.long q1), .second, .val (.long q2), .second, .val (.int (1 : Int32)), .val (.int ra), .val (.int rb), .val (.int (1 : Int32)), .val (.int (1 : Int32))] []))
    refine own_up ?_ fun t k => XS.iload X23.here hx rfl (hb hby at_112) rfl k
    show own_G p.tables e below s _ _ _ (T23.setTop (mkF m 114 #[.val (.long q1), .second, .val (.long q2), .second, .val (.int (1 : Int32)), .val (.int ra), .val (.int rb), .val (.int (1 : Int32)), .val (.int (1 : Int32))] [(.int (1 : Int32))]))
    refine own_up ?_ fun t k => XS.ifNo X23.here hx rfl (hb hby at_114) rfl ((if0 _ _).trans (feq (by decide : ¬ ((1 : Int32) = (0 : Int32)))).1) k
    show own_G p.tables e below s _ _ _ (T23.setTop (mkF m 117 #[.val (.long q1), .second, .val (.long q2), .second, .val (.int (1 : Int32)), .val (.int ra), .val (.int rb), .val (.int (1 : Int32)), .val (.int (1 : Int32))] []))
    refine own_up ?_ fun t k => XS.iload X23.here hx rfl (hb hby at_117) rfl k
    show own_G p.tables e below s _ _ _ (T23.setTop (mkF m 119 #[.val (.long q1), .second, .val (.long q2), .second, .val (.int (1 : Int32)), .val (.int ra), .val (.int rb), .val (.int (1 : Int32)), .val (.int (1 : Int32))] [(.int (1 : Int32))]))
    refine own_up ?_ fun t k => XS.ifNo X23.here hx rfl (hb hby at_119) rfl ((if0 _ _).trans (feq (by decide : ¬ ((1 : Int32) = (0 : Int32)))).1) k
    show own_G p.tables e below s _ _ _ (T23.setTop (mkF m 122 #[.val (.long q1), .second, .val (.long q2), .second, .val (.int (1 : Int32)), .val (.int ra), .val (.int rb), .val (.int (1 : Int32)), .val (.int (1 : Int32))] []))
    refine own_up ?_ fun t k => XS.iload X23.here hx rfl (hb hby at_122) rfl k
    show own_G p.tables e below s _ _ _ (T23.setTop (mkF m 124 #[.val (.long q1), .second, .val (.long q2), .second, .val (.int (1 : Int32)), .val (.int ra), .val (.int rb), .val (.int (1 : Int32)), .val (.int (1 : Int32))] [(.int (1 : Int32))]))
    refine own_up ?_ fun t k => XS.ifNo X23.here hx rfl (hb hby at_124) rfl ((if0 _ _).trans (feq (by decide : ¬ ((1 : Int32) = (0 : Int32)))).1) k
    show own_G p.tables e below s _ _ _ (T23.setTop (mkF m 127 #[.val (.long q1), .second, .val (.long q2), .second, .val (.int (1 : Int32)), .val (.int ra), .val (.int rb), .val (.int (1 : Int32)), .val (.int (1 : Int32))] []))
    refine own_up ?_ fun t k => XS.iconst X23.here hx rfl (hb hby at_127) k
    show own_G p.tables e below s _ _ _ (T23.setTop (mkF m 128 #[.val (.long q1), .second, .val (.long q2), .second, .val (.int (1 : Int32)), .val (.int ra), .val (.int rb), .val (.int (1 : Int32)), .val (.int (1 : Int32))] [(.int (1 : Int32))]))
    refine own_up ?_ fun t k => XS.goto X23.here hx rfl (pc0 := 128) (pc' := 132) rfl (hb hby at_128) (by decide) (by decide) k
    show own_G p.tables e below s _ _ _ (T23.setTop (mkF m 132 #[.val (.long q1), .second, .val (.long q2), .second, .val (.int (1 : Int32)), .val (.int ra), .val (.int rb), .val (.int (1 : Int32)), .val (.int (1 : Int32))] [(.int (1 : Int32))]))
    exact own_retI X23 hx hlk Bd.returns (by simp) rfl (hb hby at_132) ⟨rfl, N23⟩ (by decide) (by decide)
set_option maxRecDepth 65536 in
set_option maxHeartbeats 40000000 in
theorem comes_1 {Post : Tables → Env → Array Value → State → Outcome → State → Prop} (hpost : ∀ tb e args s v u, (limb_1_1.after args s (.returned v) u = true ∧ limb_1_2.after args s (.returned v) u = true ∧ True) → FrameEnd s (.returned v) u (Jvm.fieldLocs frame_1_writes args s ++ Jvm.arrayLocs frame_1_arrays args s ++ Jvm.staticLocs frame_1_statics s) 0 0 → Post tb e args s (.returned v) u) :
    ArmFor flags0 classFile x code maxLocals ret World_1 tables_1 room_1 Calls_1 rest_1 Pre_1 Post := by
  intro l hfl _ _ p e ha hc hk s m args below hf hA hF happ hP
  obtain ⟨hcalls, hrest, hpre⟩ := hP
  obtain ⟨-, -, -, hnamed, -, -, -, hat⟩ := (Spec.applies_iff hf).mp happ
  obtain ⟨hg, hn⟩ := and_e (Cond.before_iff.mp (show (Jvm.Cond.and given_1 narrow_1).before args s = true from hpre))
  obtain ⟨gc, g0⟩ := and_e hg
  obtain ⟨gv0, g1⟩ := and_e g0
  obtain ⟨w0, w1, rfl⟩ : ∃ w0 w1 : Value, args = #[w0, w1] := by
    have hs : args.size = 2 := by simpa [Cond.value, given_1] using gc
    obtain ⟨L⟩ := args
    match L, hs with
    | [w0, w1], _ => exact ⟨w0, w1, rfl⟩
  have hw := fun d (hd : d ∈ tables_1) => atoms_spec (ws := Jvm.Cond.code x code maxLocals ret :: tables_1) hat d (List.mem_cons_of_mem _ hd)
  have hfit : Fit s := fun {y c} hc i hi => by
    obtain ⟨ha, rfl⟩ := Array.getElem?_eq_some_iff.mp hc
    have q := List.all_eq_true.mp ((Array.all_eq_true_iff_forall_mem.mp hF) _ (Array.getElem_mem ha)) i (List.mem_range.mpr hi)
    simpa [Array.getElem?_eq_getElem hi] using q
  obtain ⟨i0, ei0⟩ := isL_v gv0
  obtain rfl : w0 = (.long i0) := Option.some.inj ei0
  obtain ⟨i1, ei1⟩ := isL_v g1
  obtain rfl : w1 = (.long i1) := Option.some.inj ei1
  obtain ⟨x1, hn2⟩ := and_e hn
  obtain ⟨x2, hn3⟩ := and_e hn2
  obtain ⟨x3, hn4⟩ := and_e hn3
  obtain ⟨oS, hn5⟩ := and_e hn4
  obtain ⟨oB, oR⟩ := and_e hn5
  obtain ⟨aB, eB⟩ := exa_v x1
  obtain ⟨aR, eR⟩ := exa_v x2
  obtain ⟨aS, eS⟩ := exa_v x3
  have S_aB : Sta s s.heap "com/example/touchmove/touchmove/arbiter/Category" "BLITZ" "Lcom/example/touchmove/touchmove/arbiter/Category;" (.ref aB) := Sta.start eB (Or.inr ⟨(hw _ (List.mem_of_getElem? (i := 3) rfl)), (hw _ (List.mem_of_getElem? (i := 7) rfl))⟩)
  have S_aR : Sta s s.heap "com/example/touchmove/touchmove/arbiter/Category" "RAPID" "Lcom/example/touchmove/touchmove/arbiter/Category;" (.ref aR) := Sta.start eR (Or.inr ⟨(hw _ (List.mem_of_getElem? (i := 3) rfl)), (hw _ (List.mem_of_getElem? (i := 12) rfl))⟩)
  have S_aS : Sta s s.heap "com/example/touchmove/touchmove/arbiter/Category" "STANDARD" "Lcom/example/touchmove/touchmove/arbiter/Category;" (.ref aS) := Sta.start eS (Or.inr ⟨(hw _ (List.mem_of_getElem? (i := 3) rfl)), (hw _ (List.mem_of_getElem? (i := 17) rfl))⟩)
  obtain ⟨n, o, h1, h2, h3, _, L, rfl, ⟨rfl, N⟩, hq⟩ := rm0 l s _ hw tables_1 i0 i1 aB aR aS s.heap s.heap.size (Nat.le_refl _) S_aB S_aR S_aS (own_ne (own_at eB oB) (own_at eR oR) (by decide)) (own_ne (own_at eB oB) (own_at eS oS) (by decide)) (own_ne (own_at eR oR) (own_at eS oS) (by decide)) p e ha hc hk s m _ below hf ((Spec.applies_iff_loose hf).mp happ).1 ⟨rfl, State.Warmed39.refl s, rfl⟩ trivial
  refine ⟨n, _, h1, h2, h3, hpost _ _ _ _ _ _ ⟨Cond.after_iff.mpr rfl, Cond.after_iff.mpr (eq_i res_at (Term.int_eval (1)) rfl), trivial⟩ ⟨hq.1, hq.2.1, (hq.2.2.sift fun y hy => Or.inr (N y hy)).mono (by decide) (by decide)⟩⟩
theorem main_1_1 : Claimed_1_1 := comes_1 fun _ _ _ _ _ _ h hF => ⟨h.1, hF⟩
theorem main_1_2 : Claimed_1_2 := comes_1 fun _ _ _ _ _ _ h hF => ⟨h.2.1, hF⟩
end Jvm.Pilot.@@N@@
namespace Jvm.Pilot.@@N@@
open Jvm Jvm.ClassFile Sem Op Lib Jvm.Free Jvm.Stand Jvm.Pilot.@@N@@.Jvm.D
/-! MADE BY PROGRAM (witnessworld.py) out of the Statement's table words and the real class files: 12 classes; the members and pool entries that the words name. The judged class is class 1, her method 2. -/
namespace start1
open Jvm.ClassFile
def u (s : String) : CpInfo := .utf8 (stringToUtf16 s)
/-- a pool by its gaps: so many unusable entries, then the entry; so many at the end -/
def gap : Nat → List CpInfo → List CpInfo
  | 0, r => r
  | n + 1, r => .unusable :: gap n r
def poolList (es : List (Nat × CpInfo)) (last : Nat) : List CpInfo := es.foldr (fun e r => gap e.1 (e.2 :: r)) (gap last [])
def pool (es : List (Nat × CpInfo)) (last : Nat) : Array CpInfo := ⟨poolList es last⟩
def fileOf (pool : Array CpInfo) (this : Nat) (attrs : Array Attribute := #[]) (ms : Array MethodInfo := #[]) (fl : Nat := 33) (sup : Nat := 0) (ifs : Array Nat := #[]) (fds : Array FieldInfo := #[]) : ClassFile where
  minorVersion := 0
  majorVersion := 65
  constantPool := pool
  accessFlags := fl
  thisClass := this
  superClass := sup
  interfaces := ifs
  fields := fds
  methods := ms
  attributes := attrs
def plain (name : String) (sup : Option ClassId) : Class where
  name := name
  kind := .ordinary
  loader := none
  accessFlags := 33
  super := sup
  interfaces := #[]
  cf := none
  fields := #[]
  methods := #[]
  instanceTypes := #[]
  staticTypes := #[]
  resolved := #[]
  callSites := []
  init := .initialized
  statics := none
  mirror := none

def pool0 : Array CpInfo := pool [(5, u "<init>"), (0, u "()V"), (1, .class_ 10), (1, u "java/lang/Object")] 113

def k0m0 : Method := { name := "<init>", desc := "()V", sig := { parameters := [], returnType := none }, accessFlags := 1, code := none }
/-- java/lang/Object -/
def k0 : Class := { plain "java/lang/Object" none with
  accessFlags := 33
  interfaces := #[]
  cf := some (fileOf pool0 8 #[] #[{ accessFlags := 1, nameIndex := 5, descriptorIndex := 6, attributes := #[] }] 33 0 #[] #[])
  fields := #[]
  methods := #[k0m0]
  instanceTypes := #[]
  staticTypes := #[]
  resolved := Array.replicate 124 none
  statics := none }

def pool1 : Array CpInfo := pool [(2, .class_ 4), (1, u "java/lang/Object"), (0, u "<init>"), (0, u "()V"), (0, .fieldref 8 9), (0, .class_ 10), (0, .nameAndType 11 12), (0, u "com/example/touchmove/touchmove/arbiter/Category"), (0, u "BLITZ"), (0, u "Lcom/example/touchmove/touchmove/arbiter/Category;"), (0, .fieldref 8 14), (0, .nameAndType 15 12), (0, u "RAPID"), (0, .fieldref 8 17), (0, .nameAndType 18 12), (0, u "STANDARD"), (0, .long 600), (1, .methodref 8 22), (0, .nameAndType 23 24), (0, u "of"), (0, u "(J)Lcom/example/touchmove/touchmove/arbiter/Category;"), (0, .long 601), (1, .long 3599), (1, .long 3600), (1, .methodref 32 33), (0, .class_ 34), (0, .nameAndType 35 36), (0, u "com/example/touchmove/touchmove/arbiter/CategoryOfPinLaw"), (0, u "rank"), (0, u "(Lcom/example/touchmove/touchmove/arbiter/Category;)I"), (3, u "law"), (0, u "(JJ)Z")] 2

def k1m0 : Method := { name := "<init>", desc := "()V", sig := { parameters := [], returnType := none }, accessFlags := 1, code := none }
def k1c1 : Code := { maxStack := 2, maxLocals := 1, code := method_2_code, exceptionTable := #[], attributes := #[] }
def k1m1 : Method := { name := "rank", desc := "(Lcom/example/touchmove/touchmove/arbiter/Category;)I", sig := { parameters := [(.object "com/example/touchmove/touchmove/arbiter/Category")], returnType := some .int }, accessFlags := 10, code := some k1c1 }
def k1c2 : Code := { maxStack := 4, maxLocals := 9, code := code, exceptionTable := #[], attributes := #[] }
def k1m2 : Method := { name := "law", desc := "(JJ)Z", sig := { parameters := [.long, .long], returnType := some .boolean }, accessFlags := 9, code := some k1c2 }
/-- com/example/touchmove/touchmove/arbiter/CategoryOfPinLaw -/
def k1 : Class := { plain "com/example/touchmove/touchmove/arbiter/CategoryOfPinLaw" (some 0) with
  accessFlags := 49
  interfaces := #[]
  cf := some (fileOf pool1 32 #[] #[{ accessFlags := 1, nameIndex := 5, descriptorIndex := 6, attributes := #[] }, { accessFlags := 10, nameIndex := 35, descriptorIndex := 36, attributes := #[] }, { accessFlags := 9, nameIndex := 40, descriptorIndex := 41, attributes := #[] }] 49 2 #[] #[])
  fields := #[]
  methods := #[k1m0, k1m1, k1m2]
  instanceTypes := #[]
  staticTypes := #[]
  resolved := Array.replicate 44 none
  statics := none }

def pool2 : Array CpInfo := pool [(1, .class_ 2), (0, u "java/lang/constant/Constable"), (0, .class_ 4), (0, u "java/lang/Object")] 6

/-- java/lang/constant/Constable -/
def k2 : Class := { plain "java/lang/constant/Constable" (some 0) with
  accessFlags := 1537
  interfaces := #[]
  cf := some (fileOf pool2 1 #[] #[] 1537 3 #[] #[])
  fields := #[]
  methods := #[]
  instanceTypes := #[]
  staticTypes := #[]
  resolved := Array.replicate 11 none
  statics := none }

def pool3 : Array CpInfo := pool [(1, .class_ 2), (0, u "java/lang/Comparable"), (0, .class_ 4), (0, u "java/lang/Object")] 7

/-- java/lang/Comparable -/
def k3 : Class := { plain "java/lang/Comparable" (some 0) with
  accessFlags := 1537
  interfaces := #[]
  cf := some (fileOf pool3 1 #[] #[] 1537 3 #[] #[])
  fields := #[]
  methods := #[]
  instanceTypes := #[]
  staticTypes := #[]
  resolved := Array.replicate 12 none
  statics := none }

def pool4 : Array CpInfo := pool [(1, .class_ 2), (0, u "java/io/Serializable"), (0, .class_ 4), (0, u "java/lang/Object")] 2

/-- java/io/Serializable -/
def k4 : Class := { plain "java/io/Serializable" (some 0) with
  accessFlags := 1537
  interfaces := #[]
  cf := some (fileOf pool4 1 #[] #[] 1537 3 #[] #[])
  fields := #[]
  methods := #[]
  instanceTypes := #[]
  staticTypes := #[]
  resolved := Array.replicate 7 none
  statics := none }

def pool5 : Array CpInfo := pool [(2, .class_ 4), (1, u "java/lang/Enum"), (0, u "name"), (0, u "Ljava/lang/String;"), (2, u "ordinal"), (0, u "I"), (1, .class_ 14), (1, u "java/lang/Object"), (4, u "hash"), (86, .class_ 108), (1, u "java/lang/Enum$EnumDesc"), (2, .class_ 112), (0, u "java/lang/constant/Constable"), (0, .class_ 114), (0, u "java/lang/Comparable"), (0, .class_ 116), (0, u "java/io/Serializable")] 87

/-- java/lang/Enum -/
def k5 : Class := { plain "java/lang/Enum" (some 0) with
  accessFlags := 1057
  interfaces := #[2, 3, 4]
  cf := some (fileOf pool5 2 #[.nestMembers #[106]] #[] 1057 12 #[111, 113, 115] #[{ accessFlags := 18, nameIndex := 5, descriptorIndex := 6, attributes := #[] }, { accessFlags := 18, nameIndex := 9, descriptorIndex := 10, attributes := #[] }, { accessFlags := 2, nameIndex := 19, descriptorIndex := 10, attributes := #[] }])
  fields := #[{ name := "name", type := (.object "java/lang/String"), accessFlags := 18, slot := 0, constantValue := 0 }, { name := "ordinal", type := .int, accessFlags := 18, slot := 1, constantValue := 0 }, { name := "hash", type := .int, accessFlags := 2, slot := 2, constantValue := 0 }]
  methods := #[]
  instanceTypes := #[(.object "java/lang/String"), .int, .int]
  staticTypes := #[]
  resolved := Array.replicate 204 none
  statics := none }

def pool6 : Array CpInfo := pool [(1, .class_ 2), (0, u "com/example/touchmove/touchmove/arbiter/Category"), (0, .fieldref 1 4), (0, .nameAndType 5 6), (0, u "BLITZ"), (0, u "Lcom/example/touchmove/touchmove/arbiter/Category;"), (0, .fieldref 1 8), (0, .nameAndType 9 6), (0, u "RAPID"), (0, .fieldref 1 11), (0, .nameAndType 12 6), (0, u "STANDARD"), (2, u "$VALUES"), (0, u "[Lcom/example/touchmove/touchmove/arbiter/Category;"), (6, .class_ 25), (1, u "java/lang/Enum"), (6, .long 600), (1, .long 3600), (25, u "BLITZ_AT_MOST"), (0, u "J"), (1, u "RAPID_BELOW"), (7, u "of"), (0, u "(J)Lcom/example/touchmove/touchmove/arbiter/Category;")] 6

def k6c0 : Code := { maxStack := 4, maxLocals := 3, code := prog_12_method_4_code, exceptionTable := #[], attributes := #[] }
def k6m0 : Method := { name := "of", desc := "(J)Lcom/example/touchmove/touchmove/arbiter/Category;", sig := { parameters := [.long], returnType := some (.object "com/example/touchmove/touchmove/arbiter/Category") }, accessFlags := 8, code := some k6c0 }
/-- com/example/touchmove/touchmove/arbiter/Category -/
def k6 : Class := { plain "com/example/touchmove/touchmove/arbiter/Category" (some 5) with
  accessFlags := 16432
  interfaces := #[]
  cf := some (fileOf pool6 1 #[] #[{ accessFlags := 8, nameIndex := 71, descriptorIndex := 72, attributes := #[] }] 16432 23 #[] #[{ accessFlags := 16409, nameIndex := 5, descriptorIndex := 6, attributes := #[] }, { accessFlags := 16409, nameIndex := 9, descriptorIndex := 6, attributes := #[] }, { accessFlags := 16409, nameIndex := 12, descriptorIndex := 6, attributes := #[] }, { accessFlags := 26, nameIndex := 60, descriptorIndex := 61, attributes := #[] }, { accessFlags := 26, nameIndex := 63, descriptorIndex := 61, attributes := #[] }, { accessFlags := 4122, nameIndex := 15, descriptorIndex := 16, attributes := #[] }])
  fields := #[{ name := "BLITZ", type := (.object "com/example/touchmove/touchmove/arbiter/Category"), accessFlags := 16409, slot := 0, constantValue := 0 }, { name := "RAPID", type := (.object "com/example/touchmove/touchmove/arbiter/Category"), accessFlags := 16409, slot := 1, constantValue := 0 }, { name := "STANDARD", type := (.object "com/example/touchmove/touchmove/arbiter/Category"), accessFlags := 16409, slot := 2, constantValue := 0 }, { name := "BLITZ_AT_MOST", type := .long, accessFlags := 26, slot := 3, constantValue := 0 }, { name := "RAPID_BELOW", type := .long, accessFlags := 26, slot := 4, constantValue := 0 }, { name := "$VALUES", type := (.array (.object "com/example/touchmove/touchmove/arbiter/Category")), accessFlags := 4122, slot := 5, constantValue := 0 }]
  methods := #[k6m0]
  instanceTypes := #[(.object "java/lang/String"), .int, .int]
  staticTypes := #[(.object "com/example/touchmove/touchmove/arbiter/Category"), (.object "com/example/touchmove/touchmove/arbiter/Category"), (.object "com/example/touchmove/touchmove/arbiter/Category"), .long, .long, (.array (.object "com/example/touchmove/touchmove/arbiter/Category"))]
  resolved := Array.replicate 79 none
  statics := some 0 }

def pool7 : Array CpInfo := pool [(1, u "java/lang/Cloneable"), (0, .class_ 1), (0, u "java/lang/Object"), (0, .class_ 3)] 3

/-- java/lang/Cloneable -/
def k7 : Class := { plain "java/lang/Cloneable" (some 0) with
  accessFlags := 1537
  interfaces := #[]
  cf := some (fileOf pool7 2 #[] #[] 1537 4 #[] #[])
  fields := #[]
  methods := #[]
  instanceTypes := #[]
  staticTypes := #[]
  resolved := Array.replicate 8 none
  statics := none }

/-- the primitive byte -/
def k8 : Class := { plain "byte" none with kind := .primitive 'B', accessFlags := 0x411 }
/-- [B -/
def k9 : Class := { plain "[B" (some 0) with kind := .array 8 .byte, interfaces := #[7, 4], accessFlags := 1041 }

/-- the primitive int -/
def k10 : Class := { plain "int" none with kind := .primitive 'I', accessFlags := 0x411 }
/-- [I -/
def k11 : Class := { plain "[I" (some 0) with kind := .array 10 .int, interfaces := #[7, 4], accessFlags := 1041 }

def heap : Heap := #[{ cls := 6, slots := #[.ref 1, .ref 2, .ref 3, .long 0, .long 0, .null], vm := .statics 6 },
  { cls := 6, slots := #[.null, .int 0, .int 0], vm := .none },
  { cls := 6, slots := #[.null, .int 1, .int 0], vm := .none },
  { cls := 6, slots := #[.null, .int 2, .int 0], vm := .none }]
def classes : Array Class := #[k0, k1, k2, k3, k4, k5, k6, k7, k8, k9, k10, k11]
def interned : List (Array UInt16 × Addr) := []
def slotsUsed : Nat := 15
def theMethod : MethodId := ⟨1, 2⟩
def args0 : Array Value := #[.long 5, .long 700]
def aboutOver (below : List Frame) : State where
  vm := { classes := classes, interned := interned.toArray }
  heap := heap
  slotsUsed := slotsUsed
  threads := #[{ frames := .invoking theMethod args0 :: below }]
def below0 : List Frame := [.native { method := ⟨0, 0⟩, args := #[] }]
def about1 : State := aboutOver below0
def p0 : Program := .bare "" "" ""
def e0 : Env := launch0.env 0 0 0
theorem w_frames : about1.frames = Frame.invoking theMethod args0 :: below0 := rfl
set_option maxRecDepth 65536 in
theorem w_args : argsFit about1.vm theMethod args0 = true := by decide +kernel
set_option maxRecDepth 65536 in
theorem w_heap : heapFits about1 = true := by decide +kernel
set_option maxRecDepth 65536 in
theorem w_runnable : about1.curStatus? = some .runnable := by decide +kernel
set_option maxRecDepth 65536 in
theorem w_alone : about1.alone = true := by decide +kernel
set_option maxRecDepth 65536 in
theorem w_named : about1.methodNamed? x = some theMethod := by decide +kernel
set_option maxRecDepth 65536 in
theorem w_hears : about1.hears theMethod below0 = true := by decide +kernel
set_option maxRecDepth 65536 in
theorem w_ripe : about1.ripe theMethod args0 below0 = true := by decide +kernel
theorem w_running : about1.status = .running := rfl
set_option maxRecDepth 65536 in
theorem w_room : about1.hasRoom e0.platform room_1 = true :=
  launch0.hasRoom_least _ room_1 (by decide +kernel) (by decide +kernel) (by decide +kernel) (by decide +kernel) (by decide +kernel) (by decide +kernel)
theorem allAtoms_all (ts : List Jvm.Cond) (a : Array Jvm.Value) (st : Jvm.State) : (allAtoms ts).before a st = ts.all (fun c => c.before a st) := by
  induction ts with
  | nil => rfl
  | cons c t ih =>
    show (Jvm.Cond.and c (allAtoms t)).before a st = _
    rw [Jvm.Cond.before_and, ih, List.all_cons]
def words1 : List Jvm.Cond := Jvm.Cond.code x code maxLocals ret :: tables_1
/-- a 'code' word, met by the world's own term for the bytes: nothing is compared byte by byte -/
theorem code_word {y : MethodName} {bytes : ByteArray} {mx : Nat} {rt : Option FieldType} {a : Array Value} {s : State} {m : MethodId} {meth : Method} {c : Code} (h1 : s.methodNamed? y = some m) (h2 : s.vm.method? m = some meth) (h3 : meth.code = some c) (h4 : c.code = bytes)
    (h5 : (c.maxLocals == mx && c.exceptionTable.isEmpty && decide (c.maxStack ≤ mostOperands) && decide (meth.sig.returnType = rt) && !meth.locks && decide (parseMethodDescriptor y.desc = some meth.sig)) = true) : (Jvm.Cond.code y bytes mx rt).before a s = true := by
  simp only [Bool.and_eq_true, beq_iff_eq, Bool.not_eq_true', decide_eq_true_eq] at h5
  obtain ⟨⟨⟨⟨⟨g1, g2⟩, g3⟩, g4⟩, g5⟩, g6⟩ := h5
  simp [Cond.before, Cond.holds, Cond.value, h1, h2, h3, h4, g1, g2, g3, g4, g5, g6]
def isCode : Jvm.Cond → Bool
  | .code _ _ _ _ => true
  | _ => false
theorem all_split {L : List Jvm.Cond} {P : Jvm.Cond → Bool} (h1 : L.all (fun c => isCode c || P c) = true) (h2 : ∀ c ∈ L.filter isCode, P c = true) : L.all P = true := by
  refine List.all_eq_true.mpr fun c hc => ?_
  have h := List.all_eq_true.mp h1 c hc
  rcases Bool.eq_false_or_eq_true (isCode c) with hi | hi
  · exact h2 c (List.mem_filter.mpr ⟨hc, hi⟩)
  · simpa [hi] using h
set_option maxRecDepth 65536 in
theorem w_c0 : (Jvm.Cond.code x code maxLocals ret).before args0 about1 = true := code_word (m := ⟨1, 2⟩) (meth := k1m2) (c := k1c2) (by decide +kernel) rfl rfl rfl (by decide +kernel)
set_option maxRecDepth 65536 in
theorem w_c1 : (Jvm.Cond.code ({ cls := "com/example/touchmove/touchmove/arbiter/Category", name := "of", desc := "(J)Lcom/example/touchmove/touchmove/arbiter/Category;" } : Jvm.MethodName) prog_12_method_4_code (3 : Nat) (Option.some (Jvm.ClassFile.FieldType.object "com/example/touchmove/touchmove/arbiter/Category"))).before args0 about1 = true := code_word (m := ⟨6, 0⟩) (meth := k6m0) (c := k6c0) (by decide +kernel) rfl rfl rfl (by decide +kernel)
set_option maxRecDepth 65536 in
theorem w_c2 : (Jvm.Cond.code ({ cls := "com/example/touchmove/touchmove/arbiter/CategoryOfPinLaw", name := "rank", desc := "(Lcom/example/touchmove/touchmove/arbiter/Category;)I" } : Jvm.MethodName) method_2_code (1 : Nat) (Option.some Jvm.ClassFile.FieldType.int)).before args0 about1 = true := code_word (m := ⟨1, 1⟩) (meth := k1m1) (c := k1c1) (by decide +kernel) rfl rfl rfl (by decide +kernel)
def codes1 : List Jvm.Cond := [Jvm.Cond.code x code maxLocals ret, Jvm.Cond.code ({ cls := "com/example/touchmove/touchmove/arbiter/Category", name := "of", desc := "(J)Lcom/example/touchmove/touchmove/arbiter/Category;" } : Jvm.MethodName) prog_12_method_4_code (3 : Nat) (Option.some (Jvm.ClassFile.FieldType.object "com/example/touchmove/touchmove/arbiter/Category")), Jvm.Cond.code ({ cls := "com/example/touchmove/touchmove/arbiter/CategoryOfPinLaw", name := "rank", desc := "(Lcom/example/touchmove/touchmove/arbiter/Category;)I" } : Jvm.MethodName) method_2_code (1 : Nat) (Option.some Jvm.ClassFile.FieldType.int)]
set_option maxRecDepth 65536 in
theorem codes_eq : words1.filter isCode = codes1 := rfl
theorem w_codes : ∀ c ∈ words1.filter isCode, c.before args0 about1 = true := by
  rw [codes_eq]
  intro c hc
  simp only [codes1, List.mem_cons, List.not_mem_nil, or_false] at hc
  rcases hc with rfl | rfl | rfl
  · exact w_c0
  · exact w_c1
  · exact w_c2
set_option maxRecDepth 65536 in
theorem w_t1 : words1.all (fun c => isCode c || c.before args0 about1) = true := by decide +kernel
theorem w_tables : (allAtoms (Jvm.Cond.code x code maxLocals ret :: tables_1)).before args0 about1 = true := by
  rw [allAtoms_all]
  show words1.all (fun c => c.before args0 about1) = true
  refine all_split ?_ w_codes
  rw [w_t1]
set_option maxRecDepth 65536 in
theorem w_case : (Jvm.Cond.and given_1 narrow_1).before args0 about1 = true := by decide +kernel
theorem w_applies : (headSpec (Jvm.Cond.code x code maxLocals ret :: tables_1) room_1).applies x e0.platform about1 = true :=
  (Spec.applies_iff w_frames).mpr ⟨w_running, w_runnable, w_alone, w_named, w_hears, w_ripe, w_room, w_tables⟩
theorem atStart : AtStart classFile x code maxLocals ret World_1 tables_1 room_1 Calls_1 rest_1 Pre_1 launch0 p0 e0 about1 theMethod args0 below0 :=
  ⟨lists_1, trivial, launch0.admits_env _ _ _, launch0.least_env, fairChoices_fair.cas, fairChoices_fair.clock, w_frames, w_args, w_heap, w_applies, trivial, trivial, w_case⟩
end start1
theorem witness_1 : WitnessClaimed_1 := ⟨start1.p0, start1.e0, start1.about1, start1.theMethod, start1.args0, start1.below0, start1.atStart⟩
end Jvm.Pilot.@@N@@
