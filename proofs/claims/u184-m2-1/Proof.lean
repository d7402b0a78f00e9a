import JvmDerived
import JvmDerived.Pilot.@@N@@Statement
import JvmDerived.Pilot.@@N@@Code
set_option linter.unusedVariables false
set_option linter.unusedSimpArgs false
namespace Jvm.Pilot.@@N@@
open Jvm Jvm.ClassFile Sem Op Lib Jvm.Free Jvm.Stand Jvm.LawKit Jvm.RoadKit Bundle Jvm.Pilot.@@N@@.Jvm.D
section Own
/-- from the state U the body comes to its end, and P holds there of what it returns, of the heap and of the places that were written -/
def own_G (tb : Tables) (e : Env) (below : List Frame) (s : State) (P : Option Value → Heap → List Loc → Prop) (k n : Nat) (U : State) : Prop :=
  ∃ s₂ o, Steps tb e below U s₂ ∧ s₂.status = .running ∧ Ended s₂ below o ∧ ∃ v L, o = .returned v ∧ P v s₂.heap L ∧ FrameEnd s o s₂ L k n
theorem own_up {tb : Tables} {e : Env} {below : List Frame} {s : State} {P : Option Value → Heap → List Loc → Prop} {k n : Nat} {U U' : State} (h : own_G tb e below s P k n U') (q : ∀ t, Steps tb e below U' t → Steps tb e below U t) : own_G tb e below s P k n U := by
  obtain ⟨s₂, o, h1, r⟩ := h
  exact ⟨s₂, o, q _ h1, r⟩
variable {p : Program} {l : Launch} {e : Env} {R : Room} {s : State} {m : MethodId} {args : Array Value} {below : List Frame} {meth : Method} {c : Code} {T : State} {locs : List Loc} {cells slots : Nat} {P : Option Value → Heap → List Loc → Prop} {k n : Nat}
theorem own_retI (X : Stand p l e R s m args below meth c T locs cells slots) (hx : p.tables.exec = Jvm.exec) (hlk : meth.locks = false) {t : FieldType} (hret : meth.sig.returnType = some t) (hti : t = .int ∨ t = .boolean ∨ t = .byte ∨ t = .char ∨ t = .short) {pc : Nat} {Ls : Array Slot} {w : Int32} (hn : narrow t (.int w) = .int w) (hd : decode c.code pc = .ok (.ireturn, 1)) (hP : P (some (.int w)) T.heap locs) (hk : cells ≤ k) (hs : slots ≤ n) : own_G p.tables e below s P k n (T.setTop (mkF m pc Ls [.int w])) := by
  obtain ⟨fs, hr, hrun, hended, hW, hsame⟩ := X.leave (v := some (.int w)) (fun h => by rw [hret] at h; cases h) hlk
  exact ⟨_, _, X.ireturnOut hx hret hn hti hd hr, hrun, hended, _, _, rfl, hP, ⟨_, rfl⟩, hW, hsame.mono hk hs⟩
theorem own_retJ (X : Stand p l e R s m args below meth c T locs cells slots) (hx : p.tables.exec = Jvm.exec) (hlk : meth.locks = false) (hret : meth.sig.returnType = some .long) {pc : Nat} {Ls : Array Slot} {w : Int64} (hd : decode c.code pc = .ok (.lreturn, 1)) (hP : P (some (.long w)) T.heap locs) (hk : cells ≤ k) (hs : slots ≤ n) : own_G p.tables e below s P k n (T.setTop (mkF m pc Ls [.long w])) := by
  obtain ⟨fs, hr, hrun, hended, hW, hsame⟩ := X.leave (v := some (.long w)) (fun h => by rw [hret] at h; cases h) hlk
  exact ⟨_, _, X.lreturnOut hx hret hd hr, hrun, hended, _, _, rfl, hP, ⟨_, rfl⟩, hW, hsame.mono hk hs⟩
theorem own_retA (X : Stand p l e R s m args below meth c T locs cells slots) (hx : p.tables.exec = Jvm.exec) (hlk : meth.locks = false) {t : FieldType} (hret : meth.sig.returnType = some t) (ht : t.isReference = true) {pc : Nat} {Ls : Array Slot} {w : Value} (hw : w.isRef = true) (hd : decode c.code pc = .ok (.areturn, 1)) (hP : P (some w) T.heap locs) (hk : cells ≤ k) (hs : slots ≤ n) : own_G p.tables e below s P k n (T.setTop (mkF m pc Ls [w])) := by
  obtain ⟨fs, hr, hrun, hended, hW, hsame⟩ := X.leave (v := some w) (fun h => by rw [hret] at h; cases h) hlk
  exact ⟨_, _, X.areturnOut hx hw hret ht hd hr, hrun, hended, _, _, rfl, hP, ⟨_, rfl⟩, hW, hsame.mono hk hs⟩
theorem own_retV (X : Stand p l e R s m args below meth c T locs cells slots) (hx : p.tables.exec = Jvm.exec) (hlk : meth.locks = false) (hret : meth.sig.returnType = none) {pc : Nat} {Ls : Array Slot} (hd : decode c.code pc = .ok (.return_, 1)) (hP : P none T.heap locs) (hk : cells ≤ k) (hs : slots ≤ n) : own_G p.tables e below s P k n (T.setTop (mkF m pc Ls [])) := by
  obtain ⟨fs, hr, hrun, hended, hW, hsame⟩ := X.leave (v := none) (fun _ => rfl) hlk
  exact ⟨_, _, X.returnOut hx hret hd hr, hrun, hended, _, _, rfl, hP, ⟨_, rfl⟩, hW, hsame.mono hk hs⟩
end Own
def own_min (a b : Int64) : Int64 := if b < a then b else a
def own_max (a b : Int64) : Int64 := if a < b then b else a
def own_in (l t r b x y : Int64) : Int32 := if x < l then 0 else if x < r then (if y < t then 0 else if y < b then 1 else 0) else 0
def own_holds (l t r b ol ot orr ob : Int64) : Int32 := if ol < l then 0 else if ot < t then 0 else if r < orr then 0 else if b < ob then 0 else 1
theorem own_law (a b c d : Int64) {ol ot orr ob : Int64} (h_ol : ol = own_min a c) (h_ot : ot = own_min b d) (h_orr : orr = own_max a c) (h_ob : ob = own_max b d) (h1 : ¬ ol = orr) (h2 : ¬ ot = ob) (l t r bo : Int64) :
    own_holds l t r bo ol ot orr ob = (if own_in l t r bo ol ot = 0 then 0 else if own_in l t r bo (orr - (1 : Int64)) (ob - (1 : Int64)) = 0 then 0 else 1) := by
  have k1 : ol < orr := by
    subst h_ol h_orr
    unfold own_min own_max at *
    simp only [Int64.lt_iff_toInt_lt, ← Int64.toInt_inj] at *
    split <;> split <;> simp_all <;> omega
  have k2 : ot < ob := by
    subst h_ot h_ob
    unfold own_min own_max at *
    simp only [Int64.lt_iff_toInt_lt, ← Int64.toInt_inj] at *
    split <;> split <;> simp_all <;> omega
  have e1 : (orr - (1 : Int64)).toInt = orr.toInt - 1 := by
    have := c_lsub orr 1
    have := rng64 orr; have := rng64 ol; have := rng64 (orr - 1)
    rw [Int64.lt_iff_toInt_lt] at k1
    have : (1 : Int64).toInt = 1 := rfl
    omega
  have e2 : (ob - (1 : Int64)).toInt = ob.toInt - 1 := by
    have := c_lsub ob 1
    have := rng64 ob; have := rng64 ot; have := rng64 (ob - 1)
    rw [Int64.lt_iff_toInt_lt] at k2
    have : (1 : Int64).toInt = 1 := rfl
    omega
  clear h_ol h_ot h_orr h_ob h1 h2
  unfold own_holds own_in
  simp only [Int64.lt_iff_toInt_lt, e1, e2] at *
  generalize ol.toInt = xol at *; generalize ot.toInt = xot at *; generalize orr.toInt = xor at *; generalize ob.toInt = xob at *
  generalize l.toInt = xl at *; generalize t.toInt = xt at *; generalize r.toInt = xr at *; generalize bo.toInt = xb at *
  by_cases c1 : xol < xl
  · simp [c1]
  by_cases c2 : xot < xt
  · simp [c1, c2]
  by_cases c3 : xr < xor
  · have : ¬ (xor - 1 < xr) := by omega
    simp [c1, c2, c3, this]
  by_cases c4 : xb < xob
  · have : ¬ (xob - 1 < xb) := by omega
    simp [c1, c2, c3, c4, this]
  have a1 : xol < xr := by omega
  have a2 : xot < xb := by omega
  have a3 : xor - 1 < xr := by omega
  have a4 : xob - 1 < xb := by omega
  have a5 : ¬ (xor - 1 < xl) := by omega
  have a6 : ¬ (xob - 1 < xt) := by omega
  simp [c1, c2, c3, c4, a1, a2, a3, a4, a5, a6]
theorem own_pd0 : parseMethodDescriptor "()V" = some ⟨[], none⟩ := by decide +kernel
theorem own_pd1 : parseMethodDescriptor "(JJ)J" = some ⟨[.long, .long], some .long⟩ := by decide +kernel
theorem own_pd2 : parseMethodDescriptor "(JJJJ)V" = some ⟨[.long, .long, .long, .long], none⟩ := by decide +kernel
theorem own_pd3 : parseMethodDescriptor "(JJJJJJ)Z" = some ⟨[.long, .long, .long, .long, .long, .long], some .boolean⟩ := by decide +kernel
theorem own_pd4 : parseMethodDescriptor "(Lcom/example/mullion/mullion/Area;)Z" = some ⟨[(.object "com/example/mullion/mullion/Area")], some .boolean⟩ := by decide +kernel
theorem own_d1_0 : decode jdk_29_method_70_code 0 = .ok (.lload_n 0, 1) := by decide +kernel
theorem own_d1_1 : decode jdk_29_method_70_code 1 = .ok (.lload_n 2, 1) := by decide +kernel
theorem own_d1_2 : decode jdk_29_method_70_code 2 = .ok (.lcmp, 1) := by decide +kernel
theorem own_d1_3 : decode jdk_29_method_70_code 3 = .ok (.ifCond .gt 7, 3) := by decide +kernel
theorem own_d1_6 : decode jdk_29_method_70_code 6 = .ok (.lload_n 0, 1) := by decide +kernel
theorem own_d1_7 : decode jdk_29_method_70_code 7 = .ok (.goto 4, 3) := by decide +kernel
theorem own_d1_10 : decode jdk_29_method_70_code 10 = .ok (.lload_n 2, 1) := by decide +kernel
theorem own_d1_11 : decode jdk_29_method_70_code 11 = .ok (.lreturn, 1) := by decide +kernel
theorem own_ef_rm1 (m : MethodId) (x0 : Int64) (x1 : Int64) : entryFrame m #[(.long x0), (.long x1)] 4 = mkF m 0 #[.val (.long x0), .second, .val (.long x1), .second] [] := by first | (simp [entryFrame, mkF, argsToLocals, Value.category]; done) | rfl
def own_Q_rm1 (Z : State) (a : Int64) (b : Int64) (h0 : Heap) (n0 : Nat) (v : Option Value) (h : Heap) (L : List Loc) : Prop := v = some (.long (own_min a b)) ∧ Fr n0 L ∧ h = h0
set_option maxRecDepth 65536 in
set_option maxHeartbeats 40000000 in
theorem rm1 (l : Launch) (Z : State) (a0 : Array Value) (hw : ∀ d ∈ tables_1, d.before a0 Z = true) (ws : List Jvm.Cond) (a : Int64) (b : Int64) (h0 : Heap) (n0 : Nat) (Z0 : n0 ≤ h0.size) :
    MetFree l (⟨"java/lang/Math", "min", "(JJ)J"⟩ : MethodName) (head1 (Jvm.Cond.code (⟨"java/lang/Math", "min", "(JJ)J"⟩ : MethodName) jdk_29_method_70_code 4 (some .long) :: ws) ({ frames := 0, cells := 0, slots := 0, locals := 0 } : Room)) (fun aa UU => aa = #[(.long a), (.long b)] ∧ Z.Warmed39 UU.vm ∧ UU.heap = h0) (fun _ _ _ _ _ => True) (fun _ UU oo UU' => ∃ vv LL, oo = .returned vv ∧ own_Q_rm1 Z a b h0 n0 vv UU'.heap LL ∧ FrameEnd UU oo UU' LL ({ frames := 0, cells := 0, slots := 0, locals := 0 } : Room).cells ({ frames := 0, cells := 0, slots := 0, locals := 0 } : Room).slots) := by
  refine MetFree.of_bodySF (Jvm.Free.JP.mathPlain rfl (by decide +kernel)) hisR ?_
  intro p e s m args below meth c s₁ Bd hml0 hP hK
  obtain ⟨rfl, hZ, hh⟩ := hP
  have hx := Bd.exec
  have hby := Bd.bytes
  have hlk := Bd.notSynchronized
  have hml : c.maxLocals = 4 := hml0
  have hown : s.vm.findClass "java/lang/Math" = some m.cls := findClass_of_methodNamed Bd.named
  have hnm := (name_of_methodNamed Bd.named Bd.method).1
  have X0 : Stand p l e ({ frames := 0, cells := 0, slots := 0, locals := 0 } : Room) s m #[(.long a), (.long b)] below meth c s₁ [] 0 0 := Stand.of_body Bd
  have e0 : s₁.heap = h0 := by rw [← hh, Bd.state]; rfl
  have N0 := Fr.nil n0
  show own_G p.tables e below s (own_Q_rm1 Z a b h0 n0) ({ frames := 0, cells := 0, slots := 0, locals := 0 } : Room).cells ({ frames := 0, cells := 0, slots := 0, locals := 0 } : Room).slots (s₁.setTop (entryFrame m #[(.long a), (.long b)] 4))
  refine own_up (U' := s₁.setTop (mkF m 0 #[.val (.long a), .second, .val (.long b), .second] [])) ?_ (fun t k => castTop (own_ef_rm1 m a b) k)
  refine own_up ?_ fun t k => XS.lloadN X0.here hx rfl (hb hby own_d1_0) rfl k
  show own_G p.tables e below s _ _ _ (s₁.setTop (mkF m 1 #[.val (.long a), .second, .val (.long b), .second] [(.long a)]))
  refine own_up ?_ fun t k => XS.lloadN X0.here hx rfl (hb hby own_d1_1) rfl k
  show own_G p.tables e below s _ _ _ (s₁.setTop (mkF m 2 #[.val (.long a), .second, .val (.long b), .second] [(.long b), (.long a)]))
  refine own_up ?_ fun t k => XS.lcmp X0.here hx rfl (hb hby own_d1_2) rfl k
  show own_G p.tables e below s _ _ _ (s₁.setTop (mkF m 3 #[.val (.long a), .second, .val (.long b), .second] [(.int (lcmpW a b))]))
  by_cases hc3_1 : b < a
  · refine own_up ?_ fun t k => XS.ifYes X0.here hx rfl (pc0 := 3) (pc' := 10) rfl (hb hby own_d1_3) rfl ((if0 _ _).trans (tlt ((lw_gt _ _).mpr hc3_1)).2.2.1) (by decide) (by decide) k
    show own_G p.tables e below s _ _ _ (s₁.setTop (mkF m 10 #[.val (.long a), .second, .val (.long b), .second] []))
    refine own_up ?_ fun t k => XS.lloadN X0.here hx rfl (hb hby own_d1_10) rfl k
    show own_G p.tables e below s _ _ _ (s₁.setTop (mkF m 11 #[.val (.long a), .second, .val (.long b), .second] [(.long b)]))
    exact own_retJ X0 hx hlk Bd.returns (hb hby own_d1_11) ⟨congrArg (fun z => some (Value.long z)) (by simp only [own_min, if_pos hc3_1]), N0, e0⟩ (by decide) (by decide)
  · refine own_up ?_ fun t k => XS.ifNo X0.here hx rfl (hb hby own_d1_3) rfl ((if0 _ _).trans (flt (fun q => hc3_1 ((lw_gt _ _).mp q))).2.2.1) k
    show own_G p.tables e below s _ _ _ (s₁.setTop (mkF m 6 #[.val (.long a), .second, .val (.long b), .second] []))
    refine own_up ?_ fun t k => XS.lloadN X0.here hx rfl (hb hby own_d1_6) rfl k
    show own_G p.tables e below s _ _ _ (s₁.setTop (mkF m 7 #[.val (.long a), .second, .val (.long b), .second] [(.long a)]))
    refine own_up ?_ fun t k => XS.goto X0.here hx rfl (pc0 := 7) (pc' := 11) rfl (hb hby own_d1_7) (by decide) (by decide) k
    show own_G p.tables e below s _ _ _ (s₁.setTop (mkF m 11 #[.val (.long a), .second, .val (.long b), .second] [(.long a)]))
    exact own_retJ X0 hx hlk Bd.returns (hb hby own_d1_11) ⟨congrArg (fun z => some (Value.long z)) (by simp only [own_min, if_neg hc3_1]), N0, e0⟩ (by decide) (by decide)
theorem own_d2_0 : decode jdk_29_method_66_code 0 = .ok (.lload_n 0, 1) := by decide +kernel
theorem own_d2_1 : decode jdk_29_method_66_code 1 = .ok (.lload_n 2, 1) := by decide +kernel
theorem own_d2_2 : decode jdk_29_method_66_code 2 = .ok (.lcmp, 1) := by decide +kernel
theorem own_d2_3 : decode jdk_29_method_66_code 3 = .ok (.ifCond .lt 7, 3) := by decide +kernel
theorem own_d2_6 : decode jdk_29_method_66_code 6 = .ok (.lload_n 0, 1) := by decide +kernel
theorem own_d2_7 : decode jdk_29_method_66_code 7 = .ok (.goto 4, 3) := by decide +kernel
theorem own_d2_10 : decode jdk_29_method_66_code 10 = .ok (.lload_n 2, 1) := by decide +kernel
theorem own_d2_11 : decode jdk_29_method_66_code 11 = .ok (.lreturn, 1) := by decide +kernel
theorem own_ef_rm2 (m : MethodId) (x0 : Int64) (x1 : Int64) : entryFrame m #[(.long x0), (.long x1)] 4 = mkF m 0 #[.val (.long x0), .second, .val (.long x1), .second] [] := by first | (simp [entryFrame, mkF, argsToLocals, Value.category]; done) | rfl
def own_Q_rm2 (Z : State) (a : Int64) (b : Int64) (h0 : Heap) (n0 : Nat) (v : Option Value) (h : Heap) (L : List Loc) : Prop := v = some (.long (own_max a b)) ∧ Fr n0 L ∧ h = h0
set_option maxRecDepth 65536 in
set_option maxHeartbeats 40000000 in
theorem rm2 (l : Launch) (Z : State) (a0 : Array Value) (hw : ∀ d ∈ tables_1, d.before a0 Z = true) (ws : List Jvm.Cond) (a : Int64) (b : Int64) (h0 : Heap) (n0 : Nat) (Z0 : n0 ≤ h0.size) :
    MetFree l (⟨"java/lang/Math", "max", "(JJ)J"⟩ : MethodName) (head1 (Jvm.Cond.code (⟨"java/lang/Math", "max", "(JJ)J"⟩ : MethodName) jdk_29_method_66_code 4 (some .long) :: ws) ({ frames := 0, cells := 0, slots := 0, locals := 0 } : Room)) (fun aa UU => aa = #[(.long a), (.long b)] ∧ Z.Warmed39 UU.vm ∧ UU.heap = h0) (fun _ _ _ _ _ => True) (fun _ UU oo UU' => ∃ vv LL, oo = .returned vv ∧ own_Q_rm2 Z a b h0 n0 vv UU'.heap LL ∧ FrameEnd UU oo UU' LL ({ frames := 0, cells := 0, slots := 0, locals := 0 } : Room).cells ({ frames := 0, cells := 0, slots := 0, locals := 0 } : Room).slots) := by
  refine MetFree.of_bodySF (Jvm.Free.JP.mathPlain rfl (by decide +kernel)) hisR ?_
  intro p e s m args below meth c s₁ Bd hml0 hP hK
  obtain ⟨rfl, hZ, hh⟩ := hP
  have hx := Bd.exec
  have hby := Bd.bytes
  have hlk := Bd.notSynchronized
  have hml : c.maxLocals = 4 := hml0
  have hown : s.vm.findClass "java/lang/Math" = some m.cls := findClass_of_methodNamed Bd.named
  have hnm := (name_of_methodNamed Bd.named Bd.method).1
  have X0 : Stand p l e ({ frames := 0, cells := 0, slots := 0, locals := 0 } : Room) s m #[(.long a), (.long b)] below meth c s₁ [] 0 0 := Stand.of_body Bd
  have e0 : s₁.heap = h0 := by rw [← hh, Bd.state]; rfl
  have N0 := Fr.nil n0
  show own_G p.tables e below s (own_Q_rm2 Z a b h0 n0) ({ frames := 0, cells := 0, slots := 0, locals := 0 } : Room).cells ({ frames := 0, cells := 0, slots := 0, locals := 0 } : Room).slots (s₁.setTop (entryFrame m #[(.long a), (.long b)] 4))
  refine own_up (U' := s₁.setTop (mkF m 0 #[.val (.long a), .second, .val (.long b), .second] [])) ?_ (fun t k => castTop (own_ef_rm2 m a b) k)
  refine own_up ?_ fun t k => XS.lloadN X0.here hx rfl (hb hby own_d2_0) rfl k
  show own_G p.tables e below s _ _ _ (s₁.setTop (mkF m 1 #[.val (.long a), .second, .val (.long b), .second] [(.long a)]))
  refine own_up ?_ fun t k => XS.lloadN X0.here hx rfl (hb hby own_d2_1) rfl k
  show own_G p.tables e below s _ _ _ (s₁.setTop (mkF m 2 #[.val (.long a), .second, .val (.long b), .second] [(.long b), (.long a)]))
  refine own_up ?_ fun t k => XS.lcmp X0.here hx rfl (hb hby own_d2_2) rfl k
  show own_G p.tables e below s _ _ _ (s₁.setTop (mkF m 3 #[.val (.long a), .second, .val (.long b), .second] [(.int (lcmpW a b))]))
  by_cases hc3_2 : a < b
  · refine own_up ?_ fun t k => XS.ifYes X0.here hx rfl (pc0 := 3) (pc' := 10) rfl (hb hby own_d2_3) rfl ((if0 _ _).trans (tlt ((lw_lt _ _).mpr hc3_2)).1) (by decide) (by decide) k
    show own_G p.tables e below s _ _ _ (s₁.setTop (mkF m 10 #[.val (.long a), .second, .val (.long b), .second] []))
    refine own_up ?_ fun t k => XS.lloadN X0.here hx rfl (hb hby own_d2_10) rfl k
    show own_G p.tables e below s _ _ _ (s₁.setTop (mkF m 11 #[.val (.long a), .second, .val (.long b), .second] [(.long b)]))
    exact own_retJ X0 hx hlk Bd.returns (hb hby own_d2_11) ⟨congrArg (fun z => some (Value.long z)) (by simp only [own_max, if_pos hc3_2]), N0, e0⟩ (by decide) (by decide)
  · refine own_up ?_ fun t k => XS.ifNo X0.here hx rfl (hb hby own_d2_3) rfl ((if0 _ _).trans (flt (fun q => hc3_2 ((lw_lt _ _).mp q))).1) k
    show own_G p.tables e below s _ _ _ (s₁.setTop (mkF m 6 #[.val (.long a), .second, .val (.long b), .second] []))
    refine own_up ?_ fun t k => XS.lloadN X0.here hx rfl (hb hby own_d2_6) rfl k
    show own_G p.tables e below s _ _ _ (s₁.setTop (mkF m 7 #[.val (.long a), .second, .val (.long b), .second] [(.long a)]))
    refine own_up ?_ fun t k => XS.goto X0.here hx rfl (pc0 := 7) (pc' := 11) rfl (hb hby own_d2_7) (by decide) (by decide) k
    show own_G p.tables e below s _ _ _ (s₁.setTop (mkF m 11 #[.val (.long a), .second, .val (.long b), .second] [(.long a)]))
    exact own_retJ X0 hx hlk Bd.returns (hb hby own_d2_11) ⟨congrArg (fun z => some (Value.long z)) (by simp only [own_max, if_neg hc3_2]), N0, e0⟩ (by decide) (by decide)
theorem own_d4_0 : decode jdk_30_method_1_code 0 = .ok (.aload_n 0, 1) := by decide +kernel
theorem own_d4_1 : decode jdk_30_method_1_code 1 = .ok (.invokespecial 1, 3) := by decide +kernel
theorem own_d4_4 : decode jdk_30_method_1_code 4 = .ok (.return_, 1) := by decide +kernel
theorem own_pn0 : plainName "java/lang/Record" = true := by first | (simp [plainName, overriddenIn]; done) | decide +kernel
theorem own_ef_rmRec (m : MethodId) (x0 : Addr) : entryFrame m #[(.ref x0)] 1 = mkF m 0 #[.val (.ref x0)] [] := by first | (simp [entryFrame, mkF, argsToLocals, Value.category]; done) | rfl
def own_Q_rmRec (Z : State) (a : Addr) (h0 : Heap) (n0 : Nat) (v : Option Value) (h : Heap) (L : List Loc) : Prop := v = none ∧ Fr n0 L ∧ h = h0
set_option maxRecDepth 65536 in
set_option maxHeartbeats 40000000 in
theorem rmRec (l : Launch) (Z : State) (a0 : Array Value) (hw : ∀ d ∈ tables_1, d.before a0 Z = true) (ws : List Jvm.Cond) (a : Addr) (h0 : Heap) (n0 : Nat) (Z0 : n0 ≤ h0.size) :
    MetFree l (⟨"java/lang/Record", "<init>", "()V"⟩ : MethodName) (head1 (Jvm.Cond.code (⟨"java/lang/Record", "<init>", "()V"⟩ : MethodName) jdk_30_method_1_code 1 none :: ws) ({ frames := 1, cells := 0, slots := 0, locals := 12 } : Room)) (fun aa UU => aa = #[(.ref a)] ∧ Z.Warmed39 UU.vm ∧ UU.heap = h0) (fun _ _ _ _ _ => True) (fun _ UU oo UU' => ∃ vv LL, oo = .returned vv ∧ own_Q_rmRec Z a h0 n0 vv UU'.heap LL ∧ FrameEnd UU oo UU' LL ({ frames := 1, cells := 0, slots := 0, locals := 12 } : Room).cells ({ frames := 1, cells := 0, slots := 0, locals := 12 } : Room).slots) := by
  refine MetFree.of_bodySF (plainFor_of_name own_pn0) hisR ?_
  intro p e s m args below meth c s₁ Bd hml0 hP hK
  obtain ⟨rfl, hZ, hh⟩ := hP
  have hx := Bd.exec
  have hby := Bd.bytes
  have hlk := Bd.notSynchronized
  have hml : c.maxLocals = 1 := hml0
  have hown : s.vm.findClass "java/lang/Record" = some m.cls := findClass_of_methodNamed Bd.named
  have hnm := (name_of_methodNamed Bd.named Bd.method).1
  have X0 : Stand p l e ({ frames := 1, cells := 0, slots := 0, locals := 12 } : Room) s m #[(.ref a)] below meth c s₁ [] 0 0 := Stand.of_body Bd
  have e0 : s₁.heap = h0 := by rw [← hh, Bd.state]; rfl
  have N0 := Fr.nil n0
  show own_G p.tables e below s (own_Q_rmRec Z a h0 n0) ({ frames := 1, cells := 0, slots := 0, locals := 12 } : Room).cells ({ frames := 1, cells := 0, slots := 0, locals := 12 } : Room).slots (s₁.setTop (entryFrame m #[(.ref a)] 1))
  refine own_up (U' := s₁.setTop (mkF m 0 #[.val (.ref a)] [])) ?_ (fun t k => castTop (own_ef_rmRec m a) k)
  refine own_up ?_ fun t k => XS.aloadN X0.here hx rfl (hb hby own_d4_0) rfl rfl k
  show own_G p.tables e below s _ _ _ (s₁.setTop (mkF m 1 #[.val (.ref a)] [(.ref a)]))
  obtain ⟨T3, X3, e3, st3⟩ := initO X0 hx hZ hown (hw _ (List.mem_of_getElem? (i := 18) rfl)) (hw _ (List.mem_of_getElem? (i := 19) rfl)) (hw _ (List.mem_of_getElem? (i := 20) rfl)) e0 (g := (mkF m 1 #[.val (.ref a)] [(.ref a)])) rfl (by rw [hml]; rfl) rfl (hb hby own_d4_1) (by decide) (W := 0) (by show 2 * 0 + _ ≤ _; exact Nat.le_of_eq rfl) (by decide)
  refine own_up ?_ st3
  show own_G p.tables e below s _ _ _ (T3.setTop (mkF m 4 #[.val (.ref a)] []))
  exact own_retV X3 hx hlk Bd.returns (hb hby own_d4_4) ⟨rfl, N0, e3⟩ (by decide) (by decide)
theorem own_d3_0 : decode prog_1_method_1_code 0 = .ok (.aload_n 0, 1) := by decide +kernel
theorem own_d3_1 : decode prog_1_method_1_code 1 = .ok (.invokespecial 1, 3) := by decide +kernel
theorem own_d3_4 : decode prog_1_method_1_code 4 = .ok (.aload_n 0, 1) := by decide +kernel
theorem own_d3_5 : decode prog_1_method_1_code 5 = .ok (.lload_n 1, 1) := by decide +kernel
theorem own_d3_6 : decode prog_1_method_1_code 6 = .ok (.putfield 7, 3) := by decide +kernel
theorem own_d3_9 : decode prog_1_method_1_code 9 = .ok (.aload_n 0, 1) := by decide +kernel
theorem own_d3_10 : decode prog_1_method_1_code 10 = .ok (.lload_n 3, 1) := by decide +kernel
theorem own_d3_11 : decode prog_1_method_1_code 11 = .ok (.putfield 13, 3) := by decide +kernel
theorem own_d3_14 : decode prog_1_method_1_code 14 = .ok (.aload_n 0, 1) := by decide +kernel
theorem own_d3_15 : decode prog_1_method_1_code 15 = .ok (.lload 5, 2) := by decide +kernel
theorem own_d3_17 : decode prog_1_method_1_code 17 = .ok (.putfield 16, 3) := by decide +kernel
theorem own_d3_20 : decode prog_1_method_1_code 20 = .ok (.aload_n 0, 1) := by decide +kernel
theorem own_d3_21 : decode prog_1_method_1_code 21 = .ok (.lload 7, 2) := by decide +kernel
theorem own_d3_23 : decode prog_1_method_1_code 23 = .ok (.putfield 19, 3) := by decide +kernel
theorem own_d3_26 : decode prog_1_method_1_code 26 = .ok (.return_, 1) := by decide +kernel
theorem own_pn1 : plainName "com/example/mullion/mullion/Area" = true := by first | (simp [plainName, overriddenIn]; done) | decide +kernel
theorem own_ef_rm3 (m : MethodId) (x0 : Addr) (x1 : Int64) (x2 : Int64) (x3 : Int64) (x4 : Int64) : entryFrame m #[(.ref x0), (.long x1), (.long x2), (.long x3), (.long x4)] 9 = mkF m 0 #[.val (.ref x0), .val (.long x1), .second, .val (.long x2), .second, .val (.long x3), .second, .val (.long x4), .second] [] := by first | (simp [entryFrame, mkF, argsToLocals, Value.category]; done) | rfl
def own_Q_rm3 (Z : State) (a : Addr) (q1 : Int64) (q2 : Int64) (q3 : Int64) (q4 : Int64) (u_left : Value) (u_top : Value) (u_right : Value) (u_bottom : Value) (h0 : Heap) (n0 : Nat) (v : Option Value) (h : Heap) (L : List Loc) : Prop := v = none ∧ Fr n0 L ∧ Keep h0 h [a] ∧ Fld Z h a "com/example/mullion/mullion/Area" "left" "J" (.long q1) ∧ Fld Z h a "com/example/mullion/mullion/Area" "top" "J" (.long q2) ∧ Fld Z h a "com/example/mullion/mullion/Area" "right" "J" (.long q3) ∧ Fld Z h a "com/example/mullion/mullion/Area" "bottom" "J" (.long q4)
set_option maxRecDepth 65536 in
set_option maxHeartbeats 40000000 in
theorem rm3 (l : Launch) (Z : State) (a0 : Array Value) (hw : ∀ d ∈ tables_1, d.before a0 Z = true) (ws : List Jvm.Cond) (a : Addr) (q1 : Int64) (q2 : Int64) (q3 : Int64) (q4 : Int64) (u_left : Value) (u_top : Value) (u_right : Value) (u_bottom : Value) (h0 : Heap) (n0 : Nat) (Z0 : n0 ≤ h0.size) (E_a : Exa Z h0 a "com/example/mullion/mullion/Area") (F_left : Fld Z h0 a "com/example/mullion/mullion/Area" "left" "J" u_left) (F_top : Fld Z h0 a "com/example/mullion/mullion/Area" "top" "J" u_top) (F_right : Fld Z h0 a "com/example/mullion/mullion/Area" "right" "J" u_right) (F_bottom : Fld Z h0 a "com/example/mullion/mullion/Area" "bottom" "J" u_bottom) (g_a : n0 ≤ a) :
    MetFree l (⟨"com/example/mullion/mullion/Area", "<init>", "(JJJJ)V"⟩ : MethodName) (head1 (Jvm.Cond.code (⟨"com/example/mullion/mullion/Area", "<init>", "(JJJJ)V"⟩ : MethodName) prog_1_method_1_code 9 none :: ws) ({ frames := 2, cells := 0, slots := 0, locals := 24 } : Room)) (fun aa UU => aa = #[(.ref a), (.long q1), (.long q2), (.long q3), (.long q4)] ∧ Z.Warmed39 UU.vm ∧ UU.heap = h0) (fun _ _ _ _ _ => True) (fun _ UU oo UU' => ∃ vv LL, oo = .returned vv ∧ own_Q_rm3 Z a q1 q2 q3 q4 u_left u_top u_right u_bottom h0 n0 vv UU'.heap LL ∧ FrameEnd UU oo UU' LL ({ frames := 2, cells := 0, slots := 0, locals := 24 } : Room).cells ({ frames := 2, cells := 0, slots := 0, locals := 24 } : Room).slots) := by
  refine MetFree.of_bodySF (plainFor_of_name own_pn1) hisR ?_
  intro p e s m args below meth c s₁ Bd hml0 hP hK
  obtain ⟨rfl, hZ, hh⟩ := hP
  have hx := Bd.exec
  have hby := Bd.bytes
  have hlk := Bd.notSynchronized
  have hml : c.maxLocals = 9 := hml0
  have hown : s.vm.findClass "com/example/mullion/mullion/Area" = some m.cls := findClass_of_methodNamed Bd.named
  have hnm := (name_of_methodNamed Bd.named Bd.method).1
  have X0 : Stand p l e ({ frames := 2, cells := 0, slots := 0, locals := 24 } : Room) s m #[(.ref a), (.long q1), (.long q2), (.long q3), (.long q4)] below meth c s₁ [] 0 0 := Stand.of_body Bd
  have e0 : s₁.heap = h0 := by rw [← hh, Bd.state]; rfl
  have N0 := Fr.nil n0
  show own_G p.tables e below s (own_Q_rm3 Z a q1 q2 q3 q4 u_left u_top u_right u_bottom h0 n0) ({ frames := 2, cells := 0, slots := 0, locals := 24 } : Room).cells ({ frames := 2, cells := 0, slots := 0, locals := 24 } : Room).slots (s₁.setTop (entryFrame m #[(.ref a), (.long q1), (.long q2), (.long q3), (.long q4)] 9))
  have K0 := Keep.refl h0 [a]
  refine own_up (U' := s₁.setTop (mkF m 0 #[.val (.ref a), .val (.long q1), .second, .val (.long q2), .second, .val (.long q3), .second, .val (.long q4), .second] [])) ?_ (fun t k => castTop (own_ef_rm3 m a q1 q2 q3 q4) k)
  refine own_up ?_ fun t k => XS.aloadN X0.here hx rfl (hb hby own_d3_0) rfl rfl k
  show own_G p.tables e below s _ _ _ (s₁.setTop (mkF m 1 #[.val (.ref a), .val (.long q1), .second, .val (.long q2), .second, .val (.long q3), .second, .val (.long q4), .second] [(.ref a)]))
  obtain ⟨_, _, ⟨T4, L4, k4, n4⟩, -, X4, ⟨Lc4, hQ4, l4, y4, z4⟩, st4⟩ := X0.specialBack hx (y := (⟨"java/lang/Record", "<init>", "()V"⟩ : MethodName)) rfl hown (mvT hZ (hw _ (List.mem_of_getElem? (i := 13) rfl))) (mvT hZ (hw _ (List.mem_of_getElem? (i := 14) rfl))) (mvT hZ (hw _ (List.mem_of_getElem? (i := 17) rfl))) (by decide) (backOf (W := 0) (rmRec l Z a0 hw [] a  h0 n0 Z0 ) hZ (hw _ (List.mem_of_getElem? (i := 17) rfl)) (hw _ (List.mem_of_getElem? (i := 16) rfl)) (by decide) (by decide)) (g := (mkF m 1 #[.val (.ref a), .val (.long q1), .second, .val (.long q2), .second, .val (.long q3), .second, .val (.long q4), .second] [(.ref a)])) rfl (by rw [hml]; rfl) (Steps.refl _) (a := a) (argsL := []) (rest := []) (lenOf own_pd0 rfl) rfl (by show 2 * 0 + _ ≤ _; exact Nat.le_of_eq rfl) (hb hby own_d3_1) (fun _ _ => ⟨rfl, e0, (by decide : 0 + 0 ≤ _), (by decide : 0 + 0 ≤ _)⟩)
  dsimp only [Pt.U, Pt.locs, Pt.cells, Pt.slots] at X4 l4 y4 z4 st4 hQ4
  subst l4 y4 z4
  obtain ⟨rfl, Nq4, e4⟩ := hQ4
  have N4 := Fr.app N0 Nq4
  refine own_up ?_ (fun t k => st4.trans k)
  show own_G p.tables e below s _ _ _ (T4.setTop (mkF m 4 #[.val (.ref a), .val (.long q1), .second, .val (.long q2), .second, .val (.long q3), .second, .val (.long q4), .second] []))
  refine own_up ?_ fun t k => XS.aloadN X4.here hx rfl (hb hby own_d3_4) rfl rfl k
  show own_G p.tables e below s _ _ _ (T4.setTop (mkF m 5 #[.val (.ref a), .val (.long q1), .second, .val (.long q2), .second, .val (.long q3), .second, .val (.long q4), .second] [(.ref a)]))
  refine own_up ?_ fun t k => XS.lloadN X4.here hx rfl (hb hby own_d3_5) rfl k
  show own_G p.tables e below s _ _ _ (T4.setTop (mkF m 6 #[.val (.ref a), .val (.long q1), .second, .val (.long q2), .second, .val (.long q3), .second, .val (.long q4), .second] [(.long q1), (.ref a)]))
  obtain ⟨T5, h5, X5, e5, W5, st5⟩ := putF X4 hx hZ hown (host := "") (Or.inl (hw _ (List.mem_of_getElem? (i := 21) rfl))) Via.refl e4 F_left E_a (Or.inr ⟨(hw _ (List.mem_of_getElem? (i := 22) rfl)), rfl, hnm⟩) (hw _ (List.mem_of_getElem? (i := 8) rfl)) (ty := .long) (by decide) rfl rfl (g := (mkF m 6 #[.val (.ref a), .val (.long q1), .second, .val (.long q2), .second, .val (.long q3), .second, .val (.long q4), .second] [(.long q1), (.ref a)])) rfl rfl (hb hby own_d3_6)
  refine own_up ?_ st5
  have E_a_c6 := E_a.wr W5
  have F_top_c6 := F_top.other W5 (Or.inr (slot_ne (Or.inr (hw _ (List.mem_of_getElem? (i := 24) rfl))) (Or.inr (hw _ (List.mem_of_getElem? (i := 22) rfl))) (by decide) (t := .long) (t' := .long) (by decide) (by decide)))
  have F_right_c6 := F_right.other W5 (Or.inr (slot_ne (Or.inr (hw _ (List.mem_of_getElem? (i := 26) rfl))) (Or.inr (hw _ (List.mem_of_getElem? (i := 22) rfl))) (by decide) (t := .long) (t' := .long) (by decide) (by decide)))
  have F_bottom_c6 := F_bottom.other W5 (Or.inr (slot_ne (Or.inr (hw _ (List.mem_of_getElem? (i := 28) rfl))) (Or.inr (hw _ (List.mem_of_getElem? (i := 22) rfl))) (by decide) (t := .long) (t' := .long) (by decide) (by decide)))
  have F5 := F_left.same W5
  have N5 := Fr.snoc X5 N4 g_a
  have Zs7 : n0 ≤ h5.size := Nat.le_trans Z0 (Keep.of_wr W5).1
  have K8 : Keep h0 h5 [a] := K0.wr W5 (Or.inl (List.mem_of_getElem? (i := 0) rfl))
  show own_G p.tables e below s _ _ _ (T5.setTop (mkF m 9 #[.val (.ref a), .val (.long q1), .second, .val (.long q2), .second, .val (.long q3), .second, .val (.long q4), .second] []))
  refine own_up ?_ fun t k => XS.aloadN X5.here hx rfl (hb hby own_d3_9) rfl rfl k
  show own_G p.tables e below s _ _ _ (T5.setTop (mkF m 10 #[.val (.ref a), .val (.long q1), .second, .val (.long q2), .second, .val (.long q3), .second, .val (.long q4), .second] [(.ref a)]))
  refine own_up ?_ fun t k => XS.lloadN X5.here hx rfl (hb hby own_d3_10) rfl k
  show own_G p.tables e below s _ _ _ (T5.setTop (mkF m 11 #[.val (.ref a), .val (.long q1), .second, .val (.long q2), .second, .val (.long q3), .second, .val (.long q4), .second] [(.long q2), (.ref a)]))
  obtain ⟨T9, h9, X9, e9, W9, st9⟩ := putF X5 hx hZ hown (host := "") (Or.inl (hw _ (List.mem_of_getElem? (i := 23) rfl))) Via.refl e5 F_top_c6 E_a_c6 (Or.inr ⟨(hw _ (List.mem_of_getElem? (i := 24) rfl)), rfl, hnm⟩) (hw _ (List.mem_of_getElem? (i := 8) rfl)) (ty := .long) (by decide) rfl rfl (g := (mkF m 11 #[.val (.ref a), .val (.long q1), .second, .val (.long q2), .second, .val (.long q3), .second, .val (.long q4), .second] [(.long q2), (.ref a)])) rfl rfl (hb hby own_d3_11)
  refine own_up ?_ st9
  have E_a_c10 := E_a_c6.wr W9
  have F5_c10 := F5.other W9 (Or.inr (slot_ne (Or.inr (hw _ (List.mem_of_getElem? (i := 22) rfl))) (Or.inr (hw _ (List.mem_of_getElem? (i := 24) rfl))) (by decide) (t := .long) (t' := .long) (by decide) (by decide)))
  have F_right_c10 := F_right_c6.other W9 (Or.inr (slot_ne (Or.inr (hw _ (List.mem_of_getElem? (i := 26) rfl))) (Or.inr (hw _ (List.mem_of_getElem? (i := 24) rfl))) (by decide) (t := .long) (t' := .long) (by decide) (by decide)))
  have F_bottom_c10 := F_bottom_c6.other W9 (Or.inr (slot_ne (Or.inr (hw _ (List.mem_of_getElem? (i := 28) rfl))) (Or.inr (hw _ (List.mem_of_getElem? (i := 24) rfl))) (by decide) (t := .long) (t' := .long) (by decide) (by decide)))
  have F9 := F_top_c6.same W9
  have N9 := Fr.snoc X9 N5 g_a
  have Zs11 : n0 ≤ h9.size := Nat.le_trans Zs7 (Keep.of_wr W9).1
  have K12 : Keep h0 h9 [a] := K8.wr W9 (Or.inl (List.mem_of_getElem? (i := 0) rfl))
  show own_G p.tables e below s _ _ _ (T9.setTop (mkF m 14 #[.val (.ref a), .val (.long q1), .second, .val (.long q2), .second, .val (.long q3), .second, .val (.long q4), .second] []))
  refine own_up ?_ fun t k => XS.aloadN X9.here hx rfl (hb hby own_d3_14) rfl rfl k
  show own_G p.tables e below s _ _ _ (T9.setTop (mkF m 15 #[.val (.ref a), .val (.long q1), .second, .val (.long q2), .second, .val (.long q3), .second, .val (.long q4), .second] [(.ref a)]))
  refine own_up ?_ fun t k => XS.lload X9.here hx rfl (hb hby own_d3_15) rfl k
  show own_G p.tables e below s _ _ _ (T9.setTop (mkF m 17 #[.val (.ref a), .val (.long q1), .second, .val (.long q2), .second, .val (.long q3), .second, .val (.long q4), .second] [(.long q3), (.ref a)]))
  obtain ⟨T13, h13, X13, e13, W13, st13⟩ := putF X9 hx hZ hown (host := "") (Or.inl (hw _ (List.mem_of_getElem? (i := 25) rfl))) Via.refl e9 F_right_c10 E_a_c10 (Or.inr ⟨(hw _ (List.mem_of_getElem? (i := 26) rfl)), rfl, hnm⟩) (hw _ (List.mem_of_getElem? (i := 8) rfl)) (ty := .long) (by decide) rfl rfl (g := (mkF m 17 #[.val (.ref a), .val (.long q1), .second, .val (.long q2), .second, .val (.long q3), .second, .val (.long q4), .second] [(.long q3), (.ref a)])) rfl rfl (hb hby own_d3_17)
  refine own_up ?_ st13
  have E_a_c14 := E_a_c10.wr W13
  have F5_c14 := F5_c10.other W13 (Or.inr (slot_ne (Or.inr (hw _ (List.mem_of_getElem? (i := 22) rfl))) (Or.inr (hw _ (List.mem_of_getElem? (i := 26) rfl))) (by decide) (t := .long) (t' := .long) (by decide) (by decide)))
  have F9_c14 := F9.other W13 (Or.inr (slot_ne (Or.inr (hw _ (List.mem_of_getElem? (i := 24) rfl))) (Or.inr (hw _ (List.mem_of_getElem? (i := 26) rfl))) (by decide) (t := .long) (t' := .long) (by decide) (by decide)))
  have F_bottom_c14 := F_bottom_c10.other W13 (Or.inr (slot_ne (Or.inr (hw _ (List.mem_of_getElem? (i := 28) rfl))) (Or.inr (hw _ (List.mem_of_getElem? (i := 26) rfl))) (by decide) (t := .long) (t' := .long) (by decide) (by decide)))
  have F13 := F_right_c10.same W13
  have N13 := Fr.snoc X13 N9 g_a
  have Zs15 : n0 ≤ h13.size := Nat.le_trans Zs11 (Keep.of_wr W13).1
  have K16 : Keep h0 h13 [a] := K12.wr W13 (Or.inl (List.mem_of_getElem? (i := 0) rfl))
  show own_G p.tables e below s _ _ _ (T13.setTop (mkF m 20 #[.val (.ref a), .val (.long q1), .second, .val (.long q2), .second, .val (.long q3), .second, .val (.long q4), .second] []))
  refine own_up ?_ fun t k => XS.aloadN X13.here hx rfl (hb hby own_d3_20) rfl rfl k
  show own_G p.tables e below s _ _ _ (T13.setTop (mkF m 21 #[.val (.ref a), .val (.long q1), .second, .val (.long q2), .second, .val (.long q3), .second, .val (.long q4), .second] [(.ref a)]))
  refine own_up ?_ fun t k => XS.lload X13.here hx rfl (hb hby own_d3_21) rfl k
  show own_G p.tables e below s _ _ _ (T13.setTop (mkF m 23 #[.val (.ref a), .val (.long q1), .second, .val (.long q2), .second, .val (.long q3), .second, .val (.long q4), .second] [(.long q4), (.ref a)]))
  obtain ⟨T17, h17, X17, e17, W17, st17⟩ := putF X13 hx hZ hown (host := "") (Or.inl (hw _ (List.mem_of_getElem? (i := 27) rfl))) Via.refl e13 F_bottom_c14 E_a_c14 (Or.inr ⟨(hw _ (List.mem_of_getElem? (i := 28) rfl)), rfl, hnm⟩) (hw _ (List.mem_of_getElem? (i := 8) rfl)) (ty := .long) (by decide) rfl rfl (g := (mkF m 23 #[.val (.ref a), .val (.long q1), .second, .val (.long q2), .second, .val (.long q3), .second, .val (.long q4), .second] [(.long q4), (.ref a)])) rfl rfl (hb hby own_d3_23)
  refine own_up ?_ st17
  have E_a_c18 := E_a_c14.wr W17
  have F5_c18 := F5_c14.other W17 (Or.inr (slot_ne (Or.inr (hw _ (List.mem_of_getElem? (i := 22) rfl))) (Or.inr (hw _ (List.mem_of_getElem? (i := 28) rfl))) (by decide) (t := .long) (t' := .long) (by decide) (by decide)))
  have F9_c18 := F9_c14.other W17 (Or.inr (slot_ne (Or.inr (hw _ (List.mem_of_getElem? (i := 24) rfl))) (Or.inr (hw _ (List.mem_of_getElem? (i := 28) rfl))) (by decide) (t := .long) (t' := .long) (by decide) (by decide)))
  have F13_c18 := F13.other W17 (Or.inr (slot_ne (Or.inr (hw _ (List.mem_of_getElem? (i := 26) rfl))) (Or.inr (hw _ (List.mem_of_getElem? (i := 28) rfl))) (by decide) (t := .long) (t' := .long) (by decide) (by decide)))
  have F17 := F_bottom_c14.same W17
  have N17 := Fr.snoc X17 N13 g_a
  have Zs19 : n0 ≤ h17.size := Nat.le_trans Zs15 (Keep.of_wr W17).1
  have K20 : Keep h0 h17 [a] := K16.wr W17 (Or.inl (List.mem_of_getElem? (i := 0) rfl))
  show own_G p.tables e below s _ _ _ (T17.setTop (mkF m 26 #[.val (.ref a), .val (.long q1), .second, .val (.long q2), .second, .val (.long q3), .second, .val (.long q4), .second] []))
  exact own_retV X17 hx hlk Bd.returns (hb hby own_d3_26) (by rw [e17]; exact ⟨rfl, N17, K20, F5_c18, F9_c18, F13_c18, F17⟩) (by decide) (by decide)
theorem own_d6_0 : decode method_2_code 0 = .ok (.lload_n 0, 1) := by decide +kernel
theorem own_d6_1 : decode method_2_code 1 = .ok (.lload 8, 2) := by decide +kernel
theorem own_d6_3 : decode method_2_code 3 = .ok (.lcmp, 1) := by decide +kernel
theorem own_d6_4 : decode method_2_code 4 = .ok (.ifCond .gt 30, 3) := by decide +kernel
theorem own_d6_7 : decode method_2_code 7 = .ok (.lload 8, 2) := by decide +kernel
theorem own_d6_9 : decode method_2_code 9 = .ok (.lload 4, 2) := by decide +kernel
theorem own_d6_11 : decode method_2_code 11 = .ok (.lcmp, 1) := by decide +kernel
theorem own_d6_12 : decode method_2_code 12 = .ok (.ifCond .ge 22, 3) := by decide +kernel
theorem own_d6_15 : decode method_2_code 15 = .ok (.lload_n 2, 1) := by decide +kernel
theorem own_d6_16 : decode method_2_code 16 = .ok (.lload 10, 2) := by decide +kernel
theorem own_d6_18 : decode method_2_code 18 = .ok (.lcmp, 1) := by decide +kernel
theorem own_d6_19 : decode method_2_code 19 = .ok (.ifCond .gt 15, 3) := by decide +kernel
theorem own_d6_22 : decode method_2_code 22 = .ok (.lload 10, 2) := by decide +kernel
theorem own_d6_24 : decode method_2_code 24 = .ok (.lload 6, 2) := by decide +kernel
theorem own_d6_26 : decode method_2_code 26 = .ok (.lcmp, 1) := by decide +kernel
theorem own_d6_27 : decode method_2_code 27 = .ok (.ifCond .ge 7, 3) := by decide +kernel
theorem own_d6_30 : decode method_2_code 30 = .ok (.iconst 1, 1) := by decide +kernel
theorem own_d6_31 : decode method_2_code 31 = .ok (.goto 4, 3) := by decide +kernel
theorem own_d6_34 : decode method_2_code 34 = .ok (.iconst 0, 1) := by decide +kernel
theorem own_d6_35 : decode method_2_code 35 = .ok (.ireturn, 1) := by decide +kernel
theorem own_pn2 : plainName "com/example/mullion/mullion/AreaHoldsPinLaw" = true := by first | (simp [plainName, overriddenIn]; done) | decide +kernel
theorem own_ef_rm6 (m : MethodId) (x0 : Int64) (x1 : Int64) (x2 : Int64) (x3 : Int64) (x4 : Int64) (x5 : Int64) : entryFrame m #[(.long x0), (.long x1), (.long x2), (.long x3), (.long x4), (.long x5)] 12 = mkF m 0 #[.val (.long x0), .second, .val (.long x1), .second, .val (.long x2), .second, .val (.long x3), .second, .val (.long x4), .second, .val (.long x5), .second] [] := by first | (simp [entryFrame, mkF, argsToLocals, Value.category]; done) | rfl
def own_Q_rm6 (Z : State) (la : Int64) (ta : Int64) (ra : Int64) (ba : Int64) (xa : Int64) (ya : Int64) (h0 : Heap) (n0 : Nat) (v : Option Value) (h : Heap) (L : List Loc) : Prop := v = some (.int (own_in la ta ra ba xa ya)) ∧ Fr n0 L ∧ h = h0
set_option maxRecDepth 65536 in
set_option maxHeartbeats 40000000 in
theorem rm6 (l : Launch) (Z : State) (a0 : Array Value) (hw : ∀ d ∈ tables_1, d.before a0 Z = true) (ws : List Jvm.Cond) (la : Int64) (ta : Int64) (ra : Int64) (ba : Int64) (xa : Int64) (ya : Int64) (h0 : Heap) (n0 : Nat) (Z0 : n0 ≤ h0.size) :
    MetFree l (⟨"com/example/mullion/mullion/AreaHoldsPinLaw", "in", "(JJJJJJ)Z"⟩ : MethodName) (head1 (Jvm.Cond.code (⟨"com/example/mullion/mullion/AreaHoldsPinLaw", "in", "(JJJJJJ)Z"⟩ : MethodName) method_2_code 12 (some .boolean) :: ws) ({ frames := 0, cells := 0, slots := 0, locals := 0 } : Room)) (fun aa UU => aa = #[(.long la), (.long ta), (.long ra), (.long ba), (.long xa), (.long ya)] ∧ Z.Warmed39 UU.vm ∧ UU.heap = h0) (fun _ _ _ _ _ => True) (fun _ UU oo UU' => ∃ vv LL, oo = .returned vv ∧ own_Q_rm6 Z la ta ra ba xa ya h0 n0 vv UU'.heap LL ∧ FrameEnd UU oo UU' LL ({ frames := 0, cells := 0, slots := 0, locals := 0 } : Room).cells ({ frames := 0, cells := 0, slots := 0, locals := 0 } : Room).slots) := by
  refine MetFree.of_bodySF (plainFor_of_name own_pn2) hisR ?_
  intro p e s m args below meth c s₁ Bd hml0 hP hK
  obtain ⟨rfl, hZ, hh⟩ := hP
  have hx := Bd.exec
  have hby := Bd.bytes
  have hlk := Bd.notSynchronized
  have hml : c.maxLocals = 12 := hml0
  have hown : s.vm.findClass "com/example/mullion/mullion/AreaHoldsPinLaw" = some m.cls := findClass_of_methodNamed Bd.named
  have hnm := (name_of_methodNamed Bd.named Bd.method).1
  have X0 : Stand p l e ({ frames := 0, cells := 0, slots := 0, locals := 0 } : Room) s m #[(.long la), (.long ta), (.long ra), (.long ba), (.long xa), (.long ya)] below meth c s₁ [] 0 0 := Stand.of_body Bd
  have e0 : s₁.heap = h0 := by rw [← hh, Bd.state]; rfl
  have N0 := Fr.nil n0
  show own_G p.tables e below s (own_Q_rm6 Z la ta ra ba xa ya h0 n0) ({ frames := 0, cells := 0, slots := 0, locals := 0 } : Room).cells ({ frames := 0, cells := 0, slots := 0, locals := 0 } : Room).slots (s₁.setTop (entryFrame m #[(.long la), (.long ta), (.long ra), (.long ba), (.long xa), (.long ya)] 12))
  refine own_up (U' := s₁.setTop (mkF m 0 #[.val (.long la), .second, .val (.long ta), .second, .val (.long ra), .second, .val (.long ba), .second, .val (.long xa), .second, .val (.long ya), .second] [])) ?_ (fun t k => castTop (own_ef_rm6 m la ta ra ba xa ya) k)
  refine own_up ?_ fun t k => XS.lloadN X0.here hx rfl (hb hby own_d6_0) rfl k
  show own_G p.tables e below s _ _ _ (s₁.setTop (mkF m 1 #[.val (.long la), .second, .val (.long ta), .second, .val (.long ra), .second, .val (.long ba), .second, .val (.long xa), .second, .val (.long ya), .second] [(.long la)]))
  refine own_up ?_ fun t k => XS.lload X0.here hx rfl (hb hby own_d6_1) rfl k
  show own_G p.tables e below s _ _ _ (s₁.setTop (mkF m 3 #[.val (.long la), .second, .val (.long ta), .second, .val (.long ra), .second, .val (.long ba), .second, .val (.long xa), .second, .val (.long ya), .second] [(.long xa), (.long la)]))
  refine own_up ?_ fun t k => XS.lcmp X0.here hx rfl (hb hby own_d6_3) rfl k
  show own_G p.tables e below s _ _ _ (s₁.setTop (mkF m 4 #[.val (.long la), .second, .val (.long ta), .second, .val (.long ra), .second, .val (.long ba), .second, .val (.long xa), .second, .val (.long ya), .second] [(.int (lcmpW la xa))]))
  by_cases hc4_21 : xa < la
  · refine own_up ?_ fun t k => XS.ifYes X0.here hx rfl (pc0 := 4) (pc' := 34) rfl (hb hby own_d6_4) rfl ((if0 _ _).trans (tlt ((lw_gt _ _).mpr hc4_21)).2.2.1) (by decide) (by decide) k
    show own_G p.tables e below s _ _ _ (s₁.setTop (mkF m 34 #[.val (.long la), .second, .val (.long ta), .second, .val (.long ra), .second, .val (.long ba), .second, .val (.long xa), .second, .val (.long ya), .second] []))
    refine own_up ?_ fun t k => XS.iconst X0.here hx rfl (hb hby own_d6_34) k
    show own_G p.tables e below s _ _ _ (s₁.setTop (mkF m 35 #[.val (.long la), .second, .val (.long ta), .second, .val (.long ra), .second, .val (.long ba), .second, .val (.long xa), .second, .val (.long ya), .second] [(.int (0 : Int32))]))
    exact own_retI X0 hx hlk Bd.returns (by simp) rfl (hb hby own_d6_35) ⟨congrArg (fun z => some (Value.int z)) (by simp only [own_in, if_pos hc4_21]), N0, e0⟩ (by decide) (by decide)
  · refine own_up ?_ fun t k => XS.ifNo X0.here hx rfl (hb hby own_d6_4) rfl ((if0 _ _).trans (flt (fun q => hc4_21 ((lw_gt _ _).mp q))).2.2.1) k
    show own_G p.tables e below s _ _ _ (s₁.setTop (mkF m 7 #[.val (.long la), .second, .val (.long ta), .second, .val (.long ra), .second, .val (.long ba), .second, .val (.long xa), .second, .val (.long ya), .second] []))
    refine own_up ?_ fun t k => XS.lload X0.here hx rfl (hb hby own_d6_7) rfl k
    show own_G p.tables e below s _ _ _ (s₁.setTop (mkF m 9 #[.val (.long la), .second, .val (.long ta), .second, .val (.long ra), .second, .val (.long ba), .second, .val (.long xa), .second, .val (.long ya), .second] [(.long xa)]))
    refine own_up ?_ fun t k => XS.lload X0.here hx rfl (hb hby own_d6_9) rfl k
    show own_G p.tables e below s _ _ _ (s₁.setTop (mkF m 11 #[.val (.long la), .second, .val (.long ta), .second, .val (.long ra), .second, .val (.long ba), .second, .val (.long xa), .second, .val (.long ya), .second] [(.long ra), (.long xa)]))
    refine own_up ?_ fun t k => XS.lcmp X0.here hx rfl (hb hby own_d6_11) rfl k
    show own_G p.tables e below s _ _ _ (s₁.setTop (mkF m 12 #[.val (.long la), .second, .val (.long ta), .second, .val (.long ra), .second, .val (.long ba), .second, .val (.long xa), .second, .val (.long ya), .second] [(.int (lcmpW xa ra))]))
    by_cases hc12_22 : xa < ra
    · refine own_up ?_ fun t k => XS.ifNo X0.here hx rfl (hb hby own_d6_12) rfl ((if0 _ _).trans (tlt ((lw_lt _ _).mpr hc12_22)).2.1) k
      show own_G p.tables e below s _ _ _ (s₁.setTop (mkF m 15 #[.val (.long la), .second, .val (.long ta), .second, .val (.long ra), .second, .val (.long ba), .second, .val (.long xa), .second, .val (.long ya), .second] []))
      refine own_up ?_ fun t k => XS.lloadN X0.here hx rfl (hb hby own_d6_15) rfl k
      show own_G p.tables e below s _ _ _ (s₁.setTop (mkF m 16 #[.val (.long la), .second, .val (.long ta), .second, .val (.long ra), .second, .val (.long ba), .second, .val (.long xa), .second, .val (.long ya), .second] [(.long ta)]))
      refine own_up ?_ fun t k => XS.lload X0.here hx rfl (hb hby own_d6_16) rfl k
      show own_G p.tables e below s _ _ _ (s₁.setTop (mkF m 18 #[.val (.long la), .second, .val (.long ta), .second, .val (.long ra), .second, .val (.long ba), .second, .val (.long xa), .second, .val (.long ya), .second] [(.long ya), (.long ta)]))
      refine own_up ?_ fun t k => XS.lcmp X0.here hx rfl (hb hby own_d6_18) rfl k
      show own_G p.tables e below s _ _ _ (s₁.setTop (mkF m 19 #[.val (.long la), .second, .val (.long ta), .second, .val (.long ra), .second, .val (.long ba), .second, .val (.long xa), .second, .val (.long ya), .second] [(.int (lcmpW ta ya))]))
      by_cases hc19_23 : ya < ta
      · refine own_up ?_ fun t k => XS.ifYes X0.here hx rfl (pc0 := 19) (pc' := 34) rfl (hb hby own_d6_19) rfl ((if0 _ _).trans (tlt ((lw_gt _ _).mpr hc19_23)).2.2.1) (by decide) (by decide) k
        show own_G p.tables e below s _ _ _ (s₁.setTop (mkF m 34 #[.val (.long la), .second, .val (.long ta), .second, .val (.long ra), .second, .val (.long ba), .second, .val (.long xa), .second, .val (.long ya), .second] []))
        refine own_up ?_ fun t k => XS.iconst X0.here hx rfl (hb hby own_d6_34) k
        show own_G p.tables e below s _ _ _ (s₁.setTop (mkF m 35 #[.val (.long la), .second, .val (.long ta), .second, .val (.long ra), .second, .val (.long ba), .second, .val (.long xa), .second, .val (.long ya), .second] [(.int (0 : Int32))]))
        exact own_retI X0 hx hlk Bd.returns (by simp) rfl (hb hby own_d6_35) ⟨congrArg (fun z => some (Value.int z)) (by simp only [own_in, if_neg hc4_21, if_pos hc12_22, if_pos hc19_23]), N0, e0⟩ (by decide) (by decide)
      · refine own_up ?_ fun t k => XS.ifNo X0.here hx rfl (hb hby own_d6_19) rfl ((if0 _ _).trans (flt (fun q => hc19_23 ((lw_gt _ _).mp q))).2.2.1) k
        show own_G p.tables e below s _ _ _ (s₁.setTop (mkF m 22 #[.val (.long la), .second, .val (.long ta), .second, .val (.long ra), .second, .val (.long ba), .second, .val (.long xa), .second, .val (.long ya), .second] []))
        refine own_up ?_ fun t k => XS.lload X0.here hx rfl (hb hby own_d6_22) rfl k
        show own_G p.tables e below s _ _ _ (s₁.setTop (mkF m 24 #[.val (.long la), .second, .val (.long ta), .second, .val (.long ra), .second, .val (.long ba), .second, .val (.long xa), .second, .val (.long ya), .second] [(.long ya)]))
        refine own_up ?_ fun t k => XS.lload X0.here hx rfl (hb hby own_d6_24) rfl k
        show own_G p.tables e below s _ _ _ (s₁.setTop (mkF m 26 #[.val (.long la), .second, .val (.long ta), .second, .val (.long ra), .second, .val (.long ba), .second, .val (.long xa), .second, .val (.long ya), .second] [(.long ba), (.long ya)]))
        refine own_up ?_ fun t k => XS.lcmp X0.here hx rfl (hb hby own_d6_26) rfl k
        show own_G p.tables e below s _ _ _ (s₁.setTop (mkF m 27 #[.val (.long la), .second, .val (.long ta), .second, .val (.long ra), .second, .val (.long ba), .second, .val (.long xa), .second, .val (.long ya), .second] [(.int (lcmpW ya ba))]))
        by_cases hc27_24 : ya < ba
        · refine own_up ?_ fun t k => XS.ifNo X0.here hx rfl (hb hby own_d6_27) rfl ((if0 _ _).trans (tlt ((lw_lt _ _).mpr hc27_24)).2.1) k
          show own_G p.tables e below s _ _ _ (s₁.setTop (mkF m 30 #[.val (.long la), .second, .val (.long ta), .second, .val (.long ra), .second, .val (.long ba), .second, .val (.long xa), .second, .val (.long ya), .second] []))
          refine own_up ?_ fun t k => XS.iconst X0.here hx rfl (hb hby own_d6_30) k
          show own_G p.tables e below s _ _ _ (s₁.setTop (mkF m 31 #[.val (.long la), .second, .val (.long ta), .second, .val (.long ra), .second, .val (.long ba), .second, .val (.long xa), .second, .val (.long ya), .second] [(.int (1 : Int32))]))
          refine own_up ?_ fun t k => XS.goto X0.here hx rfl (pc0 := 31) (pc' := 35) rfl (hb hby own_d6_31) (by decide) (by decide) k
          show own_G p.tables e below s _ _ _ (s₁.setTop (mkF m 35 #[.val (.long la), .second, .val (.long ta), .second, .val (.long ra), .second, .val (.long ba), .second, .val (.long xa), .second, .val (.long ya), .second] [(.int (1 : Int32))]))
          exact own_retI X0 hx hlk Bd.returns (by simp) rfl (hb hby own_d6_35) ⟨congrArg (fun z => some (Value.int z)) (by simp only [own_in, if_neg hc4_21, if_pos hc12_22, if_neg hc19_23, if_pos hc27_24]), N0, e0⟩ (by decide) (by decide)
        · refine own_up ?_ fun t k => XS.ifYes X0.here hx rfl (pc0 := 27) (pc' := 34) rfl (hb hby own_d6_27) rfl ((if0 _ _).trans (flt (fun q => hc27_24 ((lw_lt _ _).mp q))).2.1) (by decide) (by decide) k
          show own_G p.tables e below s _ _ _ (s₁.setTop (mkF m 34 #[.val (.long la), .second, .val (.long ta), .second, .val (.long ra), .second, .val (.long ba), .second, .val (.long xa), .second, .val (.long ya), .second] []))
          refine own_up ?_ fun t k => XS.iconst X0.here hx rfl (hb hby own_d6_34) k
          show own_G p.tables e below s _ _ _ (s₁.setTop (mkF m 35 #[.val (.long la), .second, .val (.long ta), .second, .val (.long ra), .second, .val (.long ba), .second, .val (.long xa), .second, .val (.long ya), .second] [(.int (0 : Int32))]))
          exact own_retI X0 hx hlk Bd.returns (by simp) rfl (hb hby own_d6_35) ⟨congrArg (fun z => some (Value.int z)) (by simp only [own_in, if_neg hc4_21, if_pos hc12_22, if_neg hc19_23, if_neg hc27_24]), N0, e0⟩ (by decide) (by decide)
    · refine own_up ?_ fun t k => XS.ifYes X0.here hx rfl (pc0 := 12) (pc' := 34) rfl (hb hby own_d6_12) rfl ((if0 _ _).trans (flt (fun q => hc12_22 ((lw_lt _ _).mp q))).2.1) (by decide) (by decide) k
      show own_G p.tables e below s _ _ _ (s₁.setTop (mkF m 34 #[.val (.long la), .second, .val (.long ta), .second, .val (.long ra), .second, .val (.long ba), .second, .val (.long xa), .second, .val (.long ya), .second] []))
      refine own_up ?_ fun t k => XS.iconst X0.here hx rfl (hb hby own_d6_34) k
      show own_G p.tables e below s _ _ _ (s₁.setTop (mkF m 35 #[.val (.long la), .second, .val (.long ta), .second, .val (.long ra), .second, .val (.long ba), .second, .val (.long xa), .second, .val (.long ya), .second] [(.int (0 : Int32))]))
      exact own_retI X0 hx hlk Bd.returns (by simp) rfl (hb hby own_d6_35) ⟨congrArg (fun z => some (Value.int z)) (by simp only [own_in, if_neg hc4_21, if_neg hc12_22]), N0, e0⟩ (by decide) (by decide)
theorem own_d7_0 : decode prog_1_method_4_code 0 = .ok (.aload_n 1, 1) := by decide +kernel
theorem own_d7_1 : decode prog_1_method_4_code 1 = .ok (.getfield 7, 3) := by decide +kernel
theorem own_d7_4 : decode prog_1_method_4_code 4 = .ok (.aload_n 0, 1) := by decide +kernel
theorem own_d7_5 : decode prog_1_method_4_code 5 = .ok (.getfield 7, 3) := by decide +kernel
theorem own_d7_8 : decode prog_1_method_4_code 8 = .ok (.lcmp, 1) := by decide +kernel
theorem own_d7_9 : decode prog_1_method_4_code 9 = .ok (.ifCond .lt 43, 3) := by decide +kernel
theorem own_d7_12 : decode prog_1_method_4_code 12 = .ok (.aload_n 1, 1) := by decide +kernel
theorem own_d7_13 : decode prog_1_method_4_code 13 = .ok (.getfield 13, 3) := by decide +kernel
theorem own_d7_16 : decode prog_1_method_4_code 16 = .ok (.aload_n 0, 1) := by decide +kernel
theorem own_d7_17 : decode prog_1_method_4_code 17 = .ok (.getfield 13, 3) := by decide +kernel
theorem own_d7_20 : decode prog_1_method_4_code 20 = .ok (.lcmp, 1) := by decide +kernel
theorem own_d7_21 : decode prog_1_method_4_code 21 = .ok (.ifCond .lt 31, 3) := by decide +kernel
theorem own_d7_24 : decode prog_1_method_4_code 24 = .ok (.aload_n 1, 1) := by decide +kernel
theorem own_d7_25 : decode prog_1_method_4_code 25 = .ok (.getfield 16, 3) := by decide +kernel
theorem own_d7_28 : decode prog_1_method_4_code 28 = .ok (.aload_n 0, 1) := by decide +kernel
theorem own_d7_29 : decode prog_1_method_4_code 29 = .ok (.getfield 16, 3) := by decide +kernel
theorem own_d7_32 : decode prog_1_method_4_code 32 = .ok (.lcmp, 1) := by decide +kernel
theorem own_d7_33 : decode prog_1_method_4_code 33 = .ok (.ifCond .gt 19, 3) := by decide +kernel
theorem own_d7_36 : decode prog_1_method_4_code 36 = .ok (.aload_n 1, 1) := by decide +kernel
theorem own_d7_37 : decode prog_1_method_4_code 37 = .ok (.getfield 19, 3) := by decide +kernel
theorem own_d7_40 : decode prog_1_method_4_code 40 = .ok (.aload_n 0, 1) := by decide +kernel
theorem own_d7_41 : decode prog_1_method_4_code 41 = .ok (.getfield 19, 3) := by decide +kernel
theorem own_d7_44 : decode prog_1_method_4_code 44 = .ok (.lcmp, 1) := by decide +kernel
theorem own_d7_45 : decode prog_1_method_4_code 45 = .ok (.ifCond .gt 7, 3) := by decide +kernel
theorem own_d7_48 : decode prog_1_method_4_code 48 = .ok (.iconst 1, 1) := by decide +kernel
theorem own_d7_49 : decode prog_1_method_4_code 49 = .ok (.goto 4, 3) := by decide +kernel
theorem own_d7_52 : decode prog_1_method_4_code 52 = .ok (.iconst 0, 1) := by decide +kernel
theorem own_d7_53 : decode prog_1_method_4_code 53 = .ok (.ireturn, 1) := by decide +kernel
theorem own_ef_rm7 (m : MethodId) (x0 : Addr) (x1 : Addr) : entryFrame m #[(.ref x0), (.ref x1)] 2 = mkF m 0 #[.val (.ref x0), .val (.ref x1)] [] := by first | (simp [entryFrame, mkF, argsToLocals, Value.category]; done) | rfl
def own_Q_rm7 (Z : State) (a : Addr) (o : Addr) (lv : Int64) (tv : Int64) (rv : Int64) (bv : Int64) (ol : Int64) (ot : Int64) (orr : Int64) (ob : Int64) (h0 : Heap) (n0 : Nat) (v : Option Value) (h : Heap) (L : List Loc) : Prop := v = some (.int (own_holds lv tv rv bv ol ot orr ob)) ∧ Fr n0 L ∧ h = h0
set_option maxRecDepth 65536 in
set_option maxHeartbeats 40000000 in
theorem rm7 (l : Launch) (Z : State) (a0 : Array Value) (hw : ∀ d ∈ tables_1, d.before a0 Z = true) (ws : List Jvm.Cond) (a : Addr) (o : Addr) (lv : Int64) (tv : Int64) (rv : Int64) (bv : Int64) (ol : Int64) (ot : Int64) (orr : Int64) (ob : Int64) (h0 : Heap) (n0 : Nat) (Z0 : n0 ≤ h0.size) (Fa_left : Fld Z h0 a "com/example/mullion/mullion/Area" "left" "J" (.long lv)) (Fa_top : Fld Z h0 a "com/example/mullion/mullion/Area" "top" "J" (.long tv)) (Fa_right : Fld Z h0 a "com/example/mullion/mullion/Area" "right" "J" (.long rv)) (Fa_bottom : Fld Z h0 a "com/example/mullion/mullion/Area" "bottom" "J" (.long bv)) (Fo_left : Fld Z h0 o "com/example/mullion/mullion/Area" "left" "J" (.long ol)) (Fo_top : Fld Z h0 o "com/example/mullion/mullion/Area" "top" "J" (.long ot)) (Fo_right : Fld Z h0 o "com/example/mullion/mullion/Area" "right" "J" (.long orr)) (Fo_bottom : Fld Z h0 o "com/example/mullion/mullion/Area" "bottom" "J" (.long ob)) :
    MetFree l (⟨"com/example/mullion/mullion/Area", "holds", "(Lcom/example/mullion/mullion/Area;)Z"⟩ : MethodName) (head1 (Jvm.Cond.code (⟨"com/example/mullion/mullion/Area", "holds", "(Lcom/example/mullion/mullion/Area;)Z"⟩ : MethodName) prog_1_method_4_code 2 (some .boolean) :: ws) ({ frames := 0, cells := 0, slots := 0, locals := 0 } : Room)) (fun aa UU => aa = #[(.ref a), (.ref o)] ∧ Z.Warmed39 UU.vm ∧ UU.heap = h0) (fun _ _ _ _ _ => True) (fun _ UU oo UU' => ∃ vv LL, oo = .returned vv ∧ own_Q_rm7 Z a o lv tv rv bv ol ot orr ob h0 n0 vv UU'.heap LL ∧ FrameEnd UU oo UU' LL ({ frames := 0, cells := 0, slots := 0, locals := 0 } : Room).cells ({ frames := 0, cells := 0, slots := 0, locals := 0 } : Room).slots) := by
  refine MetFree.of_bodySF (plainFor_of_name own_pn1) hisR ?_
  intro p e s m args below meth c s₁ Bd hml0 hP hK
  obtain ⟨rfl, hZ, hh⟩ := hP
  have hx := Bd.exec
  have hby := Bd.bytes
  have hlk := Bd.notSynchronized
  have hml : c.maxLocals = 2 := hml0
  have hown : s.vm.findClass "com/example/mullion/mullion/Area" = some m.cls := findClass_of_methodNamed Bd.named
  have hnm := (name_of_methodNamed Bd.named Bd.method).1
  have X0 : Stand p l e ({ frames := 0, cells := 0, slots := 0, locals := 0 } : Room) s m #[(.ref a), (.ref o)] below meth c s₁ [] 0 0 := Stand.of_body Bd
  have e0 : s₁.heap = h0 := by rw [← hh, Bd.state]; rfl
  have N0 := Fr.nil n0
  show own_G p.tables e below s (own_Q_rm7 Z a o lv tv rv bv ol ot orr ob h0 n0) ({ frames := 0, cells := 0, slots := 0, locals := 0 } : Room).cells ({ frames := 0, cells := 0, slots := 0, locals := 0 } : Room).slots (s₁.setTop (entryFrame m #[(.ref a), (.ref o)] 2))
  refine own_up (U' := s₁.setTop (mkF m 0 #[.val (.ref a), .val (.ref o)] [])) ?_ (fun t k => castTop (own_ef_rm7 m a o) k)
  refine own_up ?_ fun t k => XS.aloadN X0.here hx rfl (hb hby own_d7_0) rfl rfl k
  show own_G p.tables e below s _ _ _ (s₁.setTop (mkF m 1 #[.val (.ref a), .val (.ref o)] [(.ref o)]))
  obtain ⟨T25, X25, e25, st25⟩ := getF X0 hx hZ hown (host := "") (Or.inl (hw _ (List.mem_of_getElem? (i := 21) rfl))) Via.refl e0 Fo_left (g := (mkF m 1 #[.val (.ref a), .val (.ref o)] [(.ref o)])) rfl rfl (hb hby own_d7_1)
  refine own_up ?_ st25
  show own_G p.tables e below s _ _ _ (T25.setTop (mkF m 4 #[.val (.ref a), .val (.ref o)] [(.long ol)]))
  refine own_up ?_ fun t k => XS.aloadN X25.here hx rfl (hb hby own_d7_4) rfl rfl k
  show own_G p.tables e below s _ _ _ (T25.setTop (mkF m 5 #[.val (.ref a), .val (.ref o)] [(.ref a), (.long ol)]))
  obtain ⟨T26, X26, e26, st26⟩ := getF X25 hx hZ hown (host := "") (Or.inl (hw _ (List.mem_of_getElem? (i := 21) rfl))) Via.refl e25 Fa_left (g := (mkF m 5 #[.val (.ref a), .val (.ref o)] [(.ref a), (.long ol)])) rfl rfl (hb hby own_d7_5)
  refine own_up ?_ st26
  show own_G p.tables e below s _ _ _ (T26.setTop (mkF m 8 #[.val (.ref a), .val (.ref o)] [(.long lv), (.long ol)]))
  refine own_up ?_ fun t k => XS.lcmp X26.here hx rfl (hb hby own_d7_8) rfl k
  show own_G p.tables e below s _ _ _ (T26.setTop (mkF m 9 #[.val (.ref a), .val (.ref o)] [(.int (lcmpW ol lv))]))
  by_cases hc9_27 : ol < lv
  · refine own_up ?_ fun t k => XS.ifYes X26.here hx rfl (pc0 := 9) (pc' := 52) rfl (hb hby own_d7_9) rfl ((if0 _ _).trans (tlt ((lw_lt _ _).mpr hc9_27)).1) (by decide) (by decide) k
    show own_G p.tables e below s _ _ _ (T26.setTop (mkF m 52 #[.val (.ref a), .val (.ref o)] []))
    refine own_up ?_ fun t k => XS.iconst X26.here hx rfl (hb hby own_d7_52) k
    show own_G p.tables e below s _ _ _ (T26.setTop (mkF m 53 #[.val (.ref a), .val (.ref o)] [(.int (0 : Int32))]))
    exact own_retI X26 hx hlk Bd.returns (by simp) rfl (hb hby own_d7_53) ⟨congrArg (fun z => some (Value.int z)) (by simp only [own_holds, if_pos hc9_27]), N0, e26⟩ (by decide) (by decide)
  · refine own_up ?_ fun t k => XS.ifNo X26.here hx rfl (hb hby own_d7_9) rfl ((if0 _ _).trans (flt (fun q => hc9_27 ((lw_lt _ _).mp q))).1) k
    show own_G p.tables e below s _ _ _ (T26.setTop (mkF m 12 #[.val (.ref a), .val (.ref o)] []))
    refine own_up ?_ fun t k => XS.aloadN X26.here hx rfl (hb hby own_d7_12) rfl rfl k
    show own_G p.tables e below s _ _ _ (T26.setTop (mkF m 13 #[.val (.ref a), .val (.ref o)] [(.ref o)]))
    obtain ⟨T28, X28, e28, st28⟩ := getF X26 hx hZ hown (host := "") (Or.inl (hw _ (List.mem_of_getElem? (i := 23) rfl))) Via.refl e26 Fo_top (g := (mkF m 13 #[.val (.ref a), .val (.ref o)] [(.ref o)])) rfl rfl (hb hby own_d7_13)
    refine own_up ?_ st28
    show own_G p.tables e below s _ _ _ (T28.setTop (mkF m 16 #[.val (.ref a), .val (.ref o)] [(.long ot)]))
    refine own_up ?_ fun t k => XS.aloadN X28.here hx rfl (hb hby own_d7_16) rfl rfl k
    show own_G p.tables e below s _ _ _ (T28.setTop (mkF m 17 #[.val (.ref a), .val (.ref o)] [(.ref a), (.long ot)]))
    obtain ⟨T29, X29, e29, st29⟩ := getF X28 hx hZ hown (host := "") (Or.inl (hw _ (List.mem_of_getElem? (i := 23) rfl))) Via.refl e28 Fa_top (g := (mkF m 17 #[.val (.ref a), .val (.ref o)] [(.ref a), (.long ot)])) rfl rfl (hb hby own_d7_17)
    refine own_up ?_ st29
    show own_G p.tables e below s _ _ _ (T29.setTop (mkF m 20 #[.val (.ref a), .val (.ref o)] [(.long tv), (.long ot)]))
    refine own_up ?_ fun t k => XS.lcmp X29.here hx rfl (hb hby own_d7_20) rfl k
    show own_G p.tables e below s _ _ _ (T29.setTop (mkF m 21 #[.val (.ref a), .val (.ref o)] [(.int (lcmpW ot tv))]))
    by_cases hc21_30 : ot < tv
    · refine own_up ?_ fun t k => XS.ifYes X29.here hx rfl (pc0 := 21) (pc' := 52) rfl (hb hby own_d7_21) rfl ((if0 _ _).trans (tlt ((lw_lt _ _).mpr hc21_30)).1) (by decide) (by decide) k
      show own_G p.tables e below s _ _ _ (T29.setTop (mkF m 52 #[.val (.ref a), .val (.ref o)] []))
      refine own_up ?_ fun t k => XS.iconst X29.here hx rfl (hb hby own_d7_52) k
      show own_G p.tables e below s _ _ _ (T29.setTop (mkF m 53 #[.val (.ref a), .val (.ref o)] [(.int (0 : Int32))]))
      exact own_retI X29 hx hlk Bd.returns (by simp) rfl (hb hby own_d7_53) ⟨congrArg (fun z => some (Value.int z)) (by simp only [own_holds, if_neg hc9_27, if_pos hc21_30]), N0, e29⟩ (by decide) (by decide)
    · refine own_up ?_ fun t k => XS.ifNo X29.here hx rfl (hb hby own_d7_21) rfl ((if0 _ _).trans (flt (fun q => hc21_30 ((lw_lt _ _).mp q))).1) k
      show own_G p.tables e below s _ _ _ (T29.setTop (mkF m 24 #[.val (.ref a), .val (.ref o)] []))
      refine own_up ?_ fun t k => XS.aloadN X29.here hx rfl (hb hby own_d7_24) rfl rfl k
      show own_G p.tables e below s _ _ _ (T29.setTop (mkF m 25 #[.val (.ref a), .val (.ref o)] [(.ref o)]))
      obtain ⟨T31, X31, e31, st31⟩ := getF X29 hx hZ hown (host := "") (Or.inl (hw _ (List.mem_of_getElem? (i := 25) rfl))) Via.refl e29 Fo_right (g := (mkF m 25 #[.val (.ref a), .val (.ref o)] [(.ref o)])) rfl rfl (hb hby own_d7_25)
      refine own_up ?_ st31
      show own_G p.tables e below s _ _ _ (T31.setTop (mkF m 28 #[.val (.ref a), .val (.ref o)] [(.long orr)]))
      refine own_up ?_ fun t k => XS.aloadN X31.here hx rfl (hb hby own_d7_28) rfl rfl k
      show own_G p.tables e below s _ _ _ (T31.setTop (mkF m 29 #[.val (.ref a), .val (.ref o)] [(.ref a), (.long orr)]))
      obtain ⟨T32, X32, e32, st32⟩ := getF X31 hx hZ hown (host := "") (Or.inl (hw _ (List.mem_of_getElem? (i := 25) rfl))) Via.refl e31 Fa_right (g := (mkF m 29 #[.val (.ref a), .val (.ref o)] [(.ref a), (.long orr)])) rfl rfl (hb hby own_d7_29)
      refine own_up ?_ st32
      show own_G p.tables e below s _ _ _ (T32.setTop (mkF m 32 #[.val (.ref a), .val (.ref o)] [(.long rv), (.long orr)]))
      refine own_up ?_ fun t k => XS.lcmp X32.here hx rfl (hb hby own_d7_32) rfl k
      show own_G p.tables e below s _ _ _ (T32.setTop (mkF m 33 #[.val (.ref a), .val (.ref o)] [(.int (lcmpW orr rv))]))
      by_cases hc33_33 : rv < orr
      · refine own_up ?_ fun t k => XS.ifYes X32.here hx rfl (pc0 := 33) (pc' := 52) rfl (hb hby own_d7_33) rfl ((if0 _ _).trans (tlt ((lw_gt _ _).mpr hc33_33)).2.2.1) (by decide) (by decide) k
        show own_G p.tables e below s _ _ _ (T32.setTop (mkF m 52 #[.val (.ref a), .val (.ref o)] []))
        refine own_up ?_ fun t k => XS.iconst X32.here hx rfl (hb hby own_d7_52) k
        show own_G p.tables e below s _ _ _ (T32.setTop (mkF m 53 #[.val (.ref a), .val (.ref o)] [(.int (0 : Int32))]))
        exact own_retI X32 hx hlk Bd.returns (by simp) rfl (hb hby own_d7_53) ⟨congrArg (fun z => some (Value.int z)) (by simp only [own_holds, if_neg hc9_27, if_neg hc21_30, if_pos hc33_33]), N0, e32⟩ (by decide) (by decide)
      · refine own_up ?_ fun t k => XS.ifNo X32.here hx rfl (hb hby own_d7_33) rfl ((if0 _ _).trans (flt (fun q => hc33_33 ((lw_gt _ _).mp q))).2.2.1) k
        show own_G p.tables e below s _ _ _ (T32.setTop (mkF m 36 #[.val (.ref a), .val (.ref o)] []))
        refine own_up ?_ fun t k => XS.aloadN X32.here hx rfl (hb hby own_d7_36) rfl rfl k
        show own_G p.tables e below s _ _ _ (T32.setTop (mkF m 37 #[.val (.ref a), .val (.ref o)] [(.ref o)]))
        obtain ⟨T34, X34, e34, st34⟩ := getF X32 hx hZ hown (host := "") (Or.inl (hw _ (List.mem_of_getElem? (i := 27) rfl))) Via.refl e32 Fo_bottom (g := (mkF m 37 #[.val (.ref a), .val (.ref o)] [(.ref o)])) rfl rfl (hb hby own_d7_37)
        refine own_up ?_ st34
        show own_G p.tables e below s _ _ _ (T34.setTop (mkF m 40 #[.val (.ref a), .val (.ref o)] [(.long ob)]))
        refine own_up ?_ fun t k => XS.aloadN X34.here hx rfl (hb hby own_d7_40) rfl rfl k
        show own_G p.tables e below s _ _ _ (T34.setTop (mkF m 41 #[.val (.ref a), .val (.ref o)] [(.ref a), (.long ob)]))
        obtain ⟨T35, X35, e35, st35⟩ := getF X34 hx hZ hown (host := "") (Or.inl (hw _ (List.mem_of_getElem? (i := 27) rfl))) Via.refl e34 Fa_bottom (g := (mkF m 41 #[.val (.ref a), .val (.ref o)] [(.ref a), (.long ob)])) rfl rfl (hb hby own_d7_41)
        refine own_up ?_ st35
        show own_G p.tables e below s _ _ _ (T35.setTop (mkF m 44 #[.val (.ref a), .val (.ref o)] [(.long bv), (.long ob)]))
        refine own_up ?_ fun t k => XS.lcmp X35.here hx rfl (hb hby own_d7_44) rfl k
        show own_G p.tables e below s _ _ _ (T35.setTop (mkF m 45 #[.val (.ref a), .val (.ref o)] [(.int (lcmpW ob bv))]))
        by_cases hc45_36 : bv < ob
        · refine own_up ?_ fun t k => XS.ifYes X35.here hx rfl (pc0 := 45) (pc' := 52) rfl (hb hby own_d7_45) rfl ((if0 _ _).trans (tlt ((lw_gt _ _).mpr hc45_36)).2.2.1) (by decide) (by decide) k
          show own_G p.tables e below s _ _ _ (T35.setTop (mkF m 52 #[.val (.ref a), .val (.ref o)] []))
          refine own_up ?_ fun t k => XS.iconst X35.here hx rfl (hb hby own_d7_52) k
          show own_G p.tables e below s _ _ _ (T35.setTop (mkF m 53 #[.val (.ref a), .val (.ref o)] [(.int (0 : Int32))]))
          exact own_retI X35 hx hlk Bd.returns (by simp) rfl (hb hby own_d7_53) ⟨congrArg (fun z => some (Value.int z)) (by simp only [own_holds, if_neg hc9_27, if_neg hc21_30, if_neg hc33_33, if_pos hc45_36]), N0, e35⟩ (by decide) (by decide)
        · refine own_up ?_ fun t k => XS.ifNo X35.here hx rfl (hb hby own_d7_45) rfl ((if0 _ _).trans (flt (fun q => hc45_36 ((lw_gt _ _).mp q))).2.2.1) k
          show own_G p.tables e below s _ _ _ (T35.setTop (mkF m 48 #[.val (.ref a), .val (.ref o)] []))
          refine own_up ?_ fun t k => XS.iconst X35.here hx rfl (hb hby own_d7_48) k
          show own_G p.tables e below s _ _ _ (T35.setTop (mkF m 49 #[.val (.ref a), .val (.ref o)] [(.int (1 : Int32))]))
          refine own_up ?_ fun t k => XS.goto X35.here hx rfl (pc0 := 49) (pc' := 53) rfl (hb hby own_d7_49) (by decide) (by decide) k
          show own_G p.tables e below s _ _ _ (T35.setTop (mkF m 53 #[.val (.ref a), .val (.ref o)] [(.int (1 : Int32))]))
          exact own_retI X35 hx hlk Bd.returns (by simp) rfl (hb hby own_d7_53) ⟨congrArg (fun z => some (Value.int z)) (by simp only [own_holds, if_neg hc9_27, if_neg hc21_30, if_neg hc33_33, if_neg hc45_36]), N0, e35⟩ (by decide) (by decide)
theorem own_ef_rm0 (m : MethodId) (x0 : Int64) (x1 : Int64) (x2 : Int64) (x3 : Int64) (x4 : Int32) (x5 : Int32) : entryFrame m #[(.long x0), (.long x1), (.long x2), (.long x3), (.int x4), (.int x5)] maxLocals = mkF m 0 #[.val (.long x0), .second, .val (.long x1), .second, .val (.long x2), .second, .val (.long x3), .second, .val (.int x4), .val (.int x5), .unset, .unset, .unset, .unset, .unset, .unset, .unset, .unset, .unset, .unset, .unset, .unset, .unset, .unset, .unset, .unset, .unset, .unset, .unset] [] := by first | (simp [entryFrame, mkF, argsToLocals, Value.category, maxLocals]; done) | rfl
def own_Q_rm0 (Z : State) (q1 : Int64) (q2 : Int64) (q3 : Int64) (q4 : Int64) (jj : Int32) (kk : Int32) (h0 : Heap) (n0 : Nat) (v : Option Value) (h : Heap) (L : List Loc) : Prop := v = some (.int (1 : Int32)) ∧ Fr n0 L
set_option maxRecDepth 65536 in
set_option maxHeartbeats 40000000 in
theorem rm0 (l : Launch) (Z : State) (a0 : Array Value) (hw : ∀ d ∈ tables_1, d.before a0 Z = true) (ws : List Jvm.Cond) (q1 : Int64) (q2 : Int64) (q3 : Int64) (q4 : Int64) (jj : Int32) (kk : Int32) (h0 : Heap) (n0 : Nat) (Z0 : n0 ≤ h0.size) :
    MetFree l x (head1 (Jvm.Cond.code x code maxLocals ret :: ws) room_1) (fun aa UU => aa = #[(.long q1), (.long q2), (.long q3), (.long q4), (.int jj), (.int kk)] ∧ Z.Warmed39 UU.vm ∧ UU.heap = h0) (fun _ _ _ _ _ => True) (fun _ UU oo UU' => ∃ vv LL, oo = .returned vv ∧ own_Q_rm0 Z q1 q2 q3 q4 jj kk h0 n0 vv UU'.heap LL ∧ FrameEnd UU oo UU' LL room_1.cells room_1.slots) := by
  refine MetFree.of_bodySF (plainFor_of_name own_pn2) hisR ?_
  intro p e s m args below meth c s₁ Bd hml0 hP hK
  obtain ⟨rfl, hZ, hh⟩ := hP
  have hx := Bd.exec
  have hby := Bd.bytes
  have hlk := Bd.notSynchronized
  have hml : c.maxLocals = 29 := hml0
  have hown : s.vm.findClass "com/example/mullion/mullion/AreaHoldsPinLaw" = some m.cls := findClass_of_methodNamed Bd.named
  have hnm := (name_of_methodNamed Bd.named Bd.method).1
  have X0 : Stand p l e room_1 s m #[(.long q1), (.long q2), (.long q3), (.long q4), (.int jj), (.int kk)] below meth c s₁ [] 0 0 := Stand.of_body Bd
  have e0 : s₁.heap = h0 := by rw [← hh, Bd.state]; rfl
  have N0 := Fr.nil n0
  show own_G p.tables e below s (own_Q_rm0 Z q1 q2 q3 q4 jj kk h0 n0) room_1.cells room_1.slots (s₁.setTop (entryFrame m #[(.long q1), (.long q2), (.long q3), (.long q4), (.int jj), (.int kk)] maxLocals))
  refine own_up (U' := s₁.setTop (mkF m 0 #[.val (.long q1), .second, .val (.long q2), .second, .val (.long q3), .second, .val (.long q4), .second, .val (.int jj), .val (.int kk), .unset, .unset, .unset, .unset, .unset, .unset, .unset, .unset, .unset, .unset, .unset, .unset, .unset, .unset, .unset, .unset, .unset, .unset, .unset] [])) ?_ (fun t k => castTop (own_ef_rm0 m q1 q2 q3 q4 jj kk) k)
  refine own_up ?_ fun t k => XS.lloadN X0.here hx rfl (hb hby at_0) rfl k
  show own_G p.tables e below s _ _ _ (s₁.setTop (mkF m 1 #[.val (.long q1), .second, .val (.long q2), .second, .val (.long q3), .second, .val (.long q4), .second, .val (.int jj), .val (.int kk), .unset, .unset, .unset, .unset, .unset, .unset, .unset, .unset, .unset, .unset, .unset, .unset, .unset, .unset, .unset, .unset, .unset, .unset, .unset] [(.long q1)]))
  refine own_up ?_ fun t k => XS.lload X0.here hx rfl (hb hby at_1) rfl k
  show own_G p.tables e below s _ _ _ (s₁.setTop (mkF m 3 #[.val (.long q1), .second, .val (.long q2), .second, .val (.long q3), .second, .val (.long q4), .second, .val (.int jj), .val (.int kk), .unset, .unset, .unset, .unset, .unset, .unset, .unset, .unset, .unset, .unset, .unset, .unset, .unset, .unset, .unset, .unset, .unset, .unset, .unset] [(.long q3), (.long q1)]))
  obtain ⟨_, _, ⟨T37, L37, k37, n37⟩, -, X37, ⟨Lc37, hQ37, l37, y37, z37⟩, st37⟩ := Jvm.LawKit.callS X0 hx (y := (⟨"java/lang/Math", "min", "(JJ)J"⟩ : MethodName)) hown (mvT hZ (hw _ (List.mem_of_getElem? (i := 0) rfl))) (mvT hZ (hw _ (List.mem_of_getElem? (i := 1) rfl))) (mvT hZ (hw _ (List.mem_of_getElem? (i := 2) rfl))) (mvT hZ (hw _ (List.mem_of_getElem? (i := 3) rfl))) (by decide) (backOf (W := 0) (rm1 l Z a0 hw [] q1 q3  h0 n0 Z0 ) hZ (hw _ (List.mem_of_getElem? (i := 3) rfl)) (hw _ (List.mem_of_getElem? (i := 2) rfl)) (by decide) (by decide)) (g := (mkF m 3 #[.val (.long q1), .second, .val (.long q2), .second, .val (.long q3), .second, .val (.long q4), .second, .val (.int jj), .val (.int kk), .unset, .unset, .unset, .unset, .unset, .unset, .unset, .unset, .unset, .unset, .unset, .unset, .unset, .unset, .unset, .unset, .unset, .unset, .unset] [(.long q3), (.long q1)])) rfl (by rw [hml]; rfl) (argsL := [(.long q1), (.long q3)]) (rest := []) (lenOf own_pd1 rfl) rfl (by show 2 * 0 + _ ≤ _; exact Nat.le_of_eq rfl) (hb hby at_3) (fun _ _ => ⟨rfl, e0, (by decide : 0 + 0 ≤ _), (by decide : 0 + 0 ≤ _)⟩)
  dsimp only [Pt.U, Pt.locs, Pt.cells, Pt.slots] at X37 l37 y37 z37 st37 hQ37
  subst l37 y37 z37
  obtain ⟨rfl, Nq37, e37⟩ := hQ37
  have N37 := Fr.app N0 Nq37
  refine own_up ?_ (st37)
  show own_G p.tables e below s _ _ _ (T37.setTop (mkF m 6 #[.val (.long q1), .second, .val (.long q2), .second, .val (.long q3), .second, .val (.long q4), .second, .val (.int jj), .val (.int kk), .unset, .unset, .unset, .unset, .unset, .unset, .unset, .unset, .unset, .unset, .unset, .unset, .unset, .unset, .unset, .unset, .unset, .unset, .unset] [(.long (own_min q1 q3))]))
  refine own_up ?_ fun t k => XS.lstore X37.here hx rfl (hb hby at_6) rfl (l' := #[.val (.long q1), .second, .val (.long q2), .second, .val (.long q3), .second, .val (.long q4), .second, .val (.int jj), .val (.int kk), .val (.long (own_min q1 q3)), .second, .unset, .unset, .unset, .unset, .unset, .unset, .unset, .unset, .unset, .unset, .unset, .unset, .unset, .unset, .unset, .unset, .unset]) rfl k
  show own_G p.tables e below s _ _ _ (T37.setTop (mkF m 8 #[.val (.long q1), .second, .val (.long q2), .second, .val (.long q3), .second, .val (.long q4), .second, .val (.int jj), .val (.int kk), .val (.long (own_min q1 q3)), .second, .unset, .unset, .unset, .unset, .unset, .unset, .unset, .unset, .unset, .unset, .unset, .unset, .unset, .unset, .unset, .unset, .unset] []))
  obtain ⟨ol, h_ol⟩ : ∃ z, z = (own_min q1 q3) := ⟨_, rfl⟩
  rw [← h_ol]
  show own_G p.tables e below s _ _ _ (T37.setTop (mkF m 8 #[.val (.long q1), .second, .val (.long q2), .second, .val (.long q3), .second, .val (.long q4), .second, .val (.int jj), .val (.int kk), .val (.long ol), .second, .unset, .unset, .unset, .unset, .unset, .unset, .unset, .unset, .unset, .unset, .unset, .unset, .unset, .unset, .unset, .unset, .unset] []))
  refine own_up ?_ fun t k => XS.lloadN X37.here hx rfl (hb hby at_8) rfl k
  show own_G p.tables e below s _ _ _ (T37.setTop (mkF m 9 #[.val (.long q1), .second, .val (.long q2), .second, .val (.long q3), .second, .val (.long q4), .second, .val (.int jj), .val (.int kk), .val (.long ol), .second, .unset, .unset, .unset, .unset, .unset, .unset, .unset, .unset, .unset, .unset, .unset, .unset, .unset, .unset, .unset, .unset, .unset] [(.long q1)]))
  refine own_up ?_ fun t k => XS.lload X37.here hx rfl (hb hby at_9) rfl k
  show own_G p.tables e below s _ _ _ (T37.setTop (mkF m 11 #[.val (.long q1), .second, .val (.long q2), .second, .val (.long q3), .second, .val (.long q4), .second, .val (.int jj), .val (.int kk), .val (.long ol), .second, .unset, .unset, .unset, .unset, .unset, .unset, .unset, .unset, .unset, .unset, .unset, .unset, .unset, .unset, .unset, .unset, .unset] [(.long q3), (.long q1)]))
  obtain ⟨_, _, ⟨T38, L38, k38, n38⟩, -, X38, ⟨Lc38, hQ38, l38, y38, z38⟩, st38⟩ := Jvm.LawKit.callS X37 hx (y := (⟨"java/lang/Math", "max", "(JJ)J"⟩ : MethodName)) hown (mvT hZ (hw _ (List.mem_of_getElem? (i := 4) rfl))) (mvT hZ (hw _ (List.mem_of_getElem? (i := 5) rfl))) (mvT hZ (hw _ (List.mem_of_getElem? (i := 2) rfl))) (mvT hZ (hw _ (List.mem_of_getElem? (i := 6) rfl))) (by decide) (backOf (W := 0) (rm2 l Z a0 hw [] q1 q3  h0 n0 Z0 ) hZ (hw _ (List.mem_of_getElem? (i := 6) rfl)) (hw _ (List.mem_of_getElem? (i := 2) rfl)) (by decide) (by decide)) (g := (mkF m 11 #[.val (.long q1), .second, .val (.long q2), .second, .val (.long q3), .second, .val (.long q4), .second, .val (.int jj), .val (.int kk), .val (.long ol), .second, .unset, .unset, .unset, .unset, .unset, .unset, .unset, .unset, .unset, .unset, .unset, .unset, .unset, .unset, .unset, .unset, .unset] [(.long q3), (.long q1)])) rfl (by rw [hml]; rfl) (argsL := [(.long q1), (.long q3)]) (rest := []) (lenOf own_pd1 rfl) rfl (by show 2 * 0 + _ ≤ _; exact Nat.le_of_eq rfl) (hb hby at_11) (fun _ _ => ⟨rfl, e37, (by decide : 0 + 0 ≤ _), (by decide : 0 + 0 ≤ _)⟩)
  dsimp only [Pt.U, Pt.locs, Pt.cells, Pt.slots] at X38 l38 y38 z38 st38 hQ38
  subst l38 y38 z38
  obtain ⟨rfl, Nq38, e38⟩ := hQ38
  have N38 := Fr.app N37 Nq38
  refine own_up ?_ (st38)
  show own_G p.tables e below s _ _ _ (T38.setTop (mkF m 14 #[.val (.long q1), .second, .val (.long q2), .second, .val (.long q3), .second, .val (.long q4), .second, .val (.int jj), .val (.int kk), .val (.long ol), .second, .unset, .unset, .unset, .unset, .unset, .unset, .unset, .unset, .unset, .unset, .unset, .unset, .unset, .unset, .unset, .unset, .unset] [(.long (own_max q1 q3))]))
  refine own_up ?_ fun t k => XS.lstore X38.here hx rfl (hb hby at_14) rfl (l' := #[.val (.long q1), .second, .val (.long q2), .second, .val (.long q3), .second, .val (.long q4), .second, .val (.int jj), .val (.int kk), .val (.long ol), .second, .val (.long (own_max q1 q3)), .second, .unset, .unset, .unset, .unset, .unset, .unset, .unset, .unset, .unset, .unset, .unset, .unset, .unset, .unset, .unset]) rfl k
  show own_G p.tables e below s _ _ _ (T38.setTop (mkF m 16 #[.val (.long q1), .second, .val (.long q2), .second, .val (.long q3), .second, .val (.long q4), .second, .val (.int jj), .val (.int kk), .val (.long ol), .second, .val (.long (own_max q1 q3)), .second, .unset, .unset, .unset, .unset, .unset, .unset, .unset, .unset, .unset, .unset, .unset, .unset, .unset, .unset, .unset] []))
  obtain ⟨orr, h_orr⟩ : ∃ z, z = (own_max q1 q3) := ⟨_, rfl⟩
  rw [← h_orr]
  show own_G p.tables e below s _ _ _ (T38.setTop (mkF m 16 #[.val (.long q1), .second, .val (.long q2), .second, .val (.long q3), .second, .val (.long q4), .second, .val (.int jj), .val (.int kk), .val (.long ol), .second, .val (.long orr), .second, .unset, .unset, .unset, .unset, .unset, .unset, .unset, .unset, .unset, .unset, .unset, .unset, .unset, .unset, .unset] []))
  refine own_up ?_ fun t k => XS.lloadN X38.here hx rfl (hb hby at_16) rfl k
  show own_G p.tables e below s _ _ _ (T38.setTop (mkF m 17 #[.val (.long q1), .second, .val (.long q2), .second, .val (.long q3), .second, .val (.long q4), .second, .val (.int jj), .val (.int kk), .val (.long ol), .second, .val (.long orr), .second, .unset, .unset, .unset, .unset, .unset, .unset, .unset, .unset, .unset, .unset, .unset, .unset, .unset, .unset, .unset] [(.long q2)]))
  refine own_up ?_ fun t k => XS.lload X38.here hx rfl (hb hby at_17) rfl k
  show own_G p.tables e below s _ _ _ (T38.setTop (mkF m 19 #[.val (.long q1), .second, .val (.long q2), .second, .val (.long q3), .second, .val (.long q4), .second, .val (.int jj), .val (.int kk), .val (.long ol), .second, .val (.long orr), .second, .unset, .unset, .unset, .unset, .unset, .unset, .unset, .unset, .unset, .unset, .unset, .unset, .unset, .unset, .unset] [(.long q4), (.long q2)]))
  obtain ⟨_, _, ⟨T39, L39, k39, n39⟩, -, X39, ⟨Lc39, hQ39, l39, y39, z39⟩, st39⟩ := Jvm.LawKit.callS X38 hx (y := (⟨"java/lang/Math", "min", "(JJ)J"⟩ : MethodName)) hown (mvT hZ (hw _ (List.mem_of_getElem? (i := 0) rfl))) (mvT hZ (hw _ (List.mem_of_getElem? (i := 1) rfl))) (mvT hZ (hw _ (List.mem_of_getElem? (i := 2) rfl))) (mvT hZ (hw _ (List.mem_of_getElem? (i := 3) rfl))) (by decide) (backOf (W := 0) (rm1 l Z a0 hw [] q2 q4  h0 n0 Z0 ) hZ (hw _ (List.mem_of_getElem? (i := 3) rfl)) (hw _ (List.mem_of_getElem? (i := 2) rfl)) (by decide) (by decide)) (g := (mkF m 19 #[.val (.long q1), .second, .val (.long q2), .second, .val (.long q3), .second, .val (.long q4), .second, .val (.int jj), .val (.int kk), .val (.long ol), .second, .val (.long orr), .second, .unset, .unset, .unset, .unset, .unset, .unset, .unset, .unset, .unset, .unset, .unset, .unset, .unset, .unset, .unset] [(.long q4), (.long q2)])) rfl (by rw [hml]; rfl) (argsL := [(.long q2), (.long q4)]) (rest := []) (lenOf own_pd1 rfl) rfl (by show 2 * 0 + _ ≤ _; exact Nat.le_of_eq rfl) (hb hby at_19) (fun _ _ => ⟨rfl, e38, (by decide : 0 + 0 ≤ _), (by decide : 0 + 0 ≤ _)⟩)
  dsimp only [Pt.U, Pt.locs, Pt.cells, Pt.slots] at X39 l39 y39 z39 st39 hQ39
  subst l39 y39 z39
  obtain ⟨rfl, Nq39, e39⟩ := hQ39
  have N39 := Fr.app N38 Nq39
  refine own_up ?_ (st39)
  show own_G p.tables e below s _ _ _ (T39.setTop (mkF m 22 #[.val (.long q1), .second, .val (.long q2), .second, .val (.long q3), .second, .val (.long q4), .second, .val (.int jj), .val (.int kk), .val (.long ol), .second, .val (.long orr), .second, .unset, .unset, .unset, .unset, .unset, .unset, .unset, .unset, .unset, .unset, .unset, .unset, .unset, .unset, .unset] [(.long (own_min q2 q4))]))
  refine own_up ?_ fun t k => XS.lstore X39.here hx rfl (hb hby at_22) rfl (l' := #[.val (.long q1), .second, .val (.long q2), .second, .val (.long q3), .second, .val (.long q4), .second, .val (.int jj), .val (.int kk), .val (.long ol), .second, .val (.long orr), .second, .val (.long (own_min q2 q4)), .second, .unset, .unset, .unset, .unset, .unset, .unset, .unset, .unset, .unset, .unset, .unset, .unset, .unset]) rfl k
  show own_G p.tables e below s _ _ _ (T39.setTop (mkF m 24 #[.val (.long q1), .second, .val (.long q2), .second, .val (.long q3), .second, .val (.long q4), .second, .val (.int jj), .val (.int kk), .val (.long ol), .second, .val (.long orr), .second, .val (.long (own_min q2 q4)), .second, .unset, .unset, .unset, .unset, .unset, .unset, .unset, .unset, .unset, .unset, .unset, .unset, .unset] []))
  obtain ⟨ot, h_ot⟩ : ∃ z, z = (own_min q2 q4) := ⟨_, rfl⟩
  rw [← h_ot]
  show own_G p.tables e below s _ _ _ (T39.setTop (mkF m 24 #[.val (.long q1), .second, .val (.long q2), .second, .val (.long q3), .second, .val (.long q4), .second, .val (.int jj), .val (.int kk), .val (.long ol), .second, .val (.long orr), .second, .val (.long ot), .second, .unset, .unset, .unset, .unset, .unset, .unset, .unset, .unset, .unset, .unset, .unset, .unset, .unset] []))
  refine own_up ?_ fun t k => XS.lloadN X39.here hx rfl (hb hby at_24) rfl k
  show own_G p.tables e below s _ _ _ (T39.setTop (mkF m 25 #[.val (.long q1), .second, .val (.long q2), .second, .val (.long q3), .second, .val (.long q4), .second, .val (.int jj), .val (.int kk), .val (.long ol), .second, .val (.long orr), .second, .val (.long ot), .second, .unset, .unset, .unset, .unset, .unset, .unset, .unset, .unset, .unset, .unset, .unset, .unset, .unset] [(.long q2)]))
  refine own_up ?_ fun t k => XS.lload X39.here hx rfl (hb hby at_25) rfl k
  show own_G p.tables e below s _ _ _ (T39.setTop (mkF m 27 #[.val (.long q1), .second, .val (.long q2), .second, .val (.long q3), .second, .val (.long q4), .second, .val (.int jj), .val (.int kk), .val (.long ol), .second, .val (.long orr), .second, .val (.long ot), .second, .unset, .unset, .unset, .unset, .unset, .unset, .unset, .unset, .unset, .unset, .unset, .unset, .unset] [(.long q4), (.long q2)]))
  obtain ⟨_, _, ⟨T40, L40, k40, n40⟩, -, X40, ⟨Lc40, hQ40, l40, y40, z40⟩, st40⟩ := Jvm.LawKit.callS X39 hx (y := (⟨"java/lang/Math", "max", "(JJ)J"⟩ : MethodName)) hown (mvT hZ (hw _ (List.mem_of_getElem? (i := 4) rfl))) (mvT hZ (hw _ (List.mem_of_getElem? (i := 5) rfl))) (mvT hZ (hw _ (List.mem_of_getElem? (i := 2) rfl))) (mvT hZ (hw _ (List.mem_of_getElem? (i := 6) rfl))) (by decide) (backOf (W := 0) (rm2 l Z a0 hw [] q2 q4  h0 n0 Z0 ) hZ (hw _ (List.mem_of_getElem? (i := 6) rfl)) (hw _ (List.mem_of_getElem? (i := 2) rfl)) (by decide) (by decide)) (g := (mkF m 27 #[.val (.long q1), .second, .val (.long q2), .second, .val (.long q3), .second, .val (.long q4), .second, .val (.int jj), .val (.int kk), .val (.long ol), .second, .val (.long orr), .second, .val (.long ot), .second, .unset, .unset, .unset, .unset, .unset, .unset, .unset, .unset, .unset, .unset, .unset, .unset, .unset] [(.long q4), (.long q2)])) rfl (by rw [hml]; rfl) (argsL := [(.long q2), (.long q4)]) (rest := []) (lenOf own_pd1 rfl) rfl (by show 2 * 0 + _ ≤ _; exact Nat.le_of_eq rfl) (hb hby at_27) (fun _ _ => ⟨rfl, e39, (by decide : 0 + 0 ≤ _), (by decide : 0 + 0 ≤ _)⟩)
  dsimp only [Pt.U, Pt.locs, Pt.cells, Pt.slots] at X40 l40 y40 z40 st40 hQ40
  subst l40 y40 z40
  obtain ⟨rfl, Nq40, e40⟩ := hQ40
  have N40 := Fr.app N39 Nq40
  refine own_up ?_ (st40)
  show own_G p.tables e below s _ _ _ (T40.setTop (mkF m 30 #[.val (.long q1), .second, .val (.long q2), .second, .val (.long q3), .second, .val (.long q4), .second, .val (.int jj), .val (.int kk), .val (.long ol), .second, .val (.long orr), .second, .val (.long ot), .second, .unset, .unset, .unset, .unset, .unset, .unset, .unset, .unset, .unset, .unset, .unset, .unset, .unset] [(.long (own_max q2 q4))]))
  refine own_up ?_ fun t k => XS.lstore X40.here hx rfl (hb hby at_30) rfl (l' := #[.val (.long q1), .second, .val (.long q2), .second, .val (.long q3), .second, .val (.long q4), .second, .val (.int jj), .val (.int kk), .val (.long ol), .second, .val (.long orr), .second, .val (.long ot), .second, .val (.long (own_max q2 q4)), .second, .unset, .unset, .unset, .unset, .unset, .unset, .unset, .unset, .unset, .unset, .unset]) rfl k
  show own_G p.tables e below s _ _ _ (T40.setTop (mkF m 32 #[.val (.long q1), .second, .val (.long q2), .second, .val (.long q3), .second, .val (.long q4), .second, .val (.int jj), .val (.int kk), .val (.long ol), .second, .val (.long orr), .second, .val (.long ot), .second, .val (.long (own_max q2 q4)), .second, .unset, .unset, .unset, .unset, .unset, .unset, .unset, .unset, .unset, .unset, .unset] []))
  obtain ⟨ob, h_ob⟩ : ∃ z, z = (own_max q2 q4) := ⟨_, rfl⟩
  rw [← h_ob]
  show own_G p.tables e below s _ _ _ (T40.setTop (mkF m 32 #[.val (.long q1), .second, .val (.long q2), .second, .val (.long q3), .second, .val (.long q4), .second, .val (.int jj), .val (.int kk), .val (.long ol), .second, .val (.long orr), .second, .val (.long ot), .second, .val (.long ob), .second, .unset, .unset, .unset, .unset, .unset, .unset, .unset, .unset, .unset, .unset, .unset] []))
  refine own_up ?_ fun t k => XS.lload X40.here hx rfl (hb hby at_32) rfl k
  show own_G p.tables e below s _ _ _ (T40.setTop (mkF m 34 #[.val (.long q1), .second, .val (.long q2), .second, .val (.long q3), .second, .val (.long q4), .second, .val (.int jj), .val (.int kk), .val (.long ol), .second, .val (.long orr), .second, .val (.long ot), .second, .val (.long ob), .second, .unset, .unset, .unset, .unset, .unset, .unset, .unset, .unset, .unset, .unset, .unset] [(.long ol)]))
  refine own_up ?_ fun t k => XS.lload X40.here hx rfl (hb hby at_34) rfl k
  show own_G p.tables e below s _ _ _ (T40.setTop (mkF m 36 #[.val (.long q1), .second, .val (.long q2), .second, .val (.long q3), .second, .val (.long q4), .second, .val (.int jj), .val (.int kk), .val (.long ol), .second, .val (.long orr), .second, .val (.long ot), .second, .val (.long ob), .second, .unset, .unset, .unset, .unset, .unset, .unset, .unset, .unset, .unset, .unset, .unset] [(.long orr), (.long ol)]))
  refine own_up ?_ fun t k => XS.lcmp X40.here hx rfl (hb hby at_36) rfl k
  show own_G p.tables e below s _ _ _ (T40.setTop (mkF m 37 #[.val (.long q1), .second, .val (.long q2), .second, .val (.long q3), .second, .val (.long q4), .second, .val (.int jj), .val (.int kk), .val (.long ol), .second, .val (.long orr), .second, .val (.long ot), .second, .val (.long ob), .second, .unset, .unset, .unset, .unset, .unset, .unset, .unset, .unset, .unset, .unset, .unset] [(.int (lcmpW ol orr))]))
  by_cases hc37_41 : ol = orr
  · refine own_up ?_ fun t k => XS.ifYes X40.here hx rfl (pc0 := 37) (pc' := 48) rfl (hb hby at_37) rfl ((if0 _ _).trans (teq ((lw_eq _ _).mpr hc37_41)).1) (by decide) (by decide) k
    show own_G p.tables e below s _ _ _ (T40.setTop (mkF m 48 #[.val (.long q1), .second, .val (.long q2), .second, .val (.long q3), .second, .val (.long q4), .second, .val (.int jj), .val (.int kk), .val (.long ol), .second, .val (.long orr), .second, .val (.long ot), .second, .val (.long ob), .second, .unset, .unset, .unset, .unset, .unset, .unset, .unset, .unset, .unset, .unset, .unset] []))
    refine own_up ?_ fun t k => XS.iconst X40.here hx rfl (hb hby at_48) k
    show own_G p.tables e below s _ _ _ (T40.setTop (mkF m 49 #[.val (.long q1), .second, .val (.long q2), .second, .val (.long q3), .second, .val (.long q4), .second, .val (.int jj), .val (.int kk), .val (.long ol), .second, .val (.long orr), .second, .val (.long ot), .second, .val (.long ob), .second, .unset, .unset, .unset, .unset, .unset, .unset, .unset, .unset, .unset, .unset, .unset] [(.int (1 : Int32))]))
    exact own_retI X40 hx hlk Bd.returns (by simp) rfl (hb hby at_49) ⟨rfl, N40⟩ (by decide) (by decide)
  · refine own_up ?_ fun t k => XS.ifNo X40.here hx rfl (hb hby at_37) rfl ((if0 _ _).trans (feq (fun q => hc37_41 ((lw_eq _ _).mp q))).1) k
    show own_G p.tables e below s _ _ _ (T40.setTop (mkF m 40 #[.val (.long q1), .second, .val (.long q2), .second, .val (.long q3), .second, .val (.long q4), .second, .val (.int jj), .val (.int kk), .val (.long ol), .second, .val (.long orr), .second, .val (.long ot), .second, .val (.long ob), .second, .unset, .unset, .unset, .unset, .unset, .unset, .unset, .unset, .unset, .unset, .unset] []))
    refine own_up ?_ fun t k => XS.lload X40.here hx rfl (hb hby at_40) rfl k
    show own_G p.tables e below s _ _ _ (T40.setTop (mkF m 42 #[.val (.long q1), .second, .val (.long q2), .second, .val (.long q3), .second, .val (.long q4), .second, .val (.int jj), .val (.int kk), .val (.long ol), .second, .val (.long orr), .second, .val (.long ot), .second, .val (.long ob), .second, .unset, .unset, .unset, .unset, .unset, .unset, .unset, .unset, .unset, .unset, .unset] [(.long ot)]))
    refine own_up ?_ fun t k => XS.lload X40.here hx rfl (hb hby at_42) rfl k
    show own_G p.tables e below s _ _ _ (T40.setTop (mkF m 44 #[.val (.long q1), .second, .val (.long q2), .second, .val (.long q3), .second, .val (.long q4), .second, .val (.int jj), .val (.int kk), .val (.long ol), .second, .val (.long orr), .second, .val (.long ot), .second, .val (.long ob), .second, .unset, .unset, .unset, .unset, .unset, .unset, .unset, .unset, .unset, .unset, .unset] [(.long ob), (.long ot)]))
    refine own_up ?_ fun t k => XS.lcmp X40.here hx rfl (hb hby at_44) rfl k
    show own_G p.tables e below s _ _ _ (T40.setTop (mkF m 45 #[.val (.long q1), .second, .val (.long q2), .second, .val (.long q3), .second, .val (.long q4), .second, .val (.int jj), .val (.int kk), .val (.long ol), .second, .val (.long orr), .second, .val (.long ot), .second, .val (.long ob), .second, .unset, .unset, .unset, .unset, .unset, .unset, .unset, .unset, .unset, .unset, .unset] [(.int (lcmpW ot ob))]))
    by_cases hc45_42 : ot = ob
    · refine own_up ?_ fun t k => XS.ifNo X40.here hx rfl (hb hby at_45) rfl ((if0 _ _).trans (teq ((lw_eq _ _).mpr hc45_42)).2) k
      show own_G p.tables e below s _ _ _ (T40.setTop (mkF m 48 #[.val (.long q1), .second, .val (.long q2), .second, .val (.long q3), .second, .val (.long q4), .second, .val (.int jj), .val (.int kk), .val (.long ol), .second, .val (.long orr), .second, .val (.long ot), .second, .val (.long ob), .second, .unset, .unset, .unset, .unset, .unset, .unset, .unset, .unset, .unset, .unset, .unset] []))
      refine own_up ?_ fun t k => XS.iconst X40.here hx rfl (hb hby at_48) k
      show own_G p.tables e below s _ _ _ (T40.setTop (mkF m 49 #[.val (.long q1), .second, .val (.long q2), .second, .val (.long q3), .second, .val (.long q4), .second, .val (.int jj), .val (.int kk), .val (.long ol), .second, .val (.long orr), .second, .val (.long ot), .second, .val (.long ob), .second, .unset, .unset, .unset, .unset, .unset, .unset, .unset, .unset, .unset, .unset, .unset] [(.int (1 : Int32))]))
      exact own_retI X40 hx hlk Bd.returns (by simp) rfl (hb hby at_49) ⟨rfl, N40⟩ (by decide) (by decide)
    · refine own_up ?_ fun t k => XS.ifYes X40.here hx rfl (pc0 := 45) (pc' := 50) rfl (hb hby at_45) rfl ((if0 _ _).trans (feq (fun q => hc45_42 ((lw_eq _ _).mp q))).2) (by decide) (by decide) k
      show own_G p.tables e below s _ _ _ (T40.setTop (mkF m 50 #[.val (.long q1), .second, .val (.long q2), .second, .val (.long q3), .second, .val (.long q4), .second, .val (.int jj), .val (.int kk), .val (.long ol), .second, .val (.long orr), .second, .val (.long ot), .second, .val (.long ob), .second, .unset, .unset, .unset, .unset, .unset, .unset, .unset, .unset, .unset, .unset, .unset] []))
      refine own_up ?_ fun t k => XS.lload X40.here hx rfl (hb hby at_50) rfl k
      show own_G p.tables e below s _ _ _ (T40.setTop (mkF m 52 #[.val (.long q1), .second, .val (.long q2), .second, .val (.long q3), .second, .val (.long q4), .second, .val (.int jj), .val (.int kk), .val (.long ol), .second, .val (.long orr), .second, .val (.long ot), .second, .val (.long ob), .second, .unset, .unset, .unset, .unset, .unset, .unset, .unset, .unset, .unset, .unset, .unset] [(.long ol)]))
      refine own_up ?_ fun t k => XS.iload X40.here hx rfl (hb hby at_52) rfl k
      show own_G p.tables e below s _ _ _ (T40.setTop (mkF m 54 #[.val (.long q1), .second, .val (.long q2), .second, .val (.long q3), .second, .val (.long q4), .second, .val (.int jj), .val (.int kk), .val (.long ol), .second, .val (.long orr), .second, .val (.long ot), .second, .val (.long ob), .second, .unset, .unset, .unset, .unset, .unset, .unset, .unset, .unset, .unset, .unset, .unset] [(.int jj), (.long ol)]))
      refine own_up ?_ fun t k => XS.i2s X40.here hx rfl (hb hby at_54) rfl k
      show own_G p.tables e below s _ _ _ (T40.setTop (mkF m 55 #[.val (.long q1), .second, .val (.long q2), .second, .val (.long q3), .second, .val (.long q4), .second, .val (.int jj), .val (.int kk), .val (.long ol), .second, .val (.long orr), .second, .val (.long ot), .second, .val (.long ob), .second, .unset, .unset, .unset, .unset, .unset, .unset, .unset, .unset, .unset, .unset, .unset] [(.int (jj.toInt16.toInt32)), (.long ol)]))
      refine own_up ?_ fun t k => XS.i2l X40.here hx rfl (hb hby at_55) rfl k
      show own_G p.tables e below s _ _ _ (T40.setTop (mkF m 56 #[.val (.long q1), .second, .val (.long q2), .second, .val (.long q3), .second, .val (.long q4), .second, .val (.int jj), .val (.int kk), .val (.long ol), .second, .val (.long orr), .second, .val (.long ot), .second, .val (.long ob), .second, .unset, .unset, .unset, .unset, .unset, .unset, .unset, .unset, .unset, .unset, .unset] [(.long ((jj.toInt16.toInt32).toInt64)), (.long ol)]))
      refine own_up ?_ fun t k => XS.ladd X40.here hx rfl (hb hby at_56) rfl k
      show own_G p.tables e below s _ _ _ (T40.setTop (mkF m 57 #[.val (.long q1), .second, .val (.long q2), .second, .val (.long q3), .second, .val (.long q4), .second, .val (.int jj), .val (.int kk), .val (.long ol), .second, .val (.long orr), .second, .val (.long ot), .second, .val (.long ob), .second, .unset, .unset, .unset, .unset, .unset, .unset, .unset, .unset, .unset, .unset, .unset] [(.long (ol + ((jj.toInt16.toInt32).toInt64)))]))
      refine own_up ?_ fun t k => XS.lstore X40.here hx rfl (hb hby at_57) rfl (l' := #[.val (.long q1), .second, .val (.long q2), .second, .val (.long q3), .second, .val (.long q4), .second, .val (.int jj), .val (.int kk), .val (.long ol), .second, .val (.long orr), .second, .val (.long ot), .second, .val (.long ob), .second, .val (.long (ol + ((jj.toInt16.toInt32).toInt64))), .second, .unset, .unset, .unset, .unset, .unset, .unset, .unset, .unset, .unset]) rfl k
      show own_G p.tables e below s _ _ _ (T40.setTop (mkF m 59 #[.val (.long q1), .second, .val (.long q2), .second, .val (.long q3), .second, .val (.long q4), .second, .val (.int jj), .val (.int kk), .val (.long ol), .second, .val (.long orr), .second, .val (.long ot), .second, .val (.long ob), .second, .val (.long (ol + ((jj.toInt16.toInt32).toInt64))), .second, .unset, .unset, .unset, .unset, .unset, .unset, .unset, .unset, .unset] []))
      obtain ⟨lv, h_lv⟩ : ∃ z, z = (ol + ((jj.toInt16.toInt32).toInt64)) := ⟨_, rfl⟩
      rw [← h_lv]
      show own_G p.tables e below s _ _ _ (T40.setTop (mkF m 59 #[.val (.long q1), .second, .val (.long q2), .second, .val (.long q3), .second, .val (.long q4), .second, .val (.int jj), .val (.int kk), .val (.long ol), .second, .val (.long orr), .second, .val (.long ot), .second, .val (.long ob), .second, .val (.long lv), .second, .unset, .unset, .unset, .unset, .unset, .unset, .unset, .unset, .unset] []))
      refine own_up ?_ fun t k => XS.lload X40.here hx rfl (hb hby at_59) rfl k
      show own_G p.tables e below s _ _ _ (T40.setTop (mkF m 61 #[.val (.long q1), .second, .val (.long q2), .second, .val (.long q3), .second, .val (.long q4), .second, .val (.int jj), .val (.int kk), .val (.long ol), .second, .val (.long orr), .second, .val (.long ot), .second, .val (.long ob), .second, .val (.long lv), .second, .unset, .unset, .unset, .unset, .unset, .unset, .unset, .unset, .unset] [(.long orr)]))
      refine own_up ?_ fun t k => XS.iload X40.here hx rfl (hb hby at_61) rfl k
      show own_G p.tables e below s _ _ _ (T40.setTop (mkF m 63 #[.val (.long q1), .second, .val (.long q2), .second, .val (.long q3), .second, .val (.long q4), .second, .val (.int jj), .val (.int kk), .val (.long ol), .second, .val (.long orr), .second, .val (.long ot), .second, .val (.long ob), .second, .val (.long lv), .second, .unset, .unset, .unset, .unset, .unset, .unset, .unset, .unset, .unset] [(.int jj), (.long orr)]))
      refine own_up ?_ fun t k => XS.bipush X40.here hx rfl (hb hby at_63) k
      show own_G p.tables e below s _ _ _ (T40.setTop (mkF m 65 #[.val (.long q1), .second, .val (.long q2), .second, .val (.long q3), .second, .val (.long q4), .second, .val (.int jj), .val (.int kk), .val (.long ol), .second, .val (.long orr), .second, .val (.long ot), .second, .val (.long ob), .second, .val (.long lv), .second, .unset, .unset, .unset, .unset, .unset, .unset, .unset, .unset, .unset] [(.int (16 : Int32)), (.int jj), (.long orr)]))
      refine own_up ?_ fun t k => XS.ishr X40.here hx rfl (hb hby at_65) rfl k
      show own_G p.tables e below s _ _ _ (T40.setTop (mkF m 66 #[.val (.long q1), .second, .val (.long q2), .second, .val (.long q3), .second, .val (.long q4), .second, .val (.int jj), .val (.int kk), .val (.long ol), .second, .val (.long orr), .second, .val (.long ot), .second, .val (.long ob), .second, .val (.long lv), .second, .unset, .unset, .unset, .unset, .unset, .unset, .unset, .unset, .unset] [(.int (jj >>> ((16 : Int32) &&& 31))), (.long orr)]))
      refine own_up ?_ fun t k => XS.i2s X40.here hx rfl (hb hby at_66) rfl k
      show own_G p.tables e below s _ _ _ (T40.setTop (mkF m 67 #[.val (.long q1), .second, .val (.long q2), .second, .val (.long q3), .second, .val (.long q4), .second, .val (.int jj), .val (.int kk), .val (.long ol), .second, .val (.long orr), .second, .val (.long ot), .second, .val (.long ob), .second, .val (.long lv), .second, .unset, .unset, .unset, .unset, .unset, .unset, .unset, .unset, .unset] [(.int ((jj >>> ((16 : Int32) &&& 31)).toInt16.toInt32)), (.long orr)]))
      refine own_up ?_ fun t k => XS.i2l X40.here hx rfl (hb hby at_67) rfl k
      show own_G p.tables e below s _ _ _ (T40.setTop (mkF m 68 #[.val (.long q1), .second, .val (.long q2), .second, .val (.long q3), .second, .val (.long q4), .second, .val (.int jj), .val (.int kk), .val (.long ol), .second, .val (.long orr), .second, .val (.long ot), .second, .val (.long ob), .second, .val (.long lv), .second, .unset, .unset, .unset, .unset, .unset, .unset, .unset, .unset, .unset] [(.long (((jj >>> ((16 : Int32) &&& 31)).toInt16.toInt32).toInt64)), (.long orr)]))
      refine own_up ?_ fun t k => XS.ladd X40.here hx rfl (hb hby at_68) rfl k
      show own_G p.tables e below s _ _ _ (T40.setTop (mkF m 69 #[.val (.long q1), .second, .val (.long q2), .second, .val (.long q3), .second, .val (.long q4), .second, .val (.int jj), .val (.int kk), .val (.long ol), .second, .val (.long orr), .second, .val (.long ot), .second, .val (.long ob), .second, .val (.long lv), .second, .unset, .unset, .unset, .unset, .unset, .unset, .unset, .unset, .unset] [(.long (orr + (((jj >>> ((16 : Int32) &&& 31)).toInt16.toInt32).toInt64)))]))
      refine own_up ?_ fun t k => XS.lstore X40.here hx rfl (hb hby at_69) rfl (l' := #[.val (.long q1), .second, .val (.long q2), .second, .val (.long q3), .second, .val (.long q4), .second, .val (.int jj), .val (.int kk), .val (.long ol), .second, .val (.long orr), .second, .val (.long ot), .second, .val (.long ob), .second, .val (.long lv), .second, .val (.long (orr + (((jj >>> ((16 : Int32) &&& 31)).toInt16.toInt32).toInt64))), .second, .unset, .unset, .unset, .unset, .unset, .unset, .unset]) rfl k
      show own_G p.tables e below s _ _ _ (T40.setTop (mkF m 71 #[.val (.long q1), .second, .val (.long q2), .second, .val (.long q3), .second, .val (.long q4), .second, .val (.int jj), .val (.int kk), .val (.long ol), .second, .val (.long orr), .second, .val (.long ot), .second, .val (.long ob), .second, .val (.long lv), .second, .val (.long (orr + (((jj >>> ((16 : Int32) &&& 31)).toInt16.toInt32).toInt64))), .second, .unset, .unset, .unset, .unset, .unset, .unset, .unset] []))
      obtain ⟨rv, h_rv⟩ : ∃ z, z = (orr + (((jj >>> ((16 : Int32) &&& 31)).toInt16.toInt32).toInt64)) := ⟨_, rfl⟩
      rw [← h_rv]
      show own_G p.tables e below s _ _ _ (T40.setTop (mkF m 71 #[.val (.long q1), .second, .val (.long q2), .second, .val (.long q3), .second, .val (.long q4), .second, .val (.int jj), .val (.int kk), .val (.long ol), .second, .val (.long orr), .second, .val (.long ot), .second, .val (.long ob), .second, .val (.long lv), .second, .val (.long rv), .second, .unset, .unset, .unset, .unset, .unset, .unset, .unset] []))
      refine own_up ?_ fun t k => XS.lload X40.here hx rfl (hb hby at_71) rfl k
      show own_G p.tables e below s _ _ _ (T40.setTop (mkF m 73 #[.val (.long q1), .second, .val (.long q2), .second, .val (.long q3), .second, .val (.long q4), .second, .val (.int jj), .val (.int kk), .val (.long ol), .second, .val (.long orr), .second, .val (.long ot), .second, .val (.long ob), .second, .val (.long lv), .second, .val (.long rv), .second, .unset, .unset, .unset, .unset, .unset, .unset, .unset] [(.long ot)]))
      refine own_up ?_ fun t k => XS.iload X40.here hx rfl (hb hby at_73) rfl k
      show own_G p.tables e below s _ _ _ (T40.setTop (mkF m 75 #[.val (.long q1), .second, .val (.long q2), .second, .val (.long q3), .second, .val (.long q4), .second, .val (.int jj), .val (.int kk), .val (.long ol), .second, .val (.long orr), .second, .val (.long ot), .second, .val (.long ob), .second, .val (.long lv), .second, .val (.long rv), .second, .unset, .unset, .unset, .unset, .unset, .unset, .unset] [(.int kk), (.long ot)]))
      refine own_up ?_ fun t k => XS.i2s X40.here hx rfl (hb hby at_75) rfl k
      show own_G p.tables e below s _ _ _ (T40.setTop (mkF m 76 #[.val (.long q1), .second, .val (.long q2), .second, .val (.long q3), .second, .val (.long q4), .second, .val (.int jj), .val (.int kk), .val (.long ol), .second, .val (.long orr), .second, .val (.long ot), .second, .val (.long ob), .second, .val (.long lv), .second, .val (.long rv), .second, .unset, .unset, .unset, .unset, .unset, .unset, .unset] [(.int (kk.toInt16.toInt32)), (.long ot)]))
      refine own_up ?_ fun t k => XS.i2l X40.here hx rfl (hb hby at_76) rfl k
      show own_G p.tables e below s _ _ _ (T40.setTop (mkF m 77 #[.val (.long q1), .second, .val (.long q2), .second, .val (.long q3), .second, .val (.long q4), .second, .val (.int jj), .val (.int kk), .val (.long ol), .second, .val (.long orr), .second, .val (.long ot), .second, .val (.long ob), .second, .val (.long lv), .second, .val (.long rv), .second, .unset, .unset, .unset, .unset, .unset, .unset, .unset] [(.long ((kk.toInt16.toInt32).toInt64)), (.long ot)]))
      refine own_up ?_ fun t k => XS.ladd X40.here hx rfl (hb hby at_77) rfl k
      show own_G p.tables e below s _ _ _ (T40.setTop (mkF m 78 #[.val (.long q1), .second, .val (.long q2), .second, .val (.long q3), .second, .val (.long q4), .second, .val (.int jj), .val (.int kk), .val (.long ol), .second, .val (.long orr), .second, .val (.long ot), .second, .val (.long ob), .second, .val (.long lv), .second, .val (.long rv), .second, .unset, .unset, .unset, .unset, .unset, .unset, .unset] [(.long (ot + ((kk.toInt16.toInt32).toInt64)))]))
      refine own_up ?_ fun t k => XS.lstore X40.here hx rfl (hb hby at_78) rfl (l' := #[.val (.long q1), .second, .val (.long q2), .second, .val (.long q3), .second, .val (.long q4), .second, .val (.int jj), .val (.int kk), .val (.long ol), .second, .val (.long orr), .second, .val (.long ot), .second, .val (.long ob), .second, .val (.long lv), .second, .val (.long rv), .second, .val (.long (ot + ((kk.toInt16.toInt32).toInt64))), .second, .unset, .unset, .unset, .unset, .unset]) rfl k
      show own_G p.tables e below s _ _ _ (T40.setTop (mkF m 80 #[.val (.long q1), .second, .val (.long q2), .second, .val (.long q3), .second, .val (.long q4), .second, .val (.int jj), .val (.int kk), .val (.long ol), .second, .val (.long orr), .second, .val (.long ot), .second, .val (.long ob), .second, .val (.long lv), .second, .val (.long rv), .second, .val (.long (ot + ((kk.toInt16.toInt32).toInt64))), .second, .unset, .unset, .unset, .unset, .unset] []))
      obtain ⟨tv, h_tv⟩ : ∃ z, z = (ot + ((kk.toInt16.toInt32).toInt64)) := ⟨_, rfl⟩
      rw [← h_tv]
      show own_G p.tables e below s _ _ _ (T40.setTop (mkF m 80 #[.val (.long q1), .second, .val (.long q2), .second, .val (.long q3), .second, .val (.long q4), .second, .val (.int jj), .val (.int kk), .val (.long ol), .second, .val (.long orr), .second, .val (.long ot), .second, .val (.long ob), .second, .val (.long lv), .second, .val (.long rv), .second, .val (.long tv), .second, .unset, .unset, .unset, .unset, .unset] []))
      refine own_up ?_ fun t k => XS.lload X40.here hx rfl (hb hby at_80) rfl k
      show own_G p.tables e below s _ _ _ (T40.setTop (mkF m 82 #[.val (.long q1), .second, .val (.long q2), .second, .val (.long q3), .second, .val (.long q4), .second, .val (.int jj), .val (.int kk), .val (.long ol), .second, .val (.long orr), .second, .val (.long ot), .second, .val (.long ob), .second, .val (.long lv), .second, .val (.long rv), .second, .val (.long tv), .second, .unset, .unset, .unset, .unset, .unset] [(.long ob)]))
      refine own_up ?_ fun t k => XS.iload X40.here hx rfl (hb hby at_82) rfl k
      show own_G p.tables e below s _ _ _ (T40.setTop (mkF m 84 #[.val (.long q1), .second, .val (.long q2), .second, .val (.long q3), .second, .val (.long q4), .second, .val (.int jj), .val (.int kk), .val (.long ol), .second, .val (.long orr), .second, .val (.long ot), .second, .val (.long ob), .second, .val (.long lv), .second, .val (.long rv), .second, .val (.long tv), .second, .unset, .unset, .unset, .unset, .unset] [(.int kk), (.long ob)]))
      refine own_up ?_ fun t k => XS.bipush X40.here hx rfl (hb hby at_84) k
      show own_G p.tables e below s _ _ _ (T40.setTop (mkF m 86 #[.val (.long q1), .second, .val (.long q2), .second, .val (.long q3), .second, .val (.long q4), .second, .val (.int jj), .val (.int kk), .val (.long ol), .second, .val (.long orr), .second, .val (.long ot), .second, .val (.long ob), .second, .val (.long lv), .second, .val (.long rv), .second, .val (.long tv), .second, .unset, .unset, .unset, .unset, .unset] [(.int (16 : Int32)), (.int kk), (.long ob)]))
      refine own_up ?_ fun t k => XS.ishr X40.here hx rfl (hb hby at_86) rfl k
      show own_G p.tables e below s _ _ _ (T40.setTop (mkF m 87 #[.val (.long q1), .second, .val (.long q2), .second, .val (.long q3), .second, .val (.long q4), .second, .val (.int jj), .val (.int kk), .val (.long ol), .second, .val (.long orr), .second, .val (.long ot), .second, .val (.long ob), .second, .val (.long lv), .second, .val (.long rv), .second, .val (.long tv), .second, .unset, .unset, .unset, .unset, .unset] [(.int (kk >>> ((16 : Int32) &&& 31))), (.long ob)]))
      refine own_up ?_ fun t k => XS.i2s X40.here hx rfl (hb hby at_87) rfl k
      show own_G p.tables e below s _ _ _ (T40.setTop (mkF m 88 #[.val (.long q1), .second, .val (.long q2), .second, .val (.long q3), .second, .val (.long q4), .second, .val (.int jj), .val (.int kk), .val (.long ol), .second, .val (.long orr), .second, .val (.long ot), .second, .val (.long ob), .second, .val (.long lv), .second, .val (.long rv), .second, .val (.long tv), .second, .unset, .unset, .unset, .unset, .unset] [(.int ((kk >>> ((16 : Int32) &&& 31)).toInt16.toInt32)), (.long ob)]))
      refine own_up ?_ fun t k => XS.i2l X40.here hx rfl (hb hby at_88) rfl k
      show own_G p.tables e below s _ _ _ (T40.setTop (mkF m 89 #[.val (.long q1), .second, .val (.long q2), .second, .val (.long q3), .second, .val (.long q4), .second, .val (.int jj), .val (.int kk), .val (.long ol), .second, .val (.long orr), .second, .val (.long ot), .second, .val (.long ob), .second, .val (.long lv), .second, .val (.long rv), .second, .val (.long tv), .second, .unset, .unset, .unset, .unset, .unset] [(.long (((kk >>> ((16 : Int32) &&& 31)).toInt16.toInt32).toInt64)), (.long ob)]))
      refine own_up ?_ fun t k => XS.ladd X40.here hx rfl (hb hby at_89) rfl k
      show own_G p.tables e below s _ _ _ (T40.setTop (mkF m 90 #[.val (.long q1), .second, .val (.long q2), .second, .val (.long q3), .second, .val (.long q4), .second, .val (.int jj), .val (.int kk), .val (.long ol), .second, .val (.long orr), .second, .val (.long ot), .second, .val (.long ob), .second, .val (.long lv), .second, .val (.long rv), .second, .val (.long tv), .second, .unset, .unset, .unset, .unset, .unset] [(.long (ob + (((kk >>> ((16 : Int32) &&& 31)).toInt16.toInt32).toInt64)))]))
      refine own_up ?_ fun t k => XS.lstore X40.here hx rfl (hb hby at_90) rfl (l' := #[.val (.long q1), .second, .val (.long q2), .second, .val (.long q3), .second, .val (.long q4), .second, .val (.int jj), .val (.int kk), .val (.long ol), .second, .val (.long orr), .second, .val (.long ot), .second, .val (.long ob), .second, .val (.long lv), .second, .val (.long rv), .second, .val (.long tv), .second, .val (.long (ob + (((kk >>> ((16 : Int32) &&& 31)).toInt16.toInt32).toInt64))), .second, .unset, .unset, .unset]) rfl k
      show own_G p.tables e below s _ _ _ (T40.setTop (mkF m 92 #[.val (.long q1), .second, .val (.long q2), .second, .val (.long q3), .second, .val (.long q4), .second, .val (.int jj), .val (.int kk), .val (.long ol), .second, .val (.long orr), .second, .val (.long ot), .second, .val (.long ob), .second, .val (.long lv), .second, .val (.long rv), .second, .val (.long tv), .second, .val (.long (ob + (((kk >>> ((16 : Int32) &&& 31)).toInt16.toInt32).toInt64))), .second, .unset, .unset, .unset] []))
      obtain ⟨bv, h_bv⟩ : ∃ z, z = (ob + (((kk >>> ((16 : Int32) &&& 31)).toInt16.toInt32).toInt64)) := ⟨_, rfl⟩
      rw [← h_bv]
      show own_G p.tables e below s _ _ _ (T40.setTop (mkF m 92 #[.val (.long q1), .second, .val (.long q2), .second, .val (.long q3), .second, .val (.long q4), .second, .val (.int jj), .val (.int kk), .val (.long ol), .second, .val (.long orr), .second, .val (.long ot), .second, .val (.long ob), .second, .val (.long lv), .second, .val (.long rv), .second, .val (.long tv), .second, .val (.long bv), .second, .unset, .unset, .unset] []))
      obtain ⟨T43, h43, X43, e43, E43, A43, D43, -, st43⟩ := newO X40 hx hZ hown (hw _ (List.mem_of_getElem? (i := 7) rfl)) (hw _ (List.mem_of_getElem? (i := 8) rfl)) (hw _ (List.mem_of_getElem? (i := 9) rfl)) e40 (g := (mkF m 92 #[.val (.long q1), .second, .val (.long q2), .second, .val (.long q3), .second, .val (.long q4), .second, .val (.int jj), .val (.int kk), .val (.long ol), .second, .val (.long orr), .second, .val (.long ot), .second, .val (.long ob), .second, .val (.long lv), .second, .val (.long rv), .second, .val (.long tv), .second, .val (.long bv), .second, .unset, .unset, .unset] [])) rfl (hb hby at_92) (by decide) (by decide)
      obtain ⟨b43, g43⟩ : ∃ z, z = h0.size := ⟨_, rfl⟩
      rw [← g43] at A43 D43 st43
      refine own_up ?_ st43
      have ge44 : n0 ≤ b43 := Nat.le_trans Z0 (Nat.le_of_eq g43.symm)
      have Zs46 : n0 ≤ h43.size := Nat.le_trans Z0 E43.1
      have F_left_b43 : Fld Z h43 b43 "com/example/mullion/mullion/Area" "left" "J" (.long (0 : Int64)) := D43 (Or.inr (hw _ (List.mem_of_getElem? (i := 22) rfl))) (ty := .long) (by decide)
      have F_top_b43 : Fld Z h43 b43 "com/example/mullion/mullion/Area" "top" "J" (.long (0 : Int64)) := D43 (Or.inr (hw _ (List.mem_of_getElem? (i := 24) rfl))) (ty := .long) (by decide)
      have F_right_b43 : Fld Z h43 b43 "com/example/mullion/mullion/Area" "right" "J" (.long (0 : Int64)) := D43 (Or.inr (hw _ (List.mem_of_getElem? (i := 26) rfl))) (ty := .long) (by decide)
      have F_bottom_b43 : Fld Z h43 b43 "com/example/mullion/mullion/Area" "bottom" "J" (.long (0 : Int64)) := D43 (Or.inr (hw _ (List.mem_of_getElem? (i := 28) rfl))) (ty := .long) (by decide)
      show own_G p.tables e below s _ _ _ (T43.setTop (mkF m 95 #[.val (.long q1), .second, .val (.long q2), .second, .val (.long q3), .second, .val (.long q4), .second, .val (.int jj), .val (.int kk), .val (.long ol), .second, .val (.long orr), .second, .val (.long ot), .second, .val (.long ob), .second, .val (.long lv), .second, .val (.long rv), .second, .val (.long tv), .second, .val (.long bv), .second, .unset, .unset, .unset] [(.ref b43)]))
      refine own_up ?_ fun t k => XS.dup X43.here hx rfl (hb hby at_95) rfl rfl k
      show own_G p.tables e below s _ _ _ (T43.setTop (mkF m 96 #[.val (.long q1), .second, .val (.long q2), .second, .val (.long q3), .second, .val (.long q4), .second, .val (.int jj), .val (.int kk), .val (.long ol), .second, .val (.long orr), .second, .val (.long ot), .second, .val (.long ob), .second, .val (.long lv), .second, .val (.long rv), .second, .val (.long tv), .second, .val (.long bv), .second, .unset, .unset, .unset] [(.ref b43), (.ref b43)]))
      refine own_up ?_ fun t k => XS.lload X43.here hx rfl (hb hby at_96) rfl k
      show own_G p.tables e below s _ _ _ (T43.setTop (mkF m 98 #[.val (.long q1), .second, .val (.long q2), .second, .val (.long q3), .second, .val (.long q4), .second, .val (.int jj), .val (.int kk), .val (.long ol), .second, .val (.long orr), .second, .val (.long ot), .second, .val (.long ob), .second, .val (.long lv), .second, .val (.long rv), .second, .val (.long tv), .second, .val (.long bv), .second, .unset, .unset, .unset] [(.long ol), (.ref b43), (.ref b43)]))
      refine own_up ?_ fun t k => XS.lload X43.here hx rfl (hb hby at_98) rfl k
      show own_G p.tables e below s _ _ _ (T43.setTop (mkF m 100 #[.val (.long q1), .second, .val (.long q2), .second, .val (.long q3), .second, .val (.long q4), .second, .val (.int jj), .val (.int kk), .val (.long ol), .second, .val (.long orr), .second, .val (.long ot), .second, .val (.long ob), .second, .val (.long lv), .second, .val (.long rv), .second, .val (.long tv), .second, .val (.long bv), .second, .unset, .unset, .unset] [(.long ot), (.long ol), (.ref b43), (.ref b43)]))
      refine own_up ?_ fun t k => XS.lload X43.here hx rfl (hb hby at_100) rfl k
      show own_G p.tables e below s _ _ _ (T43.setTop (mkF m 102 #[.val (.long q1), .second, .val (.long q2), .second, .val (.long q3), .second, .val (.long q4), .second, .val (.int jj), .val (.int kk), .val (.long ol), .second, .val (.long orr), .second, .val (.long ot), .second, .val (.long ob), .second, .val (.long lv), .second, .val (.long rv), .second, .val (.long tv), .second, .val (.long bv), .second, .unset, .unset, .unset] [(.long orr), (.long ot), (.long ol), (.ref b43), (.ref b43)]))
      refine own_up ?_ fun t k => XS.lload X43.here hx rfl (hb hby at_102) rfl k
      show own_G p.tables e below s _ _ _ (T43.setTop (mkF m 104 #[.val (.long q1), .second, .val (.long q2), .second, .val (.long q3), .second, .val (.long q4), .second, .val (.int jj), .val (.int kk), .val (.long ol), .second, .val (.long orr), .second, .val (.long ot), .second, .val (.long ob), .second, .val (.long lv), .second, .val (.long rv), .second, .val (.long tv), .second, .val (.long bv), .second, .unset, .unset, .unset] [(.long ob), (.long orr), (.long ot), (.long ol), (.ref b43), (.ref b43)]))
      obtain ⟨_, _, ⟨T47, L47, k47, n47⟩, -, X47, ⟨Lc47, hQ47, l47, y47, z47⟩, st47⟩ := X43.specialBack hx (y := (⟨"com/example/mullion/mullion/Area", "<init>", "(JJJJ)V"⟩ : MethodName)) rfl hown (mvT hZ (hw _ (List.mem_of_getElem? (i := 10) rfl))) (mvT hZ (hw _ (List.mem_of_getElem? (i := 11) rfl))) (mvT hZ (hw _ (List.mem_of_getElem? (i := 12) rfl))) (by decide) (backOf (W := 1) (rm3 l Z a0 hw [] b43 ol ot orr ob (.long (0 : Int64)) (.long (0 : Int64)) (.long (0 : Int64)) (.long (0 : Int64)) h43 n0 Zs46 A43 F_left_b43 F_top_b43 F_right_b43 F_bottom_b43 ge44) hZ (hw _ (List.mem_of_getElem? (i := 12) rfl)) (hw _ (List.mem_of_getElem? (i := 9) rfl)) (by decide) (by decide)) (g := (mkF m 104 #[.val (.long q1), .second, .val (.long q2), .second, .val (.long q3), .second, .val (.long q4), .second, .val (.int jj), .val (.int kk), .val (.long ol), .second, .val (.long orr), .second, .val (.long ot), .second, .val (.long ob), .second, .val (.long lv), .second, .val (.long rv), .second, .val (.long tv), .second, .val (.long bv), .second, .unset, .unset, .unset] [(.long ob), (.long orr), (.long ot), (.long ol), (.ref b43), (.ref b43)])) rfl (by rw [hml]; rfl) (Steps.refl _) (a := b43) (argsL := [(.long ol), (.long ot), (.long orr), (.long ob)]) (rest := [(.ref b43)]) (lenOf own_pd2 rfl) rfl (by show 2 * 0 + _ ≤ _; exact Nat.le_of_eq rfl) (hb hby at_104) (fun _ _ => ⟨rfl, e43, (by decide : 1 + 0 ≤ _), (by decide : 4 + 0 ≤ _)⟩)
      dsimp only [Pt.U, Pt.locs, Pt.cells, Pt.slots] at X47 l47 y47 z47 st47 hQ47
      subst l47 y47 z47
      obtain ⟨rfl, Nq47, Kq47, Fq47_0, Fq47_1, Fq47_2, Fq47_3⟩ := hQ47
      have N47 := Fr.app N40 Nq47
      have A43_c48 := A43.keep Kq47
      have Zs49 : n0 ≤ T47.heap.size := Nat.le_trans Zs46 Kq47.1
      refine own_up ?_ (fun t k => st47.trans k)
      show own_G p.tables e below s _ _ _ (T47.setTop (mkF m 107 #[.val (.long q1), .second, .val (.long q2), .second, .val (.long q3), .second, .val (.long q4), .second, .val (.int jj), .val (.int kk), .val (.long ol), .second, .val (.long orr), .second, .val (.long ot), .second, .val (.long ob), .second, .val (.long lv), .second, .val (.long rv), .second, .val (.long tv), .second, .val (.long bv), .second, .unset, .unset, .unset] [(.ref b43)]))
      refine own_up ?_ fun t k => XS.astore X47.here hx rfl (hb hby at_107) rfl rfl (l' := #[.val (.long q1), .second, .val (.long q2), .second, .val (.long q3), .second, .val (.long q4), .second, .val (.int jj), .val (.int kk), .val (.long ol), .second, .val (.long orr), .second, .val (.long ot), .second, .val (.long ob), .second, .val (.long lv), .second, .val (.long rv), .second, .val (.long tv), .second, .val (.long bv), .second, .val (.ref b43), .unset, .unset]) rfl k
      show own_G p.tables e below s _ _ _ (T47.setTop (mkF m 109 #[.val (.long q1), .second, .val (.long q2), .second, .val (.long q3), .second, .val (.long q4), .second, .val (.int jj), .val (.int kk), .val (.long ol), .second, .val (.long orr), .second, .val (.long ot), .second, .val (.long ob), .second, .val (.long lv), .second, .val (.long rv), .second, .val (.long tv), .second, .val (.long bv), .second, .val (.ref b43), .unset, .unset] []))
      obtain ⟨T50, h50, X50, e50, E50, A50, D50, -, st50⟩ := newO X47 hx hZ hown (hw _ (List.mem_of_getElem? (i := 7) rfl)) (hw _ (List.mem_of_getElem? (i := 8) rfl)) (hw _ (List.mem_of_getElem? (i := 9) rfl)) rfl (g := (mkF m 109 #[.val (.long q1), .second, .val (.long q2), .second, .val (.long q3), .second, .val (.long q4), .second, .val (.int jj), .val (.int kk), .val (.long ol), .second, .val (.long orr), .second, .val (.long ot), .second, .val (.long ob), .second, .val (.long lv), .second, .val (.long rv), .second, .val (.long tv), .second, .val (.long bv), .second, .val (.ref b43), .unset, .unset] [])) rfl (hb hby at_109) (by decide) (by decide)
      obtain ⟨b50, g50⟩ : ∃ z, z = T47.heap.size := ⟨_, rfl⟩
      rw [← g50] at A50 D50 st50
      refine own_up ?_ st50
      have ne51 : b43 ≠ b50 := Nat.ne_of_lt (Nat.lt_of_lt_of_le A43_c48.lt (Nat.le_of_eq g50.symm))
      have ge52 : n0 ≤ b50 := Nat.le_trans Zs49 (Nat.le_of_eq g50.symm)
      have A43_c53 := A43_c48.ext E50
      have Fq47_0_c53 := Fq47_0.ext E50
      have Fq47_1_c53 := Fq47_1.ext E50
      have Fq47_2_c53 := Fq47_2.ext E50
      have Fq47_3_c53 := Fq47_3.ext E50
      have Zs54 : n0 ≤ h50.size := Nat.le_trans Zs49 E50.1
      have F_left_b50 : Fld Z h50 b50 "com/example/mullion/mullion/Area" "left" "J" (.long (0 : Int64)) := D50 (Or.inr (hw _ (List.mem_of_getElem? (i := 22) rfl))) (ty := .long) (by decide)
      have F_top_b50 : Fld Z h50 b50 "com/example/mullion/mullion/Area" "top" "J" (.long (0 : Int64)) := D50 (Or.inr (hw _ (List.mem_of_getElem? (i := 24) rfl))) (ty := .long) (by decide)
      have F_right_b50 : Fld Z h50 b50 "com/example/mullion/mullion/Area" "right" "J" (.long (0 : Int64)) := D50 (Or.inr (hw _ (List.mem_of_getElem? (i := 26) rfl))) (ty := .long) (by decide)
      have F_bottom_b50 : Fld Z h50 b50 "com/example/mullion/mullion/Area" "bottom" "J" (.long (0 : Int64)) := D50 (Or.inr (hw _ (List.mem_of_getElem? (i := 28) rfl))) (ty := .long) (by decide)
      show own_G p.tables e below s _ _ _ (T50.setTop (mkF m 112 #[.val (.long q1), .second, .val (.long q2), .second, .val (.long q3), .second, .val (.long q4), .second, .val (.int jj), .val (.int kk), .val (.long ol), .second, .val (.long orr), .second, .val (.long ot), .second, .val (.long ob), .second, .val (.long lv), .second, .val (.long rv), .second, .val (.long tv), .second, .val (.long bv), .second, .val (.ref b43), .unset, .unset] [(.ref b50)]))
      refine own_up ?_ fun t k => XS.dup X50.here hx rfl (hb hby at_112) rfl rfl k
      show own_G p.tables e below s _ _ _ (T50.setTop (mkF m 113 #[.val (.long q1), .second, .val (.long q2), .second, .val (.long q3), .second, .val (.long q4), .second, .val (.int jj), .val (.int kk), .val (.long ol), .second, .val (.long orr), .second, .val (.long ot), .second, .val (.long ob), .second, .val (.long lv), .second, .val (.long rv), .second, .val (.long tv), .second, .val (.long bv), .second, .val (.ref b43), .unset, .unset] [(.ref b50), (.ref b50)]))
      refine own_up ?_ fun t k => XS.lload X50.here hx rfl (hb hby at_113) rfl k
      show own_G p.tables e below s _ _ _ (T50.setTop (mkF m 115 #[.val (.long q1), .second, .val (.long q2), .second, .val (.long q3), .second, .val (.long q4), .second, .val (.int jj), .val (.int kk), .val (.long ol), .second, .val (.long orr), .second, .val (.long ot), .second, .val (.long ob), .second, .val (.long lv), .second, .val (.long rv), .second, .val (.long tv), .second, .val (.long bv), .second, .val (.ref b43), .unset, .unset] [(.long lv), (.ref b50), (.ref b50)]))
      refine own_up ?_ fun t k => XS.lload X50.here hx rfl (hb hby at_115) rfl k
      show own_G p.tables e below s _ _ _ (T50.setTop (mkF m 117 #[.val (.long q1), .second, .val (.long q2), .second, .val (.long q3), .second, .val (.long q4), .second, .val (.int jj), .val (.int kk), .val (.long ol), .second, .val (.long orr), .second, .val (.long ot), .second, .val (.long ob), .second, .val (.long lv), .second, .val (.long rv), .second, .val (.long tv), .second, .val (.long bv), .second, .val (.ref b43), .unset, .unset] [(.long tv), (.long lv), (.ref b50), (.ref b50)]))
      refine own_up ?_ fun t k => XS.lload X50.here hx rfl (hb hby at_117) rfl k
      show own_G p.tables e below s _ _ _ (T50.setTop (mkF m 119 #[.val (.long q1), .second, .val (.long q2), .second, .val (.long q3), .second, .val (.long q4), .second, .val (.int jj), .val (.int kk), .val (.long ol), .second, .val (.long orr), .second, .val (.long ot), .second, .val (.long ob), .second, .val (.long lv), .second, .val (.long rv), .second, .val (.long tv), .second, .val (.long bv), .second, .val (.ref b43), .unset, .unset] [(.long rv), (.long tv), (.long lv), (.ref b50), (.ref b50)]))
      refine own_up ?_ fun t k => XS.lload X50.here hx rfl (hb hby at_119) rfl k
      show own_G p.tables e below s _ _ _ (T50.setTop (mkF m 121 #[.val (.long q1), .second, .val (.long q2), .second, .val (.long q3), .second, .val (.long q4), .second, .val (.int jj), .val (.int kk), .val (.long ol), .second, .val (.long orr), .second, .val (.long ot), .second, .val (.long ob), .second, .val (.long lv), .second, .val (.long rv), .second, .val (.long tv), .second, .val (.long bv), .second, .val (.ref b43), .unset, .unset] [(.long bv), (.long rv), (.long tv), (.long lv), (.ref b50), (.ref b50)]))
      obtain ⟨_, _, ⟨T55, L55, k55, n55⟩, -, X55, ⟨Lc55, hQ55, l55, y55, z55⟩, st55⟩ := X50.specialBack hx (y := (⟨"com/example/mullion/mullion/Area", "<init>", "(JJJJ)V"⟩ : MethodName)) rfl hown (mvT hZ (hw _ (List.mem_of_getElem? (i := 10) rfl))) (mvT hZ (hw _ (List.mem_of_getElem? (i := 11) rfl))) (mvT hZ (hw _ (List.mem_of_getElem? (i := 12) rfl))) (by decide) (backOf (W := 1) (rm3 l Z a0 hw [] b50 lv tv rv bv (.long (0 : Int64)) (.long (0 : Int64)) (.long (0 : Int64)) (.long (0 : Int64)) h50 n0 Zs54 A50 F_left_b50 F_top_b50 F_right_b50 F_bottom_b50 ge52) hZ (hw _ (List.mem_of_getElem? (i := 12) rfl)) (hw _ (List.mem_of_getElem? (i := 9) rfl)) (by decide) (by decide)) (g := (mkF m 121 #[.val (.long q1), .second, .val (.long q2), .second, .val (.long q3), .second, .val (.long q4), .second, .val (.int jj), .val (.int kk), .val (.long ol), .second, .val (.long orr), .second, .val (.long ot), .second, .val (.long ob), .second, .val (.long lv), .second, .val (.long rv), .second, .val (.long tv), .second, .val (.long bv), .second, .val (.ref b43), .unset, .unset] [(.long bv), (.long rv), (.long tv), (.long lv), (.ref b50), (.ref b50)])) rfl (by rw [hml]; rfl) (Steps.refl _) (a := b50) (argsL := [(.long lv), (.long tv), (.long rv), (.long bv)]) (rest := [(.ref b50)]) (lenOf own_pd2 rfl) rfl (by show 2 * 0 + _ ≤ _; exact Nat.le_of_eq rfl) (hb hby at_121) (fun _ _ => ⟨rfl, e50, (by decide : 2 + 0 ≤ _), (by decide : 8 + 0 ≤ _)⟩)
      dsimp only [Pt.U, Pt.locs, Pt.cells, Pt.slots] at X55 l55 y55 z55 st55 hQ55
      subst l55 y55 z55
      obtain ⟨rfl, Nq55, Kq55, Fq55_0, Fq55_1, Fq55_2, Fq55_3⟩ := hQ55
      have N55 := Fr.app N47 Nq55
      have A43_c56 := A43_c53.keep Kq55
      have Fq47_0_c56 := Fq47_0_c53.keep Kq55 (ninS ne51 nin0)
      have Fq47_1_c56 := Fq47_1_c53.keep Kq55 (ninS ne51 nin0)
      have Fq47_2_c56 := Fq47_2_c53.keep Kq55 (ninS ne51 nin0)
      have Fq47_3_c56 := Fq47_3_c53.keep Kq55 (ninS ne51 nin0)
      have A50_c56 := A50.keep Kq55
      have Zs57 : n0 ≤ T55.heap.size := Nat.le_trans Zs54 Kq55.1
      refine own_up ?_ (fun t k => st55.trans k)
      show own_G p.tables e below s _ _ _ (T55.setTop (mkF m 124 #[.val (.long q1), .second, .val (.long q2), .second, .val (.long q3), .second, .val (.long q4), .second, .val (.int jj), .val (.int kk), .val (.long ol), .second, .val (.long orr), .second, .val (.long ot), .second, .val (.long ob), .second, .val (.long lv), .second, .val (.long rv), .second, .val (.long tv), .second, .val (.long bv), .second, .val (.ref b43), .unset, .unset] [(.ref b50)]))
      refine own_up ?_ fun t k => XS.astore X55.here hx rfl (hb hby at_124) rfl rfl (l' := #[.val (.long q1), .second, .val (.long q2), .second, .val (.long q3), .second, .val (.long q4), .second, .val (.int jj), .val (.int kk), .val (.long ol), .second, .val (.long orr), .second, .val (.long ot), .second, .val (.long ob), .second, .val (.long lv), .second, .val (.long rv), .second, .val (.long tv), .second, .val (.long bv), .second, .val (.ref b43), .val (.ref b50), .unset]) rfl k
      show own_G p.tables e below s _ _ _ (T55.setTop (mkF m 126 #[.val (.long q1), .second, .val (.long q2), .second, .val (.long q3), .second, .val (.long q4), .second, .val (.int jj), .val (.int kk), .val (.long ol), .second, .val (.long orr), .second, .val (.long ot), .second, .val (.long ob), .second, .val (.long lv), .second, .val (.long rv), .second, .val (.long tv), .second, .val (.long bv), .second, .val (.ref b43), .val (.ref b50), .unset] []))
      refine own_up ?_ fun t k => XS.lload X55.here hx rfl (hb hby at_126) rfl k
      show own_G p.tables e below s _ _ _ (T55.setTop (mkF m 128 #[.val (.long q1), .second, .val (.long q2), .second, .val (.long q3), .second, .val (.long q4), .second, .val (.int jj), .val (.int kk), .val (.long ol), .second, .val (.long orr), .second, .val (.long ot), .second, .val (.long ob), .second, .val (.long lv), .second, .val (.long rv), .second, .val (.long tv), .second, .val (.long bv), .second, .val (.ref b43), .val (.ref b50), .unset] [(.long lv)]))
      refine own_up ?_ fun t k => XS.lload X55.here hx rfl (hb hby at_128) rfl k
      show own_G p.tables e below s _ _ _ (T55.setTop (mkF m 130 #[.val (.long q1), .second, .val (.long q2), .second, .val (.long q3), .second, .val (.long q4), .second, .val (.int jj), .val (.int kk), .val (.long ol), .second, .val (.long orr), .second, .val (.long ot), .second, .val (.long ob), .second, .val (.long lv), .second, .val (.long rv), .second, .val (.long tv), .second, .val (.long bv), .second, .val (.ref b43), .val (.ref b50), .unset] [(.long tv), (.long lv)]))
      refine own_up ?_ fun t k => XS.lload X55.here hx rfl (hb hby at_130) rfl k
      show own_G p.tables e below s _ _ _ (T55.setTop (mkF m 132 #[.val (.long q1), .second, .val (.long q2), .second, .val (.long q3), .second, .val (.long q4), .second, .val (.int jj), .val (.int kk), .val (.long ol), .second, .val (.long orr), .second, .val (.long ot), .second, .val (.long ob), .second, .val (.long lv), .second, .val (.long rv), .second, .val (.long tv), .second, .val (.long bv), .second, .val (.ref b43), .val (.ref b50), .unset] [(.long rv), (.long tv), (.long lv)]))
      refine own_up ?_ fun t k => XS.lload X55.here hx rfl (hb hby at_132) rfl k
      show own_G p.tables e below s _ _ _ (T55.setTop (mkF m 134 #[.val (.long q1), .second, .val (.long q2), .second, .val (.long q3), .second, .val (.long q4), .second, .val (.int jj), .val (.int kk), .val (.long ol), .second, .val (.long orr), .second, .val (.long ot), .second, .val (.long ob), .second, .val (.long lv), .second, .val (.long rv), .second, .val (.long tv), .second, .val (.long bv), .second, .val (.ref b43), .val (.ref b50), .unset] [(.long bv), (.long rv), (.long tv), (.long lv)]))
      refine own_up ?_ fun t k => XS.lload X55.here hx rfl (hb hby at_134) rfl k
      show own_G p.tables e below s _ _ _ (T55.setTop (mkF m 136 #[.val (.long q1), .second, .val (.long q2), .second, .val (.long q3), .second, .val (.long q4), .second, .val (.int jj), .val (.int kk), .val (.long ol), .second, .val (.long orr), .second, .val (.long ot), .second, .val (.long ob), .second, .val (.long lv), .second, .val (.long rv), .second, .val (.long tv), .second, .val (.long bv), .second, .val (.ref b43), .val (.ref b50), .unset] [(.long ol), (.long bv), (.long rv), (.long tv), (.long lv)]))
      refine own_up ?_ fun t k => XS.lload X55.here hx rfl (hb hby at_136) rfl k
      show own_G p.tables e below s _ _ _ (T55.setTop (mkF m 138 #[.val (.long q1), .second, .val (.long q2), .second, .val (.long q3), .second, .val (.long q4), .second, .val (.int jj), .val (.int kk), .val (.long ol), .second, .val (.long orr), .second, .val (.long ot), .second, .val (.long ob), .second, .val (.long lv), .second, .val (.long rv), .second, .val (.long tv), .second, .val (.long bv), .second, .val (.ref b43), .val (.ref b50), .unset] [(.long ot), (.long ol), (.long bv), (.long rv), (.long tv), (.long lv)]))
      obtain ⟨_, _, ⟨T58, L58, k58, n58⟩, -, X58, ⟨Lc58, hQ58, l58, y58, z58⟩, st58⟩ := Jvm.LawKit.callS X55 hx (y := (⟨"com/example/mullion/mullion/AreaHoldsPinLaw", "in", "(JJJJJJ)Z"⟩ : MethodName)) hown (mvT hZ (hw _ (List.mem_of_getElem? (i := 29) rfl))) (mvT hZ (hw _ (List.mem_of_getElem? (i := 30) rfl))) (mvT hZ (hw _ (List.mem_of_getElem? (i := 31) rfl))) (mvT hZ (hw _ (List.mem_of_getElem? (i := 32) rfl))) (by decide) (backOf (W := 0) (rm6 l Z a0 hw [] lv tv rv bv ol ot  T55.heap n0 Zs57 ) hZ (hw _ (List.mem_of_getElem? (i := 32) rfl)) (hw _ (List.mem_of_getElem? (i := 31) rfl)) (by decide) (by decide)) (g := (mkF m 138 #[.val (.long q1), .second, .val (.long q2), .second, .val (.long q3), .second, .val (.long q4), .second, .val (.int jj), .val (.int kk), .val (.long ol), .second, .val (.long orr), .second, .val (.long ot), .second, .val (.long ob), .second, .val (.long lv), .second, .val (.long rv), .second, .val (.long tv), .second, .val (.long bv), .second, .val (.ref b43), .val (.ref b50), .unset] [(.long ot), (.long ol), (.long bv), (.long rv), (.long tv), (.long lv)])) rfl (by rw [hml]; rfl) (argsL := [(.long lv), (.long tv), (.long rv), (.long bv), (.long ol), (.long ot)]) (rest := []) (lenOf own_pd3 rfl) rfl (by show 2 * 0 + _ ≤ _; exact Nat.le_of_eq rfl) (hb hby at_138) (fun _ _ => ⟨rfl, rfl, (by decide : 2 + 0 ≤ _), (by decide : 8 + 0 ≤ _)⟩)
      dsimp only [Pt.U, Pt.locs, Pt.cells, Pt.slots] at X58 l58 y58 z58 st58 hQ58
      subst l58 y58 z58
      obtain ⟨rfl, Nq58, e58⟩ := hQ58
      have N58 := Fr.app N55 Nq58
      refine own_up ?_ (st58)
      show own_G p.tables e below s _ _ _ (T58.setTop (mkF m 141 #[.val (.long q1), .second, .val (.long q2), .second, .val (.long q3), .second, .val (.long q4), .second, .val (.int jj), .val (.int kk), .val (.long ol), .second, .val (.long orr), .second, .val (.long ot), .second, .val (.long ob), .second, .val (.long lv), .second, .val (.long rv), .second, .val (.long tv), .second, .val (.long bv), .second, .val (.ref b43), .val (.ref b50), .unset] [(.int (own_in lv tv rv bv ol ot))]))
      by_cases hc141_59 : (own_in lv tv rv bv ol ot) = (0 : Int32)
      · refine own_up ?_ fun t k => XS.ifYes X58.here hx rfl (pc0 := 141) (pc' := 170) rfl (hb hby at_141) rfl ((if0 _ _).trans (teq hc141_59).1) (by decide) (by decide) k
        show own_G p.tables e below s _ _ _ (T58.setTop (mkF m 170 #[.val (.long q1), .second, .val (.long q2), .second, .val (.long q3), .second, .val (.long q4), .second, .val (.int jj), .val (.int kk), .val (.long ol), .second, .val (.long orr), .second, .val (.long ot), .second, .val (.long ob), .second, .val (.long lv), .second, .val (.long rv), .second, .val (.long tv), .second, .val (.long bv), .second, .val (.ref b43), .val (.ref b50), .unset] []))
        refine own_up ?_ fun t k => XS.iconst X58.here hx rfl (hb hby at_170) k
        show own_G p.tables e below s _ _ _ (T58.setTop (mkF m 171 #[.val (.long q1), .second, .val (.long q2), .second, .val (.long q3), .second, .val (.long q4), .second, .val (.int jj), .val (.int kk), .val (.long ol), .second, .val (.long orr), .second, .val (.long ot), .second, .val (.long ob), .second, .val (.long lv), .second, .val (.long rv), .second, .val (.long tv), .second, .val (.long bv), .second, .val (.ref b43), .val (.ref b50), .unset] [(.int (0 : Int32))]))
        refine own_up ?_ fun t k => XS.istore X58.here hx rfl (hb hby at_171) rfl (l' := #[.val (.long q1), .second, .val (.long q2), .second, .val (.long q3), .second, .val (.long q4), .second, .val (.int jj), .val (.int kk), .val (.long ol), .second, .val (.long orr), .second, .val (.long ot), .second, .val (.long ob), .second, .val (.long lv), .second, .val (.long rv), .second, .val (.long tv), .second, .val (.long bv), .second, .val (.ref b43), .val (.ref b50), .val (.int (0 : Int32))]) rfl k
        show own_G p.tables e below s _ _ _ (T58.setTop (mkF m 173 #[.val (.long q1), .second, .val (.long q2), .second, .val (.long q3), .second, .val (.long q4), .second, .val (.int jj), .val (.int kk), .val (.long ol), .second, .val (.long orr), .second, .val (.long ot), .second, .val (.long ob), .second, .val (.long lv), .second, .val (.long rv), .second, .val (.long tv), .second, .val (.long bv), .second, .val (.ref b43), .val (.ref b50), .val (.int (0 : Int32))] []))
        refine own_up ?_ fun t k => XS.aload X58.here hx rfl (hb hby at_173) rfl rfl k
        show own_G p.tables e below s _ _ _ (T58.setTop (mkF m 175 #[.val (.long q1), .second, .val (.long q2), .second, .val (.long q3), .second, .val (.long q4), .second, .val (.int jj), .val (.int kk), .val (.long ol), .second, .val (.long orr), .second, .val (.long ot), .second, .val (.long ob), .second, .val (.long lv), .second, .val (.long rv), .second, .val (.long tv), .second, .val (.long bv), .second, .val (.ref b43), .val (.ref b50), .val (.int (0 : Int32))] [(.ref b50)]))
        refine own_up ?_ fun t k => XS.aload X58.here hx rfl (hb hby at_175) rfl rfl k
        show own_G p.tables e below s _ _ _ (T58.setTop (mkF m 177 #[.val (.long q1), .second, .val (.long q2), .second, .val (.long q3), .second, .val (.long q4), .second, .val (.int jj), .val (.int kk), .val (.long ol), .second, .val (.long orr), .second, .val (.long ot), .second, .val (.long ob), .second, .val (.long lv), .second, .val (.long rv), .second, .val (.long tv), .second, .val (.long bv), .second, .val (.ref b43), .val (.ref b50), .val (.int (0 : Int32))] [(.ref b43), (.ref b50)]))
        obtain ⟨cq60, kq60, q60a, q60b, q60c⟩ := isOf hZ e58 A50_c56
        obtain ⟨_, _, ⟨T60, L60, k60, n60⟩, -, X60, ⟨Lc60, hQ60, l60, y60, z60⟩, st60⟩ := X58.virtualBack hx (y := (⟨"com/example/mullion/mullion/Area", "holds", "(Lcom/example/mullion/mullion/Area;)Z"⟩ : MethodName)) (z := (⟨"com/example/mullion/mullion/Area", "holds", "(Lcom/example/mullion/mullion/Area;)Z"⟩ : MethodName)) hown (mvT hZ (hw _ (List.mem_of_getElem? (i := 33) rfl))) (mvT hZ (hw _ (List.mem_of_getElem? (i := 34) rfl))) (notFace_of_selects (args := #[]) (mvT hZ (hw _ (List.mem_of_getElem? (i := 36) rfl)))) (mvT hZ (hw _ (List.mem_of_getElem? (i := 36) rfl))) (mvT hZ (hw _ (List.mem_of_getElem? (i := 35) rfl))) (by decide) (backOf (W := 0) (rm7 l Z a0 hw [] b50 b43 lv tv rv bv ol ot orr ob T55.heap n0 Zs57 Fq55_0 Fq55_1 Fq55_2 Fq55_3 Fq47_0_c56 Fq47_1_c56 Fq47_2_c56 Fq47_3_c56) hZ (hw _ (List.mem_of_getElem? (i := 37) rfl)) (hw _ (List.mem_of_getElem? (i := 9) rfl)) (by decide) (by decide)) q60a q60c (g := (mkF m 177 #[.val (.long q1), .second, .val (.long q2), .second, .val (.long q3), .second, .val (.long q4), .second, .val (.int jj), .val (.int kk), .val (.long ol), .second, .val (.long orr), .second, .val (.long ot), .second, .val (.long ob), .second, .val (.long lv), .second, .val (.long rv), .second, .val (.long tv), .second, .val (.long bv), .second, .val (.ref b43), .val (.ref b50), .val (.int (0 : Int32))] [(.ref b43), (.ref b50)])) rfl (by rw [hml]; rfl) (Steps.refl _) (argsL := [(.ref b43)]) (rest := []) (lenOf own_pd4 rfl) rfl (by show 2 * 0 + _ ≤ _; exact Nat.le_of_eq rfl) (hb hby at_177) (fun _ _ => ⟨rfl, e58, (by decide : 2 + 0 ≤ _), (by decide : 8 + 0 ≤ _)⟩)
        dsimp only [Pt.U, Pt.locs, Pt.cells, Pt.slots] at X60 l60 y60 z60 st60 hQ60
        subst l60 y60 z60
        obtain ⟨rfl, Nq60, e60⟩ := hQ60
        have N60 := Fr.app N58 Nq60
        refine own_up ?_ (fun t k => st60.trans k)
        show own_G p.tables e below s _ _ _ (T60.setTop (mkF m 180 #[.val (.long q1), .second, .val (.long q2), .second, .val (.long q3), .second, .val (.long q4), .second, .val (.int jj), .val (.int kk), .val (.long ol), .second, .val (.long orr), .second, .val (.long ot), .second, .val (.long ob), .second, .val (.long lv), .second, .val (.long rv), .second, .val (.long tv), .second, .val (.long bv), .second, .val (.ref b43), .val (.ref b50), .val (.int (0 : Int32))] [(.int (own_holds lv tv rv bv ol ot orr ob))]))
        refine own_up ?_ fun t k => XS.iload X60.here hx rfl (hb hby at_180) rfl k
        show own_G p.tables e below s _ _ _ (T60.setTop (mkF m 182 #[.val (.long q1), .second, .val (.long q2), .second, .val (.long q3), .second, .val (.long q4), .second, .val (.int jj), .val (.int kk), .val (.long ol), .second, .val (.long orr), .second, .val (.long ot), .second, .val (.long ob), .second, .val (.long lv), .second, .val (.long rv), .second, .val (.long tv), .second, .val (.long bv), .second, .val (.ref b43), .val (.ref b50), .val (.int (0 : Int32))] [(.int (0 : Int32)), (.int (own_holds lv tv rv bv ol ot orr ob))]))
        refine own_up ?_ fun t k => XS.icmpNo X60.here hx rfl (hb hby at_182) rfl (teq ((own_law q1 q2 q3 q4 h_ol h_ot h_orr h_ob hc37_41 hc45_42 lv tv rv bv).trans (by simp only [if_pos hc141_59]) : ((own_holds lv tv rv bv ol ot orr ob) = (0 : Int32)))).2 k
        show own_G p.tables e below s _ _ _ (T60.setTop (mkF m 185 #[.val (.long q1), .second, .val (.long q2), .second, .val (.long q3), .second, .val (.long q4), .second, .val (.int jj), .val (.int kk), .val (.long ol), .second, .val (.long orr), .second, .val (.long ot), .second, .val (.long ob), .second, .val (.long lv), .second, .val (.long rv), .second, .val (.long tv), .second, .val (.long bv), .second, .val (.ref b43), .val (.ref b50), .val (.int (0 : Int32))] []))
        refine own_up ?_ fun t k => XS.iconst X60.here hx rfl (hb hby at_185) k
        show own_G p.tables e below s _ _ _ (T60.setTop (mkF m 186 #[.val (.long q1), .second, .val (.long q2), .second, .val (.long q3), .second, .val (.long q4), .second, .val (.int jj), .val (.int kk), .val (.long ol), .second, .val (.long orr), .second, .val (.long ot), .second, .val (.long ob), .second, .val (.long lv), .second, .val (.long rv), .second, .val (.long tv), .second, .val (.long bv), .second, .val (.ref b43), .val (.ref b50), .val (.int (0 : Int32))] [(.int (1 : Int32))]))
        refine own_up ?_ fun t k => XS.goto X60.here hx rfl (pc0 := 186) (pc' := 190) rfl (hb hby at_186) (by decide) (by decide) k
        show own_G p.tables e below s _ _ _ (T60.setTop (mkF m 190 #[.val (.long q1), .second, .val (.long q2), .second, .val (.long q3), .second, .val (.long q4), .second, .val (.int jj), .val (.int kk), .val (.long ol), .second, .val (.long orr), .second, .val (.long ot), .second, .val (.long ob), .second, .val (.long lv), .second, .val (.long rv), .second, .val (.long tv), .second, .val (.long bv), .second, .val (.ref b43), .val (.ref b50), .val (.int (0 : Int32))] [(.int (1 : Int32))]))
        exact own_retI X60 hx hlk Bd.returns (by simp) rfl (hb hby at_190) ⟨rfl, N60⟩ (by decide) (by decide)
      · refine own_up ?_ fun t k => XS.ifNo X58.here hx rfl (hb hby at_141) rfl ((if0 _ _).trans (feq hc141_59).1) k
        show own_G p.tables e below s _ _ _ (T58.setTop (mkF m 144 #[.val (.long q1), .second, .val (.long q2), .second, .val (.long q3), .second, .val (.long q4), .second, .val (.int jj), .val (.int kk), .val (.long ol), .second, .val (.long orr), .second, .val (.long ot), .second, .val (.long ob), .second, .val (.long lv), .second, .val (.long rv), .second, .val (.long tv), .second, .val (.long bv), .second, .val (.ref b43), .val (.ref b50), .unset] []))
        refine own_up ?_ fun t k => XS.lload X58.here hx rfl (hb hby at_144) rfl k
        show own_G p.tables e below s _ _ _ (T58.setTop (mkF m 146 #[.val (.long q1), .second, .val (.long q2), .second, .val (.long q3), .second, .val (.long q4), .second, .val (.int jj), .val (.int kk), .val (.long ol), .second, .val (.long orr), .second, .val (.long ot), .second, .val (.long ob), .second, .val (.long lv), .second, .val (.long rv), .second, .val (.long tv), .second, .val (.long bv), .second, .val (.ref b43), .val (.ref b50), .unset] [(.long lv)]))
        refine own_up ?_ fun t k => XS.lload X58.here hx rfl (hb hby at_146) rfl k
        show own_G p.tables e below s _ _ _ (T58.setTop (mkF m 148 #[.val (.long q1), .second, .val (.long q2), .second, .val (.long q3), .second, .val (.long q4), .second, .val (.int jj), .val (.int kk), .val (.long ol), .second, .val (.long orr), .second, .val (.long ot), .second, .val (.long ob), .second, .val (.long lv), .second, .val (.long rv), .second, .val (.long tv), .second, .val (.long bv), .second, .val (.ref b43), .val (.ref b50), .unset] [(.long tv), (.long lv)]))
        refine own_up ?_ fun t k => XS.lload X58.here hx rfl (hb hby at_148) rfl k
        show own_G p.tables e below s _ _ _ (T58.setTop (mkF m 150 #[.val (.long q1), .second, .val (.long q2), .second, .val (.long q3), .second, .val (.long q4), .second, .val (.int jj), .val (.int kk), .val (.long ol), .second, .val (.long orr), .second, .val (.long ot), .second, .val (.long ob), .second, .val (.long lv), .second, .val (.long rv), .second, .val (.long tv), .second, .val (.long bv), .second, .val (.ref b43), .val (.ref b50), .unset] [(.long rv), (.long tv), (.long lv)]))
        refine own_up ?_ fun t k => XS.lload X58.here hx rfl (hb hby at_150) rfl k
        show own_G p.tables e below s _ _ _ (T58.setTop (mkF m 152 #[.val (.long q1), .second, .val (.long q2), .second, .val (.long q3), .second, .val (.long q4), .second, .val (.int jj), .val (.int kk), .val (.long ol), .second, .val (.long orr), .second, .val (.long ot), .second, .val (.long ob), .second, .val (.long lv), .second, .val (.long rv), .second, .val (.long tv), .second, .val (.long bv), .second, .val (.ref b43), .val (.ref b50), .unset] [(.long bv), (.long rv), (.long tv), (.long lv)]))
        refine own_up ?_ fun t k => XS.lload X58.here hx rfl (hb hby at_152) rfl k
        show own_G p.tables e below s _ _ _ (T58.setTop (mkF m 154 #[.val (.long q1), .second, .val (.long q2), .second, .val (.long q3), .second, .val (.long q4), .second, .val (.int jj), .val (.int kk), .val (.long ol), .second, .val (.long orr), .second, .val (.long ot), .second, .val (.long ob), .second, .val (.long lv), .second, .val (.long rv), .second, .val (.long tv), .second, .val (.long bv), .second, .val (.ref b43), .val (.ref b50), .unset] [(.long orr), (.long bv), (.long rv), (.long tv), (.long lv)]))
        refine own_up ?_ fun t k => XS.lconst X58.here hx rfl (hb hby at_154) k
        show own_G p.tables e below s _ _ _ (T58.setTop (mkF m 155 #[.val (.long q1), .second, .val (.long q2), .second, .val (.long q3), .second, .val (.long q4), .second, .val (.int jj), .val (.int kk), .val (.long ol), .second, .val (.long orr), .second, .val (.long ot), .second, .val (.long ob), .second, .val (.long lv), .second, .val (.long rv), .second, .val (.long tv), .second, .val (.long bv), .second, .val (.ref b43), .val (.ref b50), .unset] [(.long (1 : Int64)), (.long orr), (.long bv), (.long rv), (.long tv), (.long lv)]))
        refine own_up ?_ fun t k => XS.lsub X58.here hx rfl (hb hby at_155) rfl k
        show own_G p.tables e below s _ _ _ (T58.setTop (mkF m 156 #[.val (.long q1), .second, .val (.long q2), .second, .val (.long q3), .second, .val (.long q4), .second, .val (.int jj), .val (.int kk), .val (.long ol), .second, .val (.long orr), .second, .val (.long ot), .second, .val (.long ob), .second, .val (.long lv), .second, .val (.long rv), .second, .val (.long tv), .second, .val (.long bv), .second, .val (.ref b43), .val (.ref b50), .unset] [(.long (orr - (1 : Int64))), (.long bv), (.long rv), (.long tv), (.long lv)]))
        refine own_up ?_ fun t k => XS.lload X58.here hx rfl (hb hby at_156) rfl k
        show own_G p.tables e below s _ _ _ (T58.setTop (mkF m 158 #[.val (.long q1), .second, .val (.long q2), .second, .val (.long q3), .second, .val (.long q4), .second, .val (.int jj), .val (.int kk), .val (.long ol), .second, .val (.long orr), .second, .val (.long ot), .second, .val (.long ob), .second, .val (.long lv), .second, .val (.long rv), .second, .val (.long tv), .second, .val (.long bv), .second, .val (.ref b43), .val (.ref b50), .unset] [(.long ob), (.long (orr - (1 : Int64))), (.long bv), (.long rv), (.long tv), (.long lv)]))
        refine own_up ?_ fun t k => XS.lconst X58.here hx rfl (hb hby at_158) k
        show own_G p.tables e below s _ _ _ (T58.setTop (mkF m 159 #[.val (.long q1), .second, .val (.long q2), .second, .val (.long q3), .second, .val (.long q4), .second, .val (.int jj), .val (.int kk), .val (.long ol), .second, .val (.long orr), .second, .val (.long ot), .second, .val (.long ob), .second, .val (.long lv), .second, .val (.long rv), .second, .val (.long tv), .second, .val (.long bv), .second, .val (.ref b43), .val (.ref b50), .unset] [(.long (1 : Int64)), (.long ob), (.long (orr - (1 : Int64))), (.long bv), (.long rv), (.long tv), (.long lv)]))
        refine own_up ?_ fun t k => XS.lsub X58.here hx rfl (hb hby at_159) rfl k
        show own_G p.tables e below s _ _ _ (T58.setTop (mkF m 160 #[.val (.long q1), .second, .val (.long q2), .second, .val (.long q3), .second, .val (.long q4), .second, .val (.int jj), .val (.int kk), .val (.long ol), .second, .val (.long orr), .second, .val (.long ot), .second, .val (.long ob), .second, .val (.long lv), .second, .val (.long rv), .second, .val (.long tv), .second, .val (.long bv), .second, .val (.ref b43), .val (.ref b50), .unset] [(.long (ob - (1 : Int64))), (.long (orr - (1 : Int64))), (.long bv), (.long rv), (.long tv), (.long lv)]))
        obtain ⟨_, _, ⟨T61, L61, k61, n61⟩, -, X61, ⟨Lc61, hQ61, l61, y61, z61⟩, st61⟩ := Jvm.LawKit.callS X58 hx (y := (⟨"com/example/mullion/mullion/AreaHoldsPinLaw", "in", "(JJJJJJ)Z"⟩ : MethodName)) hown (mvT hZ (hw _ (List.mem_of_getElem? (i := 29) rfl))) (mvT hZ (hw _ (List.mem_of_getElem? (i := 30) rfl))) (mvT hZ (hw _ (List.mem_of_getElem? (i := 31) rfl))) (mvT hZ (hw _ (List.mem_of_getElem? (i := 32) rfl))) (by decide) (backOf (W := 0) (rm6 l Z a0 hw [] lv tv rv bv (orr - (1 : Int64)) (ob - (1 : Int64))  T55.heap n0 Zs57 ) hZ (hw _ (List.mem_of_getElem? (i := 32) rfl)) (hw _ (List.mem_of_getElem? (i := 31) rfl)) (by decide) (by decide)) (g := (mkF m 160 #[.val (.long q1), .second, .val (.long q2), .second, .val (.long q3), .second, .val (.long q4), .second, .val (.int jj), .val (.int kk), .val (.long ol), .second, .val (.long orr), .second, .val (.long ot), .second, .val (.long ob), .second, .val (.long lv), .second, .val (.long rv), .second, .val (.long tv), .second, .val (.long bv), .second, .val (.ref b43), .val (.ref b50), .unset] [(.long (ob - (1 : Int64))), (.long (orr - (1 : Int64))), (.long bv), (.long rv), (.long tv), (.long lv)])) rfl (by rw [hml]; rfl) (argsL := [(.long lv), (.long tv), (.long rv), (.long bv), (.long (orr - (1 : Int64))), (.long (ob - (1 : Int64)))]) (rest := []) (lenOf own_pd3 rfl) rfl (by show 2 * 0 + _ ≤ _; exact Nat.le_of_eq rfl) (hb hby at_160) (fun _ _ => ⟨rfl, e58, (by decide : 2 + 0 ≤ _), (by decide : 8 + 0 ≤ _)⟩)
        dsimp only [Pt.U, Pt.locs, Pt.cells, Pt.slots] at X61 l61 y61 z61 st61 hQ61
        subst l61 y61 z61
        obtain ⟨rfl, Nq61, e61⟩ := hQ61
        have N61 := Fr.app N58 Nq61
        refine own_up ?_ (st61)
        show own_G p.tables e below s _ _ _ (T61.setTop (mkF m 163 #[.val (.long q1), .second, .val (.long q2), .second, .val (.long q3), .second, .val (.long q4), .second, .val (.int jj), .val (.int kk), .val (.long ol), .second, .val (.long orr), .second, .val (.long ot), .second, .val (.long ob), .second, .val (.long lv), .second, .val (.long rv), .second, .val (.long tv), .second, .val (.long bv), .second, .val (.ref b43), .val (.ref b50), .unset] [(.int (own_in lv tv rv bv (orr - (1 : Int64)) (ob - (1 : Int64))))]))
        by_cases hc163_62 : (own_in lv tv rv bv (orr - (1 : Int64)) (ob - (1 : Int64))) = (0 : Int32)
        · refine own_up ?_ fun t k => XS.ifYes X61.here hx rfl (pc0 := 163) (pc' := 170) rfl (hb hby at_163) rfl ((if0 _ _).trans (teq hc163_62).1) (by decide) (by decide) k
          show own_G p.tables e below s _ _ _ (T61.setTop (mkF m 170 #[.val (.long q1), .second, .val (.long q2), .second, .val (.long q3), .second, .val (.long q4), .second, .val (.int jj), .val (.int kk), .val (.long ol), .second, .val (.long orr), .second, .val (.long ot), .second, .val (.long ob), .second, .val (.long lv), .second, .val (.long rv), .second, .val (.long tv), .second, .val (.long bv), .second, .val (.ref b43), .val (.ref b50), .unset] []))
          refine own_up ?_ fun t k => XS.iconst X61.here hx rfl (hb hby at_170) k
          show own_G p.tables e below s _ _ _ (T61.setTop (mkF m 171 #[.val (.long q1), .second, .val (.long q2), .second, .val (.long q3), .second, .val (.long q4), .second, .val (.int jj), .val (.int kk), .val (.long ol), .second, .val (.long orr), .second, .val (.long ot), .second, .val (.long ob), .second, .val (.long lv), .second, .val (.long rv), .second, .val (.long tv), .second, .val (.long bv), .second, .val (.ref b43), .val (.ref b50), .unset] [(.int (0 : Int32))]))
          refine own_up ?_ fun t k => XS.istore X61.here hx rfl (hb hby at_171) rfl (l' := #[.val (.long q1), .second, .val (.long q2), .second, .val (.long q3), .second, .val (.long q4), .second, .val (.int jj), .val (.int kk), .val (.long ol), .second, .val (.long orr), .second, .val (.long ot), .second, .val (.long ob), .second, .val (.long lv), .second, .val (.long rv), .second, .val (.long tv), .second, .val (.long bv), .second, .val (.ref b43), .val (.ref b50), .val (.int (0 : Int32))]) rfl k
          show own_G p.tables e below s _ _ _ (T61.setTop (mkF m 173 #[.val (.long q1), .second, .val (.long q2), .second, .val (.long q3), .second, .val (.long q4), .second, .val (.int jj), .val (.int kk), .val (.long ol), .second, .val (.long orr), .second, .val (.long ot), .second, .val (.long ob), .second, .val (.long lv), .second, .val (.long rv), .second, .val (.long tv), .second, .val (.long bv), .second, .val (.ref b43), .val (.ref b50), .val (.int (0 : Int32))] []))
          refine own_up ?_ fun t k => XS.aload X61.here hx rfl (hb hby at_173) rfl rfl k
          show own_G p.tables e below s _ _ _ (T61.setTop (mkF m 175 #[.val (.long q1), .second, .val (.long q2), .second, .val (.long q3), .second, .val (.long q4), .second, .val (.int jj), .val (.int kk), .val (.long ol), .second, .val (.long orr), .second, .val (.long ot), .second, .val (.long ob), .second, .val (.long lv), .second, .val (.long rv), .second, .val (.long tv), .second, .val (.long bv), .second, .val (.ref b43), .val (.ref b50), .val (.int (0 : Int32))] [(.ref b50)]))
          refine own_up ?_ fun t k => XS.aload X61.here hx rfl (hb hby at_175) rfl rfl k
          show own_G p.tables e below s _ _ _ (T61.setTop (mkF m 177 #[.val (.long q1), .second, .val (.long q2), .second, .val (.long q3), .second, .val (.long q4), .second, .val (.int jj), .val (.int kk), .val (.long ol), .second, .val (.long orr), .second, .val (.long ot), .second, .val (.long ob), .second, .val (.long lv), .second, .val (.long rv), .second, .val (.long tv), .second, .val (.long bv), .second, .val (.ref b43), .val (.ref b50), .val (.int (0 : Int32))] [(.ref b43), (.ref b50)]))
          obtain ⟨cq63, kq63, q63a, q63b, q63c⟩ := isOf hZ e61 A50_c56
          obtain ⟨_, _, ⟨T63, L63, k63, n63⟩, -, X63, ⟨Lc63, hQ63, l63, y63, z63⟩, st63⟩ := X61.virtualBack hx (y := (⟨"com/example/mullion/mullion/Area", "holds", "(Lcom/example/mullion/mullion/Area;)Z"⟩ : MethodName)) (z := (⟨"com/example/mullion/mullion/Area", "holds", "(Lcom/example/mullion/mullion/Area;)Z"⟩ : MethodName)) hown (mvT hZ (hw _ (List.mem_of_getElem? (i := 33) rfl))) (mvT hZ (hw _ (List.mem_of_getElem? (i := 34) rfl))) (notFace_of_selects (args := #[]) (mvT hZ (hw _ (List.mem_of_getElem? (i := 36) rfl)))) (mvT hZ (hw _ (List.mem_of_getElem? (i := 36) rfl))) (mvT hZ (hw _ (List.mem_of_getElem? (i := 35) rfl))) (by decide) (backOf (W := 0) (rm7 l Z a0 hw [] b50 b43 lv tv rv bv ol ot orr ob T55.heap n0 Zs57 Fq55_0 Fq55_1 Fq55_2 Fq55_3 Fq47_0_c56 Fq47_1_c56 Fq47_2_c56 Fq47_3_c56) hZ (hw _ (List.mem_of_getElem? (i := 37) rfl)) (hw _ (List.mem_of_getElem? (i := 9) rfl)) (by decide) (by decide)) q63a q63c (g := (mkF m 177 #[.val (.long q1), .second, .val (.long q2), .second, .val (.long q3), .second, .val (.long q4), .second, .val (.int jj), .val (.int kk), .val (.long ol), .second, .val (.long orr), .second, .val (.long ot), .second, .val (.long ob), .second, .val (.long lv), .second, .val (.long rv), .second, .val (.long tv), .second, .val (.long bv), .second, .val (.ref b43), .val (.ref b50), .val (.int (0 : Int32))] [(.ref b43), (.ref b50)])) rfl (by rw [hml]; rfl) (Steps.refl _) (argsL := [(.ref b43)]) (rest := []) (lenOf own_pd4 rfl) rfl (by show 2 * 0 + _ ≤ _; exact Nat.le_of_eq rfl) (hb hby at_177) (fun _ _ => ⟨rfl, e61, (by decide : 2 + 0 ≤ _), (by decide : 8 + 0 ≤ _)⟩)
          dsimp only [Pt.U, Pt.locs, Pt.cells, Pt.slots] at X63 l63 y63 z63 st63 hQ63
          subst l63 y63 z63
          obtain ⟨rfl, Nq63, e63⟩ := hQ63
          have N63 := Fr.app N61 Nq63
          refine own_up ?_ (fun t k => st63.trans k)
          show own_G p.tables e below s _ _ _ (T63.setTop (mkF m 180 #[.val (.long q1), .second, .val (.long q2), .second, .val (.long q3), .second, .val (.long q4), .second, .val (.int jj), .val (.int kk), .val (.long ol), .second, .val (.long orr), .second, .val (.long ot), .second, .val (.long ob), .second, .val (.long lv), .second, .val (.long rv), .second, .val (.long tv), .second, .val (.long bv), .second, .val (.ref b43), .val (.ref b50), .val (.int (0 : Int32))] [(.int (own_holds lv tv rv bv ol ot orr ob))]))
          refine own_up ?_ fun t k => XS.iload X63.here hx rfl (hb hby at_180) rfl k
          show own_G p.tables e below s _ _ _ (T63.setTop (mkF m 182 #[.val (.long q1), .second, .val (.long q2), .second, .val (.long q3), .second, .val (.long q4), .second, .val (.int jj), .val (.int kk), .val (.long ol), .second, .val (.long orr), .second, .val (.long ot), .second, .val (.long ob), .second, .val (.long lv), .second, .val (.long rv), .second, .val (.long tv), .second, .val (.long bv), .second, .val (.ref b43), .val (.ref b50), .val (.int (0 : Int32))] [(.int (0 : Int32)), (.int (own_holds lv tv rv bv ol ot orr ob))]))
          refine own_up ?_ fun t k => XS.icmpNo X63.here hx rfl (hb hby at_182) rfl (teq ((own_law q1 q2 q3 q4 h_ol h_ot h_orr h_ob hc37_41 hc45_42 lv tv rv bv).trans (by simp only [if_neg hc141_59, if_pos hc163_62]) : ((own_holds lv tv rv bv ol ot orr ob) = (0 : Int32)))).2 k
          show own_G p.tables e below s _ _ _ (T63.setTop (mkF m 185 #[.val (.long q1), .second, .val (.long q2), .second, .val (.long q3), .second, .val (.long q4), .second, .val (.int jj), .val (.int kk), .val (.long ol), .second, .val (.long orr), .second, .val (.long ot), .second, .val (.long ob), .second, .val (.long lv), .second, .val (.long rv), .second, .val (.long tv), .second, .val (.long bv), .second, .val (.ref b43), .val (.ref b50), .val (.int (0 : Int32))] []))
          refine own_up ?_ fun t k => XS.iconst X63.here hx rfl (hb hby at_185) k
          show own_G p.tables e below s _ _ _ (T63.setTop (mkF m 186 #[.val (.long q1), .second, .val (.long q2), .second, .val (.long q3), .second, .val (.long q4), .second, .val (.int jj), .val (.int kk), .val (.long ol), .second, .val (.long orr), .second, .val (.long ot), .second, .val (.long ob), .second, .val (.long lv), .second, .val (.long rv), .second, .val (.long tv), .second, .val (.long bv), .second, .val (.ref b43), .val (.ref b50), .val (.int (0 : Int32))] [(.int (1 : Int32))]))
          refine own_up ?_ fun t k => XS.goto X63.here hx rfl (pc0 := 186) (pc' := 190) rfl (hb hby at_186) (by decide) (by decide) k
          show own_G p.tables e below s _ _ _ (T63.setTop (mkF m 190 #[.val (.long q1), .second, .val (.long q2), .second, .val (.long q3), .second, .val (.long q4), .second, .val (.int jj), .val (.int kk), .val (.long ol), .second, .val (.long orr), .second, .val (.long ot), .second, .val (.long ob), .second, .val (.long lv), .second, .val (.long rv), .second, .val (.long tv), .second, .val (.long bv), .second, .val (.ref b43), .val (.ref b50), .val (.int (0 : Int32))] [(.int (1 : Int32))]))
          exact own_retI X63 hx hlk Bd.returns (by simp) rfl (hb hby at_190) ⟨rfl, N63⟩ (by decide) (by decide)
        · refine own_up ?_ fun t k => XS.ifNo X61.here hx rfl (hb hby at_163) rfl ((if0 _ _).trans (feq hc163_62).1) k
          show own_G p.tables e below s _ _ _ (T61.setTop (mkF m 166 #[.val (.long q1), .second, .val (.long q2), .second, .val (.long q3), .second, .val (.long q4), .second, .val (.int jj), .val (.int kk), .val (.long ol), .second, .val (.long orr), .second, .val (.long ot), .second, .val (.long ob), .second, .val (.long lv), .second, .val (.long rv), .second, .val (.long tv), .second, .val (.long bv), .second, .val (.ref b43), .val (.ref b50), .unset] []))
          refine own_up ?_ fun t k => XS.iconst X61.here hx rfl (hb hby at_166) k
          show own_G p.tables e below s _ _ _ (T61.setTop (mkF m 167 #[.val (.long q1), .second, .val (.long q2), .second, .val (.long q3), .second, .val (.long q4), .second, .val (.int jj), .val (.int kk), .val (.long ol), .second, .val (.long orr), .second, .val (.long ot), .second, .val (.long ob), .second, .val (.long lv), .second, .val (.long rv), .second, .val (.long tv), .second, .val (.long bv), .second, .val (.ref b43), .val (.ref b50), .unset] [(.int (1 : Int32))]))
          refine own_up ?_ fun t k => XS.goto X61.here hx rfl (pc0 := 167) (pc' := 171) rfl (hb hby at_167) (by decide) (by decide) k
          show own_G p.tables e below s _ _ _ (T61.setTop (mkF m 171 #[.val (.long q1), .second, .val (.long q2), .second, .val (.long q3), .second, .val (.long q4), .second, .val (.int jj), .val (.int kk), .val (.long ol), .second, .val (.long orr), .second, .val (.long ot), .second, .val (.long ob), .second, .val (.long lv), .second, .val (.long rv), .second, .val (.long tv), .second, .val (.long bv), .second, .val (.ref b43), .val (.ref b50), .unset] [(.int (1 : Int32))]))
          refine own_up ?_ fun t k => XS.istore X61.here hx rfl (hb hby at_171) rfl (l' := #[.val (.long q1), .second, .val (.long q2), .second, .val (.long q3), .second, .val (.long q4), .second, .val (.int jj), .val (.int kk), .val (.long ol), .second, .val (.long orr), .second, .val (.long ot), .second, .val (.long ob), .second, .val (.long lv), .second, .val (.long rv), .second, .val (.long tv), .second, .val (.long bv), .second, .val (.ref b43), .val (.ref b50), .val (.int (1 : Int32))]) rfl k
          show own_G p.tables e below s _ _ _ (T61.setTop (mkF m 173 #[.val (.long q1), .second, .val (.long q2), .second, .val (.long q3), .second, .val (.long q4), .second, .val (.int jj), .val (.int kk), .val (.long ol), .second, .val (.long orr), .second, .val (.long ot), .second, .val (.long ob), .second, .val (.long lv), .second, .val (.long rv), .second, .val (.long tv), .second, .val (.long bv), .second, .val (.ref b43), .val (.ref b50), .val (.int (1 : Int32))] []))
          refine own_up ?_ fun t k => XS.aload X61.here hx rfl (hb hby at_173) rfl rfl k
          show own_G p.tables e below s _ _ _ (T61.setTop (mkF m 175 #[.val (.long q1), .second, .val (.long q2), .second, .val (.long q3), .second, .val (.long q4), .second, .val (.int jj), .val (.int kk), .val (.long ol), .second, .val (.long orr), .second, .val (.long ot), .second, .val (.long ob), .second, .val (.long lv), .second, .val (.long rv), .second, .val (.long tv), .second, .val (.long bv), .second, .val (.ref b43), .val (.ref b50), .val (.int (1 : Int32))] [(.ref b50)]))
          refine own_up ?_ fun t k => XS.aload X61.here hx rfl (hb hby at_175) rfl rfl k
          show own_G p.tables e below s _ _ _ (T61.setTop (mkF m 177 #[.val (.long q1), .second, .val (.long q2), .second, .val (.long q3), .second, .val (.long q4), .second, .val (.int jj), .val (.int kk), .val (.long ol), .second, .val (.long orr), .second, .val (.long ot), .second, .val (.long ob), .second, .val (.long lv), .second, .val (.long rv), .second, .val (.long tv), .second, .val (.long bv), .second, .val (.ref b43), .val (.ref b50), .val (.int (1 : Int32))] [(.ref b43), (.ref b50)]))
          obtain ⟨cq64, kq64, q64a, q64b, q64c⟩ := isOf hZ e61 A50_c56
          obtain ⟨_, _, ⟨T64, L64, k64, n64⟩, -, X64, ⟨Lc64, hQ64, l64, y64, z64⟩, st64⟩ := X61.virtualBack hx (y := (⟨"com/example/mullion/mullion/Area", "holds", "(Lcom/example/mullion/mullion/Area;)Z"⟩ : MethodName)) (z := (⟨"com/example/mullion/mullion/Area", "holds", "(Lcom/example/mullion/mullion/Area;)Z"⟩ : MethodName)) hown (mvT hZ (hw _ (List.mem_of_getElem? (i := 33) rfl))) (mvT hZ (hw _ (List.mem_of_getElem? (i := 34) rfl))) (notFace_of_selects (args := #[]) (mvT hZ (hw _ (List.mem_of_getElem? (i := 36) rfl)))) (mvT hZ (hw _ (List.mem_of_getElem? (i := 36) rfl))) (mvT hZ (hw _ (List.mem_of_getElem? (i := 35) rfl))) (by decide) (backOf (W := 0) (rm7 l Z a0 hw [] b50 b43 lv tv rv bv ol ot orr ob T55.heap n0 Zs57 Fq55_0 Fq55_1 Fq55_2 Fq55_3 Fq47_0_c56 Fq47_1_c56 Fq47_2_c56 Fq47_3_c56) hZ (hw _ (List.mem_of_getElem? (i := 37) rfl)) (hw _ (List.mem_of_getElem? (i := 9) rfl)) (by decide) (by decide)) q64a q64c (g := (mkF m 177 #[.val (.long q1), .second, .val (.long q2), .second, .val (.long q3), .second, .val (.long q4), .second, .val (.int jj), .val (.int kk), .val (.long ol), .second, .val (.long orr), .second, .val (.long ot), .second, .val (.long ob), .second, .val (.long lv), .second, .val (.long rv), .second, .val (.long tv), .second, .val (.long bv), .second, .val (.ref b43), .val (.ref b50), .val (.int (1 : Int32))] [(.ref b43), (.ref b50)])) rfl (by rw [hml]; rfl) (Steps.refl _) (argsL := [(.ref b43)]) (rest := []) (lenOf own_pd4 rfl) rfl (by show 2 * 0 + _ ≤ _; exact Nat.le_of_eq rfl) (hb hby at_177) (fun _ _ => ⟨rfl, e61, (by decide : 2 + 0 ≤ _), (by decide : 8 + 0 ≤ _)⟩)
          dsimp only [Pt.U, Pt.locs, Pt.cells, Pt.slots] at X64 l64 y64 z64 st64 hQ64
          subst l64 y64 z64
          obtain ⟨rfl, Nq64, e64⟩ := hQ64
          have N64 := Fr.app N61 Nq64
          refine own_up ?_ (fun t k => st64.trans k)
          show own_G p.tables e below s _ _ _ (T64.setTop (mkF m 180 #[.val (.long q1), .second, .val (.long q2), .second, .val (.long q3), .second, .val (.long q4), .second, .val (.int jj), .val (.int kk), .val (.long ol), .second, .val (.long orr), .second, .val (.long ot), .second, .val (.long ob), .second, .val (.long lv), .second, .val (.long rv), .second, .val (.long tv), .second, .val (.long bv), .second, .val (.ref b43), .val (.ref b50), .val (.int (1 : Int32))] [(.int (own_holds lv tv rv bv ol ot orr ob))]))
          refine own_up ?_ fun t k => XS.iload X64.here hx rfl (hb hby at_180) rfl k
          show own_G p.tables e below s _ _ _ (T64.setTop (mkF m 182 #[.val (.long q1), .second, .val (.long q2), .second, .val (.long q3), .second, .val (.long q4), .second, .val (.int jj), .val (.int kk), .val (.long ol), .second, .val (.long orr), .second, .val (.long ot), .second, .val (.long ob), .second, .val (.long lv), .second, .val (.long rv), .second, .val (.long tv), .second, .val (.long bv), .second, .val (.ref b43), .val (.ref b50), .val (.int (1 : Int32))] [(.int (1 : Int32)), (.int (own_holds lv tv rv bv ol ot orr ob))]))
          refine own_up ?_ fun t k => XS.icmpNo X64.here hx rfl (hb hby at_182) rfl (teq ((own_law q1 q2 q3 q4 h_ol h_ot h_orr h_ob hc37_41 hc45_42 lv tv rv bv).trans (by simp only [if_neg hc141_59, if_neg hc163_62]) : ((own_holds lv tv rv bv ol ot orr ob) = (1 : Int32)))).2 k
          show own_G p.tables e below s _ _ _ (T64.setTop (mkF m 185 #[.val (.long q1), .second, .val (.long q2), .second, .val (.long q3), .second, .val (.long q4), .second, .val (.int jj), .val (.int kk), .val (.long ol), .second, .val (.long orr), .second, .val (.long ot), .second, .val (.long ob), .second, .val (.long lv), .second, .val (.long rv), .second, .val (.long tv), .second, .val (.long bv), .second, .val (.ref b43), .val (.ref b50), .val (.int (1 : Int32))] []))
          refine own_up ?_ fun t k => XS.iconst X64.here hx rfl (hb hby at_185) k
          show own_G p.tables e below s _ _ _ (T64.setTop (mkF m 186 #[.val (.long q1), .second, .val (.long q2), .second, .val (.long q3), .second, .val (.long q4), .second, .val (.int jj), .val (.int kk), .val (.long ol), .second, .val (.long orr), .second, .val (.long ot), .second, .val (.long ob), .second, .val (.long lv), .second, .val (.long rv), .second, .val (.long tv), .second, .val (.long bv), .second, .val (.ref b43), .val (.ref b50), .val (.int (1 : Int32))] [(.int (1 : Int32))]))
          refine own_up ?_ fun t k => XS.goto X64.here hx rfl (pc0 := 186) (pc' := 190) rfl (hb hby at_186) (by decide) (by decide) k
          show own_G p.tables e below s _ _ _ (T64.setTop (mkF m 190 #[.val (.long q1), .second, .val (.long q2), .second, .val (.long q3), .second, .val (.long q4), .second, .val (.int jj), .val (.int kk), .val (.long ol), .second, .val (.long orr), .second, .val (.long ot), .second, .val (.long ob), .second, .val (.long lv), .second, .val (.long rv), .second, .val (.long tv), .second, .val (.long bv), .second, .val (.ref b43), .val (.ref b50), .val (.int (1 : Int32))] [(.int (1 : Int32))]))
          exact own_retI X64 hx hlk Bd.returns (by simp) rfl (hb hby at_190) ⟨rfl, N64⟩ (by decide) (by decide)
set_option maxRecDepth 65536 in
set_option maxHeartbeats 40000000 in
theorem comes_1 {Post : Tables → Env → Array Value → State → Outcome → State → Prop} (hpost : ∀ tb e args s v u, (limb_1_1.after args s (.returned v) u = true ∧ limb_1_2.after args s (.returned v) u = true ∧ True) → FrameEnd s (.returned v) u (Jvm.fieldLocs frame_1_writes args s ++ Jvm.arrayLocs frame_1_arrays args s ++ Jvm.staticLocs frame_1_statics s) 16 128 → Post tb e args s (.returned v) u) :
    ArmFor flags0 classFile x code maxLocals ret World_1 tables_1 room_1 Calls_1 rest_1 Pre_1 Post := by
  intro l hfl _ _ p e ha hc hk s m args below hf hA hF happ hP
  obtain ⟨hcalls, hrest, hpre⟩ := hP
  obtain ⟨-, -, -, hnamed, -, -, -, hat⟩ := (Spec.applies_iff hf).mp happ
  obtain ⟨hg, hn⟩ := and_e (Cond.before_iff.mp (show (Jvm.Cond.and given_1 narrow_1).before args s = true from hpre))
  obtain ⟨gc, g0⟩ := and_e hg
  obtain ⟨gv0, g1⟩ := and_e g0
  obtain ⟨gv1, g2⟩ := and_e g1
  obtain ⟨gv2, g3⟩ := and_e g2
  obtain ⟨gv3, g4⟩ := and_e g3
  obtain ⟨gv4, g5⟩ := and_e g4
  obtain ⟨w0, w1, w2, w3, w4, w5, rfl⟩ : ∃ w0 w1 w2 w3 w4 w5 : Value, args = #[w0, w1, w2, w3, w4, w5] := by
    have hs : args.size = 6 := by simpa [Cond.value, given_1] using gc
    obtain ⟨L⟩ := args
    match L, hs with
    | [w0, w1, w2, w3, w4, w5], _ => exact ⟨w0, w1, w2, w3, w4, w5, rfl⟩
  have hw := fun d (hd : d ∈ tables_1) => atoms_spec (ws := Jvm.Cond.code x code maxLocals ret :: tables_1) hat d (List.mem_cons_of_mem _ hd)
  have hfit : Fit s := fun {y c} hc i hi => by
    obtain ⟨ha, rfl⟩ := Array.getElem?_eq_some_iff.mp hc
    have q := List.all_eq_true.mp ((Array.all_eq_true_iff_forall_mem.mp hF) _ (Array.getElem_mem ha)) i (List.mem_range.mpr hi)
    simpa [Array.getElem?_eq_getElem hi] using q
  obtain ⟨i0, ei0⟩ := isL_v gv0
  obtain rfl : w0 = (.long i0) := Option.some.inj ei0
  obtain ⟨i1, ei1⟩ := isL_v gv1
  obtain rfl : w1 = (.long i1) := Option.some.inj ei1
  obtain ⟨i2, ei2⟩ := isL_v gv2
  obtain rfl : w2 = (.long i2) := Option.some.inj ei2
  obtain ⟨i3, ei3⟩ := isL_v gv3
  obtain rfl : w3 = (.long i3) := Option.some.inj ei3
  obtain ⟨i4, ei4⟩ := is_v gv4
  obtain rfl : w4 = (.int i4) := Option.some.inj ei4
  obtain ⟨i5, ei5⟩ := is_v g5
  obtain rfl : w5 = (.int i5) := Option.some.inj ei5
  obtain ⟨n, o, h1, h2, h3, _, L, rfl, ⟨rfl, N⟩, hq⟩ := rm0 l s _ hw tables_1 i0 i1 i2 i3 i4 i5  s.heap s.heap.size (Nat.le_refl _)  p e ha hc hk s m _ below hf ((Spec.applies_iff_loose hf).mp happ).1 ⟨rfl, State.Warmed39.refl s, rfl⟩ trivial
  refine ⟨n, _, h1, h2, h3, hpost _ _ _ _ _ _ ⟨Cond.after_iff.mpr rfl, Cond.after_iff.mpr (eq_i res_at (Term.int_eval (1)) rfl), trivial⟩ ⟨hq.1, hq.2.1, (hq.2.2.sift fun y hy => Or.inr (N y hy)).mono (by decide) (by decide)⟩⟩
theorem main_1_1 : Claimed_1_1 := comes_1 fun _ _ _ _ _ _ h hF => ⟨h.1, hF⟩
theorem main_1_2 : Claimed_1_2 := comes_1 fun _ _ _ _ _ _ h hF => ⟨h.2.1, hF⟩
end Jvm.Pilot.@@N@@
namespace Jvm.Pilot.@@N@@
open Jvm Jvm.ClassFile Sem Op Lib Jvm.Free Jvm.Stand Jvm.Pilot.@@N@@.Jvm.D
/-! MADE BY PROGRAM (witnessworld.py) out of the Statement's table words and the real class files: 11 classes; the members and pool entries that the words name. The judged class is class 1, her method 2. -/
namespace start1
open Jvm.ClassFile
def u (s : String) : CpInfo := .utf8 (stringToUtf16 s)
/-- a pool by its gaps: so many unusable entries, then the entry; so many at the end -/
def gap : Nat → List CpInfo → List CpInfo
  | 0, r => r
  | n + 1, r => .unusable :: gap n r
def poolList (es : List (Nat × CpInfo)) (last : Nat) : List CpInfo := es.foldr (fun e r => gap e.1 (e.2 :: r)) (gap last [])
def pool (es : List (Nat × CpInfo)) (last : Nat) : Array CpInfo := ⟨poolList es last⟩
def fileOf (pool : Array CpInfo) (this : Nat) (attrs : Array Attribute := #[]) (ms : Array MethodInfo := #[]) (fl : Nat := 33) (sup : Nat := 0) (ifs : Array Nat := #[]) (fds : Array FieldInfo := #[]) : ClassFile where
  minorVersion := 0
  majorVersion := 65
  constantPool := pool
  accessFlags := fl
  thisClass := this
  superClass := sup
  interfaces := ifs
  fields := fds
  methods := ms
  attributes := attrs
def plain (name : String) (sup : Option ClassId) : Class where
  name := name
  kind := .ordinary
  loader := none
  accessFlags := 33
  super := sup
  interfaces := #[]
  cf := none
  fields := #[]
  methods := #[]
  instanceTypes := #[]
  staticTypes := #[]
  resolved := #[]
  callSites := []
  init := .initialized
  statics := none
  mirror := none

def pool0 : Array CpInfo := pool [(5, u "<init>"), (0, u "()V"), (1, .class_ 10), (1, u "java/lang/Object")] 113

def k0c0 : Code := { maxStack := 0, maxLocals := 1, code := object_method_1_code, exceptionTable := #[], attributes := #[] }
def k0m0 : Method := { name := "<init>", desc := "()V", sig := { parameters := [], returnType := none }, accessFlags := 1, code := some k0c0 }
/-- java/lang/Object -/
def k0 : Class := { plain "java/lang/Object" none with
  accessFlags := 33
  interfaces := #[]
  cf := some (fileOf pool0 8 #[] #[{ accessFlags := 1, nameIndex := 5, descriptorIndex := 6, attributes := #[] }] 33 0 #[] #[])
  fields := #[]
  methods := #[k0m0]
  instanceTypes := #[]
  staticTypes := #[]
  resolved := Array.replicate 124 none
  statics := none }

def pool1 : Array CpInfo := pool [(2, .class_ 4), (1, u "java/lang/Object"), (0, u "<init>"), (0, u "()V"), (0, .methodref 8 9), (0, .class_ 10), (0, .nameAndType 11 12), (0, u "java/lang/Math"), (0, u "min"), (0, u "(JJ)J"), (0, .methodref 8 14), (0, .nameAndType 15 12), (0, u "max"), (0, .class_ 17), (0, u "com/example/mullion/mullion/Area"), (0, .methodref 16 19), (0, .nameAndType 5 20), (0, u "(JJJJ)V"), (0, .methodref 22 23), (0, .class_ 24), (0, .nameAndType 25 26), (0, u "com/example/mullion/mullion/AreaHoldsPinLaw"), (0, u "in"), (0, u "(JJJJJJ)Z"), (0, .methodref 16 28), (0, .nameAndType 29 30), (0, u "holds"), (0, u "(Lcom/example/mullion/mullion/Area;)Z"), (3, u "law"), (0, u "(JJJJII)Z")] 2

def k1m0 : Method := { name := "<init>", desc := "()V", sig := { parameters := [], returnType := none }, accessFlags := 1, code := none }
def k1c1 : Code := { maxStack := 4, maxLocals := 12, code := method_2_code, exceptionTable := #[], attributes := #[] }
def k1m1 : Method := { name := "in", desc := "(JJJJJJ)Z", sig := { parameters := [.long, .long, .long, .long, .long, .long], returnType := some .boolean }, accessFlags := 10, code := some k1c1 }
def k1c2 : Code := { maxStack := 14, maxLocals := 29, code := code, exceptionTable := #[], attributes := #[] }
def k1m2 : Method := { name := "law", desc := "(JJJJII)Z", sig := { parameters := [.long, .long, .long, .long, .int, .int], returnType := some .boolean }, accessFlags := 9, code := some k1c2 }
/-- com/example/mullion/mullion/AreaHoldsPinLaw -/
def k1 : Class := { plain "com/example/mullion/mullion/AreaHoldsPinLaw" (some 0) with
  accessFlags := 49
  interfaces := #[]
  cf := some (fileOf pool1 22 #[] #[{ accessFlags := 1, nameIndex := 5, descriptorIndex := 6, attributes := #[] }, { accessFlags := 10, nameIndex := 25, descriptorIndex := 26, attributes := #[] }, { accessFlags := 9, nameIndex := 34, descriptorIndex := 35, attributes := #[] }] 49 2 #[] #[])
  fields := #[]
  methods := #[k1m0, k1m1, k1m2]
  instanceTypes := #[]
  staticTypes := #[]
  resolved := Array.replicate 38 none
  statics := none }

def pool2 : Array CpInfo := pool [(1, .class_ 2), (0, u "java/lang/Math"), (1, .class_ 6), (1, u "java/lang/Object"), (0, u "<init>"), (0, u "()V"), (89, .class_ 100), (1, u "java/lang/Math$RandomNumberGeneratorHolder"), (20, u "(JJ)J"), (50, u "negativeZeroFloatBits"), (0, u "J"), (2, u "negativeZeroDoubleBits"), (21, u "max"), (2, u "min"), (43, u "$assertionsDisabled"), (0, u "Z"), (91, u "twoToTheDoubleScaleDown"), (0, u "D"), (4, u "twoToTheDoubleScaleUp"), (9, u "E"), (3, u "PI"), (2, u "TAU"), (2, u "DEGREES_TO_RADIANS"), (0, u "RADIANS_TO_DEGREES")] 94

def k2m0 : Method := { name := "<init>", desc := "()V", sig := { parameters := [], returnType := none }, accessFlags := 2, code := none }
def k2c1 : Code := { maxStack := 4, maxLocals := 4, code := jdk_29_method_66_code, exceptionTable := #[], attributes := #[] }
def k2m1 : Method := { name := "max", desc := "(JJ)J", sig := { parameters := [.long, .long], returnType := some .long }, accessFlags := 9, code := some k2c1 }
def k2c2 : Code := { maxStack := 4, maxLocals := 4, code := jdk_29_method_70_code, exceptionTable := #[], attributes := #[] }
def k2m2 : Method := { name := "min", desc := "(JJ)J", sig := { parameters := [.long, .long], returnType := some .long }, accessFlags := 9, code := some k2c2 }
/-- java/lang/Math -/
def k2 : Class := { plain "java/lang/Math" (some 0) with
  accessFlags := 49
  interfaces := #[]
  cf := some (fileOf pool2 1 #[.nestMembers #[98]] #[{ accessFlags := 2, nameIndex := 7, descriptorIndex := 8, attributes := #[] }, { accessFlags := 9, nameIndex := 198, descriptorIndex := 121, attributes := #[] }, { accessFlags := 9, nameIndex := 201, descriptorIndex := 121, attributes := #[] }] 49 4 #[] #[{ accessFlags := 25, nameIndex := 354, descriptorIndex := 339, attributes := #[] }, { accessFlags := 25, nameIndex := 358, descriptorIndex := 339, attributes := #[] }, { accessFlags := 25, nameIndex := 361, descriptorIndex := 339, attributes := #[] }, { accessFlags := 26, nameIndex := 364, descriptorIndex := 339, attributes := #[] }, { accessFlags := 26, nameIndex := 365, descriptorIndex := 339, attributes := #[] }, { accessFlags := 26, nameIndex := 172, descriptorIndex := 173, attributes := #[] }, { accessFlags := 26, nameIndex := 176, descriptorIndex := 173, attributes := #[] }, { accessFlags := 8, nameIndex := 344, descriptorIndex := 339, attributes := #[] }, { accessFlags := 8, nameIndex := 338, descriptorIndex := 339, attributes := #[] }, { accessFlags := 4120, nameIndex := 245, descriptorIndex := 246, attributes := #[] }])
  fields := #[{ name := "E", type := .double, accessFlags := 25, slot := 0, constantValue := 0 }, { name := "PI", type := .double, accessFlags := 25, slot := 1, constantValue := 0 }, { name := "TAU", type := .double, accessFlags := 25, slot := 2, constantValue := 0 }, { name := "DEGREES_TO_RADIANS", type := .double, accessFlags := 26, slot := 3, constantValue := 0 }, { name := "RADIANS_TO_DEGREES", type := .double, accessFlags := 26, slot := 4, constantValue := 0 }, { name := "negativeZeroFloatBits", type := .long, accessFlags := 26, slot := 5, constantValue := 0 }, { name := "negativeZeroDoubleBits", type := .long, accessFlags := 26, slot := 6, constantValue := 0 }, { name := "twoToTheDoubleScaleUp", type := .double, accessFlags := 8, slot := 7, constantValue := 0 }, { name := "twoToTheDoubleScaleDown", type := .double, accessFlags := 8, slot := 8, constantValue := 0 }, { name := "$assertionsDisabled", type := .boolean, accessFlags := 4120, slot := 9, constantValue := 0 }]
  methods := #[k2m0, k2m1, k2m2]
  instanceTypes := #[]
  staticTypes := #[.double, .double, .double, .double, .double, .long, .long, .double, .double, .boolean]
  resolved := Array.replicate 460 none
  statics := none }

def pool3 : Array CpInfo := pool [(1, .methodref 2 3), (0, .class_ 4), (0, .nameAndType 5 6), (0, u "java/lang/Object"), (0, u "<init>"), (0, u "()V"), (0, .class_ 8), (0, u "java/lang/Record")] 13

def k3c0 : Code := { maxStack := 1, maxLocals := 1, code := jdk_30_method_1_code, exceptionTable := #[], attributes := #[] }
def k3m0 : Method := { name := "<init>", desc := "()V", sig := { parameters := [], returnType := none }, accessFlags := 4, code := some k3c0 }
/-- java/lang/Record -/
def k3 : Class := { plain "java/lang/Record" (some 0) with
  accessFlags := 1057
  interfaces := #[]
  cf := some (fileOf pool3 7 #[] #[{ accessFlags := 4, nameIndex := 5, descriptorIndex := 6, attributes := #[] }] 1057 2 #[] #[])
  fields := #[]
  methods := #[k3m0]
  instanceTypes := #[]
  staticTypes := #[]
  resolved := Array.replicate 22 none
  statics := none }

def pool4 : Array CpInfo := pool [(1, .methodref 2 3), (0, .class_ 4), (0, .nameAndType 5 6), (0, u "java/lang/Record"), (0, u "<init>"), (0, u "()V"), (0, .fieldref 8 9), (0, .class_ 10), (0, .nameAndType 11 12), (0, u "com/example/mullion/mullion/Area"), (0, u "left"), (0, u "J"), (0, .fieldref 8 14), (0, .nameAndType 15 12), (0, u "top"), (0, .fieldref 8 17), (0, .nameAndType 18 12), (0, u "right"), (0, .fieldref 8 20), (0, .nameAndType 21 12), (0, u "bottom"), (2, u "(JJJJ)V"), (29, u "holds"), (0, u "(Lcom/example/mullion/mullion/Area;)Z")] 32

def k4c0 : Code := { maxStack := 3, maxLocals := 9, code := prog_1_method_1_code, exceptionTable := #[], attributes := #[] }
def k4m0 : Method := { name := "<init>", desc := "(JJJJ)V", sig := { parameters := [.long, .long, .long, .long], returnType := none }, accessFlags := 0, code := some k4c0 }
def k4c1 : Code := { maxStack := 4, maxLocals := 2, code := prog_1_method_4_code, exceptionTable := #[], attributes := #[] }
def k4m1 : Method := { name := "holds", desc := "(Lcom/example/mullion/mullion/Area;)Z", sig := { parameters := [(.object "com/example/mullion/mullion/Area")], returnType := some .boolean }, accessFlags := 0, code := some k4c1 }
/-- com/example/mullion/mullion/Area -/
def k4 : Class := { plain "com/example/mullion/mullion/Area" (some 3) with
  accessFlags := 48
  interfaces := #[]
  cf := some (fileOf pool4 8 #[] #[{ accessFlags := 0, nameIndex := 5, descriptorIndex := 24, attributes := #[] }, { accessFlags := 0, nameIndex := 54, descriptorIndex := 55, attributes := #[] }] 48 2 #[] #[{ accessFlags := 18, nameIndex := 11, descriptorIndex := 12, attributes := #[] }, { accessFlags := 18, nameIndex := 15, descriptorIndex := 12, attributes := #[] }, { accessFlags := 18, nameIndex := 18, descriptorIndex := 12, attributes := #[] }, { accessFlags := 18, nameIndex := 21, descriptorIndex := 12, attributes := #[] }])
  fields := #[{ name := "left", type := .long, accessFlags := 18, slot := 0, constantValue := 0 }, { name := "top", type := .long, accessFlags := 18, slot := 1, constantValue := 0 }, { name := "right", type := .long, accessFlags := 18, slot := 2, constantValue := 0 }, { name := "bottom", type := .long, accessFlags := 18, slot := 3, constantValue := 0 }]
  methods := #[k4m0, k4m1]
  instanceTypes := #[.long, .long, .long, .long]
  staticTypes := #[]
  resolved := Array.replicate 88 none
  statics := none }

def pool5 : Array CpInfo := pool [(1, u "java/lang/Cloneable"), (0, .class_ 1), (0, u "java/lang/Object"), (0, .class_ 3)] 3

/-- java/lang/Cloneable -/
def k5 : Class := { plain "java/lang/Cloneable" (some 0) with
  accessFlags := 1537
  interfaces := #[]
  cf := some (fileOf pool5 2 #[] #[] 1537 4 #[] #[])
  fields := #[]
  methods := #[]
  instanceTypes := #[]
  staticTypes := #[]
  resolved := Array.replicate 8 none
  statics := none }

def pool6 : Array CpInfo := pool [(1, u "java/io/Serializable"), (0, .class_ 1), (0, u "java/lang/Object"), (0, .class_ 3)] 3

/-- java/io/Serializable -/
def k6 : Class := { plain "java/io/Serializable" (some 0) with
  accessFlags := 1537
  interfaces := #[]
  cf := some (fileOf pool6 2 #[] #[] 1537 4 #[] #[])
  fields := #[]
  methods := #[]
  instanceTypes := #[]
  staticTypes := #[]
  resolved := Array.replicate 8 none
  statics := none }

/-- the primitive byte -/
def k7 : Class := { plain "byte" none with kind := .primitive 'B', accessFlags := 0x411 }
/-- [B -/
def k8 : Class := { plain "[B" (some 0) with kind := .array 7 .byte, interfaces := #[5, 6], accessFlags := 1041 }

/-- the primitive int -/
def k9 : Class := { plain "int" none with kind := .primitive 'I', accessFlags := 0x411 }
/-- [I -/
def k10 : Class := { plain "[I" (some 0) with kind := .array 9 .int, interfaces := #[5, 6], accessFlags := 1041 }

def heap : Heap := #[]
def classes : Array Class := #[k0, k1, k2, k3, k4, k5, k6, k7, k8, k9, k10]
def interned : List (Array UInt16 × Addr) := []
def slotsUsed : Nat := 0
def theMethod : MethodId := ⟨1, 2⟩
def args0 : Array Value := #[.long 5, .long 6, .long 7, .long 8, .int 9, .int 10]
def aboutOver (below : List Frame) : State where
  vm := { classes := classes, interned := interned.toArray }
  heap := heap
  slotsUsed := slotsUsed
  threads := #[{ frames := .invoking theMethod args0 :: below }]
def below0 : List Frame := [.native { method := ⟨0, 0⟩, args := #[] }]
def about1 : State := aboutOver below0
def p0 : Program := .bare "" "" ""
def e0 : Env := launch0.env 0 0 0
theorem w_frames : about1.frames = Frame.invoking theMethod args0 :: below0 := rfl
set_option maxRecDepth 65536 in
theorem w_args : argsFit about1.vm theMethod args0 = true := by decide +kernel
set_option maxRecDepth 65536 in
theorem w_heap : heapFits about1 = true := by decide +kernel
set_option maxRecDepth 65536 in
theorem w_runnable : about1.curStatus? = some .runnable := by decide +kernel
set_option maxRecDepth 65536 in
theorem w_alone : about1.alone = true := by decide +kernel
set_option maxRecDepth 65536 in
theorem w_named : about1.methodNamed? x = some theMethod := by decide +kernel
set_option maxRecDepth 65536 in
theorem w_hears : about1.hears theMethod below0 = true := by decide +kernel
set_option maxRecDepth 65536 in
theorem w_ripe : about1.ripe theMethod args0 below0 = true := by decide +kernel
theorem w_running : about1.status = .running := rfl
set_option maxRecDepth 65536 in
theorem w_room : about1.hasRoom e0.platform room_1 = true :=
  launch0.hasRoom_least _ room_1 (by decide +kernel) (by decide +kernel) (by decide +kernel) (by decide +kernel) (by decide +kernel) (by decide +kernel)
theorem allAtoms_all (ts : List Jvm.Cond) (a : Array Jvm.Value) (st : Jvm.State) : (allAtoms ts).before a st = ts.all (fun c => c.before a st) := by
  induction ts with
  | nil => rfl
  | cons c t ih =>
    show (Jvm.Cond.and c (allAtoms t)).before a st = _
    rw [Jvm.Cond.before_and, ih, List.all_cons]
def words1 : List Jvm.Cond := Jvm.Cond.code x code maxLocals ret :: tables_1
/-- a 'code' word, met by the world's own term for the bytes: nothing is compared byte by byte -/
theorem code_word {y : MethodName} {bytes : ByteArray} {mx : Nat} {rt : Option FieldType} {a : Array Value} {s : State} {m : MethodId} {meth : Method} {c : Code} (h1 : s.methodNamed? y = some m) (h2 : s.vm.method? m = some meth) (h3 : meth.code = some c) (h4 : c.code = bytes)
    (h5 : (c.maxLocals == mx && c.exceptionTable.isEmpty && decide (c.maxStack ≤ mostOperands) && decide (meth.sig.returnType = rt) && !meth.locks && decide (parseMethodDescriptor y.desc = some meth.sig)) = true) : (Jvm.Cond.code y bytes mx rt).before a s = true := by
  simp only [Bool.and_eq_true, beq_iff_eq, Bool.not_eq_true', decide_eq_true_eq] at h5
  obtain ⟨⟨⟨⟨⟨g1, g2⟩, g3⟩, g4⟩, g5⟩, g6⟩ := h5
  simp [Cond.before, Cond.holds, Cond.value, h1, h2, h3, h4, g1, g2, g3, g4, g5, g6]
def isCode : Jvm.Cond → Bool
  | .code _ _ _ _ => true
  | _ => false
theorem all_split {L : List Jvm.Cond} {P : Jvm.Cond → Bool} (h1 : L.all (fun c => isCode c || P c) = true) (h2 : ∀ c ∈ L.filter isCode, P c = true) : L.all P = true := by
  refine List.all_eq_true.mpr fun c hc => ?_
  have h := List.all_eq_true.mp h1 c hc
  rcases Bool.eq_false_or_eq_true (isCode c) with hi | hi
  · exact h2 c (List.mem_filter.mpr ⟨hc, hi⟩)
  · simpa [hi] using h
set_option maxRecDepth 65536 in
theorem w_c0 : (Jvm.Cond.code x code maxLocals ret).before args0 about1 = true := code_word (m := ⟨1, 2⟩) (meth := k1m2) (c := k1c2) (by decide +kernel) rfl rfl rfl (by decide +kernel)
set_option maxRecDepth 65536 in
theorem w_c1 : (Jvm.Cond.code ({ cls := "java/lang/Math", name := "min", desc := "(JJ)J" } : Jvm.MethodName) jdk_29_method_70_code (4 : Nat) (Option.some Jvm.ClassFile.FieldType.long)).before args0 about1 = true := code_word (m := ⟨2, 2⟩) (meth := k2m2) (c := k2c2) (by decide +kernel) rfl rfl rfl (by decide +kernel)
set_option maxRecDepth 65536 in
theorem w_c2 : (Jvm.Cond.code ({ cls := "java/lang/Math", name := "max", desc := "(JJ)J" } : Jvm.MethodName) jdk_29_method_66_code (4 : Nat) (Option.some Jvm.ClassFile.FieldType.long)).before args0 about1 = true := code_word (m := ⟨2, 1⟩) (meth := k2m1) (c := k2c1) (by decide +kernel) rfl rfl rfl (by decide +kernel)
set_option maxRecDepth 65536 in
theorem w_c3 : (Jvm.Cond.code ({ cls := "com/example/mullion/mullion/Area", name := "<init>", desc := "(JJJJ)V" } : Jvm.MethodName) prog_1_method_1_code (9 : Nat) (Option.none : Option Jvm.ClassFile.FieldType)).before args0 about1 = true := code_word (m := ⟨4, 0⟩) (meth := k4m0) (c := k4c0) (by decide +kernel) rfl rfl rfl (by decide +kernel)
set_option maxRecDepth 65536 in
theorem w_c4 : (Jvm.Cond.code ({ cls := "java/lang/Record", name := "<init>", desc := "()V" } : Jvm.MethodName) jdk_30_method_1_code (1 : Nat) (Option.none : Option Jvm.ClassFile.FieldType)).before args0 about1 = true := code_word (m := ⟨3, 0⟩) (meth := k3m0) (c := k3c0) (by decide +kernel) rfl rfl rfl (by decide +kernel)
set_option maxRecDepth 65536 in
theorem w_c5 : (Jvm.Cond.code ({ cls := "java/lang/Object", name := "<init>", desc := "()V" } : Jvm.MethodName) object_method_1_code (1 : Nat) (Option.none : Option Jvm.ClassFile.FieldType)).before args0 about1 = true := code_word (m := ⟨0, 0⟩) (meth := k0m0) (c := k0c0) (by decide +kernel) rfl rfl rfl (by decide +kernel)
set_option maxRecDepth 65536 in
theorem w_c6 : (Jvm.Cond.code ({ cls := "com/example/mullion/mullion/AreaHoldsPinLaw", name := "in", desc := "(JJJJJJ)Z" } : Jvm.MethodName) method_2_code (12 : Nat) (Option.some Jvm.ClassFile.FieldType.boolean)).before args0 about1 = true := code_word (m := ⟨1, 1⟩) (meth := k1m1) (c := k1c1) (by decide +kernel) rfl rfl rfl (by decide +kernel)
set_option maxRecDepth 65536 in
theorem w_c7 : (Jvm.Cond.code ({ cls := "com/example/mullion/mullion/Area", name := "holds", desc := "(Lcom/example/mullion/mullion/Area;)Z" } : Jvm.MethodName) prog_1_method_4_code (2 : Nat) (Option.some Jvm.ClassFile.FieldType.boolean)).before args0 about1 = true := code_word (m := ⟨4, 1⟩) (meth := k4m1) (c := k4c1) (by decide +kernel) rfl rfl rfl (by decide +kernel)
def codes1 : List Jvm.Cond := [Jvm.Cond.code x code maxLocals ret, Jvm.Cond.code ({ cls := "java/lang/Math", name := "min", desc := "(JJ)J" } : Jvm.MethodName) jdk_29_method_70_code (4 : Nat) (Option.some Jvm.ClassFile.FieldType.long), Jvm.Cond.code ({ cls := "java/lang/Math", name := "max", desc := "(JJ)J" } : Jvm.MethodName) jdk_29_method_66_code (4 : Nat) (Option.some Jvm.ClassFile.FieldType.long), Jvm.Cond.code ({ cls := "com/example/mullion/mullion/Area", name := "<init>", desc := "(JJJJ)V" } : Jvm.MethodName) prog_1_method_1_code (9 : Nat) (Option.none : Option Jvm.ClassFile.FieldType), Jvm.Cond.code ({ cls := "java/lang/Record", name := "<init>", desc := "()V" } : Jvm.MethodName) jdk_30_method_1_code (1 : Nat) (Option.none : Option Jvm.ClassFile.FieldType), Jvm.Cond.code ({ cls := "java/lang/Object", name := "<init>", desc := "()V" } : Jvm.MethodName) object_method_1_code (1 : Nat) (Option.none : Option Jvm.ClassFile.FieldType), Jvm.Cond.code ({ cls := "com/example/mullion/mullion/AreaHoldsPinLaw", name := "in", desc := "(JJJJJJ)Z" } : Jvm.MethodName) method_2_code (12 : Nat) (Option.some Jvm.ClassFile.FieldType.boolean), Jvm.Cond.code ({ cls := "com/example/mullion/mullion/Area", name := "holds", desc := "(Lcom/example/mullion/mullion/Area;)Z" } : Jvm.MethodName) prog_1_method_4_code (2 : Nat) (Option.some Jvm.ClassFile.FieldType.boolean)]
set_option maxRecDepth 65536 in
theorem codes_eq : words1.filter isCode = codes1 := rfl
theorem w_codes : ∀ c ∈ words1.filter isCode, c.before args0 about1 = true := by
  rw [codes_eq]
  intro c hc
  simp only [codes1, List.mem_cons, List.not_mem_nil, or_false] at hc
  rcases hc with rfl | rfl | rfl | rfl | rfl | rfl | rfl | rfl
  · exact w_c0
  · exact w_c1
  · exact w_c2
  · exact w_c3
  · exact w_c4
  · exact w_c5
  · exact w_c6
  · exact w_c7
set_option maxRecDepth 65536 in
theorem w_t1 : (words1.take 24).all (fun c => isCode c || c.before args0 about1) = true := by decide +kernel
set_option maxRecDepth 65536 in
theorem w_t2 : (words1.drop 24).all (fun c => isCode c || c.before args0 about1) = true := by decide +kernel
theorem w_tables : (allAtoms (Jvm.Cond.code x code maxLocals ret :: tables_1)).before args0 about1 = true := by
  rw [allAtoms_all]
  show words1.all (fun c => c.before args0 about1) = true
  refine all_split ?_ w_codes
  rw [← List.take_append_drop 24 words1, List.all_append, w_t1, w_t2]
  rfl
set_option maxRecDepth 65536 in
theorem w_case : (Jvm.Cond.and given_1 narrow_1).before args0 about1 = true := by decide +kernel
theorem w_applies : (headSpec (Jvm.Cond.code x code maxLocals ret :: tables_1) room_1).applies x e0.platform about1 = true :=
  (Spec.applies_iff w_frames).mpr ⟨w_running, w_runnable, w_alone, w_named, w_hears, w_ripe, w_room, w_tables⟩
theorem atStart : AtStart classFile x code maxLocals ret World_1 tables_1 room_1 Calls_1 rest_1 Pre_1 launch0 p0 e0 about1 theMethod args0 below0 :=
  ⟨lists_1, trivial, launch0.admits_env _ _ _, launch0.least_env, fairChoices_fair.cas, fairChoices_fair.clock, w_frames, w_args, w_heap, w_applies, trivial, trivial, w_case⟩
end start1
theorem witness_1 : WitnessClaimed_1 := ⟨start1.p0, start1.e0, start1.about1, start1.theMethod, start1.args0, start1.below0, start1.atStart⟩
end Jvm.Pilot.@@N@@
